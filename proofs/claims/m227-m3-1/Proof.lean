import JvmDerived
import JvmDerived.Pilot.@@N@@Statement
import JvmDerived.Pilot.@@N@@Code
set_option linter.unusedVariables false
set_option linter.unusedSimpArgs false
namespace Jvm.Pilot.@@N@@
open Jvm Jvm.ClassFile Sem Op Lib Jvm.Free Jvm.Stand Jvm.LawKit Jvm.RoadKit Bundle Jvm.Pilot.@@N@@.Jvm.D
abbrev Way (p : Program) (e : Env) (below : List Frame) (S0 T : State) (g : JFrame) : Prop := ∀ t, Steps p.tables e below (T.setTop g) t → Steps p.tables e below S0 t
theorem own_old {Z : State} {n0 : Nat} {h : Heap} (O : Old Z n0 h) : n0 ≤ h.size := O.1 ▸ O.2.1
theorem own_i2b (x : Int32) : x.toInt8.toInt32.toInt8.toInt32 = x.toInt8.toInt32 := by simp
theorem own_eqF {args : Array Value} {s : State} {t : Term} {x : Addr} {C n d : String} {k : Int32} (ht : t.eval args s none [] s = some (.ref x)) (h : (Jvm.Cond.eq (.field t C n d) (.int k)).value args s none s [] = some true) : s.fieldOf? x C n d = some (.int k) :=
  (fld_at ht).symm.trans (Cond.eq_int (Cond.before_iff.mpr h) rfl)
theorem own_mask3 (x : Int32) : (x &&& (3 : Int32)) = (0 : Int32) ∨ (x &&& (3 : Int32)) = (1 : Int32) ∨ (x &&& (3 : Int32)) = (2 : Int32) ∨ (x &&& (3 : Int32)) = (3 : Int32) := by
  have h1 : (x &&& (3 : Int32)).toInt = x.toInt % (2 ^ 2 : Nat) := c_mask x 3 2 (by decide) (by decide)
  have h3 : (x &&& (3 : Int32)).toInt = 0 ∨ (x &&& (3 : Int32)).toInt = 1 ∨ (x &&& (3 : Int32)).toInt = 2 ∨ (x &&& (3 : Int32)).toInt = 3 := by omega
  rcases h3 with h | h | h | h
  · exact Or.inl (Int32.toInt_inj.mp h)
  · exact Or.inr (Or.inl (Int32.toInt_inj.mp h))
  · exact Or.inr (Or.inr (Or.inl (Int32.toInt_inj.mp h)))
  · exact Or.inr (Or.inr (Or.inr ((Int32.toInt_inj.mp h))))
def Gst (Z : State) (w_TRANSMIT : Addr) : Prop := (Sta Z Z.heap "com/example/aspectwise/aspectwise/cmri/Packet$Type" "TRANSMIT" "Lcom/example/aspectwise/aspectwise/cmri/Packet$Type;" (.ref w_TRANSMIT)) ∧ (Exa Z Z.heap w_TRANSMIT "com/example/aspectwise/aspectwise/cmri/Packet$Type")
theorem d_prog_13_method_1_code_0 : decode prog_13_method_1_code 0 = .ok (.aload_n 0, 1) := by decide +kernel
theorem d_prog_13_method_1_code_1 : decode prog_13_method_1_code 1 = .ok (.invokespecial 1, 3) := by decide +kernel
theorem d_prog_13_method_1_code_4 : decode prog_13_method_1_code 4 = .ok (.aload_n 0, 1) := by decide +kernel
theorem d_prog_13_method_1_code_5 : decode prog_13_method_1_code 5 = .ok (.iload_n 1, 1) := by decide +kernel
theorem d_prog_13_method_1_code_6 : decode prog_13_method_1_code 6 = .ok (.putfield 7, 3) := by decide +kernel
theorem d_prog_13_method_1_code_9 : decode prog_13_method_1_code 9 = .ok (.aload_n 0, 1) := by decide +kernel
theorem d_prog_13_method_1_code_10 : decode prog_13_method_1_code 10 = .ok (.aload_n 2, 1) := by decide +kernel
theorem d_prog_13_method_1_code_11 : decode prog_13_method_1_code 11 = .ok (.putfield 13, 3) := by decide +kernel
theorem d_prog_13_method_1_code_14 : decode prog_13_method_1_code 14 = .ok (.aload_n 0, 1) := by decide +kernel
theorem d_prog_13_method_1_code_15 : decode prog_13_method_1_code 15 = .ok (.aload_n 3, 1) := by decide +kernel
theorem d_prog_13_method_1_code_16 : decode prog_13_method_1_code 16 = .ok (.invokevirtual 17, 3) := by decide +kernel
theorem d_prog_13_method_1_code_19 : decode prog_13_method_1_code 19 = .ok (.checkcast 18, 3) := by decide +kernel
theorem d_prog_13_method_1_code_22 : decode prog_13_method_1_code 22 = .ok (.putfield 23, 3) := by decide +kernel
theorem d_prog_13_method_1_code_25 : decode prog_13_method_1_code 25 = .ok (.return_, 1) := by decide +kernel
theorem pn_0 : plainName "com/example/aspectwise/aspectwise/cmri/Packet" = true := by first | (simp [plainName, overriddenIn]; done) | decide +kernel
theorem d_prog_13_method_4_code_0 : decode prog_13_method_4_code 0 = .ok (.new 8, 3) := by decide +kernel
theorem d_prog_13_method_4_code_3 : decode prog_13_method_4_code 3 = .ok (.dup, 1) := by decide +kernel
theorem d_prog_13_method_4_code_4 : decode prog_13_method_4_code 4 = .ok (.iload_n 0, 1) := by decide +kernel
theorem d_prog_13_method_4_code_5 : decode prog_13_method_4_code 5 = .ok (.getstatic 61, 3) := by decide +kernel
theorem d_prog_13_method_4_code_8 : decode prog_13_method_4_code 8 = .ok (.aload_n 1, 1) := by decide +kernel
theorem d_prog_13_method_4_code_9 : decode prog_13_method_4_code 9 = .ok (.invokespecial 55, 3) := by decide +kernel
theorem pd_0 : parseMethodDescriptor "(ILcom/example/aspectwise/aspectwise/cmri/Packet$Type;[B)V" = some ⟨[.int, (.object "com/example/aspectwise/aspectwise/cmri/Packet$Type"), (.array .byte)], none⟩ := by decide +kernel
theorem d_prog_13_method_4_code_12 : decode prog_13_method_4_code 12 = .ok (.areturn, 1) := by decide +kernel
theorem d_prog_13_method_7_code_0 : decode prog_13_method_7_code 0 = .ok (.aload_n 0, 1) := by decide +kernel
theorem d_prog_13_method_7_code_1 : decode prog_13_method_7_code 1 = .ok (.getfield 23, 3) := by decide +kernel
theorem d_prog_13_method_7_code_4 : decode prog_13_method_7_code 4 = .ok (.invokevirtual 17, 3) := by decide +kernel
theorem d_prog_13_method_7_code_7 : decode prog_13_method_7_code 7 = .ok (.checkcast 18, 3) := by decide +kernel
theorem d_prog_13_method_7_code_10 : decode prog_13_method_7_code 10 = .ok (.areturn, 1) := by decide +kernel
theorem d_prog_13_method_5_code_0 : decode prog_13_method_5_code 0 = .ok (.aload_n 0, 1) := by decide +kernel
theorem d_prog_13_method_5_code_1 : decode prog_13_method_5_code 1 = .ok (.getfield 7, 3) := by decide +kernel
theorem d_prog_13_method_5_code_4 : decode prog_13_method_5_code 4 = .ok (.ireturn, 1) := by decide +kernel
theorem d_prog_13_method_6_code_0 : decode prog_13_method_6_code 0 = .ok (.aload_n 0, 1) := by decide +kernel
theorem d_prog_13_method_6_code_1 : decode prog_13_method_6_code 1 = .ok (.getfield 13, 3) := by decide +kernel
theorem d_prog_13_method_6_code_4 : decode prog_13_method_6_code 4 = .ok (.areturn, 1) := by decide +kernel
theorem pd_1 : parseMethodDescriptor "(I[B)Lcom/example/aspectwise/aspectwise/cmri/Packet;" = some ⟨[.int, (.array .byte)], some (.object "com/example/aspectwise/aspectwise/cmri/Packet")⟩ := by decide +kernel
theorem pd_2 : parseMethodDescriptor "()[B" = some ⟨[], some (.array .byte)⟩ := by decide +kernel
theorem pd_3 : parseMethodDescriptor "()I" = some ⟨[], some .int⟩ := by decide +kernel
theorem pd_4 : parseMethodDescriptor "()Lcom/example/aspectwise/aspectwise/cmri/Packet$Type;" = some ⟨[], some (.object "com/example/aspectwise/aspectwise/cmri/Packet$Type")⟩ := by decide +kernel
theorem pn_1 : plainName "com/example/aspectwise/aspectwise/cmri/PacketTransmitPinLaw" = true := by first | (simp [plainName, overriddenIn]; done) | decide +kernel
def Q_init0 (Z : State) (w_TRANSMIT : Addr) (a1 : Addr) (p2 : Int32) (a3 : Addr) (a4 : Addr) (kc : ClassId) (h0 : Heap) (n0 : Nat) (v : Option Value) (h : Heap) (L : List Loc) : Prop := ∃ d1 : Addr, (v = none) ∧ (Fr n0 L) ∧ (Keep h0 h [a1]) ∧ (h0.size ≤ d1) ∧ (Exa Z h a1 "com/example/aspectwise/aspectwise/cmri/Packet") ∧ (Fld Z h a1 "com/example/aspectwise/aspectwise/cmri/Packet" "address" "I" (.int p2)) ∧ (Fld Z h a1 "com/example/aspectwise/aspectwise/cmri/Packet" "type" "Lcom/example/aspectwise/aspectwise/cmri/Packet$Type;" (.ref a3)) ∧ (Fld Z h a1 "com/example/aspectwise/aspectwise/cmri/Packet" "data" "[B" (.ref d1)) ∧ (Exa Z h d1 "[B") ∧ (Arv Z h d1 kc .byte (0 : Int32) [] (.int (0 : Int32)))
set_option maxRecDepth 65536 in
set_option maxHeartbeats 40000000 in
theorem init0 (l : Launch) (Z : State) (a0 : Array Value) (hw : ∀ d ∈ tables_1, d.before a0 Z = true) (ws : List Jvm.Cond) (w_TRANSMIT : Addr) (G : Gst Z w_TRANSMIT) (a1 : Addr) (p2 : Int32) (a3 : Addr) (a4 : Addr) (kc : ClassId) (h0 : Heap) (n0 : Nat) (O0 : Old Z n0 h0) (a_0 : Exa Z h0 a1 "com/example/aspectwise/aspectwise/cmri/Packet") (a_1 : Fld Z h0 a1 "com/example/aspectwise/aspectwise/cmri/Packet" "address" "I" (.int (0 : Int32))) (a_2 : Fld Z h0 a1 "com/example/aspectwise/aspectwise/cmri/Packet" "type" "Lcom/example/aspectwise/aspectwise/cmri/Packet$Type;" .null) (a_3 : Fld Z h0 a1 "com/example/aspectwise/aspectwise/cmri/Packet" "data" "[B" .null) (ga1 : n0 ≤ a1) (hne : a1 ≠ a4) (a_6 : Exa Z h0 a4 "[B") (a_7 : Arv Z h0 a4 kc .byte (0 : Int32) [] (.int (0 : Int32))) :
    MetFree l (⟨"com/example/aspectwise/aspectwise/cmri/Packet", "<init>", "(ILcom/example/aspectwise/aspectwise/cmri/Packet$Type;[B)V"⟩ : MethodName) (head1 (Jvm.Cond.code (⟨"com/example/aspectwise/aspectwise/cmri/Packet", "<init>", "(ILcom/example/aspectwise/aspectwise/cmri/Packet$Type;[B)V"⟩ : MethodName) prog_13_method_1_code 4 none :: ws) ({ frames := 1, cells := 1, slots := 0, locals := 15 } : Room)) (fun a U => a = #[(.ref a1), (.int p2), (.ref a3), (.ref a4)] ∧ Z.Warmed39 U.vm ∧ U.heap = h0) (fun _ _ _ _ _ => True) (fun _ U o U' => ∃ v L, o = .returned v ∧ Q_init0 Z w_TRANSMIT a1 p2 a3 a4 kc h0 n0 v U'.heap L ∧ FrameEnd U o U' L ({ frames := 1, cells := 1, slots := 0, locals := 15 } : Room).cells ({ frames := 1, cells := 1, slots := 0, locals := 15 } : Room).slots) := by
  refine MetFree.of_bodySF (plainFor_of_name pn_0) hisR ?_
  intro p e s m args below meth c s₁ Bd hml0 hP hK
  obtain ⟨rfl, hZ, hh⟩ := hP
  have hx := Bd.exec
  have hby := Bd.bytes
  have hml : c.maxLocals = 4 := hml0
  have hown : s.vm.findClass "com/example/aspectwise/aspectwise/cmri/Packet" = some m.cls := findClass_of_methodNamed Bd.named
  have hnm := (name_of_methodNamed Bd.named Bd.method).1
  have X0 : Stand p l e ({ frames := 1, cells := 1, slots := 0, locals := 15 } : Room) s m #[(.ref a1), (.int p2), (.ref a3), (.ref a4)] below meth c s₁ [] 0 0 := Stand.of_body Bd
  have e0 : s₁.heap = h0 := by rw [← hh, Bd.state]; rfl
  have N0 := Fr.nil n0
  obtain ⟨S_w_TRANSMIT, E_w_TRANSMIT⟩ := id G
  have k0 : Way p e below (s₁.setTop (entryFrame m #[(.ref a1), (.int p2), (.ref a3), (.ref a4)] 4)) s₁ (mkF m 0 #[rv a1, iv p2, rv a3, rv a4] []) := fun t k => castTop (by first | (simp [entryFrame, mkF, argsToLocals, Value.category]; done) | rfl) k
  generalize s₁.setTop (entryFrame m #[(.ref a1), (.int p2), (.ref a3), (.ref a4)] 4) = S0 at k0 ⊢
  have k1 : Way p e below S0 s₁ (mkF m 1 #[rv a1, iv p2, rv a3, rv a4] [(.ref a1)]) := by
    intro t k
    refine k0 t ?_
    refine XS.aloadN X0.here hx rfl (hb hby d_prog_13_method_1_code_0) rfl rfl ?_
    show Steps p.tables e below (s₁.setTop (mkF m 1 #[rv a1, iv p2, rv a3, rv a4] [(.ref a1)])) _
    exact k
  obtain ⟨T2, X2, e2, st2⟩ := initO X0 hx hZ hown (hw _ (List.mem_of_getElem? (i := 13) rfl)) (hw _ (List.mem_of_getElem? (i := 14) rfl)) (hw _ (List.mem_of_getElem? (i := 15) rfl)) e0 (g := (mkF m 1 #[rv a1, iv p2, rv a3, rv a4] [(.ref a1)])) rfl (by rw [hml]; rfl) rfl (hb hby d_prog_13_method_1_code_1) (by decide) (W := 0) (by show 2 * 0 + _ ≤ _; exact Nat.le_of_eq rfl) (by decide)
  have k3 : Way p e below S0 T2 (mkF m 4 #[rv a1, iv p2, rv a3, rv a4] []) := fun t k => k1 t (st2 _ k)
  have k4 : Way p e below S0 T2 (mkF m 6 #[rv a1, iv p2, rv a3, rv a4] [(.int p2), (.ref a1)]) := by
    intro t k
    refine k3 t ?_
    refine XS.aloadN X2.here hx rfl (hb hby d_prog_13_method_1_code_4) rfl rfl ?_
    show Steps p.tables e below (T2.setTop (mkF m 5 #[rv a1, iv p2, rv a3, rv a4] [(.ref a1)])) _
    refine XS.iloadN X2.here hx rfl (hb hby d_prog_13_method_1_code_5) rfl ?_
    show Steps p.tables e below (T2.setTop (mkF m 6 #[rv a1, iv p2, rv a3, rv a4] [(.int p2), (.ref a1)])) _
    exact k
  obtain ⟨T5, h5, X5, e5, W5, st5⟩ := putF X2 hx hZ hown (host := "") (Or.inl (hw _ (List.mem_of_getElem? (i := 16) rfl))) Via.refl e2 a_1 a_0 (Or.inr ⟨(hw _ (List.mem_of_getElem? (i := 17) rfl)), rfl, hnm⟩) (hw _ (List.mem_of_getElem? (i := 6) rfl)) (ty := .int) (by decide) rfl rfl (g := (mkF m 6 #[rv a1, iv p2, rv a3, rv a4] [(.int p2), (.ref a1)])) rfl rfl (hb hby d_prog_13_method_1_code_6)
  have O5 := O0.wr W5 ga1
  have N5 := Fr.snoc X5 N0 ga1
  have K5 : Keep h0 h5 [a1] := (Keep.refl h0 [a1]).wr W5 (Or.inl (List.mem_of_getElem? (i := 0) rfl))
  have fw5 : Fld Z h5 a1 "com/example/aspectwise/aspectwise/cmri/Packet" "address" "I" (.int p2) := a_1.same W5
  have k6 : Way p e below S0 T5 (mkF m 9 #[rv a1, iv p2, rv a3, rv a4] []) := fun t k => k4 t (st5 _ k)
  have k7 : Way p e below S0 T5 (mkF m 11 #[rv a1, iv p2, rv a3, rv a4] [(.ref a3), (.ref a1)]) := by
    intro t k
    refine k6 t ?_
    refine XS.aloadN X5.here hx rfl (hb hby d_prog_13_method_1_code_9) rfl rfl ?_
    show Steps p.tables e below (T5.setTop (mkF m 10 #[rv a1, iv p2, rv a3, rv a4] [(.ref a1)])) _
    refine XS.aloadN X5.here hx rfl (hb hby d_prog_13_method_1_code_10) rfl rfl ?_
    show Steps p.tables e below (T5.setTop (mkF m 11 #[rv a1, iv p2, rv a3, rv a4] [(.ref a3), (.ref a1)])) _
    exact k
  have f8 : Fld Z h5 a1 "com/example/aspectwise/aspectwise/cmri/Packet" "type" "Lcom/example/aspectwise/aspectwise/cmri/Packet$Type;" .null := (a_2.other W5 (Or.inr (slot_ne (Or.inr (hw _ (List.mem_of_getElem? (i := 19) rfl))) (Or.inr (hw _ (List.mem_of_getElem? (i := 17) rfl))) (by decide) (t := (.object "com/example/aspectwise/aspectwise/cmri/Packet$Type")) (t' := .int) (by decide) (by decide))))
  have f9 : Exa Z h5 a1 "com/example/aspectwise/aspectwise/cmri/Packet" := (a_0.wr W5)
  obtain ⟨T10, h10, X10, e10, W10, st10⟩ := putF X5 hx hZ hown (host := "") (Or.inl (hw _ (List.mem_of_getElem? (i := 18) rfl))) Via.refl e5 f8 f9 (Or.inr ⟨(hw _ (List.mem_of_getElem? (i := 19) rfl)), rfl, hnm⟩) (hw _ (List.mem_of_getElem? (i := 6) rfl)) (ty := (.object "com/example/aspectwise/aspectwise/cmri/Packet$Type")) (by decide) rfl rfl (g := (mkF m 11 #[rv a1, iv p2, rv a3, rv a4] [(.ref a3), (.ref a1)])) rfl rfl (hb hby d_prog_13_method_1_code_11)
  have O10 := O5.wr W10 ga1
  have N10 := Fr.snoc X10 N5 ga1
  have K10 : Keep h0 h10 [a1] := K5.wr W10 (Or.inl (List.mem_of_getElem? (i := 0) rfl))
  have fw10 : Fld Z h10 a1 "com/example/aspectwise/aspectwise/cmri/Packet" "type" "Lcom/example/aspectwise/aspectwise/cmri/Packet$Type;" (.ref a3) := f8.same W10
  have k11 : Way p e below S0 T10 (mkF m 14 #[rv a1, iv p2, rv a3, rv a4] []) := fun t k => k7 t (st10 _ k)
  have k12 : Way p e below S0 T10 (mkF m 16 #[rv a1, iv p2, rv a3, rv a4] [(.ref a4), (.ref a1)]) := by
    intro t k
    refine k11 t ?_
    refine XS.aloadN X10.here hx rfl (hb hby d_prog_13_method_1_code_14) rfl rfl ?_
    show Steps p.tables e below (T10.setTop (mkF m 15 #[rv a1, iv p2, rv a3, rv a4] [(.ref a1)])) _
    refine XS.aloadN X10.here hx rfl (hb hby d_prog_13_method_1_code_15) rfl rfl ?_
    show Steps p.tables e below (T10.setTop (mkF m 16 #[rv a1, iv p2, rv a3, rv a4] [(.ref a4), (.ref a1)])) _
    exact k
  have f13 : Arv Z h10 a4 kc .byte (0 : Int32) [] (.int (0 : Int32)) := ((a_7.other W5 (Ne.symm hne)).other W10 (Ne.symm hne))
  have f14 : Exa Z h10 a4 "[B" := ((a_6.wr W5).wr W10)
  obtain ⟨T15, h15, X15, e15, E15, A15, B15, st15⟩ := cloneH X10 hx hZ hown (hw _ (List.mem_of_getElem? (i := 20) rfl)) (hw _ (List.mem_of_getElem? (i := 21) rfl)) (hw _ (List.mem_of_getElem? (i := 25) rfl)) (hw _ (List.mem_of_getElem? (i := 23) rfl)) (hw _ (List.mem_of_getElem? (i := 24) rfl)) (hw _ (List.mem_of_getElem? (i := 26) rfl)) e10 (Arv.arh f13) f14 (g := (mkF m 16 #[rv a1, iv p2, rv a3, rv a4] [(.ref a4), (.ref a1)])) rfl (by rw [hml]; rfl) rfl (hb hby d_prog_13_method_1_code_16) (by decide) (W := 1) (cap := 0) (by show 2 * 0 + _ ≤ _; exact Nat.le_of_eq rfl) (by decide) (by decide) (by decide) (by decide)
  obtain ⟨b15, g15⟩ : ∃ z, z = h10.size := ⟨_, rfl⟩
  rw [← g15] at A15 B15 st15
  have O15 := O10.ext E15
  have K15 : Keep h0 h15 [a1] := K10.ext E15
  have v15 : Arv Z h15 b15 kc .byte (0 : Int32) [] (.int (0 : Int32)) := A15
  have k16 : Way p e below S0 T15 (mkF m 19 #[rv a1, iv p2, rv a3, rv a4] [(.ref b15), (.ref a1)]) := fun t k => k12 t (st15 _ k)
  obtain ⟨T17, X17, e17, st17⟩ := castY X15 hx hZ hown (hw _ (List.mem_of_getElem? (i := 27) rfl)) e15 (Ins.self B15) (g := (mkF m 19 #[rv a1, iv p2, rv a3, rv a4] [(.ref b15), (.ref a1)])) rfl rfl (hb hby d_prog_13_method_1_code_19)
  have k18 : Way p e below S0 T17 (mkF m 22 #[rv a1, iv p2, rv a3, rv a4] [(.ref b15), (.ref a1)]) := fun t k => k16 t (st17 _ k)
  have f19 : Fld Z h15 a1 "com/example/aspectwise/aspectwise/cmri/Packet" "data" "[B" .null := (((a_3.other W5 (Or.inr (slot_ne (Or.inr (hw _ (List.mem_of_getElem? (i := 30) rfl))) (Or.inr (hw _ (List.mem_of_getElem? (i := 17) rfl))) (by decide) (t := (.array .byte)) (t' := .int) (by decide) (by decide)))).other W10 (Or.inr (slot_ne (Or.inr (hw _ (List.mem_of_getElem? (i := 30) rfl))) (Or.inr (hw _ (List.mem_of_getElem? (i := 19) rfl))) (by decide) (t := (.array .byte)) (t' := (.object "com/example/aspectwise/aspectwise/cmri/Packet$Type")) (by decide) (by decide)))).ext E15)
  have f20 : Exa Z h15 a1 "com/example/aspectwise/aspectwise/cmri/Packet" := ((f9.wr W10).ext E15)
  obtain ⟨T21, h21, X21, e21, W21, st21⟩ := putF X17 hx hZ hown (host := "") (Or.inl (hw _ (List.mem_of_getElem? (i := 29) rfl))) Via.refl e17 f19 f20 (Or.inr ⟨(hw _ (List.mem_of_getElem? (i := 30) rfl)), rfl, hnm⟩) (hw _ (List.mem_of_getElem? (i := 6) rfl)) (ty := (.array .byte)) (by decide) rfl rfl (g := (mkF m 22 #[rv a1, iv p2, rv a3, rv a4] [(.ref b15), (.ref a1)])) rfl rfl (hb hby d_prog_13_method_1_code_22)
  have O21 := O15.wr W21 ga1
  have N21 := Fr.snoc X21 N10 ga1
  have K21 : Keep h0 h21 [a1] := K15.wr W21 (Or.inl (List.mem_of_getElem? (i := 0) rfl))
  have fw21 : Fld Z h21 a1 "com/example/aspectwise/aspectwise/cmri/Packet" "data" "[B" (.ref b15) := f19.same W21
  have k22 : Way p e below S0 T21 (mkF m 25 #[rv a1, iv p2, rv a3, rv a4] []) := fun t k => k18 t (st21 _ k)
  obtain ⟨fs, hr, hrun, hended, hW, hsame⟩ := X21.leave (v := none) (fun _ => rfl)
  have gz23 : h0.size ≤ b15 := Nat.le_trans K10.1 (Nat.le_of_eq g15.symm)
  have f24 : Exa Z h21 a1 "com/example/aspectwise/aspectwise/cmri/Packet" := (f20.wr W21)
  have f25 : Fld Z h21 a1 "com/example/aspectwise/aspectwise/cmri/Packet" "address" "I" (.int p2) := (((fw5.other W10 (Or.inr (slot_ne (Or.inr (hw _ (List.mem_of_getElem? (i := 17) rfl))) (Or.inr (hw _ (List.mem_of_getElem? (i := 19) rfl))) (by decide) (t := .int) (t' := (.object "com/example/aspectwise/aspectwise/cmri/Packet$Type")) (by decide) (by decide)))).ext E15).other W21 (Or.inr (slot_ne (Or.inr (hw _ (List.mem_of_getElem? (i := 17) rfl))) (Or.inr (hw _ (List.mem_of_getElem? (i := 30) rfl))) (by decide) (t := .int) (t' := (.array .byte)) (by decide) (by decide))))
  have f26 : Fld Z h21 a1 "com/example/aspectwise/aspectwise/cmri/Packet" "type" "Lcom/example/aspectwise/aspectwise/cmri/Packet$Type;" (.ref a3) := ((fw10.ext E15).other W21 (Or.inr (slot_ne (Or.inr (hw _ (List.mem_of_getElem? (i := 19) rfl))) (Or.inr (hw _ (List.mem_of_getElem? (i := 30) rfl))) (by decide) (t := (.object "com/example/aspectwise/aspectwise/cmri/Packet$Type")) (t' := (.array .byte)) (by decide) (by decide))))
  have f27 : Exa Z h21 b15 "[B" := (B15.wr W21)
  have f28 : Arv Z h21 b15 kc .byte (0 : Int32) [] (.int (0 : Int32)) := (v15.other W21 (Ne.symm (Nat.ne_of_lt (Nat.lt_of_lt_of_le (f9.wr W10).lt (Nat.le_of_eq g15.symm)))))
  refine ⟨_, _, k22 _ (X21.returnOut hx Bd.returns (hb hby d_prog_13_method_1_code_25) hr), hrun, hended, _, _, rfl, ?_, ⟨_, rfl⟩, hW, hsame.mono (by decide) (by decide)⟩
  show Q_init0 Z w_TRANSMIT a1 p2 a3 a4 kc h0 n0 _ T21.heap _
  rw [e21]
  exact ⟨b15, rfl, N21, K21, gz23, f24, f25, f26, fw21, f27, f28⟩
def Q_init1 (Z : State) (w_TRANSMIT : Addr) (a1 : Addr) (p2 : Int32) (a3 : Addr) (a4 : Addr) (kc : ClassId) (q0 : Int32) (h0 : Heap) (n0 : Nat) (v : Option Value) (h : Heap) (L : List Loc) : Prop := ∃ d1 : Addr, (v = none) ∧ (Fr n0 L) ∧ (Keep h0 h [a1]) ∧ (h0.size ≤ d1) ∧ (Exa Z h a1 "com/example/aspectwise/aspectwise/cmri/Packet") ∧ (Fld Z h a1 "com/example/aspectwise/aspectwise/cmri/Packet" "address" "I" (.int p2)) ∧ (Fld Z h a1 "com/example/aspectwise/aspectwise/cmri/Packet" "type" "Lcom/example/aspectwise/aspectwise/cmri/Packet$Type;" (.ref a3)) ∧ (Fld Z h a1 "com/example/aspectwise/aspectwise/cmri/Packet" "data" "[B" (.ref d1)) ∧ (Exa Z h d1 "[B") ∧ (Arv Z h d1 kc .byte (1 : Int32) [(.int q0)] (.int (0 : Int32)))
set_option maxRecDepth 65536 in
set_option maxHeartbeats 40000000 in
theorem init1 (l : Launch) (Z : State) (a0 : Array Value) (hw : ∀ d ∈ tables_1, d.before a0 Z = true) (ws : List Jvm.Cond) (w_TRANSMIT : Addr) (G : Gst Z w_TRANSMIT) (a1 : Addr) (p2 : Int32) (a3 : Addr) (a4 : Addr) (kc : ClassId) (q0 : Int32) (h0 : Heap) (n0 : Nat) (O0 : Old Z n0 h0) (a_0 : Exa Z h0 a1 "com/example/aspectwise/aspectwise/cmri/Packet") (a_1 : Fld Z h0 a1 "com/example/aspectwise/aspectwise/cmri/Packet" "address" "I" (.int (0 : Int32))) (a_2 : Fld Z h0 a1 "com/example/aspectwise/aspectwise/cmri/Packet" "type" "Lcom/example/aspectwise/aspectwise/cmri/Packet$Type;" .null) (a_3 : Fld Z h0 a1 "com/example/aspectwise/aspectwise/cmri/Packet" "data" "[B" .null) (ga1 : n0 ≤ a1) (hne : a1 ≠ a4) (a_6 : Exa Z h0 a4 "[B") (a_7 : Arv Z h0 a4 kc .byte (1 : Int32) [(.int q0)] (.int (0 : Int32))) :
    MetFree l (⟨"com/example/aspectwise/aspectwise/cmri/Packet", "<init>", "(ILcom/example/aspectwise/aspectwise/cmri/Packet$Type;[B)V"⟩ : MethodName) (head1 (Jvm.Cond.code (⟨"com/example/aspectwise/aspectwise/cmri/Packet", "<init>", "(ILcom/example/aspectwise/aspectwise/cmri/Packet$Type;[B)V"⟩ : MethodName) prog_13_method_1_code 4 none :: ws) ({ frames := 1, cells := 1, slots := 1, locals := 15 } : Room)) (fun a U => a = #[(.ref a1), (.int p2), (.ref a3), (.ref a4)] ∧ Z.Warmed39 U.vm ∧ U.heap = h0) (fun _ _ _ _ _ => True) (fun _ U o U' => ∃ v L, o = .returned v ∧ Q_init1 Z w_TRANSMIT a1 p2 a3 a4 kc q0 h0 n0 v U'.heap L ∧ FrameEnd U o U' L ({ frames := 1, cells := 1, slots := 1, locals := 15 } : Room).cells ({ frames := 1, cells := 1, slots := 1, locals := 15 } : Room).slots) := by
  refine MetFree.of_bodySF (plainFor_of_name pn_0) hisR ?_
  intro p e s m args below meth c s₁ Bd hml0 hP hK
  obtain ⟨rfl, hZ, hh⟩ := hP
  have hx := Bd.exec
  have hby := Bd.bytes
  have hml : c.maxLocals = 4 := hml0
  have hown : s.vm.findClass "com/example/aspectwise/aspectwise/cmri/Packet" = some m.cls := findClass_of_methodNamed Bd.named
  have hnm := (name_of_methodNamed Bd.named Bd.method).1
  have X0 : Stand p l e ({ frames := 1, cells := 1, slots := 1, locals := 15 } : Room) s m #[(.ref a1), (.int p2), (.ref a3), (.ref a4)] below meth c s₁ [] 0 0 := Stand.of_body Bd
  have e0 : s₁.heap = h0 := by rw [← hh, Bd.state]; rfl
  have N0 := Fr.nil n0
  obtain ⟨S_w_TRANSMIT, E_w_TRANSMIT⟩ := id G
  have k0 : Way p e below (s₁.setTop (entryFrame m #[(.ref a1), (.int p2), (.ref a3), (.ref a4)] 4)) s₁ (mkF m 0 #[rv a1, iv p2, rv a3, rv a4] []) := fun t k => castTop (by first | (simp [entryFrame, mkF, argsToLocals, Value.category]; done) | rfl) k
  generalize s₁.setTop (entryFrame m #[(.ref a1), (.int p2), (.ref a3), (.ref a4)] 4) = S0 at k0 ⊢
  have k1 : Way p e below S0 s₁ (mkF m 1 #[rv a1, iv p2, rv a3, rv a4] [(.ref a1)]) := by
    intro t k
    refine k0 t ?_
    refine XS.aloadN X0.here hx rfl (hb hby d_prog_13_method_1_code_0) rfl rfl ?_
    show Steps p.tables e below (s₁.setTop (mkF m 1 #[rv a1, iv p2, rv a3, rv a4] [(.ref a1)])) _
    exact k
  obtain ⟨T2, X2, e2, st2⟩ := initO X0 hx hZ hown (hw _ (List.mem_of_getElem? (i := 13) rfl)) (hw _ (List.mem_of_getElem? (i := 14) rfl)) (hw _ (List.mem_of_getElem? (i := 15) rfl)) e0 (g := (mkF m 1 #[rv a1, iv p2, rv a3, rv a4] [(.ref a1)])) rfl (by rw [hml]; rfl) rfl (hb hby d_prog_13_method_1_code_1) (by decide) (W := 0) (by show 2 * 0 + _ ≤ _; exact Nat.le_of_eq rfl) (by decide)
  have k3 : Way p e below S0 T2 (mkF m 4 #[rv a1, iv p2, rv a3, rv a4] []) := fun t k => k1 t (st2 _ k)
  have k4 : Way p e below S0 T2 (mkF m 6 #[rv a1, iv p2, rv a3, rv a4] [(.int p2), (.ref a1)]) := by
    intro t k
    refine k3 t ?_
    refine XS.aloadN X2.here hx rfl (hb hby d_prog_13_method_1_code_4) rfl rfl ?_
    show Steps p.tables e below (T2.setTop (mkF m 5 #[rv a1, iv p2, rv a3, rv a4] [(.ref a1)])) _
    refine XS.iloadN X2.here hx rfl (hb hby d_prog_13_method_1_code_5) rfl ?_
    show Steps p.tables e below (T2.setTop (mkF m 6 #[rv a1, iv p2, rv a3, rv a4] [(.int p2), (.ref a1)])) _
    exact k
  obtain ⟨T5, h5, X5, e5, W5, st5⟩ := putF X2 hx hZ hown (host := "") (Or.inl (hw _ (List.mem_of_getElem? (i := 16) rfl))) Via.refl e2 a_1 a_0 (Or.inr ⟨(hw _ (List.mem_of_getElem? (i := 17) rfl)), rfl, hnm⟩) (hw _ (List.mem_of_getElem? (i := 6) rfl)) (ty := .int) (by decide) rfl rfl (g := (mkF m 6 #[rv a1, iv p2, rv a3, rv a4] [(.int p2), (.ref a1)])) rfl rfl (hb hby d_prog_13_method_1_code_6)
  have O5 := O0.wr W5 ga1
  have N5 := Fr.snoc X5 N0 ga1
  have K5 : Keep h0 h5 [a1] := (Keep.refl h0 [a1]).wr W5 (Or.inl (List.mem_of_getElem? (i := 0) rfl))
  have fw5 : Fld Z h5 a1 "com/example/aspectwise/aspectwise/cmri/Packet" "address" "I" (.int p2) := a_1.same W5
  have k6 : Way p e below S0 T5 (mkF m 9 #[rv a1, iv p2, rv a3, rv a4] []) := fun t k => k4 t (st5 _ k)
  have k7 : Way p e below S0 T5 (mkF m 11 #[rv a1, iv p2, rv a3, rv a4] [(.ref a3), (.ref a1)]) := by
    intro t k
    refine k6 t ?_
    refine XS.aloadN X5.here hx rfl (hb hby d_prog_13_method_1_code_9) rfl rfl ?_
    show Steps p.tables e below (T5.setTop (mkF m 10 #[rv a1, iv p2, rv a3, rv a4] [(.ref a1)])) _
    refine XS.aloadN X5.here hx rfl (hb hby d_prog_13_method_1_code_10) rfl rfl ?_
    show Steps p.tables e below (T5.setTop (mkF m 11 #[rv a1, iv p2, rv a3, rv a4] [(.ref a3), (.ref a1)])) _
    exact k
  have f8 : Fld Z h5 a1 "com/example/aspectwise/aspectwise/cmri/Packet" "type" "Lcom/example/aspectwise/aspectwise/cmri/Packet$Type;" .null := (a_2.other W5 (Or.inr (slot_ne (Or.inr (hw _ (List.mem_of_getElem? (i := 19) rfl))) (Or.inr (hw _ (List.mem_of_getElem? (i := 17) rfl))) (by decide) (t := (.object "com/example/aspectwise/aspectwise/cmri/Packet$Type")) (t' := .int) (by decide) (by decide))))
  have f9 : Exa Z h5 a1 "com/example/aspectwise/aspectwise/cmri/Packet" := (a_0.wr W5)
  obtain ⟨T10, h10, X10, e10, W10, st10⟩ := putF X5 hx hZ hown (host := "") (Or.inl (hw _ (List.mem_of_getElem? (i := 18) rfl))) Via.refl e5 f8 f9 (Or.inr ⟨(hw _ (List.mem_of_getElem? (i := 19) rfl)), rfl, hnm⟩) (hw _ (List.mem_of_getElem? (i := 6) rfl)) (ty := (.object "com/example/aspectwise/aspectwise/cmri/Packet$Type")) (by decide) rfl rfl (g := (mkF m 11 #[rv a1, iv p2, rv a3, rv a4] [(.ref a3), (.ref a1)])) rfl rfl (hb hby d_prog_13_method_1_code_11)
  have O10 := O5.wr W10 ga1
  have N10 := Fr.snoc X10 N5 ga1
  have K10 : Keep h0 h10 [a1] := K5.wr W10 (Or.inl (List.mem_of_getElem? (i := 0) rfl))
  have fw10 : Fld Z h10 a1 "com/example/aspectwise/aspectwise/cmri/Packet" "type" "Lcom/example/aspectwise/aspectwise/cmri/Packet$Type;" (.ref a3) := f8.same W10
  have k11 : Way p e below S0 T10 (mkF m 14 #[rv a1, iv p2, rv a3, rv a4] []) := fun t k => k7 t (st10 _ k)
  have k12 : Way p e below S0 T10 (mkF m 16 #[rv a1, iv p2, rv a3, rv a4] [(.ref a4), (.ref a1)]) := by
    intro t k
    refine k11 t ?_
    refine XS.aloadN X10.here hx rfl (hb hby d_prog_13_method_1_code_14) rfl rfl ?_
    show Steps p.tables e below (T10.setTop (mkF m 15 #[rv a1, iv p2, rv a3, rv a4] [(.ref a1)])) _
    refine XS.aloadN X10.here hx rfl (hb hby d_prog_13_method_1_code_15) rfl rfl ?_
    show Steps p.tables e below (T10.setTop (mkF m 16 #[rv a1, iv p2, rv a3, rv a4] [(.ref a4), (.ref a1)])) _
    exact k
  have f13 : Arv Z h10 a4 kc .byte (1 : Int32) [(.int q0)] (.int (0 : Int32)) := ((a_7.other W5 (Ne.symm hne)).other W10 (Ne.symm hne))
  have f14 : Exa Z h10 a4 "[B" := ((a_6.wr W5).wr W10)
  obtain ⟨T15, h15, X15, e15, E15, A15, B15, st15⟩ := cloneH X10 hx hZ hown (hw _ (List.mem_of_getElem? (i := 20) rfl)) (hw _ (List.mem_of_getElem? (i := 21) rfl)) (hw _ (List.mem_of_getElem? (i := 25) rfl)) (hw _ (List.mem_of_getElem? (i := 23) rfl)) (hw _ (List.mem_of_getElem? (i := 24) rfl)) (hw _ (List.mem_of_getElem? (i := 26) rfl)) e10 (Arv.arh f13) f14 (g := (mkF m 16 #[rv a1, iv p2, rv a3, rv a4] [(.ref a4), (.ref a1)])) rfl (by rw [hml]; rfl) rfl (hb hby d_prog_13_method_1_code_16) (by decide) (W := 1) (cap := 1) (by show 2 * 0 + _ ≤ _; exact Nat.le_of_eq rfl) (by decide) (by decide) (by decide) (by decide)
  obtain ⟨b15, g15⟩ : ∃ z, z = h10.size := ⟨_, rfl⟩
  rw [← g15] at A15 B15 st15
  have O15 := O10.ext E15
  have K15 : Keep h0 h15 [a1] := K10.ext E15
  have v15 : Arv Z h15 b15 kc .byte (1 : Int32) [(.int q0)] (.int (0 : Int32)) := A15
  have k16 : Way p e below S0 T15 (mkF m 19 #[rv a1, iv p2, rv a3, rv a4] [(.ref b15), (.ref a1)]) := fun t k => k12 t (st15 _ k)
  obtain ⟨T17, X17, e17, st17⟩ := castY X15 hx hZ hown (hw _ (List.mem_of_getElem? (i := 27) rfl)) e15 (Ins.self B15) (g := (mkF m 19 #[rv a1, iv p2, rv a3, rv a4] [(.ref b15), (.ref a1)])) rfl rfl (hb hby d_prog_13_method_1_code_19)
  have k18 : Way p e below S0 T17 (mkF m 22 #[rv a1, iv p2, rv a3, rv a4] [(.ref b15), (.ref a1)]) := fun t k => k16 t (st17 _ k)
  have f19 : Fld Z h15 a1 "com/example/aspectwise/aspectwise/cmri/Packet" "data" "[B" .null := (((a_3.other W5 (Or.inr (slot_ne (Or.inr (hw _ (List.mem_of_getElem? (i := 30) rfl))) (Or.inr (hw _ (List.mem_of_getElem? (i := 17) rfl))) (by decide) (t := (.array .byte)) (t' := .int) (by decide) (by decide)))).other W10 (Or.inr (slot_ne (Or.inr (hw _ (List.mem_of_getElem? (i := 30) rfl))) (Or.inr (hw _ (List.mem_of_getElem? (i := 19) rfl))) (by decide) (t := (.array .byte)) (t' := (.object "com/example/aspectwise/aspectwise/cmri/Packet$Type")) (by decide) (by decide)))).ext E15)
  have f20 : Exa Z h15 a1 "com/example/aspectwise/aspectwise/cmri/Packet" := ((f9.wr W10).ext E15)
  obtain ⟨T21, h21, X21, e21, W21, st21⟩ := putF X17 hx hZ hown (host := "") (Or.inl (hw _ (List.mem_of_getElem? (i := 29) rfl))) Via.refl e17 f19 f20 (Or.inr ⟨(hw _ (List.mem_of_getElem? (i := 30) rfl)), rfl, hnm⟩) (hw _ (List.mem_of_getElem? (i := 6) rfl)) (ty := (.array .byte)) (by decide) rfl rfl (g := (mkF m 22 #[rv a1, iv p2, rv a3, rv a4] [(.ref b15), (.ref a1)])) rfl rfl (hb hby d_prog_13_method_1_code_22)
  have O21 := O15.wr W21 ga1
  have N21 := Fr.snoc X21 N10 ga1
  have K21 : Keep h0 h21 [a1] := K15.wr W21 (Or.inl (List.mem_of_getElem? (i := 0) rfl))
  have fw21 : Fld Z h21 a1 "com/example/aspectwise/aspectwise/cmri/Packet" "data" "[B" (.ref b15) := f19.same W21
  have k22 : Way p e below S0 T21 (mkF m 25 #[rv a1, iv p2, rv a3, rv a4] []) := fun t k => k18 t (st21 _ k)
  obtain ⟨fs, hr, hrun, hended, hW, hsame⟩ := X21.leave (v := none) (fun _ => rfl)
  have gz23 : h0.size ≤ b15 := Nat.le_trans K10.1 (Nat.le_of_eq g15.symm)
  have f24 : Exa Z h21 a1 "com/example/aspectwise/aspectwise/cmri/Packet" := (f20.wr W21)
  have f25 : Fld Z h21 a1 "com/example/aspectwise/aspectwise/cmri/Packet" "address" "I" (.int p2) := (((fw5.other W10 (Or.inr (slot_ne (Or.inr (hw _ (List.mem_of_getElem? (i := 17) rfl))) (Or.inr (hw _ (List.mem_of_getElem? (i := 19) rfl))) (by decide) (t := .int) (t' := (.object "com/example/aspectwise/aspectwise/cmri/Packet$Type")) (by decide) (by decide)))).ext E15).other W21 (Or.inr (slot_ne (Or.inr (hw _ (List.mem_of_getElem? (i := 17) rfl))) (Or.inr (hw _ (List.mem_of_getElem? (i := 30) rfl))) (by decide) (t := .int) (t' := (.array .byte)) (by decide) (by decide))))
  have f26 : Fld Z h21 a1 "com/example/aspectwise/aspectwise/cmri/Packet" "type" "Lcom/example/aspectwise/aspectwise/cmri/Packet$Type;" (.ref a3) := ((fw10.ext E15).other W21 (Or.inr (slot_ne (Or.inr (hw _ (List.mem_of_getElem? (i := 19) rfl))) (Or.inr (hw _ (List.mem_of_getElem? (i := 30) rfl))) (by decide) (t := (.object "com/example/aspectwise/aspectwise/cmri/Packet$Type")) (t' := (.array .byte)) (by decide) (by decide))))
  have f27 : Exa Z h21 b15 "[B" := (B15.wr W21)
  have f28 : Arv Z h21 b15 kc .byte (1 : Int32) [(.int q0)] (.int (0 : Int32)) := (v15.other W21 (Ne.symm (Nat.ne_of_lt (Nat.lt_of_lt_of_le (f9.wr W10).lt (Nat.le_of_eq g15.symm)))))
  refine ⟨_, _, k22 _ (X21.returnOut hx Bd.returns (hb hby d_prog_13_method_1_code_25) hr), hrun, hended, _, _, rfl, ?_, ⟨_, rfl⟩, hW, hsame.mono (by decide) (by decide)⟩
  show Q_init1 Z w_TRANSMIT a1 p2 a3 a4 kc q0 h0 n0 _ T21.heap _
  rw [e21]
  exact ⟨b15, rfl, N21, K21, gz23, f24, f25, f26, fw21, f27, f28⟩
def Q_init2 (Z : State) (w_TRANSMIT : Addr) (a1 : Addr) (p2 : Int32) (a3 : Addr) (a4 : Addr) (kc : ClassId) (q0 : Int32) (q1 : Int32) (h0 : Heap) (n0 : Nat) (v : Option Value) (h : Heap) (L : List Loc) : Prop := ∃ d1 : Addr, (v = none) ∧ (Fr n0 L) ∧ (Keep h0 h [a1]) ∧ (h0.size ≤ d1) ∧ (Exa Z h a1 "com/example/aspectwise/aspectwise/cmri/Packet") ∧ (Fld Z h a1 "com/example/aspectwise/aspectwise/cmri/Packet" "address" "I" (.int p2)) ∧ (Fld Z h a1 "com/example/aspectwise/aspectwise/cmri/Packet" "type" "Lcom/example/aspectwise/aspectwise/cmri/Packet$Type;" (.ref a3)) ∧ (Fld Z h a1 "com/example/aspectwise/aspectwise/cmri/Packet" "data" "[B" (.ref d1)) ∧ (Exa Z h d1 "[B") ∧ (Arv Z h d1 kc .byte (2 : Int32) [(.int q0), (.int q1)] (.int (0 : Int32)))
set_option maxRecDepth 65536 in
set_option maxHeartbeats 40000000 in
theorem init2 (l : Launch) (Z : State) (a0 : Array Value) (hw : ∀ d ∈ tables_1, d.before a0 Z = true) (ws : List Jvm.Cond) (w_TRANSMIT : Addr) (G : Gst Z w_TRANSMIT) (a1 : Addr) (p2 : Int32) (a3 : Addr) (a4 : Addr) (kc : ClassId) (q0 : Int32) (q1 : Int32) (h0 : Heap) (n0 : Nat) (O0 : Old Z n0 h0) (a_0 : Exa Z h0 a1 "com/example/aspectwise/aspectwise/cmri/Packet") (a_1 : Fld Z h0 a1 "com/example/aspectwise/aspectwise/cmri/Packet" "address" "I" (.int (0 : Int32))) (a_2 : Fld Z h0 a1 "com/example/aspectwise/aspectwise/cmri/Packet" "type" "Lcom/example/aspectwise/aspectwise/cmri/Packet$Type;" .null) (a_3 : Fld Z h0 a1 "com/example/aspectwise/aspectwise/cmri/Packet" "data" "[B" .null) (ga1 : n0 ≤ a1) (hne : a1 ≠ a4) (a_6 : Exa Z h0 a4 "[B") (a_7 : Arv Z h0 a4 kc .byte (2 : Int32) [(.int q0), (.int q1)] (.int (0 : Int32))) :
    MetFree l (⟨"com/example/aspectwise/aspectwise/cmri/Packet", "<init>", "(ILcom/example/aspectwise/aspectwise/cmri/Packet$Type;[B)V"⟩ : MethodName) (head1 (Jvm.Cond.code (⟨"com/example/aspectwise/aspectwise/cmri/Packet", "<init>", "(ILcom/example/aspectwise/aspectwise/cmri/Packet$Type;[B)V"⟩ : MethodName) prog_13_method_1_code 4 none :: ws) ({ frames := 1, cells := 1, slots := 2, locals := 15 } : Room)) (fun a U => a = #[(.ref a1), (.int p2), (.ref a3), (.ref a4)] ∧ Z.Warmed39 U.vm ∧ U.heap = h0) (fun _ _ _ _ _ => True) (fun _ U o U' => ∃ v L, o = .returned v ∧ Q_init2 Z w_TRANSMIT a1 p2 a3 a4 kc q0 q1 h0 n0 v U'.heap L ∧ FrameEnd U o U' L ({ frames := 1, cells := 1, slots := 2, locals := 15 } : Room).cells ({ frames := 1, cells := 1, slots := 2, locals := 15 } : Room).slots) := by
  refine MetFree.of_bodySF (plainFor_of_name pn_0) hisR ?_
  intro p e s m args below meth c s₁ Bd hml0 hP hK
  obtain ⟨rfl, hZ, hh⟩ := hP
  have hx := Bd.exec
  have hby := Bd.bytes
  have hml : c.maxLocals = 4 := hml0
  have hown : s.vm.findClass "com/example/aspectwise/aspectwise/cmri/Packet" = some m.cls := findClass_of_methodNamed Bd.named
  have hnm := (name_of_methodNamed Bd.named Bd.method).1
  have X0 : Stand p l e ({ frames := 1, cells := 1, slots := 2, locals := 15 } : Room) s m #[(.ref a1), (.int p2), (.ref a3), (.ref a4)] below meth c s₁ [] 0 0 := Stand.of_body Bd
  have e0 : s₁.heap = h0 := by rw [← hh, Bd.state]; rfl
  have N0 := Fr.nil n0
  obtain ⟨S_w_TRANSMIT, E_w_TRANSMIT⟩ := id G
  have k0 : Way p e below (s₁.setTop (entryFrame m #[(.ref a1), (.int p2), (.ref a3), (.ref a4)] 4)) s₁ (mkF m 0 #[rv a1, iv p2, rv a3, rv a4] []) := fun t k => castTop (by first | (simp [entryFrame, mkF, argsToLocals, Value.category]; done) | rfl) k
  generalize s₁.setTop (entryFrame m #[(.ref a1), (.int p2), (.ref a3), (.ref a4)] 4) = S0 at k0 ⊢
  have k1 : Way p e below S0 s₁ (mkF m 1 #[rv a1, iv p2, rv a3, rv a4] [(.ref a1)]) := by
    intro t k
    refine k0 t ?_
    refine XS.aloadN X0.here hx rfl (hb hby d_prog_13_method_1_code_0) rfl rfl ?_
    show Steps p.tables e below (s₁.setTop (mkF m 1 #[rv a1, iv p2, rv a3, rv a4] [(.ref a1)])) _
    exact k
  obtain ⟨T2, X2, e2, st2⟩ := initO X0 hx hZ hown (hw _ (List.mem_of_getElem? (i := 13) rfl)) (hw _ (List.mem_of_getElem? (i := 14) rfl)) (hw _ (List.mem_of_getElem? (i := 15) rfl)) e0 (g := (mkF m 1 #[rv a1, iv p2, rv a3, rv a4] [(.ref a1)])) rfl (by rw [hml]; rfl) rfl (hb hby d_prog_13_method_1_code_1) (by decide) (W := 0) (by show 2 * 0 + _ ≤ _; exact Nat.le_of_eq rfl) (by decide)
  have k3 : Way p e below S0 T2 (mkF m 4 #[rv a1, iv p2, rv a3, rv a4] []) := fun t k => k1 t (st2 _ k)
  have k4 : Way p e below S0 T2 (mkF m 6 #[rv a1, iv p2, rv a3, rv a4] [(.int p2), (.ref a1)]) := by
    intro t k
    refine k3 t ?_
    refine XS.aloadN X2.here hx rfl (hb hby d_prog_13_method_1_code_4) rfl rfl ?_
    show Steps p.tables e below (T2.setTop (mkF m 5 #[rv a1, iv p2, rv a3, rv a4] [(.ref a1)])) _
    refine XS.iloadN X2.here hx rfl (hb hby d_prog_13_method_1_code_5) rfl ?_
    show Steps p.tables e below (T2.setTop (mkF m 6 #[rv a1, iv p2, rv a3, rv a4] [(.int p2), (.ref a1)])) _
    exact k
  obtain ⟨T5, h5, X5, e5, W5, st5⟩ := putF X2 hx hZ hown (host := "") (Or.inl (hw _ (List.mem_of_getElem? (i := 16) rfl))) Via.refl e2 a_1 a_0 (Or.inr ⟨(hw _ (List.mem_of_getElem? (i := 17) rfl)), rfl, hnm⟩) (hw _ (List.mem_of_getElem? (i := 6) rfl)) (ty := .int) (by decide) rfl rfl (g := (mkF m 6 #[rv a1, iv p2, rv a3, rv a4] [(.int p2), (.ref a1)])) rfl rfl (hb hby d_prog_13_method_1_code_6)
  have O5 := O0.wr W5 ga1
  have N5 := Fr.snoc X5 N0 ga1
  have K5 : Keep h0 h5 [a1] := (Keep.refl h0 [a1]).wr W5 (Or.inl (List.mem_of_getElem? (i := 0) rfl))
  have fw5 : Fld Z h5 a1 "com/example/aspectwise/aspectwise/cmri/Packet" "address" "I" (.int p2) := a_1.same W5
  have k6 : Way p e below S0 T5 (mkF m 9 #[rv a1, iv p2, rv a3, rv a4] []) := fun t k => k4 t (st5 _ k)
  have k7 : Way p e below S0 T5 (mkF m 11 #[rv a1, iv p2, rv a3, rv a4] [(.ref a3), (.ref a1)]) := by
    intro t k
    refine k6 t ?_
    refine XS.aloadN X5.here hx rfl (hb hby d_prog_13_method_1_code_9) rfl rfl ?_
    show Steps p.tables e below (T5.setTop (mkF m 10 #[rv a1, iv p2, rv a3, rv a4] [(.ref a1)])) _
    refine XS.aloadN X5.here hx rfl (hb hby d_prog_13_method_1_code_10) rfl rfl ?_
    show Steps p.tables e below (T5.setTop (mkF m 11 #[rv a1, iv p2, rv a3, rv a4] [(.ref a3), (.ref a1)])) _
    exact k
  have f8 : Fld Z h5 a1 "com/example/aspectwise/aspectwise/cmri/Packet" "type" "Lcom/example/aspectwise/aspectwise/cmri/Packet$Type;" .null := (a_2.other W5 (Or.inr (slot_ne (Or.inr (hw _ (List.mem_of_getElem? (i := 19) rfl))) (Or.inr (hw _ (List.mem_of_getElem? (i := 17) rfl))) (by decide) (t := (.object "com/example/aspectwise/aspectwise/cmri/Packet$Type")) (t' := .int) (by decide) (by decide))))
  have f9 : Exa Z h5 a1 "com/example/aspectwise/aspectwise/cmri/Packet" := (a_0.wr W5)
  obtain ⟨T10, h10, X10, e10, W10, st10⟩ := putF X5 hx hZ hown (host := "") (Or.inl (hw _ (List.mem_of_getElem? (i := 18) rfl))) Via.refl e5 f8 f9 (Or.inr ⟨(hw _ (List.mem_of_getElem? (i := 19) rfl)), rfl, hnm⟩) (hw _ (List.mem_of_getElem? (i := 6) rfl)) (ty := (.object "com/example/aspectwise/aspectwise/cmri/Packet$Type")) (by decide) rfl rfl (g := (mkF m 11 #[rv a1, iv p2, rv a3, rv a4] [(.ref a3), (.ref a1)])) rfl rfl (hb hby d_prog_13_method_1_code_11)
  have O10 := O5.wr W10 ga1
  have N10 := Fr.snoc X10 N5 ga1
  have K10 : Keep h0 h10 [a1] := K5.wr W10 (Or.inl (List.mem_of_getElem? (i := 0) rfl))
  have fw10 : Fld Z h10 a1 "com/example/aspectwise/aspectwise/cmri/Packet" "type" "Lcom/example/aspectwise/aspectwise/cmri/Packet$Type;" (.ref a3) := f8.same W10
  have k11 : Way p e below S0 T10 (mkF m 14 #[rv a1, iv p2, rv a3, rv a4] []) := fun t k => k7 t (st10 _ k)
  have k12 : Way p e below S0 T10 (mkF m 16 #[rv a1, iv p2, rv a3, rv a4] [(.ref a4), (.ref a1)]) := by
    intro t k
    refine k11 t ?_
    refine XS.aloadN X10.here hx rfl (hb hby d_prog_13_method_1_code_14) rfl rfl ?_
    show Steps p.tables e below (T10.setTop (mkF m 15 #[rv a1, iv p2, rv a3, rv a4] [(.ref a1)])) _
    refine XS.aloadN X10.here hx rfl (hb hby d_prog_13_method_1_code_15) rfl rfl ?_
    show Steps p.tables e below (T10.setTop (mkF m 16 #[rv a1, iv p2, rv a3, rv a4] [(.ref a4), (.ref a1)])) _
    exact k
  have f13 : Arv Z h10 a4 kc .byte (2 : Int32) [(.int q0), (.int q1)] (.int (0 : Int32)) := ((a_7.other W5 (Ne.symm hne)).other W10 (Ne.symm hne))
  have f14 : Exa Z h10 a4 "[B" := ((a_6.wr W5).wr W10)
  obtain ⟨T15, h15, X15, e15, E15, A15, B15, st15⟩ := cloneH X10 hx hZ hown (hw _ (List.mem_of_getElem? (i := 20) rfl)) (hw _ (List.mem_of_getElem? (i := 21) rfl)) (hw _ (List.mem_of_getElem? (i := 25) rfl)) (hw _ (List.mem_of_getElem? (i := 23) rfl)) (hw _ (List.mem_of_getElem? (i := 24) rfl)) (hw _ (List.mem_of_getElem? (i := 26) rfl)) e10 (Arv.arh f13) f14 (g := (mkF m 16 #[rv a1, iv p2, rv a3, rv a4] [(.ref a4), (.ref a1)])) rfl (by rw [hml]; rfl) rfl (hb hby d_prog_13_method_1_code_16) (by decide) (W := 1) (cap := 2) (by show 2 * 0 + _ ≤ _; exact Nat.le_of_eq rfl) (by decide) (by decide) (by decide) (by decide)
  obtain ⟨b15, g15⟩ : ∃ z, z = h10.size := ⟨_, rfl⟩
  rw [← g15] at A15 B15 st15
  have O15 := O10.ext E15
  have K15 : Keep h0 h15 [a1] := K10.ext E15
  have v15 : Arv Z h15 b15 kc .byte (2 : Int32) [(.int q0), (.int q1)] (.int (0 : Int32)) := A15
  have k16 : Way p e below S0 T15 (mkF m 19 #[rv a1, iv p2, rv a3, rv a4] [(.ref b15), (.ref a1)]) := fun t k => k12 t (st15 _ k)
  obtain ⟨T17, X17, e17, st17⟩ := castY X15 hx hZ hown (hw _ (List.mem_of_getElem? (i := 27) rfl)) e15 (Ins.self B15) (g := (mkF m 19 #[rv a1, iv p2, rv a3, rv a4] [(.ref b15), (.ref a1)])) rfl rfl (hb hby d_prog_13_method_1_code_19)
  have k18 : Way p e below S0 T17 (mkF m 22 #[rv a1, iv p2, rv a3, rv a4] [(.ref b15), (.ref a1)]) := fun t k => k16 t (st17 _ k)
  have f19 : Fld Z h15 a1 "com/example/aspectwise/aspectwise/cmri/Packet" "data" "[B" .null := (((a_3.other W5 (Or.inr (slot_ne (Or.inr (hw _ (List.mem_of_getElem? (i := 30) rfl))) (Or.inr (hw _ (List.mem_of_getElem? (i := 17) rfl))) (by decide) (t := (.array .byte)) (t' := .int) (by decide) (by decide)))).other W10 (Or.inr (slot_ne (Or.inr (hw _ (List.mem_of_getElem? (i := 30) rfl))) (Or.inr (hw _ (List.mem_of_getElem? (i := 19) rfl))) (by decide) (t := (.array .byte)) (t' := (.object "com/example/aspectwise/aspectwise/cmri/Packet$Type")) (by decide) (by decide)))).ext E15)
  have f20 : Exa Z h15 a1 "com/example/aspectwise/aspectwise/cmri/Packet" := ((f9.wr W10).ext E15)
  obtain ⟨T21, h21, X21, e21, W21, st21⟩ := putF X17 hx hZ hown (host := "") (Or.inl (hw _ (List.mem_of_getElem? (i := 29) rfl))) Via.refl e17 f19 f20 (Or.inr ⟨(hw _ (List.mem_of_getElem? (i := 30) rfl)), rfl, hnm⟩) (hw _ (List.mem_of_getElem? (i := 6) rfl)) (ty := (.array .byte)) (by decide) rfl rfl (g := (mkF m 22 #[rv a1, iv p2, rv a3, rv a4] [(.ref b15), (.ref a1)])) rfl rfl (hb hby d_prog_13_method_1_code_22)
  have O21 := O15.wr W21 ga1
  have N21 := Fr.snoc X21 N10 ga1
  have K21 : Keep h0 h21 [a1] := K15.wr W21 (Or.inl (List.mem_of_getElem? (i := 0) rfl))
  have fw21 : Fld Z h21 a1 "com/example/aspectwise/aspectwise/cmri/Packet" "data" "[B" (.ref b15) := f19.same W21
  have k22 : Way p e below S0 T21 (mkF m 25 #[rv a1, iv p2, rv a3, rv a4] []) := fun t k => k18 t (st21 _ k)
  obtain ⟨fs, hr, hrun, hended, hW, hsame⟩ := X21.leave (v := none) (fun _ => rfl)
  have gz23 : h0.size ≤ b15 := Nat.le_trans K10.1 (Nat.le_of_eq g15.symm)
  have f24 : Exa Z h21 a1 "com/example/aspectwise/aspectwise/cmri/Packet" := (f20.wr W21)
  have f25 : Fld Z h21 a1 "com/example/aspectwise/aspectwise/cmri/Packet" "address" "I" (.int p2) := (((fw5.other W10 (Or.inr (slot_ne (Or.inr (hw _ (List.mem_of_getElem? (i := 17) rfl))) (Or.inr (hw _ (List.mem_of_getElem? (i := 19) rfl))) (by decide) (t := .int) (t' := (.object "com/example/aspectwise/aspectwise/cmri/Packet$Type")) (by decide) (by decide)))).ext E15).other W21 (Or.inr (slot_ne (Or.inr (hw _ (List.mem_of_getElem? (i := 17) rfl))) (Or.inr (hw _ (List.mem_of_getElem? (i := 30) rfl))) (by decide) (t := .int) (t' := (.array .byte)) (by decide) (by decide))))
  have f26 : Fld Z h21 a1 "com/example/aspectwise/aspectwise/cmri/Packet" "type" "Lcom/example/aspectwise/aspectwise/cmri/Packet$Type;" (.ref a3) := ((fw10.ext E15).other W21 (Or.inr (slot_ne (Or.inr (hw _ (List.mem_of_getElem? (i := 19) rfl))) (Or.inr (hw _ (List.mem_of_getElem? (i := 30) rfl))) (by decide) (t := (.object "com/example/aspectwise/aspectwise/cmri/Packet$Type")) (t' := (.array .byte)) (by decide) (by decide))))
  have f27 : Exa Z h21 b15 "[B" := (B15.wr W21)
  have f28 : Arv Z h21 b15 kc .byte (2 : Int32) [(.int q0), (.int q1)] (.int (0 : Int32)) := (v15.other W21 (Ne.symm (Nat.ne_of_lt (Nat.lt_of_lt_of_le (f9.wr W10).lt (Nat.le_of_eq g15.symm)))))
  refine ⟨_, _, k22 _ (X21.returnOut hx Bd.returns (hb hby d_prog_13_method_1_code_25) hr), hrun, hended, _, _, rfl, ?_, ⟨_, rfl⟩, hW, hsame.mono (by decide) (by decide)⟩
  show Q_init2 Z w_TRANSMIT a1 p2 a3 a4 kc q0 q1 h0 n0 _ T21.heap _
  rw [e21]
  exact ⟨b15, rfl, N21, K21, gz23, f24, f25, f26, fw21, f27, f28⟩
def Q_init3 (Z : State) (w_TRANSMIT : Addr) (a1 : Addr) (p2 : Int32) (a3 : Addr) (a4 : Addr) (kc : ClassId) (q0 : Int32) (q1 : Int32) (q2 : Int32) (h0 : Heap) (n0 : Nat) (v : Option Value) (h : Heap) (L : List Loc) : Prop := ∃ d1 : Addr, (v = none) ∧ (Fr n0 L) ∧ (Keep h0 h [a1]) ∧ (h0.size ≤ d1) ∧ (Exa Z h a1 "com/example/aspectwise/aspectwise/cmri/Packet") ∧ (Fld Z h a1 "com/example/aspectwise/aspectwise/cmri/Packet" "address" "I" (.int p2)) ∧ (Fld Z h a1 "com/example/aspectwise/aspectwise/cmri/Packet" "type" "Lcom/example/aspectwise/aspectwise/cmri/Packet$Type;" (.ref a3)) ∧ (Fld Z h a1 "com/example/aspectwise/aspectwise/cmri/Packet" "data" "[B" (.ref d1)) ∧ (Exa Z h d1 "[B") ∧ (Arv Z h d1 kc .byte (3 : Int32) [(.int q0), (.int q1), (.int q2)] (.int (0 : Int32)))
set_option maxRecDepth 65536 in
set_option maxHeartbeats 40000000 in
theorem init3 (l : Launch) (Z : State) (a0 : Array Value) (hw : ∀ d ∈ tables_1, d.before a0 Z = true) (ws : List Jvm.Cond) (w_TRANSMIT : Addr) (G : Gst Z w_TRANSMIT) (a1 : Addr) (p2 : Int32) (a3 : Addr) (a4 : Addr) (kc : ClassId) (q0 : Int32) (q1 : Int32) (q2 : Int32) (h0 : Heap) (n0 : Nat) (O0 : Old Z n0 h0) (a_0 : Exa Z h0 a1 "com/example/aspectwise/aspectwise/cmri/Packet") (a_1 : Fld Z h0 a1 "com/example/aspectwise/aspectwise/cmri/Packet" "address" "I" (.int (0 : Int32))) (a_2 : Fld Z h0 a1 "com/example/aspectwise/aspectwise/cmri/Packet" "type" "Lcom/example/aspectwise/aspectwise/cmri/Packet$Type;" .null) (a_3 : Fld Z h0 a1 "com/example/aspectwise/aspectwise/cmri/Packet" "data" "[B" .null) (ga1 : n0 ≤ a1) (hne : a1 ≠ a4) (a_6 : Exa Z h0 a4 "[B") (a_7 : Arv Z h0 a4 kc .byte (3 : Int32) [(.int q0), (.int q1), (.int q2)] (.int (0 : Int32))) :
    MetFree l (⟨"com/example/aspectwise/aspectwise/cmri/Packet", "<init>", "(ILcom/example/aspectwise/aspectwise/cmri/Packet$Type;[B)V"⟩ : MethodName) (head1 (Jvm.Cond.code (⟨"com/example/aspectwise/aspectwise/cmri/Packet", "<init>", "(ILcom/example/aspectwise/aspectwise/cmri/Packet$Type;[B)V"⟩ : MethodName) prog_13_method_1_code 4 none :: ws) ({ frames := 1, cells := 1, slots := 3, locals := 15 } : Room)) (fun a U => a = #[(.ref a1), (.int p2), (.ref a3), (.ref a4)] ∧ Z.Warmed39 U.vm ∧ U.heap = h0) (fun _ _ _ _ _ => True) (fun _ U o U' => ∃ v L, o = .returned v ∧ Q_init3 Z w_TRANSMIT a1 p2 a3 a4 kc q0 q1 q2 h0 n0 v U'.heap L ∧ FrameEnd U o U' L ({ frames := 1, cells := 1, slots := 3, locals := 15 } : Room).cells ({ frames := 1, cells := 1, slots := 3, locals := 15 } : Room).slots) := by
  refine MetFree.of_bodySF (plainFor_of_name pn_0) hisR ?_
  intro p e s m args below meth c s₁ Bd hml0 hP hK
  obtain ⟨rfl, hZ, hh⟩ := hP
  have hx := Bd.exec
  have hby := Bd.bytes
  have hml : c.maxLocals = 4 := hml0
  have hown : s.vm.findClass "com/example/aspectwise/aspectwise/cmri/Packet" = some m.cls := findClass_of_methodNamed Bd.named
  have hnm := (name_of_methodNamed Bd.named Bd.method).1
  have X0 : Stand p l e ({ frames := 1, cells := 1, slots := 3, locals := 15 } : Room) s m #[(.ref a1), (.int p2), (.ref a3), (.ref a4)] below meth c s₁ [] 0 0 := Stand.of_body Bd
  have e0 : s₁.heap = h0 := by rw [← hh, Bd.state]; rfl
  have N0 := Fr.nil n0
  obtain ⟨S_w_TRANSMIT, E_w_TRANSMIT⟩ := id G
  have k0 : Way p e below (s₁.setTop (entryFrame m #[(.ref a1), (.int p2), (.ref a3), (.ref a4)] 4)) s₁ (mkF m 0 #[rv a1, iv p2, rv a3, rv a4] []) := fun t k => castTop (by first | (simp [entryFrame, mkF, argsToLocals, Value.category]; done) | rfl) k
  generalize s₁.setTop (entryFrame m #[(.ref a1), (.int p2), (.ref a3), (.ref a4)] 4) = S0 at k0 ⊢
  have k1 : Way p e below S0 s₁ (mkF m 1 #[rv a1, iv p2, rv a3, rv a4] [(.ref a1)]) := by
    intro t k
    refine k0 t ?_
    refine XS.aloadN X0.here hx rfl (hb hby d_prog_13_method_1_code_0) rfl rfl ?_
    show Steps p.tables e below (s₁.setTop (mkF m 1 #[rv a1, iv p2, rv a3, rv a4] [(.ref a1)])) _
    exact k
  obtain ⟨T2, X2, e2, st2⟩ := initO X0 hx hZ hown (hw _ (List.mem_of_getElem? (i := 13) rfl)) (hw _ (List.mem_of_getElem? (i := 14) rfl)) (hw _ (List.mem_of_getElem? (i := 15) rfl)) e0 (g := (mkF m 1 #[rv a1, iv p2, rv a3, rv a4] [(.ref a1)])) rfl (by rw [hml]; rfl) rfl (hb hby d_prog_13_method_1_code_1) (by decide) (W := 0) (by show 2 * 0 + _ ≤ _; exact Nat.le_of_eq rfl) (by decide)
  have k3 : Way p e below S0 T2 (mkF m 4 #[rv a1, iv p2, rv a3, rv a4] []) := fun t k => k1 t (st2 _ k)
  have k4 : Way p e below S0 T2 (mkF m 6 #[rv a1, iv p2, rv a3, rv a4] [(.int p2), (.ref a1)]) := by
    intro t k
    refine k3 t ?_
    refine XS.aloadN X2.here hx rfl (hb hby d_prog_13_method_1_code_4) rfl rfl ?_
    show Steps p.tables e below (T2.setTop (mkF m 5 #[rv a1, iv p2, rv a3, rv a4] [(.ref a1)])) _
    refine XS.iloadN X2.here hx rfl (hb hby d_prog_13_method_1_code_5) rfl ?_
    show Steps p.tables e below (T2.setTop (mkF m 6 #[rv a1, iv p2, rv a3, rv a4] [(.int p2), (.ref a1)])) _
    exact k
  obtain ⟨T5, h5, X5, e5, W5, st5⟩ := putF X2 hx hZ hown (host := "") (Or.inl (hw _ (List.mem_of_getElem? (i := 16) rfl))) Via.refl e2 a_1 a_0 (Or.inr ⟨(hw _ (List.mem_of_getElem? (i := 17) rfl)), rfl, hnm⟩) (hw _ (List.mem_of_getElem? (i := 6) rfl)) (ty := .int) (by decide) rfl rfl (g := (mkF m 6 #[rv a1, iv p2, rv a3, rv a4] [(.int p2), (.ref a1)])) rfl rfl (hb hby d_prog_13_method_1_code_6)
  have O5 := O0.wr W5 ga1
  have N5 := Fr.snoc X5 N0 ga1
  have K5 : Keep h0 h5 [a1] := (Keep.refl h0 [a1]).wr W5 (Or.inl (List.mem_of_getElem? (i := 0) rfl))
  have fw5 : Fld Z h5 a1 "com/example/aspectwise/aspectwise/cmri/Packet" "address" "I" (.int p2) := a_1.same W5
  have k6 : Way p e below S0 T5 (mkF m 9 #[rv a1, iv p2, rv a3, rv a4] []) := fun t k => k4 t (st5 _ k)
  have k7 : Way p e below S0 T5 (mkF m 11 #[rv a1, iv p2, rv a3, rv a4] [(.ref a3), (.ref a1)]) := by
    intro t k
    refine k6 t ?_
    refine XS.aloadN X5.here hx rfl (hb hby d_prog_13_method_1_code_9) rfl rfl ?_
    show Steps p.tables e below (T5.setTop (mkF m 10 #[rv a1, iv p2, rv a3, rv a4] [(.ref a1)])) _
    refine XS.aloadN X5.here hx rfl (hb hby d_prog_13_method_1_code_10) rfl rfl ?_
    show Steps p.tables e below (T5.setTop (mkF m 11 #[rv a1, iv p2, rv a3, rv a4] [(.ref a3), (.ref a1)])) _
    exact k
  have f8 : Fld Z h5 a1 "com/example/aspectwise/aspectwise/cmri/Packet" "type" "Lcom/example/aspectwise/aspectwise/cmri/Packet$Type;" .null := (a_2.other W5 (Or.inr (slot_ne (Or.inr (hw _ (List.mem_of_getElem? (i := 19) rfl))) (Or.inr (hw _ (List.mem_of_getElem? (i := 17) rfl))) (by decide) (t := (.object "com/example/aspectwise/aspectwise/cmri/Packet$Type")) (t' := .int) (by decide) (by decide))))
  have f9 : Exa Z h5 a1 "com/example/aspectwise/aspectwise/cmri/Packet" := (a_0.wr W5)
  obtain ⟨T10, h10, X10, e10, W10, st10⟩ := putF X5 hx hZ hown (host := "") (Or.inl (hw _ (List.mem_of_getElem? (i := 18) rfl))) Via.refl e5 f8 f9 (Or.inr ⟨(hw _ (List.mem_of_getElem? (i := 19) rfl)), rfl, hnm⟩) (hw _ (List.mem_of_getElem? (i := 6) rfl)) (ty := (.object "com/example/aspectwise/aspectwise/cmri/Packet$Type")) (by decide) rfl rfl (g := (mkF m 11 #[rv a1, iv p2, rv a3, rv a4] [(.ref a3), (.ref a1)])) rfl rfl (hb hby d_prog_13_method_1_code_11)
  have O10 := O5.wr W10 ga1
  have N10 := Fr.snoc X10 N5 ga1
  have K10 : Keep h0 h10 [a1] := K5.wr W10 (Or.inl (List.mem_of_getElem? (i := 0) rfl))
  have fw10 : Fld Z h10 a1 "com/example/aspectwise/aspectwise/cmri/Packet" "type" "Lcom/example/aspectwise/aspectwise/cmri/Packet$Type;" (.ref a3) := f8.same W10
  have k11 : Way p e below S0 T10 (mkF m 14 #[rv a1, iv p2, rv a3, rv a4] []) := fun t k => k7 t (st10 _ k)
  have k12 : Way p e below S0 T10 (mkF m 16 #[rv a1, iv p2, rv a3, rv a4] [(.ref a4), (.ref a1)]) := by
    intro t k
    refine k11 t ?_
    refine XS.aloadN X10.here hx rfl (hb hby d_prog_13_method_1_code_14) rfl rfl ?_
    show Steps p.tables e below (T10.setTop (mkF m 15 #[rv a1, iv p2, rv a3, rv a4] [(.ref a1)])) _
    refine XS.aloadN X10.here hx rfl (hb hby d_prog_13_method_1_code_15) rfl rfl ?_
    show Steps p.tables e below (T10.setTop (mkF m 16 #[rv a1, iv p2, rv a3, rv a4] [(.ref a4), (.ref a1)])) _
    exact k
  have f13 : Arv Z h10 a4 kc .byte (3 : Int32) [(.int q0), (.int q1), (.int q2)] (.int (0 : Int32)) := ((a_7.other W5 (Ne.symm hne)).other W10 (Ne.symm hne))
  have f14 : Exa Z h10 a4 "[B" := ((a_6.wr W5).wr W10)
  obtain ⟨T15, h15, X15, e15, E15, A15, B15, st15⟩ := cloneH X10 hx hZ hown (hw _ (List.mem_of_getElem? (i := 20) rfl)) (hw _ (List.mem_of_getElem? (i := 21) rfl)) (hw _ (List.mem_of_getElem? (i := 25) rfl)) (hw _ (List.mem_of_getElem? (i := 23) rfl)) (hw _ (List.mem_of_getElem? (i := 24) rfl)) (hw _ (List.mem_of_getElem? (i := 26) rfl)) e10 (Arv.arh f13) f14 (g := (mkF m 16 #[rv a1, iv p2, rv a3, rv a4] [(.ref a4), (.ref a1)])) rfl (by rw [hml]; rfl) rfl (hb hby d_prog_13_method_1_code_16) (by decide) (W := 1) (cap := 3) (by show 2 * 0 + _ ≤ _; exact Nat.le_of_eq rfl) (by decide) (by decide) (by decide) (by decide)
  obtain ⟨b15, g15⟩ : ∃ z, z = h10.size := ⟨_, rfl⟩
  rw [← g15] at A15 B15 st15
  have O15 := O10.ext E15
  have K15 : Keep h0 h15 [a1] := K10.ext E15
  have v15 : Arv Z h15 b15 kc .byte (3 : Int32) [(.int q0), (.int q1), (.int q2)] (.int (0 : Int32)) := A15
  have k16 : Way p e below S0 T15 (mkF m 19 #[rv a1, iv p2, rv a3, rv a4] [(.ref b15), (.ref a1)]) := fun t k => k12 t (st15 _ k)
  obtain ⟨T17, X17, e17, st17⟩ := castY X15 hx hZ hown (hw _ (List.mem_of_getElem? (i := 27) rfl)) e15 (Ins.self B15) (g := (mkF m 19 #[rv a1, iv p2, rv a3, rv a4] [(.ref b15), (.ref a1)])) rfl rfl (hb hby d_prog_13_method_1_code_19)
  have k18 : Way p e below S0 T17 (mkF m 22 #[rv a1, iv p2, rv a3, rv a4] [(.ref b15), (.ref a1)]) := fun t k => k16 t (st17 _ k)
  have f19 : Fld Z h15 a1 "com/example/aspectwise/aspectwise/cmri/Packet" "data" "[B" .null := (((a_3.other W5 (Or.inr (slot_ne (Or.inr (hw _ (List.mem_of_getElem? (i := 30) rfl))) (Or.inr (hw _ (List.mem_of_getElem? (i := 17) rfl))) (by decide) (t := (.array .byte)) (t' := .int) (by decide) (by decide)))).other W10 (Or.inr (slot_ne (Or.inr (hw _ (List.mem_of_getElem? (i := 30) rfl))) (Or.inr (hw _ (List.mem_of_getElem? (i := 19) rfl))) (by decide) (t := (.array .byte)) (t' := (.object "com/example/aspectwise/aspectwise/cmri/Packet$Type")) (by decide) (by decide)))).ext E15)
  have f20 : Exa Z h15 a1 "com/example/aspectwise/aspectwise/cmri/Packet" := ((f9.wr W10).ext E15)
  obtain ⟨T21, h21, X21, e21, W21, st21⟩ := putF X17 hx hZ hown (host := "") (Or.inl (hw _ (List.mem_of_getElem? (i := 29) rfl))) Via.refl e17 f19 f20 (Or.inr ⟨(hw _ (List.mem_of_getElem? (i := 30) rfl)), rfl, hnm⟩) (hw _ (List.mem_of_getElem? (i := 6) rfl)) (ty := (.array .byte)) (by decide) rfl rfl (g := (mkF m 22 #[rv a1, iv p2, rv a3, rv a4] [(.ref b15), (.ref a1)])) rfl rfl (hb hby d_prog_13_method_1_code_22)
  have O21 := O15.wr W21 ga1
  have N21 := Fr.snoc X21 N10 ga1
  have K21 : Keep h0 h21 [a1] := K15.wr W21 (Or.inl (List.mem_of_getElem? (i := 0) rfl))
  have fw21 : Fld Z h21 a1 "com/example/aspectwise/aspectwise/cmri/Packet" "data" "[B" (.ref b15) := f19.same W21
  have k22 : Way p e below S0 T21 (mkF m 25 #[rv a1, iv p2, rv a3, rv a4] []) := fun t k => k18 t (st21 _ k)
  obtain ⟨fs, hr, hrun, hended, hW, hsame⟩ := X21.leave (v := none) (fun _ => rfl)
  have gz23 : h0.size ≤ b15 := Nat.le_trans K10.1 (Nat.le_of_eq g15.symm)
  have f24 : Exa Z h21 a1 "com/example/aspectwise/aspectwise/cmri/Packet" := (f20.wr W21)
  have f25 : Fld Z h21 a1 "com/example/aspectwise/aspectwise/cmri/Packet" "address" "I" (.int p2) := (((fw5.other W10 (Or.inr (slot_ne (Or.inr (hw _ (List.mem_of_getElem? (i := 17) rfl))) (Or.inr (hw _ (List.mem_of_getElem? (i := 19) rfl))) (by decide) (t := .int) (t' := (.object "com/example/aspectwise/aspectwise/cmri/Packet$Type")) (by decide) (by decide)))).ext E15).other W21 (Or.inr (slot_ne (Or.inr (hw _ (List.mem_of_getElem? (i := 17) rfl))) (Or.inr (hw _ (List.mem_of_getElem? (i := 30) rfl))) (by decide) (t := .int) (t' := (.array .byte)) (by decide) (by decide))))
  have f26 : Fld Z h21 a1 "com/example/aspectwise/aspectwise/cmri/Packet" "type" "Lcom/example/aspectwise/aspectwise/cmri/Packet$Type;" (.ref a3) := ((fw10.ext E15).other W21 (Or.inr (slot_ne (Or.inr (hw _ (List.mem_of_getElem? (i := 19) rfl))) (Or.inr (hw _ (List.mem_of_getElem? (i := 30) rfl))) (by decide) (t := (.object "com/example/aspectwise/aspectwise/cmri/Packet$Type")) (t' := (.array .byte)) (by decide) (by decide))))
  have f27 : Exa Z h21 b15 "[B" := (B15.wr W21)
  have f28 : Arv Z h21 b15 kc .byte (3 : Int32) [(.int q0), (.int q1), (.int q2)] (.int (0 : Int32)) := (v15.other W21 (Ne.symm (Nat.ne_of_lt (Nat.lt_of_lt_of_le (f9.wr W10).lt (Nat.le_of_eq g15.symm)))))
  refine ⟨_, _, k22 _ (X21.returnOut hx Bd.returns (hb hby d_prog_13_method_1_code_25) hr), hrun, hended, _, _, rfl, ?_, ⟨_, rfl⟩, hW, hsame.mono (by decide) (by decide)⟩
  show Q_init3 Z w_TRANSMIT a1 p2 a3 a4 kc q0 q1 q2 h0 n0 _ T21.heap _
  rw [e21]
  exact ⟨b15, rfl, N21, K21, gz23, f24, f25, f26, fw21, f27, f28⟩
def Q_trans0 (Z : State) (w_TRANSMIT : Addr) (p1 : Int32) (a2 : Addr) (kc : ClassId) (h0 : Heap) (n0 : Nat) (v : Option Value) (h : Heap) (L : List Loc) : Prop := ∃ b1 : Addr, ∃ d1 : Addr, (v = some (.ref b1)) ∧ (Fr n0 L) ∧ (Keep h0 h []) ∧ (h0.size ≤ b1) ∧ (h0.size ≤ d1) ∧ (Exa Z h b1 "com/example/aspectwise/aspectwise/cmri/Packet") ∧ (Fld Z h b1 "com/example/aspectwise/aspectwise/cmri/Packet" "address" "I" (.int p1)) ∧ (Fld Z h b1 "com/example/aspectwise/aspectwise/cmri/Packet" "type" "Lcom/example/aspectwise/aspectwise/cmri/Packet$Type;" (.ref w_TRANSMIT)) ∧ (Fld Z h b1 "com/example/aspectwise/aspectwise/cmri/Packet" "data" "[B" (.ref d1)) ∧ (Exa Z h d1 "[B") ∧ (Arv Z h d1 kc .byte (0 : Int32) [] (.int (0 : Int32)))
set_option maxRecDepth 65536 in
set_option maxHeartbeats 40000000 in
theorem trans0 (l : Launch) (Z : State) (a0 : Array Value) (hw : ∀ d ∈ tables_1, d.before a0 Z = true) (ws : List Jvm.Cond) (w_TRANSMIT : Addr) (G : Gst Z w_TRANSMIT) (p1 : Int32) (a2 : Addr) (kc : ClassId) (h0 : Heap) (n0 : Nat) (O0 : Old Z n0 h0) (a_0 : Exa Z h0 a2 "[B") (a_1 : Arv Z h0 a2 kc .byte (0 : Int32) [] (.int (0 : Int32))) :
    MetFree l (⟨"com/example/aspectwise/aspectwise/cmri/Packet", "transmit", "(I[B)Lcom/example/aspectwise/aspectwise/cmri/Packet;"⟩ : MethodName) (head1 (Jvm.Cond.code (⟨"com/example/aspectwise/aspectwise/cmri/Packet", "transmit", "(I[B)Lcom/example/aspectwise/aspectwise/cmri/Packet;"⟩ : MethodName) prog_13_method_4_code 2 (some (.object "com/example/aspectwise/aspectwise/cmri/Packet")) :: ws) ({ frames := 2, cells := 2, slots := 3, locals := 31 } : Room)) (fun a U => a = #[(.int p1), (.ref a2)] ∧ Z.Warmed39 U.vm ∧ U.heap = h0) (fun _ _ _ _ _ => True) (fun _ U o U' => ∃ v L, o = .returned v ∧ Q_trans0 Z w_TRANSMIT p1 a2 kc h0 n0 v U'.heap L ∧ FrameEnd U o U' L ({ frames := 2, cells := 2, slots := 3, locals := 31 } : Room).cells ({ frames := 2, cells := 2, slots := 3, locals := 31 } : Room).slots) := by
  refine MetFree.of_bodySF (plainFor_of_name pn_0) hisR ?_
  intro p e s m args below meth c s₁ Bd hml0 hP hK
  obtain ⟨rfl, hZ, hh⟩ := hP
  have hx := Bd.exec
  have hby := Bd.bytes
  have hml : c.maxLocals = 2 := hml0
  have hown : s.vm.findClass "com/example/aspectwise/aspectwise/cmri/Packet" = some m.cls := findClass_of_methodNamed Bd.named
  have hnm := (name_of_methodNamed Bd.named Bd.method).1
  have X0 : Stand p l e ({ frames := 2, cells := 2, slots := 3, locals := 31 } : Room) s m #[(.int p1), (.ref a2)] below meth c s₁ [] 0 0 := Stand.of_body Bd
  have e0 : s₁.heap = h0 := by rw [← hh, Bd.state]; rfl
  have N0 := Fr.nil n0
  obtain ⟨S_w_TRANSMIT, E_w_TRANSMIT⟩ := id G
  have k0 : Way p e below (s₁.setTop (entryFrame m #[(.int p1), (.ref a2)] 2)) s₁ (mkF m 0 #[iv p1, rv a2] []) := fun t k => castTop (by first | (simp [entryFrame, mkF, argsToLocals, Value.category]; done) | rfl) k
  generalize s₁.setTop (entryFrame m #[(.int p1), (.ref a2)] 2) = S0 at k0 ⊢
  obtain ⟨T1, h1, X1, e1, E1, A1, D1, U1, st1⟩ := newO X0 hx hZ hown (hw _ (List.mem_of_getElem? (i := 5) rfl)) (hw _ (List.mem_of_getElem? (i := 6) rfl)) (hw _ (List.mem_of_getElem? (i := 3) rfl)) e0 (g := (mkF m 0 #[iv p1, rv a2] [])) rfl (hb hby d_prog_13_method_4_code_0) (by decide) (by decide)
  obtain ⟨b1, g1⟩ : ∃ z, z = h0.size := ⟨_, rfl⟩
  rw [← g1] at A1 D1 U1 st1
  have O1 := O0.ext E1
  have K1 : Keep h0 h1 [] := (Keep.refl h0 []).ext E1
  have i1_address : Fld Z h1 b1 "com/example/aspectwise/aspectwise/cmri/Packet" "address" "I" (.int (0 : Int32)) := D1 (Or.inr (hw _ (List.mem_of_getElem? (i := 17) rfl))) (ty := .int) (by decide)
  have i1_type : Fld Z h1 b1 "com/example/aspectwise/aspectwise/cmri/Packet" "type" "Lcom/example/aspectwise/aspectwise/cmri/Packet$Type;" .null := D1 (Or.inr (hw _ (List.mem_of_getElem? (i := 19) rfl))) (ty := (.object "com/example/aspectwise/aspectwise/cmri/Packet$Type")) (by decide)
  have i1_data : Fld Z h1 b1 "com/example/aspectwise/aspectwise/cmri/Packet" "data" "[B" .null := D1 (Or.inr (hw _ (List.mem_of_getElem? (i := 30) rfl))) (ty := (.array .byte)) (by decide)
  have k2 : Way p e below S0 T1 (mkF m 3 #[iv p1, rv a2] [(.ref b1)]) := fun t k => k0 t (st1 _ k)
  have k3 : Way p e below S0 T1 (mkF m 5 #[iv p1, rv a2] [(.int p1), (.ref b1), (.ref b1)]) := by
    intro t k
    refine k2 t ?_
    refine XS.dup X1.here hx rfl (hb hby d_prog_13_method_4_code_3) rfl rfl ?_
    show Steps p.tables e below (T1.setTop (mkF m 4 #[iv p1, rv a2] [(.ref b1), (.ref b1)])) _
    refine XS.iloadN X1.here hx rfl (hb hby d_prog_13_method_4_code_4) rfl ?_
    show Steps p.tables e below (T1.setTop (mkF m 5 #[iv p1, rv a2] [(.int p1), (.ref b1), (.ref b1)])) _
    exact k
  obtain ⟨T4, X4, e4, st4⟩ := getS2 X1 hx hZ hown (host := "") (Or.inl (hw _ (List.mem_of_getElem? (i := 7) rfl))) Via.refl e1 (S_w_TRANSMIT.ext O1.2) (g := (mkF m 5 #[iv p1, rv a2] [(.int p1), (.ref b1), (.ref b1)])) rfl (hb hby d_prog_13_method_4_code_5)
  have k5 : Way p e below S0 T4 (mkF m 8 #[iv p1, rv a2] [(.ref w_TRANSMIT), (.int p1), (.ref b1), (.ref b1)]) := fun t k => k3 t (st4 _ k)
  have k6 : Way p e below S0 T4 (mkF m 9 #[iv p1, rv a2] [(.ref a2), (.ref w_TRANSMIT), (.int p1), (.ref b1), (.ref b1)]) := by
    intro t k
    refine k5 t ?_
    refine XS.aloadN X4.here hx rfl (hb hby d_prog_13_method_4_code_8) rfl rfl ?_
    show Steps p.tables e below (T4.setTop (mkF m 9 #[iv p1, rv a2] [(.ref a2), (.ref w_TRANSMIT), (.int p1), (.ref b1), (.ref b1)])) _
    exact k
  have ge7 : n0 ≤ b1 := Nat.le_trans (own_old O0) (Nat.le_of_eq g1.symm)
  have f8 : Exa Z h1 a2 "[B" := (a_0.ext E1)
  have f9 : Arv Z h1 a2 kc .byte (0 : Int32) [] (.int (0 : Int32)) := (a_1.ext E1)
  obtain ⟨_, _, ⟨T10, L10, kk10, nn10⟩, -, X10, ⟨Lc10, hQ10, l10, y10, z10⟩, st10⟩ := X4.specialBack hx (y := (⟨"com/example/aspectwise/aspectwise/cmri/Packet", "<init>", "(ILcom/example/aspectwise/aspectwise/cmri/Packet$Type;[B)V"⟩ : MethodName)) rfl hown (mvT hZ (hw _ (List.mem_of_getElem? (i := 10) rfl))) (mvT hZ (hw _ (List.mem_of_getElem? (i := 11) rfl))) (mvT hZ (hw _ (List.mem_of_getElem? (i := 12) rfl))) (by decide) (backOf (W := 1) (init0 l Z a0 hw [] w_TRANSMIT G b1 p1 w_TRANSMIT a2 kc h1 n0 O1 (A1 : Exa Z h1 b1 "com/example/aspectwise/aspectwise/cmri/Packet") (i1_address : Fld Z h1 b1 "com/example/aspectwise/aspectwise/cmri/Packet" "address" "I" (.int (0 : Int32))) (i1_type : Fld Z h1 b1 "com/example/aspectwise/aspectwise/cmri/Packet" "type" "Lcom/example/aspectwise/aspectwise/cmri/Packet$Type;" .null) (i1_data : Fld Z h1 b1 "com/example/aspectwise/aspectwise/cmri/Packet" "data" "[B" .null) (ge7 : n0 ≤ b1) ((Ne.symm (Nat.ne_of_lt (Nat.lt_of_lt_of_le a_0.lt (Nat.le_of_eq g1.symm)))) : b1 ≠ a2) (f8 : Exa Z h1 a2 "[B") (f9 : Arv Z h1 a2 kc .byte (0 : Int32) [] (.int (0 : Int32)))) hZ (hw _ (List.mem_of_getElem? (i := 12) rfl)) (hw _ (List.mem_of_getElem? (i := 3) rfl)) (by decide) (by decide)) (g := (mkF m 9 #[iv p1, rv a2] [(.ref a2), (.ref w_TRANSMIT), (.int p1), (.ref b1), (.ref b1)])) rfl (by rw [hml]; rfl) (Steps.refl _) (a := b1) (argsL := [(.int p1), (.ref w_TRANSMIT), (.ref a2)]) (rest := [(.ref b1)]) (lenOf pd_0 rfl) rfl (by show 2 * 0 + _ ≤ _; exact Nat.le_of_eq rfl) (hb hby d_prog_13_method_4_code_9) (fun _ _ => ⟨rfl, e4, (by decide : 1 + 1 ≤ _), (by decide : 3 + 0 ≤ _)⟩)
  dsimp only [Pt.U, Pt.locs, Pt.cells, Pt.slots] at X10 l10 y10 z10 st10 hQ10
  subst l10 y10 z10
  obtain ⟨d1_10, rfl, Nq10, Kq10, po10_0, po10_1, po10_2, po10_3, po10_4, po10_5, po10_6⟩ := hQ10
  have N10 := Fr.app N0 Nq10
  have O10 := O1.keep Kq10 (allS ge7 all0)
  have gz11 : h0.size ≤ b1 := Nat.le_trans (Keep.refl h0 []).1 (Nat.le_of_eq g1.symm)
  have K10 : Keep h0 T10.heap [] := K1.trans Kq10 (allS (Or.inr gz11) all0)
  have k12 : Way p e below S0 T10 (mkF m 12 #[iv p1, rv a2] [(.ref b1)]) := fun t k => k6 t (st10.trans k)
  obtain ⟨fs, hr, hrun, hended, hW, hsame⟩ := X10.leave (v := some (.ref b1)) (fun h => by rw [Bd.returns] at h; cases h)
  have gz13 : h0.size ≤ d1_10 := Nat.le_trans K1.1 po10_0
  refine ⟨_, _, k12 _ (retOut X10 hx Bd.returns rfl (Or.inr (Or.inr (Or.inr (Or.inr ⟨rfl, rfl, rfl⟩)))) (hb hby d_prog_13_method_4_code_12) hr), hrun, hended, _, _, rfl, ?_, ⟨_, rfl⟩, hW, hsame.mono (by decide) (by decide)⟩
  show Q_trans0 Z w_TRANSMIT p1 a2 kc h0 n0 _ T10.heap _
  exact ⟨b1, d1_10, rfl, N10, K10, gz11, gz13, po10_1, po10_2, po10_3, po10_4, po10_5, po10_6⟩
def Q_trans1 (Z : State) (w_TRANSMIT : Addr) (p1 : Int32) (a2 : Addr) (kc : ClassId) (q0 : Int32) (h0 : Heap) (n0 : Nat) (v : Option Value) (h : Heap) (L : List Loc) : Prop := ∃ b1 : Addr, ∃ d1 : Addr, (v = some (.ref b1)) ∧ (Fr n0 L) ∧ (Keep h0 h []) ∧ (h0.size ≤ b1) ∧ (h0.size ≤ d1) ∧ (Exa Z h b1 "com/example/aspectwise/aspectwise/cmri/Packet") ∧ (Fld Z h b1 "com/example/aspectwise/aspectwise/cmri/Packet" "address" "I" (.int p1)) ∧ (Fld Z h b1 "com/example/aspectwise/aspectwise/cmri/Packet" "type" "Lcom/example/aspectwise/aspectwise/cmri/Packet$Type;" (.ref w_TRANSMIT)) ∧ (Fld Z h b1 "com/example/aspectwise/aspectwise/cmri/Packet" "data" "[B" (.ref d1)) ∧ (Exa Z h d1 "[B") ∧ (Arv Z h d1 kc .byte (1 : Int32) [(.int q0)] (.int (0 : Int32)))
set_option maxRecDepth 65536 in
set_option maxHeartbeats 40000000 in
theorem trans1 (l : Launch) (Z : State) (a0 : Array Value) (hw : ∀ d ∈ tables_1, d.before a0 Z = true) (ws : List Jvm.Cond) (w_TRANSMIT : Addr) (G : Gst Z w_TRANSMIT) (p1 : Int32) (a2 : Addr) (kc : ClassId) (q0 : Int32) (h0 : Heap) (n0 : Nat) (O0 : Old Z n0 h0) (a_0 : Exa Z h0 a2 "[B") (a_1 : Arv Z h0 a2 kc .byte (1 : Int32) [(.int q0)] (.int (0 : Int32))) :
    MetFree l (⟨"com/example/aspectwise/aspectwise/cmri/Packet", "transmit", "(I[B)Lcom/example/aspectwise/aspectwise/cmri/Packet;"⟩ : MethodName) (head1 (Jvm.Cond.code (⟨"com/example/aspectwise/aspectwise/cmri/Packet", "transmit", "(I[B)Lcom/example/aspectwise/aspectwise/cmri/Packet;"⟩ : MethodName) prog_13_method_4_code 2 (some (.object "com/example/aspectwise/aspectwise/cmri/Packet")) :: ws) ({ frames := 2, cells := 2, slots := 4, locals := 31 } : Room)) (fun a U => a = #[(.int p1), (.ref a2)] ∧ Z.Warmed39 U.vm ∧ U.heap = h0) (fun _ _ _ _ _ => True) (fun _ U o U' => ∃ v L, o = .returned v ∧ Q_trans1 Z w_TRANSMIT p1 a2 kc q0 h0 n0 v U'.heap L ∧ FrameEnd U o U' L ({ frames := 2, cells := 2, slots := 4, locals := 31 } : Room).cells ({ frames := 2, cells := 2, slots := 4, locals := 31 } : Room).slots) := by
  refine MetFree.of_bodySF (plainFor_of_name pn_0) hisR ?_
  intro p e s m args below meth c s₁ Bd hml0 hP hK
  obtain ⟨rfl, hZ, hh⟩ := hP
  have hx := Bd.exec
  have hby := Bd.bytes
  have hml : c.maxLocals = 2 := hml0
  have hown : s.vm.findClass "com/example/aspectwise/aspectwise/cmri/Packet" = some m.cls := findClass_of_methodNamed Bd.named
  have hnm := (name_of_methodNamed Bd.named Bd.method).1
  have X0 : Stand p l e ({ frames := 2, cells := 2, slots := 4, locals := 31 } : Room) s m #[(.int p1), (.ref a2)] below meth c s₁ [] 0 0 := Stand.of_body Bd
  have e0 : s₁.heap = h0 := by rw [← hh, Bd.state]; rfl
  have N0 := Fr.nil n0
  obtain ⟨S_w_TRANSMIT, E_w_TRANSMIT⟩ := id G
  have k0 : Way p e below (s₁.setTop (entryFrame m #[(.int p1), (.ref a2)] 2)) s₁ (mkF m 0 #[iv p1, rv a2] []) := fun t k => castTop (by first | (simp [entryFrame, mkF, argsToLocals, Value.category]; done) | rfl) k
  generalize s₁.setTop (entryFrame m #[(.int p1), (.ref a2)] 2) = S0 at k0 ⊢
  obtain ⟨T1, h1, X1, e1, E1, A1, D1, U1, st1⟩ := newO X0 hx hZ hown (hw _ (List.mem_of_getElem? (i := 5) rfl)) (hw _ (List.mem_of_getElem? (i := 6) rfl)) (hw _ (List.mem_of_getElem? (i := 3) rfl)) e0 (g := (mkF m 0 #[iv p1, rv a2] [])) rfl (hb hby d_prog_13_method_4_code_0) (by decide) (by decide)
  obtain ⟨b1, g1⟩ : ∃ z, z = h0.size := ⟨_, rfl⟩
  rw [← g1] at A1 D1 U1 st1
  have O1 := O0.ext E1
  have K1 : Keep h0 h1 [] := (Keep.refl h0 []).ext E1
  have i1_address : Fld Z h1 b1 "com/example/aspectwise/aspectwise/cmri/Packet" "address" "I" (.int (0 : Int32)) := D1 (Or.inr (hw _ (List.mem_of_getElem? (i := 17) rfl))) (ty := .int) (by decide)
  have i1_type : Fld Z h1 b1 "com/example/aspectwise/aspectwise/cmri/Packet" "type" "Lcom/example/aspectwise/aspectwise/cmri/Packet$Type;" .null := D1 (Or.inr (hw _ (List.mem_of_getElem? (i := 19) rfl))) (ty := (.object "com/example/aspectwise/aspectwise/cmri/Packet$Type")) (by decide)
  have i1_data : Fld Z h1 b1 "com/example/aspectwise/aspectwise/cmri/Packet" "data" "[B" .null := D1 (Or.inr (hw _ (List.mem_of_getElem? (i := 30) rfl))) (ty := (.array .byte)) (by decide)
  have k2 : Way p e below S0 T1 (mkF m 3 #[iv p1, rv a2] [(.ref b1)]) := fun t k => k0 t (st1 _ k)
  have k3 : Way p e below S0 T1 (mkF m 5 #[iv p1, rv a2] [(.int p1), (.ref b1), (.ref b1)]) := by
    intro t k
    refine k2 t ?_
    refine XS.dup X1.here hx rfl (hb hby d_prog_13_method_4_code_3) rfl rfl ?_
    show Steps p.tables e below (T1.setTop (mkF m 4 #[iv p1, rv a2] [(.ref b1), (.ref b1)])) _
    refine XS.iloadN X1.here hx rfl (hb hby d_prog_13_method_4_code_4) rfl ?_
    show Steps p.tables e below (T1.setTop (mkF m 5 #[iv p1, rv a2] [(.int p1), (.ref b1), (.ref b1)])) _
    exact k
  obtain ⟨T4, X4, e4, st4⟩ := getS2 X1 hx hZ hown (host := "") (Or.inl (hw _ (List.mem_of_getElem? (i := 7) rfl))) Via.refl e1 (S_w_TRANSMIT.ext O1.2) (g := (mkF m 5 #[iv p1, rv a2] [(.int p1), (.ref b1), (.ref b1)])) rfl (hb hby d_prog_13_method_4_code_5)
  have k5 : Way p e below S0 T4 (mkF m 8 #[iv p1, rv a2] [(.ref w_TRANSMIT), (.int p1), (.ref b1), (.ref b1)]) := fun t k => k3 t (st4 _ k)
  have k6 : Way p e below S0 T4 (mkF m 9 #[iv p1, rv a2] [(.ref a2), (.ref w_TRANSMIT), (.int p1), (.ref b1), (.ref b1)]) := by
    intro t k
    refine k5 t ?_
    refine XS.aloadN X4.here hx rfl (hb hby d_prog_13_method_4_code_8) rfl rfl ?_
    show Steps p.tables e below (T4.setTop (mkF m 9 #[iv p1, rv a2] [(.ref a2), (.ref w_TRANSMIT), (.int p1), (.ref b1), (.ref b1)])) _
    exact k
  have ge7 : n0 ≤ b1 := Nat.le_trans (own_old O0) (Nat.le_of_eq g1.symm)
  have f8 : Exa Z h1 a2 "[B" := (a_0.ext E1)
  have f9 : Arv Z h1 a2 kc .byte (1 : Int32) [(.int q0)] (.int (0 : Int32)) := (a_1.ext E1)
  obtain ⟨_, _, ⟨T10, L10, kk10, nn10⟩, -, X10, ⟨Lc10, hQ10, l10, y10, z10⟩, st10⟩ := X4.specialBack hx (y := (⟨"com/example/aspectwise/aspectwise/cmri/Packet", "<init>", "(ILcom/example/aspectwise/aspectwise/cmri/Packet$Type;[B)V"⟩ : MethodName)) rfl hown (mvT hZ (hw _ (List.mem_of_getElem? (i := 10) rfl))) (mvT hZ (hw _ (List.mem_of_getElem? (i := 11) rfl))) (mvT hZ (hw _ (List.mem_of_getElem? (i := 12) rfl))) (by decide) (backOf (W := 1) (init1 l Z a0 hw [] w_TRANSMIT G b1 p1 w_TRANSMIT a2 kc q0 h1 n0 O1 (A1 : Exa Z h1 b1 "com/example/aspectwise/aspectwise/cmri/Packet") (i1_address : Fld Z h1 b1 "com/example/aspectwise/aspectwise/cmri/Packet" "address" "I" (.int (0 : Int32))) (i1_type : Fld Z h1 b1 "com/example/aspectwise/aspectwise/cmri/Packet" "type" "Lcom/example/aspectwise/aspectwise/cmri/Packet$Type;" .null) (i1_data : Fld Z h1 b1 "com/example/aspectwise/aspectwise/cmri/Packet" "data" "[B" .null) (ge7 : n0 ≤ b1) ((Ne.symm (Nat.ne_of_lt (Nat.lt_of_lt_of_le a_0.lt (Nat.le_of_eq g1.symm)))) : b1 ≠ a2) (f8 : Exa Z h1 a2 "[B") (f9 : Arv Z h1 a2 kc .byte (1 : Int32) [(.int q0)] (.int (0 : Int32)))) hZ (hw _ (List.mem_of_getElem? (i := 12) rfl)) (hw _ (List.mem_of_getElem? (i := 3) rfl)) (by decide) (by decide)) (g := (mkF m 9 #[iv p1, rv a2] [(.ref a2), (.ref w_TRANSMIT), (.int p1), (.ref b1), (.ref b1)])) rfl (by rw [hml]; rfl) (Steps.refl _) (a := b1) (argsL := [(.int p1), (.ref w_TRANSMIT), (.ref a2)]) (rest := [(.ref b1)]) (lenOf pd_0 rfl) rfl (by show 2 * 0 + _ ≤ _; exact Nat.le_of_eq rfl) (hb hby d_prog_13_method_4_code_9) (fun _ _ => ⟨rfl, e4, (by decide : 1 + 1 ≤ _), (by decide : 3 + 1 ≤ _)⟩)
  dsimp only [Pt.U, Pt.locs, Pt.cells, Pt.slots] at X10 l10 y10 z10 st10 hQ10
  subst l10 y10 z10
  obtain ⟨d1_10, rfl, Nq10, Kq10, po10_0, po10_1, po10_2, po10_3, po10_4, po10_5, po10_6⟩ := hQ10
  have N10 := Fr.app N0 Nq10
  have O10 := O1.keep Kq10 (allS ge7 all0)
  have gz11 : h0.size ≤ b1 := Nat.le_trans (Keep.refl h0 []).1 (Nat.le_of_eq g1.symm)
  have K10 : Keep h0 T10.heap [] := K1.trans Kq10 (allS (Or.inr gz11) all0)
  have k12 : Way p e below S0 T10 (mkF m 12 #[iv p1, rv a2] [(.ref b1)]) := fun t k => k6 t (st10.trans k)
  obtain ⟨fs, hr, hrun, hended, hW, hsame⟩ := X10.leave (v := some (.ref b1)) (fun h => by rw [Bd.returns] at h; cases h)
  have gz13 : h0.size ≤ d1_10 := Nat.le_trans K1.1 po10_0
  refine ⟨_, _, k12 _ (retOut X10 hx Bd.returns rfl (Or.inr (Or.inr (Or.inr (Or.inr ⟨rfl, rfl, rfl⟩)))) (hb hby d_prog_13_method_4_code_12) hr), hrun, hended, _, _, rfl, ?_, ⟨_, rfl⟩, hW, hsame.mono (by decide) (by decide)⟩
  show Q_trans1 Z w_TRANSMIT p1 a2 kc q0 h0 n0 _ T10.heap _
  exact ⟨b1, d1_10, rfl, N10, K10, gz11, gz13, po10_1, po10_2, po10_3, po10_4, po10_5, po10_6⟩
def Q_trans2 (Z : State) (w_TRANSMIT : Addr) (p1 : Int32) (a2 : Addr) (kc : ClassId) (q0 : Int32) (q1 : Int32) (h0 : Heap) (n0 : Nat) (v : Option Value) (h : Heap) (L : List Loc) : Prop := ∃ b1 : Addr, ∃ d1 : Addr, (v = some (.ref b1)) ∧ (Fr n0 L) ∧ (Keep h0 h []) ∧ (h0.size ≤ b1) ∧ (h0.size ≤ d1) ∧ (Exa Z h b1 "com/example/aspectwise/aspectwise/cmri/Packet") ∧ (Fld Z h b1 "com/example/aspectwise/aspectwise/cmri/Packet" "address" "I" (.int p1)) ∧ (Fld Z h b1 "com/example/aspectwise/aspectwise/cmri/Packet" "type" "Lcom/example/aspectwise/aspectwise/cmri/Packet$Type;" (.ref w_TRANSMIT)) ∧ (Fld Z h b1 "com/example/aspectwise/aspectwise/cmri/Packet" "data" "[B" (.ref d1)) ∧ (Exa Z h d1 "[B") ∧ (Arv Z h d1 kc .byte (2 : Int32) [(.int q0), (.int q1)] (.int (0 : Int32)))
set_option maxRecDepth 65536 in
set_option maxHeartbeats 40000000 in
theorem trans2 (l : Launch) (Z : State) (a0 : Array Value) (hw : ∀ d ∈ tables_1, d.before a0 Z = true) (ws : List Jvm.Cond) (w_TRANSMIT : Addr) (G : Gst Z w_TRANSMIT) (p1 : Int32) (a2 : Addr) (kc : ClassId) (q0 : Int32) (q1 : Int32) (h0 : Heap) (n0 : Nat) (O0 : Old Z n0 h0) (a_0 : Exa Z h0 a2 "[B") (a_1 : Arv Z h0 a2 kc .byte (2 : Int32) [(.int q0), (.int q1)] (.int (0 : Int32))) :
    MetFree l (⟨"com/example/aspectwise/aspectwise/cmri/Packet", "transmit", "(I[B)Lcom/example/aspectwise/aspectwise/cmri/Packet;"⟩ : MethodName) (head1 (Jvm.Cond.code (⟨"com/example/aspectwise/aspectwise/cmri/Packet", "transmit", "(I[B)Lcom/example/aspectwise/aspectwise/cmri/Packet;"⟩ : MethodName) prog_13_method_4_code 2 (some (.object "com/example/aspectwise/aspectwise/cmri/Packet")) :: ws) ({ frames := 2, cells := 2, slots := 5, locals := 31 } : Room)) (fun a U => a = #[(.int p1), (.ref a2)] ∧ Z.Warmed39 U.vm ∧ U.heap = h0) (fun _ _ _ _ _ => True) (fun _ U o U' => ∃ v L, o = .returned v ∧ Q_trans2 Z w_TRANSMIT p1 a2 kc q0 q1 h0 n0 v U'.heap L ∧ FrameEnd U o U' L ({ frames := 2, cells := 2, slots := 5, locals := 31 } : Room).cells ({ frames := 2, cells := 2, slots := 5, locals := 31 } : Room).slots) := by
  refine MetFree.of_bodySF (plainFor_of_name pn_0) hisR ?_
  intro p e s m args below meth c s₁ Bd hml0 hP hK
  obtain ⟨rfl, hZ, hh⟩ := hP
  have hx := Bd.exec
  have hby := Bd.bytes
  have hml : c.maxLocals = 2 := hml0
  have hown : s.vm.findClass "com/example/aspectwise/aspectwise/cmri/Packet" = some m.cls := findClass_of_methodNamed Bd.named
  have hnm := (name_of_methodNamed Bd.named Bd.method).1
  have X0 : Stand p l e ({ frames := 2, cells := 2, slots := 5, locals := 31 } : Room) s m #[(.int p1), (.ref a2)] below meth c s₁ [] 0 0 := Stand.of_body Bd
  have e0 : s₁.heap = h0 := by rw [← hh, Bd.state]; rfl
  have N0 := Fr.nil n0
  obtain ⟨S_w_TRANSMIT, E_w_TRANSMIT⟩ := id G
  have k0 : Way p e below (s₁.setTop (entryFrame m #[(.int p1), (.ref a2)] 2)) s₁ (mkF m 0 #[iv p1, rv a2] []) := fun t k => castTop (by first | (simp [entryFrame, mkF, argsToLocals, Value.category]; done) | rfl) k
  generalize s₁.setTop (entryFrame m #[(.int p1), (.ref a2)] 2) = S0 at k0 ⊢
  obtain ⟨T1, h1, X1, e1, E1, A1, D1, U1, st1⟩ := newO X0 hx hZ hown (hw _ (List.mem_of_getElem? (i := 5) rfl)) (hw _ (List.mem_of_getElem? (i := 6) rfl)) (hw _ (List.mem_of_getElem? (i := 3) rfl)) e0 (g := (mkF m 0 #[iv p1, rv a2] [])) rfl (hb hby d_prog_13_method_4_code_0) (by decide) (by decide)
  obtain ⟨b1, g1⟩ : ∃ z, z = h0.size := ⟨_, rfl⟩
  rw [← g1] at A1 D1 U1 st1
  have O1 := O0.ext E1
  have K1 : Keep h0 h1 [] := (Keep.refl h0 []).ext E1
  have i1_address : Fld Z h1 b1 "com/example/aspectwise/aspectwise/cmri/Packet" "address" "I" (.int (0 : Int32)) := D1 (Or.inr (hw _ (List.mem_of_getElem? (i := 17) rfl))) (ty := .int) (by decide)
  have i1_type : Fld Z h1 b1 "com/example/aspectwise/aspectwise/cmri/Packet" "type" "Lcom/example/aspectwise/aspectwise/cmri/Packet$Type;" .null := D1 (Or.inr (hw _ (List.mem_of_getElem? (i := 19) rfl))) (ty := (.object "com/example/aspectwise/aspectwise/cmri/Packet$Type")) (by decide)
  have i1_data : Fld Z h1 b1 "com/example/aspectwise/aspectwise/cmri/Packet" "data" "[B" .null := D1 (Or.inr (hw _ (List.mem_of_getElem? (i := 30) rfl))) (ty := (.array .byte)) (by decide)
  have k2 : Way p e below S0 T1 (mkF m 3 #[iv p1, rv a2] [(.ref b1)]) := fun t k => k0 t (st1 _ k)
  have k3 : Way p e below S0 T1 (mkF m 5 #[iv p1, rv a2] [(.int p1), (.ref b1), (.ref b1)]) := by
    intro t k
    refine k2 t ?_
    refine XS.dup X1.here hx rfl (hb hby d_prog_13_method_4_code_3) rfl rfl ?_
    show Steps p.tables e below (T1.setTop (mkF m 4 #[iv p1, rv a2] [(.ref b1), (.ref b1)])) _
    refine XS.iloadN X1.here hx rfl (hb hby d_prog_13_method_4_code_4) rfl ?_
    show Steps p.tables e below (T1.setTop (mkF m 5 #[iv p1, rv a2] [(.int p1), (.ref b1), (.ref b1)])) _
    exact k
  obtain ⟨T4, X4, e4, st4⟩ := getS2 X1 hx hZ hown (host := "") (Or.inl (hw _ (List.mem_of_getElem? (i := 7) rfl))) Via.refl e1 (S_w_TRANSMIT.ext O1.2) (g := (mkF m 5 #[iv p1, rv a2] [(.int p1), (.ref b1), (.ref b1)])) rfl (hb hby d_prog_13_method_4_code_5)
  have k5 : Way p e below S0 T4 (mkF m 8 #[iv p1, rv a2] [(.ref w_TRANSMIT), (.int p1), (.ref b1), (.ref b1)]) := fun t k => k3 t (st4 _ k)
  have k6 : Way p e below S0 T4 (mkF m 9 #[iv p1, rv a2] [(.ref a2), (.ref w_TRANSMIT), (.int p1), (.ref b1), (.ref b1)]) := by
    intro t k
    refine k5 t ?_
    refine XS.aloadN X4.here hx rfl (hb hby d_prog_13_method_4_code_8) rfl rfl ?_
    show Steps p.tables e below (T4.setTop (mkF m 9 #[iv p1, rv a2] [(.ref a2), (.ref w_TRANSMIT), (.int p1), (.ref b1), (.ref b1)])) _
    exact k
  have ge7 : n0 ≤ b1 := Nat.le_trans (own_old O0) (Nat.le_of_eq g1.symm)
  have f8 : Exa Z h1 a2 "[B" := (a_0.ext E1)
  have f9 : Arv Z h1 a2 kc .byte (2 : Int32) [(.int q0), (.int q1)] (.int (0 : Int32)) := (a_1.ext E1)
  obtain ⟨_, _, ⟨T10, L10, kk10, nn10⟩, -, X10, ⟨Lc10, hQ10, l10, y10, z10⟩, st10⟩ := X4.specialBack hx (y := (⟨"com/example/aspectwise/aspectwise/cmri/Packet", "<init>", "(ILcom/example/aspectwise/aspectwise/cmri/Packet$Type;[B)V"⟩ : MethodName)) rfl hown (mvT hZ (hw _ (List.mem_of_getElem? (i := 10) rfl))) (mvT hZ (hw _ (List.mem_of_getElem? (i := 11) rfl))) (mvT hZ (hw _ (List.mem_of_getElem? (i := 12) rfl))) (by decide) (backOf (W := 1) (init2 l Z a0 hw [] w_TRANSMIT G b1 p1 w_TRANSMIT a2 kc q0 q1 h1 n0 O1 (A1 : Exa Z h1 b1 "com/example/aspectwise/aspectwise/cmri/Packet") (i1_address : Fld Z h1 b1 "com/example/aspectwise/aspectwise/cmri/Packet" "address" "I" (.int (0 : Int32))) (i1_type : Fld Z h1 b1 "com/example/aspectwise/aspectwise/cmri/Packet" "type" "Lcom/example/aspectwise/aspectwise/cmri/Packet$Type;" .null) (i1_data : Fld Z h1 b1 "com/example/aspectwise/aspectwise/cmri/Packet" "data" "[B" .null) (ge7 : n0 ≤ b1) ((Ne.symm (Nat.ne_of_lt (Nat.lt_of_lt_of_le a_0.lt (Nat.le_of_eq g1.symm)))) : b1 ≠ a2) (f8 : Exa Z h1 a2 "[B") (f9 : Arv Z h1 a2 kc .byte (2 : Int32) [(.int q0), (.int q1)] (.int (0 : Int32)))) hZ (hw _ (List.mem_of_getElem? (i := 12) rfl)) (hw _ (List.mem_of_getElem? (i := 3) rfl)) (by decide) (by decide)) (g := (mkF m 9 #[iv p1, rv a2] [(.ref a2), (.ref w_TRANSMIT), (.int p1), (.ref b1), (.ref b1)])) rfl (by rw [hml]; rfl) (Steps.refl _) (a := b1) (argsL := [(.int p1), (.ref w_TRANSMIT), (.ref a2)]) (rest := [(.ref b1)]) (lenOf pd_0 rfl) rfl (by show 2 * 0 + _ ≤ _; exact Nat.le_of_eq rfl) (hb hby d_prog_13_method_4_code_9) (fun _ _ => ⟨rfl, e4, (by decide : 1 + 1 ≤ _), (by decide : 3 + 2 ≤ _)⟩)
  dsimp only [Pt.U, Pt.locs, Pt.cells, Pt.slots] at X10 l10 y10 z10 st10 hQ10
  subst l10 y10 z10
  obtain ⟨d1_10, rfl, Nq10, Kq10, po10_0, po10_1, po10_2, po10_3, po10_4, po10_5, po10_6⟩ := hQ10
  have N10 := Fr.app N0 Nq10
  have O10 := O1.keep Kq10 (allS ge7 all0)
  have gz11 : h0.size ≤ b1 := Nat.le_trans (Keep.refl h0 []).1 (Nat.le_of_eq g1.symm)
  have K10 : Keep h0 T10.heap [] := K1.trans Kq10 (allS (Or.inr gz11) all0)
  have k12 : Way p e below S0 T10 (mkF m 12 #[iv p1, rv a2] [(.ref b1)]) := fun t k => k6 t (st10.trans k)
  obtain ⟨fs, hr, hrun, hended, hW, hsame⟩ := X10.leave (v := some (.ref b1)) (fun h => by rw [Bd.returns] at h; cases h)
  have gz13 : h0.size ≤ d1_10 := Nat.le_trans K1.1 po10_0
  refine ⟨_, _, k12 _ (retOut X10 hx Bd.returns rfl (Or.inr (Or.inr (Or.inr (Or.inr ⟨rfl, rfl, rfl⟩)))) (hb hby d_prog_13_method_4_code_12) hr), hrun, hended, _, _, rfl, ?_, ⟨_, rfl⟩, hW, hsame.mono (by decide) (by decide)⟩
  show Q_trans2 Z w_TRANSMIT p1 a2 kc q0 q1 h0 n0 _ T10.heap _
  exact ⟨b1, d1_10, rfl, N10, K10, gz11, gz13, po10_1, po10_2, po10_3, po10_4, po10_5, po10_6⟩
def Q_trans3 (Z : State) (w_TRANSMIT : Addr) (p1 : Int32) (a2 : Addr) (kc : ClassId) (q0 : Int32) (q1 : Int32) (q2 : Int32) (h0 : Heap) (n0 : Nat) (v : Option Value) (h : Heap) (L : List Loc) : Prop := ∃ b1 : Addr, ∃ d1 : Addr, (v = some (.ref b1)) ∧ (Fr n0 L) ∧ (Keep h0 h []) ∧ (h0.size ≤ b1) ∧ (h0.size ≤ d1) ∧ (Exa Z h b1 "com/example/aspectwise/aspectwise/cmri/Packet") ∧ (Fld Z h b1 "com/example/aspectwise/aspectwise/cmri/Packet" "address" "I" (.int p1)) ∧ (Fld Z h b1 "com/example/aspectwise/aspectwise/cmri/Packet" "type" "Lcom/example/aspectwise/aspectwise/cmri/Packet$Type;" (.ref w_TRANSMIT)) ∧ (Fld Z h b1 "com/example/aspectwise/aspectwise/cmri/Packet" "data" "[B" (.ref d1)) ∧ (Exa Z h d1 "[B") ∧ (Arv Z h d1 kc .byte (3 : Int32) [(.int q0), (.int q1), (.int q2)] (.int (0 : Int32)))
set_option maxRecDepth 65536 in
set_option maxHeartbeats 40000000 in
theorem trans3 (l : Launch) (Z : State) (a0 : Array Value) (hw : ∀ d ∈ tables_1, d.before a0 Z = true) (ws : List Jvm.Cond) (w_TRANSMIT : Addr) (G : Gst Z w_TRANSMIT) (p1 : Int32) (a2 : Addr) (kc : ClassId) (q0 : Int32) (q1 : Int32) (q2 : Int32) (h0 : Heap) (n0 : Nat) (O0 : Old Z n0 h0) (a_0 : Exa Z h0 a2 "[B") (a_1 : Arv Z h0 a2 kc .byte (3 : Int32) [(.int q0), (.int q1), (.int q2)] (.int (0 : Int32))) :
    MetFree l (⟨"com/example/aspectwise/aspectwise/cmri/Packet", "transmit", "(I[B)Lcom/example/aspectwise/aspectwise/cmri/Packet;"⟩ : MethodName) (head1 (Jvm.Cond.code (⟨"com/example/aspectwise/aspectwise/cmri/Packet", "transmit", "(I[B)Lcom/example/aspectwise/aspectwise/cmri/Packet;"⟩ : MethodName) prog_13_method_4_code 2 (some (.object "com/example/aspectwise/aspectwise/cmri/Packet")) :: ws) ({ frames := 2, cells := 2, slots := 6, locals := 31 } : Room)) (fun a U => a = #[(.int p1), (.ref a2)] ∧ Z.Warmed39 U.vm ∧ U.heap = h0) (fun _ _ _ _ _ => True) (fun _ U o U' => ∃ v L, o = .returned v ∧ Q_trans3 Z w_TRANSMIT p1 a2 kc q0 q1 q2 h0 n0 v U'.heap L ∧ FrameEnd U o U' L ({ frames := 2, cells := 2, slots := 6, locals := 31 } : Room).cells ({ frames := 2, cells := 2, slots := 6, locals := 31 } : Room).slots) := by
  refine MetFree.of_bodySF (plainFor_of_name pn_0) hisR ?_
  intro p e s m args below meth c s₁ Bd hml0 hP hK
  obtain ⟨rfl, hZ, hh⟩ := hP
  have hx := Bd.exec
  have hby := Bd.bytes
  have hml : c.maxLocals = 2 := hml0
  have hown : s.vm.findClass "com/example/aspectwise/aspectwise/cmri/Packet" = some m.cls := findClass_of_methodNamed Bd.named
  have hnm := (name_of_methodNamed Bd.named Bd.method).1
  have X0 : Stand p l e ({ frames := 2, cells := 2, slots := 6, locals := 31 } : Room) s m #[(.int p1), (.ref a2)] below meth c s₁ [] 0 0 := Stand.of_body Bd
  have e0 : s₁.heap = h0 := by rw [← hh, Bd.state]; rfl
  have N0 := Fr.nil n0
  obtain ⟨S_w_TRANSMIT, E_w_TRANSMIT⟩ := id G
  have k0 : Way p e below (s₁.setTop (entryFrame m #[(.int p1), (.ref a2)] 2)) s₁ (mkF m 0 #[iv p1, rv a2] []) := fun t k => castTop (by first | (simp [entryFrame, mkF, argsToLocals, Value.category]; done) | rfl) k
  generalize s₁.setTop (entryFrame m #[(.int p1), (.ref a2)] 2) = S0 at k0 ⊢
  obtain ⟨T1, h1, X1, e1, E1, A1, D1, U1, st1⟩ := newO X0 hx hZ hown (hw _ (List.mem_of_getElem? (i := 5) rfl)) (hw _ (List.mem_of_getElem? (i := 6) rfl)) (hw _ (List.mem_of_getElem? (i := 3) rfl)) e0 (g := (mkF m 0 #[iv p1, rv a2] [])) rfl (hb hby d_prog_13_method_4_code_0) (by decide) (by decide)
  obtain ⟨b1, g1⟩ : ∃ z, z = h0.size := ⟨_, rfl⟩
  rw [← g1] at A1 D1 U1 st1
  have O1 := O0.ext E1
  have K1 : Keep h0 h1 [] := (Keep.refl h0 []).ext E1
  have i1_address : Fld Z h1 b1 "com/example/aspectwise/aspectwise/cmri/Packet" "address" "I" (.int (0 : Int32)) := D1 (Or.inr (hw _ (List.mem_of_getElem? (i := 17) rfl))) (ty := .int) (by decide)
  have i1_type : Fld Z h1 b1 "com/example/aspectwise/aspectwise/cmri/Packet" "type" "Lcom/example/aspectwise/aspectwise/cmri/Packet$Type;" .null := D1 (Or.inr (hw _ (List.mem_of_getElem? (i := 19) rfl))) (ty := (.object "com/example/aspectwise/aspectwise/cmri/Packet$Type")) (by decide)
  have i1_data : Fld Z h1 b1 "com/example/aspectwise/aspectwise/cmri/Packet" "data" "[B" .null := D1 (Or.inr (hw _ (List.mem_of_getElem? (i := 30) rfl))) (ty := (.array .byte)) (by decide)
  have k2 : Way p e below S0 T1 (mkF m 3 #[iv p1, rv a2] [(.ref b1)]) := fun t k => k0 t (st1 _ k)
  have k3 : Way p e below S0 T1 (mkF m 5 #[iv p1, rv a2] [(.int p1), (.ref b1), (.ref b1)]) := by
    intro t k
    refine k2 t ?_
    refine XS.dup X1.here hx rfl (hb hby d_prog_13_method_4_code_3) rfl rfl ?_
    show Steps p.tables e below (T1.setTop (mkF m 4 #[iv p1, rv a2] [(.ref b1), (.ref b1)])) _
    refine XS.iloadN X1.here hx rfl (hb hby d_prog_13_method_4_code_4) rfl ?_
    show Steps p.tables e below (T1.setTop (mkF m 5 #[iv p1, rv a2] [(.int p1), (.ref b1), (.ref b1)])) _
    exact k
  obtain ⟨T4, X4, e4, st4⟩ := getS2 X1 hx hZ hown (host := "") (Or.inl (hw _ (List.mem_of_getElem? (i := 7) rfl))) Via.refl e1 (S_w_TRANSMIT.ext O1.2) (g := (mkF m 5 #[iv p1, rv a2] [(.int p1), (.ref b1), (.ref b1)])) rfl (hb hby d_prog_13_method_4_code_5)
  have k5 : Way p e below S0 T4 (mkF m 8 #[iv p1, rv a2] [(.ref w_TRANSMIT), (.int p1), (.ref b1), (.ref b1)]) := fun t k => k3 t (st4 _ k)
  have k6 : Way p e below S0 T4 (mkF m 9 #[iv p1, rv a2] [(.ref a2), (.ref w_TRANSMIT), (.int p1), (.ref b1), (.ref b1)]) := by
    intro t k
    refine k5 t ?_
    refine XS.aloadN X4.here hx rfl (hb hby d_prog_13_method_4_code_8) rfl rfl ?_
    show Steps p.tables e below (T4.setTop (mkF m 9 #[iv p1, rv a2] [(.ref a2), (.ref w_TRANSMIT), (.int p1), (.ref b1), (.ref b1)])) _
    exact k
  have ge7 : n0 ≤ b1 := Nat.le_trans (own_old O0) (Nat.le_of_eq g1.symm)
  have f8 : Exa Z h1 a2 "[B" := (a_0.ext E1)
  have f9 : Arv Z h1 a2 kc .byte (3 : Int32) [(.int q0), (.int q1), (.int q2)] (.int (0 : Int32)) := (a_1.ext E1)
  obtain ⟨_, _, ⟨T10, L10, kk10, nn10⟩, -, X10, ⟨Lc10, hQ10, l10, y10, z10⟩, st10⟩ := X4.specialBack hx (y := (⟨"com/example/aspectwise/aspectwise/cmri/Packet", "<init>", "(ILcom/example/aspectwise/aspectwise/cmri/Packet$Type;[B)V"⟩ : MethodName)) rfl hown (mvT hZ (hw _ (List.mem_of_getElem? (i := 10) rfl))) (mvT hZ (hw _ (List.mem_of_getElem? (i := 11) rfl))) (mvT hZ (hw _ (List.mem_of_getElem? (i := 12) rfl))) (by decide) (backOf (W := 1) (init3 l Z a0 hw [] w_TRANSMIT G b1 p1 w_TRANSMIT a2 kc q0 q1 q2 h1 n0 O1 (A1 : Exa Z h1 b1 "com/example/aspectwise/aspectwise/cmri/Packet") (i1_address : Fld Z h1 b1 "com/example/aspectwise/aspectwise/cmri/Packet" "address" "I" (.int (0 : Int32))) (i1_type : Fld Z h1 b1 "com/example/aspectwise/aspectwise/cmri/Packet" "type" "Lcom/example/aspectwise/aspectwise/cmri/Packet$Type;" .null) (i1_data : Fld Z h1 b1 "com/example/aspectwise/aspectwise/cmri/Packet" "data" "[B" .null) (ge7 : n0 ≤ b1) ((Ne.symm (Nat.ne_of_lt (Nat.lt_of_lt_of_le a_0.lt (Nat.le_of_eq g1.symm)))) : b1 ≠ a2) (f8 : Exa Z h1 a2 "[B") (f9 : Arv Z h1 a2 kc .byte (3 : Int32) [(.int q0), (.int q1), (.int q2)] (.int (0 : Int32)))) hZ (hw _ (List.mem_of_getElem? (i := 12) rfl)) (hw _ (List.mem_of_getElem? (i := 3) rfl)) (by decide) (by decide)) (g := (mkF m 9 #[iv p1, rv a2] [(.ref a2), (.ref w_TRANSMIT), (.int p1), (.ref b1), (.ref b1)])) rfl (by rw [hml]; rfl) (Steps.refl _) (a := b1) (argsL := [(.int p1), (.ref w_TRANSMIT), (.ref a2)]) (rest := [(.ref b1)]) (lenOf pd_0 rfl) rfl (by show 2 * 0 + _ ≤ _; exact Nat.le_of_eq rfl) (hb hby d_prog_13_method_4_code_9) (fun _ _ => ⟨rfl, e4, (by decide : 1 + 1 ≤ _), (by decide : 3 + 3 ≤ _)⟩)
  dsimp only [Pt.U, Pt.locs, Pt.cells, Pt.slots] at X10 l10 y10 z10 st10 hQ10
  subst l10 y10 z10
  obtain ⟨d1_10, rfl, Nq10, Kq10, po10_0, po10_1, po10_2, po10_3, po10_4, po10_5, po10_6⟩ := hQ10
  have N10 := Fr.app N0 Nq10
  have O10 := O1.keep Kq10 (allS ge7 all0)
  have gz11 : h0.size ≤ b1 := Nat.le_trans (Keep.refl h0 []).1 (Nat.le_of_eq g1.symm)
  have K10 : Keep h0 T10.heap [] := K1.trans Kq10 (allS (Or.inr gz11) all0)
  have k12 : Way p e below S0 T10 (mkF m 12 #[iv p1, rv a2] [(.ref b1)]) := fun t k => k6 t (st10.trans k)
  obtain ⟨fs, hr, hrun, hended, hW, hsame⟩ := X10.leave (v := some (.ref b1)) (fun h => by rw [Bd.returns] at h; cases h)
  have gz13 : h0.size ≤ d1_10 := Nat.le_trans K1.1 po10_0
  refine ⟨_, _, k12 _ (retOut X10 hx Bd.returns rfl (Or.inr (Or.inr (Or.inr (Or.inr ⟨rfl, rfl, rfl⟩)))) (hb hby d_prog_13_method_4_code_12) hr), hrun, hended, _, _, rfl, ?_, ⟨_, rfl⟩, hW, hsame.mono (by decide) (by decide)⟩
  show Q_trans3 Z w_TRANSMIT p1 a2 kc q0 q1 q2 h0 n0 _ T10.heap _
  exact ⟨b1, d1_10, rfl, N10, K10, gz11, gz13, po10_1, po10_2, po10_3, po10_4, po10_5, po10_6⟩
def Q_data0 (Z : State) (w_TRANSMIT : Addr) (a1 : Addr) (a2 : Addr) (kc : ClassId) (h0 : Heap) (n0 : Nat) (v : Option Value) (h : Heap) (L : List Loc) : Prop := ∃ d1 : Addr, (v = some (.ref d1)) ∧ (Fr n0 L) ∧ (Keep h0 h []) ∧ (h0.size ≤ d1) ∧ (Exa Z h d1 "[B") ∧ (Arv Z h d1 kc .byte (0 : Int32) [] (.int (0 : Int32)))
set_option maxRecDepth 65536 in
set_option maxHeartbeats 40000000 in
theorem data0 (l : Launch) (Z : State) (a0 : Array Value) (hw : ∀ d ∈ tables_1, d.before a0 Z = true) (ws : List Jvm.Cond) (w_TRANSMIT : Addr) (G : Gst Z w_TRANSMIT) (a1 : Addr) (a2 : Addr) (kc : ClassId) (h0 : Heap) (n0 : Nat) (O0 : Old Z n0 h0) (a_0 : Fld Z h0 a1 "com/example/aspectwise/aspectwise/cmri/Packet" "data" "[B" (.ref a2)) (a_1 : Exa Z h0 a2 "[B") (a_2 : Arv Z h0 a2 kc .byte (0 : Int32) [] (.int (0 : Int32))) :
    MetFree l (⟨"com/example/aspectwise/aspectwise/cmri/Packet", "data", "()[B"⟩ : MethodName) (head1 (Jvm.Cond.code (⟨"com/example/aspectwise/aspectwise/cmri/Packet", "data", "()[B"⟩ : MethodName) prog_13_method_7_code 1 (some (.array .byte)) :: ws) ({ frames := 1, cells := 1, slots := 0, locals := 14 } : Room)) (fun a U => a = #[(.ref a1)] ∧ Z.Warmed39 U.vm ∧ U.heap = h0) (fun _ _ _ _ _ => True) (fun _ U o U' => ∃ v L, o = .returned v ∧ Q_data0 Z w_TRANSMIT a1 a2 kc h0 n0 v U'.heap L ∧ FrameEnd U o U' L ({ frames := 1, cells := 1, slots := 0, locals := 14 } : Room).cells ({ frames := 1, cells := 1, slots := 0, locals := 14 } : Room).slots) := by
  refine MetFree.of_bodySF (plainFor_of_name pn_0) hisR ?_
  intro p e s m args below meth c s₁ Bd hml0 hP hK
  obtain ⟨rfl, hZ, hh⟩ := hP
  have hx := Bd.exec
  have hby := Bd.bytes
  have hml : c.maxLocals = 1 := hml0
  have hown : s.vm.findClass "com/example/aspectwise/aspectwise/cmri/Packet" = some m.cls := findClass_of_methodNamed Bd.named
  have hnm := (name_of_methodNamed Bd.named Bd.method).1
  have X0 : Stand p l e ({ frames := 1, cells := 1, slots := 0, locals := 14 } : Room) s m #[(.ref a1)] below meth c s₁ [] 0 0 := Stand.of_body Bd
  have e0 : s₁.heap = h0 := by rw [← hh, Bd.state]; rfl
  have N0 := Fr.nil n0
  obtain ⟨S_w_TRANSMIT, E_w_TRANSMIT⟩ := id G
  have k0 : Way p e below (s₁.setTop (entryFrame m #[(.ref a1)] 1)) s₁ (mkF m 0 #[rv a1] []) := fun t k => castTop (by first | (simp [entryFrame, mkF, argsToLocals, Value.category]; done) | rfl) k
  generalize s₁.setTop (entryFrame m #[(.ref a1)] 1) = S0 at k0 ⊢
  have k1 : Way p e below S0 s₁ (mkF m 1 #[rv a1] [(.ref a1)]) := by
    intro t k
    refine k0 t ?_
    refine XS.aloadN X0.here hx rfl (hb hby d_prog_13_method_7_code_0) rfl rfl ?_
    show Steps p.tables e below (s₁.setTop (mkF m 1 #[rv a1] [(.ref a1)])) _
    exact k
  obtain ⟨T2, X2, e2, st2⟩ := getF X0 hx hZ hown (host := "") (Or.inl (hw _ (List.mem_of_getElem? (i := 29) rfl))) Via.refl e0 a_0 (g := (mkF m 1 #[rv a1] [(.ref a1)])) rfl rfl (hb hby d_prog_13_method_7_code_1)
  have k3 : Way p e below S0 T2 (mkF m 4 #[rv a1] [(.ref a2)]) := fun t k => k1 t (st2 _ k)
  obtain ⟨T4, h4, X4, e4, E4, A4, B4, st4⟩ := cloneH X2 hx hZ hown (hw _ (List.mem_of_getElem? (i := 20) rfl)) (hw _ (List.mem_of_getElem? (i := 21) rfl)) (hw _ (List.mem_of_getElem? (i := 25) rfl)) (hw _ (List.mem_of_getElem? (i := 23) rfl)) (hw _ (List.mem_of_getElem? (i := 24) rfl)) (hw _ (List.mem_of_getElem? (i := 26) rfl)) e2 (Arv.arh a_2) a_1 (g := (mkF m 4 #[rv a1] [(.ref a2)])) rfl (by rw [hml]; rfl) rfl (hb hby d_prog_13_method_7_code_4) (by decide) (W := 0) (cap := 0) (by show 2 * 0 + _ ≤ _; exact Nat.le_of_eq rfl) (by decide) (by decide) (by decide) (by decide)
  obtain ⟨b4, g4⟩ : ∃ z, z = h0.size := ⟨_, rfl⟩
  rw [← g4] at A4 B4 st4
  have O4 := O0.ext E4
  have K4 : Keep h0 h4 [] := (Keep.refl h0 []).ext E4
  have v4 : Arv Z h4 b4 kc .byte (0 : Int32) [] (.int (0 : Int32)) := A4
  have k5 : Way p e below S0 T4 (mkF m 7 #[rv a1] [(.ref b4)]) := fun t k => k3 t (st4 _ k)
  obtain ⟨T6, X6, e6, st6⟩ := castY X4 hx hZ hown (hw _ (List.mem_of_getElem? (i := 27) rfl)) e4 (Ins.self B4) (g := (mkF m 7 #[rv a1] [(.ref b4)])) rfl rfl (hb hby d_prog_13_method_7_code_7)
  have k7 : Way p e below S0 T6 (mkF m 10 #[rv a1] [(.ref b4)]) := fun t k => k5 t (st6 _ k)
  obtain ⟨fs, hr, hrun, hended, hW, hsame⟩ := X6.leave (v := some (.ref b4)) (fun h => by rw [Bd.returns] at h; cases h)
  have gz8 : h0.size ≤ b4 := Nat.le_trans (Keep.refl h0 []).1 (Nat.le_of_eq g4.symm)
  refine ⟨_, _, k7 _ (retOut X6 hx Bd.returns rfl (Or.inr (Or.inr (Or.inr (Or.inr ⟨rfl, rfl, rfl⟩)))) (hb hby d_prog_13_method_7_code_10) hr), hrun, hended, _, _, rfl, ?_, ⟨_, rfl⟩, hW, hsame.mono (by decide) (by decide)⟩
  show Q_data0 Z w_TRANSMIT a1 a2 kc h0 n0 _ T6.heap _
  rw [e6]
  exact ⟨b4, rfl, N0, K4, gz8, B4, v4⟩
def Q_data1 (Z : State) (w_TRANSMIT : Addr) (a1 : Addr) (a2 : Addr) (kc : ClassId) (q0 : Int32) (h0 : Heap) (n0 : Nat) (v : Option Value) (h : Heap) (L : List Loc) : Prop := ∃ d1 : Addr, (v = some (.ref d1)) ∧ (Fr n0 L) ∧ (Keep h0 h []) ∧ (h0.size ≤ d1) ∧ (Exa Z h d1 "[B") ∧ (Arv Z h d1 kc .byte (1 : Int32) [(.int q0)] (.int (0 : Int32)))
set_option maxRecDepth 65536 in
set_option maxHeartbeats 40000000 in
theorem data1 (l : Launch) (Z : State) (a0 : Array Value) (hw : ∀ d ∈ tables_1, d.before a0 Z = true) (ws : List Jvm.Cond) (w_TRANSMIT : Addr) (G : Gst Z w_TRANSMIT) (a1 : Addr) (a2 : Addr) (kc : ClassId) (q0 : Int32) (h0 : Heap) (n0 : Nat) (O0 : Old Z n0 h0) (a_0 : Fld Z h0 a1 "com/example/aspectwise/aspectwise/cmri/Packet" "data" "[B" (.ref a2)) (a_1 : Exa Z h0 a2 "[B") (a_2 : Arv Z h0 a2 kc .byte (1 : Int32) [(.int q0)] (.int (0 : Int32))) :
    MetFree l (⟨"com/example/aspectwise/aspectwise/cmri/Packet", "data", "()[B"⟩ : MethodName) (head1 (Jvm.Cond.code (⟨"com/example/aspectwise/aspectwise/cmri/Packet", "data", "()[B"⟩ : MethodName) prog_13_method_7_code 1 (some (.array .byte)) :: ws) ({ frames := 1, cells := 1, slots := 1, locals := 14 } : Room)) (fun a U => a = #[(.ref a1)] ∧ Z.Warmed39 U.vm ∧ U.heap = h0) (fun _ _ _ _ _ => True) (fun _ U o U' => ∃ v L, o = .returned v ∧ Q_data1 Z w_TRANSMIT a1 a2 kc q0 h0 n0 v U'.heap L ∧ FrameEnd U o U' L ({ frames := 1, cells := 1, slots := 1, locals := 14 } : Room).cells ({ frames := 1, cells := 1, slots := 1, locals := 14 } : Room).slots) := by
  refine MetFree.of_bodySF (plainFor_of_name pn_0) hisR ?_
  intro p e s m args below meth c s₁ Bd hml0 hP hK
  obtain ⟨rfl, hZ, hh⟩ := hP
  have hx := Bd.exec
  have hby := Bd.bytes
  have hml : c.maxLocals = 1 := hml0
  have hown : s.vm.findClass "com/example/aspectwise/aspectwise/cmri/Packet" = some m.cls := findClass_of_methodNamed Bd.named
  have hnm := (name_of_methodNamed Bd.named Bd.method).1
  have X0 : Stand p l e ({ frames := 1, cells := 1, slots := 1, locals := 14 } : Room) s m #[(.ref a1)] below meth c s₁ [] 0 0 := Stand.of_body Bd
  have e0 : s₁.heap = h0 := by rw [← hh, Bd.state]; rfl
  have N0 := Fr.nil n0
  obtain ⟨S_w_TRANSMIT, E_w_TRANSMIT⟩ := id G
  have k0 : Way p e below (s₁.setTop (entryFrame m #[(.ref a1)] 1)) s₁ (mkF m 0 #[rv a1] []) := fun t k => castTop (by first | (simp [entryFrame, mkF, argsToLocals, Value.category]; done) | rfl) k
  generalize s₁.setTop (entryFrame m #[(.ref a1)] 1) = S0 at k0 ⊢
  have k1 : Way p e below S0 s₁ (mkF m 1 #[rv a1] [(.ref a1)]) := by
    intro t k
    refine k0 t ?_
    refine XS.aloadN X0.here hx rfl (hb hby d_prog_13_method_7_code_0) rfl rfl ?_
    show Steps p.tables e below (s₁.setTop (mkF m 1 #[rv a1] [(.ref a1)])) _
    exact k
  obtain ⟨T2, X2, e2, st2⟩ := getF X0 hx hZ hown (host := "") (Or.inl (hw _ (List.mem_of_getElem? (i := 29) rfl))) Via.refl e0 a_0 (g := (mkF m 1 #[rv a1] [(.ref a1)])) rfl rfl (hb hby d_prog_13_method_7_code_1)
  have k3 : Way p e below S0 T2 (mkF m 4 #[rv a1] [(.ref a2)]) := fun t k => k1 t (st2 _ k)
  obtain ⟨T4, h4, X4, e4, E4, A4, B4, st4⟩ := cloneH X2 hx hZ hown (hw _ (List.mem_of_getElem? (i := 20) rfl)) (hw _ (List.mem_of_getElem? (i := 21) rfl)) (hw _ (List.mem_of_getElem? (i := 25) rfl)) (hw _ (List.mem_of_getElem? (i := 23) rfl)) (hw _ (List.mem_of_getElem? (i := 24) rfl)) (hw _ (List.mem_of_getElem? (i := 26) rfl)) e2 (Arv.arh a_2) a_1 (g := (mkF m 4 #[rv a1] [(.ref a2)])) rfl (by rw [hml]; rfl) rfl (hb hby d_prog_13_method_7_code_4) (by decide) (W := 0) (cap := 1) (by show 2 * 0 + _ ≤ _; exact Nat.le_of_eq rfl) (by decide) (by decide) (by decide) (by decide)
  obtain ⟨b4, g4⟩ : ∃ z, z = h0.size := ⟨_, rfl⟩
  rw [← g4] at A4 B4 st4
  have O4 := O0.ext E4
  have K4 : Keep h0 h4 [] := (Keep.refl h0 []).ext E4
  have v4 : Arv Z h4 b4 kc .byte (1 : Int32) [(.int q0)] (.int (0 : Int32)) := A4
  have k5 : Way p e below S0 T4 (mkF m 7 #[rv a1] [(.ref b4)]) := fun t k => k3 t (st4 _ k)
  obtain ⟨T6, X6, e6, st6⟩ := castY X4 hx hZ hown (hw _ (List.mem_of_getElem? (i := 27) rfl)) e4 (Ins.self B4) (g := (mkF m 7 #[rv a1] [(.ref b4)])) rfl rfl (hb hby d_prog_13_method_7_code_7)
  have k7 : Way p e below S0 T6 (mkF m 10 #[rv a1] [(.ref b4)]) := fun t k => k5 t (st6 _ k)
  obtain ⟨fs, hr, hrun, hended, hW, hsame⟩ := X6.leave (v := some (.ref b4)) (fun h => by rw [Bd.returns] at h; cases h)
  have gz8 : h0.size ≤ b4 := Nat.le_trans (Keep.refl h0 []).1 (Nat.le_of_eq g4.symm)
  refine ⟨_, _, k7 _ (retOut X6 hx Bd.returns rfl (Or.inr (Or.inr (Or.inr (Or.inr ⟨rfl, rfl, rfl⟩)))) (hb hby d_prog_13_method_7_code_10) hr), hrun, hended, _, _, rfl, ?_, ⟨_, rfl⟩, hW, hsame.mono (by decide) (by decide)⟩
  show Q_data1 Z w_TRANSMIT a1 a2 kc q0 h0 n0 _ T6.heap _
  rw [e6]
  exact ⟨b4, rfl, N0, K4, gz8, B4, v4⟩
def Q_data2 (Z : State) (w_TRANSMIT : Addr) (a1 : Addr) (a2 : Addr) (kc : ClassId) (q0 : Int32) (q1 : Int32) (h0 : Heap) (n0 : Nat) (v : Option Value) (h : Heap) (L : List Loc) : Prop := ∃ d1 : Addr, (v = some (.ref d1)) ∧ (Fr n0 L) ∧ (Keep h0 h []) ∧ (h0.size ≤ d1) ∧ (Exa Z h d1 "[B") ∧ (Arv Z h d1 kc .byte (2 : Int32) [(.int q0), (.int q1)] (.int (0 : Int32)))
set_option maxRecDepth 65536 in
set_option maxHeartbeats 40000000 in
theorem data2 (l : Launch) (Z : State) (a0 : Array Value) (hw : ∀ d ∈ tables_1, d.before a0 Z = true) (ws : List Jvm.Cond) (w_TRANSMIT : Addr) (G : Gst Z w_TRANSMIT) (a1 : Addr) (a2 : Addr) (kc : ClassId) (q0 : Int32) (q1 : Int32) (h0 : Heap) (n0 : Nat) (O0 : Old Z n0 h0) (a_0 : Fld Z h0 a1 "com/example/aspectwise/aspectwise/cmri/Packet" "data" "[B" (.ref a2)) (a_1 : Exa Z h0 a2 "[B") (a_2 : Arv Z h0 a2 kc .byte (2 : Int32) [(.int q0), (.int q1)] (.int (0 : Int32))) :
    MetFree l (⟨"com/example/aspectwise/aspectwise/cmri/Packet", "data", "()[B"⟩ : MethodName) (head1 (Jvm.Cond.code (⟨"com/example/aspectwise/aspectwise/cmri/Packet", "data", "()[B"⟩ : MethodName) prog_13_method_7_code 1 (some (.array .byte)) :: ws) ({ frames := 1, cells := 1, slots := 2, locals := 14 } : Room)) (fun a U => a = #[(.ref a1)] ∧ Z.Warmed39 U.vm ∧ U.heap = h0) (fun _ _ _ _ _ => True) (fun _ U o U' => ∃ v L, o = .returned v ∧ Q_data2 Z w_TRANSMIT a1 a2 kc q0 q1 h0 n0 v U'.heap L ∧ FrameEnd U o U' L ({ frames := 1, cells := 1, slots := 2, locals := 14 } : Room).cells ({ frames := 1, cells := 1, slots := 2, locals := 14 } : Room).slots) := by
  refine MetFree.of_bodySF (plainFor_of_name pn_0) hisR ?_
  intro p e s m args below meth c s₁ Bd hml0 hP hK
  obtain ⟨rfl, hZ, hh⟩ := hP
  have hx := Bd.exec
  have hby := Bd.bytes
  have hml : c.maxLocals = 1 := hml0
  have hown : s.vm.findClass "com/example/aspectwise/aspectwise/cmri/Packet" = some m.cls := findClass_of_methodNamed Bd.named
  have hnm := (name_of_methodNamed Bd.named Bd.method).1
  have X0 : Stand p l e ({ frames := 1, cells := 1, slots := 2, locals := 14 } : Room) s m #[(.ref a1)] below meth c s₁ [] 0 0 := Stand.of_body Bd
  have e0 : s₁.heap = h0 := by rw [← hh, Bd.state]; rfl
  have N0 := Fr.nil n0
  obtain ⟨S_w_TRANSMIT, E_w_TRANSMIT⟩ := id G
  have k0 : Way p e below (s₁.setTop (entryFrame m #[(.ref a1)] 1)) s₁ (mkF m 0 #[rv a1] []) := fun t k => castTop (by first | (simp [entryFrame, mkF, argsToLocals, Value.category]; done) | rfl) k
  generalize s₁.setTop (entryFrame m #[(.ref a1)] 1) = S0 at k0 ⊢
  have k1 : Way p e below S0 s₁ (mkF m 1 #[rv a1] [(.ref a1)]) := by
    intro t k
    refine k0 t ?_
    refine XS.aloadN X0.here hx rfl (hb hby d_prog_13_method_7_code_0) rfl rfl ?_
    show Steps p.tables e below (s₁.setTop (mkF m 1 #[rv a1] [(.ref a1)])) _
    exact k
  obtain ⟨T2, X2, e2, st2⟩ := getF X0 hx hZ hown (host := "") (Or.inl (hw _ (List.mem_of_getElem? (i := 29) rfl))) Via.refl e0 a_0 (g := (mkF m 1 #[rv a1] [(.ref a1)])) rfl rfl (hb hby d_prog_13_method_7_code_1)
  have k3 : Way p e below S0 T2 (mkF m 4 #[rv a1] [(.ref a2)]) := fun t k => k1 t (st2 _ k)
  obtain ⟨T4, h4, X4, e4, E4, A4, B4, st4⟩ := cloneH X2 hx hZ hown (hw _ (List.mem_of_getElem? (i := 20) rfl)) (hw _ (List.mem_of_getElem? (i := 21) rfl)) (hw _ (List.mem_of_getElem? (i := 25) rfl)) (hw _ (List.mem_of_getElem? (i := 23) rfl)) (hw _ (List.mem_of_getElem? (i := 24) rfl)) (hw _ (List.mem_of_getElem? (i := 26) rfl)) e2 (Arv.arh a_2) a_1 (g := (mkF m 4 #[rv a1] [(.ref a2)])) rfl (by rw [hml]; rfl) rfl (hb hby d_prog_13_method_7_code_4) (by decide) (W := 0) (cap := 2) (by show 2 * 0 + _ ≤ _; exact Nat.le_of_eq rfl) (by decide) (by decide) (by decide) (by decide)
  obtain ⟨b4, g4⟩ : ∃ z, z = h0.size := ⟨_, rfl⟩
  rw [← g4] at A4 B4 st4
  have O4 := O0.ext E4
  have K4 : Keep h0 h4 [] := (Keep.refl h0 []).ext E4
  have v4 : Arv Z h4 b4 kc .byte (2 : Int32) [(.int q0), (.int q1)] (.int (0 : Int32)) := A4
  have k5 : Way p e below S0 T4 (mkF m 7 #[rv a1] [(.ref b4)]) := fun t k => k3 t (st4 _ k)
  obtain ⟨T6, X6, e6, st6⟩ := castY X4 hx hZ hown (hw _ (List.mem_of_getElem? (i := 27) rfl)) e4 (Ins.self B4) (g := (mkF m 7 #[rv a1] [(.ref b4)])) rfl rfl (hb hby d_prog_13_method_7_code_7)
  have k7 : Way p e below S0 T6 (mkF m 10 #[rv a1] [(.ref b4)]) := fun t k => k5 t (st6 _ k)
  obtain ⟨fs, hr, hrun, hended, hW, hsame⟩ := X6.leave (v := some (.ref b4)) (fun h => by rw [Bd.returns] at h; cases h)
  have gz8 : h0.size ≤ b4 := Nat.le_trans (Keep.refl h0 []).1 (Nat.le_of_eq g4.symm)
  refine ⟨_, _, k7 _ (retOut X6 hx Bd.returns rfl (Or.inr (Or.inr (Or.inr (Or.inr ⟨rfl, rfl, rfl⟩)))) (hb hby d_prog_13_method_7_code_10) hr), hrun, hended, _, _, rfl, ?_, ⟨_, rfl⟩, hW, hsame.mono (by decide) (by decide)⟩
  show Q_data2 Z w_TRANSMIT a1 a2 kc q0 q1 h0 n0 _ T6.heap _
  rw [e6]
  exact ⟨b4, rfl, N0, K4, gz8, B4, v4⟩
def Q_data3 (Z : State) (w_TRANSMIT : Addr) (a1 : Addr) (a2 : Addr) (kc : ClassId) (q0 : Int32) (q1 : Int32) (q2 : Int32) (h0 : Heap) (n0 : Nat) (v : Option Value) (h : Heap) (L : List Loc) : Prop := ∃ d1 : Addr, (v = some (.ref d1)) ∧ (Fr n0 L) ∧ (Keep h0 h []) ∧ (h0.size ≤ d1) ∧ (Exa Z h d1 "[B") ∧ (Arv Z h d1 kc .byte (3 : Int32) [(.int q0), (.int q1), (.int q2)] (.int (0 : Int32)))
set_option maxRecDepth 65536 in
set_option maxHeartbeats 40000000 in
theorem data3 (l : Launch) (Z : State) (a0 : Array Value) (hw : ∀ d ∈ tables_1, d.before a0 Z = true) (ws : List Jvm.Cond) (w_TRANSMIT : Addr) (G : Gst Z w_TRANSMIT) (a1 : Addr) (a2 : Addr) (kc : ClassId) (q0 : Int32) (q1 : Int32) (q2 : Int32) (h0 : Heap) (n0 : Nat) (O0 : Old Z n0 h0) (a_0 : Fld Z h0 a1 "com/example/aspectwise/aspectwise/cmri/Packet" "data" "[B" (.ref a2)) (a_1 : Exa Z h0 a2 "[B") (a_2 : Arv Z h0 a2 kc .byte (3 : Int32) [(.int q0), (.int q1), (.int q2)] (.int (0 : Int32))) :
    MetFree l (⟨"com/example/aspectwise/aspectwise/cmri/Packet", "data", "()[B"⟩ : MethodName) (head1 (Jvm.Cond.code (⟨"com/example/aspectwise/aspectwise/cmri/Packet", "data", "()[B"⟩ : MethodName) prog_13_method_7_code 1 (some (.array .byte)) :: ws) ({ frames := 1, cells := 1, slots := 3, locals := 14 } : Room)) (fun a U => a = #[(.ref a1)] ∧ Z.Warmed39 U.vm ∧ U.heap = h0) (fun _ _ _ _ _ => True) (fun _ U o U' => ∃ v L, o = .returned v ∧ Q_data3 Z w_TRANSMIT a1 a2 kc q0 q1 q2 h0 n0 v U'.heap L ∧ FrameEnd U o U' L ({ frames := 1, cells := 1, slots := 3, locals := 14 } : Room).cells ({ frames := 1, cells := 1, slots := 3, locals := 14 } : Room).slots) := by
  refine MetFree.of_bodySF (plainFor_of_name pn_0) hisR ?_
  intro p e s m args below meth c s₁ Bd hml0 hP hK
  obtain ⟨rfl, hZ, hh⟩ := hP
  have hx := Bd.exec
  have hby := Bd.bytes
  have hml : c.maxLocals = 1 := hml0
  have hown : s.vm.findClass "com/example/aspectwise/aspectwise/cmri/Packet" = some m.cls := findClass_of_methodNamed Bd.named
  have hnm := (name_of_methodNamed Bd.named Bd.method).1
  have X0 : Stand p l e ({ frames := 1, cells := 1, slots := 3, locals := 14 } : Room) s m #[(.ref a1)] below meth c s₁ [] 0 0 := Stand.of_body Bd
  have e0 : s₁.heap = h0 := by rw [← hh, Bd.state]; rfl
  have N0 := Fr.nil n0
  obtain ⟨S_w_TRANSMIT, E_w_TRANSMIT⟩ := id G
  have k0 : Way p e below (s₁.setTop (entryFrame m #[(.ref a1)] 1)) s₁ (mkF m 0 #[rv a1] []) := fun t k => castTop (by first | (simp [entryFrame, mkF, argsToLocals, Value.category]; done) | rfl) k
  generalize s₁.setTop (entryFrame m #[(.ref a1)] 1) = S0 at k0 ⊢
  have k1 : Way p e below S0 s₁ (mkF m 1 #[rv a1] [(.ref a1)]) := by
    intro t k
    refine k0 t ?_
    refine XS.aloadN X0.here hx rfl (hb hby d_prog_13_method_7_code_0) rfl rfl ?_
    show Steps p.tables e below (s₁.setTop (mkF m 1 #[rv a1] [(.ref a1)])) _
    exact k
  obtain ⟨T2, X2, e2, st2⟩ := getF X0 hx hZ hown (host := "") (Or.inl (hw _ (List.mem_of_getElem? (i := 29) rfl))) Via.refl e0 a_0 (g := (mkF m 1 #[rv a1] [(.ref a1)])) rfl rfl (hb hby d_prog_13_method_7_code_1)
  have k3 : Way p e below S0 T2 (mkF m 4 #[rv a1] [(.ref a2)]) := fun t k => k1 t (st2 _ k)
  obtain ⟨T4, h4, X4, e4, E4, A4, B4, st4⟩ := cloneH X2 hx hZ hown (hw _ (List.mem_of_getElem? (i := 20) rfl)) (hw _ (List.mem_of_getElem? (i := 21) rfl)) (hw _ (List.mem_of_getElem? (i := 25) rfl)) (hw _ (List.mem_of_getElem? (i := 23) rfl)) (hw _ (List.mem_of_getElem? (i := 24) rfl)) (hw _ (List.mem_of_getElem? (i := 26) rfl)) e2 (Arv.arh a_2) a_1 (g := (mkF m 4 #[rv a1] [(.ref a2)])) rfl (by rw [hml]; rfl) rfl (hb hby d_prog_13_method_7_code_4) (by decide) (W := 0) (cap := 3) (by show 2 * 0 + _ ≤ _; exact Nat.le_of_eq rfl) (by decide) (by decide) (by decide) (by decide)
  obtain ⟨b4, g4⟩ : ∃ z, z = h0.size := ⟨_, rfl⟩
  rw [← g4] at A4 B4 st4
  have O4 := O0.ext E4
  have K4 : Keep h0 h4 [] := (Keep.refl h0 []).ext E4
  have v4 : Arv Z h4 b4 kc .byte (3 : Int32) [(.int q0), (.int q1), (.int q2)] (.int (0 : Int32)) := A4
  have k5 : Way p e below S0 T4 (mkF m 7 #[rv a1] [(.ref b4)]) := fun t k => k3 t (st4 _ k)
  obtain ⟨T6, X6, e6, st6⟩ := castY X4 hx hZ hown (hw _ (List.mem_of_getElem? (i := 27) rfl)) e4 (Ins.self B4) (g := (mkF m 7 #[rv a1] [(.ref b4)])) rfl rfl (hb hby d_prog_13_method_7_code_7)
  have k7 : Way p e below S0 T6 (mkF m 10 #[rv a1] [(.ref b4)]) := fun t k => k5 t (st6 _ k)
  obtain ⟨fs, hr, hrun, hended, hW, hsame⟩ := X6.leave (v := some (.ref b4)) (fun h => by rw [Bd.returns] at h; cases h)
  have gz8 : h0.size ≤ b4 := Nat.le_trans (Keep.refl h0 []).1 (Nat.le_of_eq g4.symm)
  refine ⟨_, _, k7 _ (retOut X6 hx Bd.returns rfl (Or.inr (Or.inr (Or.inr (Or.inr ⟨rfl, rfl, rfl⟩)))) (hb hby d_prog_13_method_7_code_10) hr), hrun, hended, _, _, rfl, ?_, ⟨_, rfl⟩, hW, hsame.mono (by decide) (by decide)⟩
  show Q_data3 Z w_TRANSMIT a1 a2 kc q0 q1 q2 h0 n0 _ T6.heap _
  rw [e6]
  exact ⟨b4, rfl, N0, K4, gz8, B4, v4⟩
def Q_adr (Z : State) (w_TRANSMIT : Addr) (a1 : Addr) (q1 : Int32) (h0 : Heap) (n0 : Nat) (v : Option Value) (h : Heap) (L : List Loc) : Prop := (v = some (.int q1)) ∧ (Fr n0 L) ∧ (h = h0)
set_option maxRecDepth 65536 in
set_option maxHeartbeats 40000000 in
theorem adr (l : Launch) (Z : State) (a0 : Array Value) (hw : ∀ d ∈ tables_1, d.before a0 Z = true) (ws : List Jvm.Cond) (w_TRANSMIT : Addr) (G : Gst Z w_TRANSMIT) (a1 : Addr) (q1 : Int32) (h0 : Heap) (n0 : Nat) (O0 : Old Z n0 h0) (a_0 : Fld Z h0 a1 "com/example/aspectwise/aspectwise/cmri/Packet" "address" "I" (.int q1)) :
    MetFree l (⟨"com/example/aspectwise/aspectwise/cmri/Packet", "address", "()I"⟩ : MethodName) (head1 (Jvm.Cond.code (⟨"com/example/aspectwise/aspectwise/cmri/Packet", "address", "()I"⟩ : MethodName) prog_13_method_5_code 1 (some .int) :: ws) ({ frames := 0, cells := 0, slots := 0, locals := 0 } : Room)) (fun a U => a = #[(.ref a1)] ∧ Z.Warmed39 U.vm ∧ U.heap = h0) (fun _ _ _ _ _ => True) (fun _ U o U' => ∃ v L, o = .returned v ∧ Q_adr Z w_TRANSMIT a1 q1 h0 n0 v U'.heap L ∧ FrameEnd U o U' L ({ frames := 0, cells := 0, slots := 0, locals := 0 } : Room).cells ({ frames := 0, cells := 0, slots := 0, locals := 0 } : Room).slots) := by
  refine MetFree.of_bodySF (plainFor_of_name pn_0) hisR ?_
  intro p e s m args below meth c s₁ Bd hml0 hP hK
  obtain ⟨rfl, hZ, hh⟩ := hP
  have hx := Bd.exec
  have hby := Bd.bytes
  have hml : c.maxLocals = 1 := hml0
  have hown : s.vm.findClass "com/example/aspectwise/aspectwise/cmri/Packet" = some m.cls := findClass_of_methodNamed Bd.named
  have hnm := (name_of_methodNamed Bd.named Bd.method).1
  have X0 : Stand p l e ({ frames := 0, cells := 0, slots := 0, locals := 0 } : Room) s m #[(.ref a1)] below meth c s₁ [] 0 0 := Stand.of_body Bd
  have e0 : s₁.heap = h0 := by rw [← hh, Bd.state]; rfl
  have N0 := Fr.nil n0
  obtain ⟨S_w_TRANSMIT, E_w_TRANSMIT⟩ := id G
  have k0 : Way p e below (s₁.setTop (entryFrame m #[(.ref a1)] 1)) s₁ (mkF m 0 #[rv a1] []) := fun t k => castTop (by first | (simp [entryFrame, mkF, argsToLocals, Value.category]; done) | rfl) k
  generalize s₁.setTop (entryFrame m #[(.ref a1)] 1) = S0 at k0 ⊢
  have k1 : Way p e below S0 s₁ (mkF m 1 #[rv a1] [(.ref a1)]) := by
    intro t k
    refine k0 t ?_
    refine XS.aloadN X0.here hx rfl (hb hby d_prog_13_method_5_code_0) rfl rfl ?_
    show Steps p.tables e below (s₁.setTop (mkF m 1 #[rv a1] [(.ref a1)])) _
    exact k
  obtain ⟨T2, X2, e2, st2⟩ := getF X0 hx hZ hown (host := "") (Or.inl (hw _ (List.mem_of_getElem? (i := 16) rfl))) Via.refl e0 a_0 (g := (mkF m 1 #[rv a1] [(.ref a1)])) rfl rfl (hb hby d_prog_13_method_5_code_1)
  have k3 : Way p e below S0 T2 (mkF m 4 #[rv a1] [(.int q1)]) := fun t k => k1 t (st2 _ k)
  obtain ⟨fs, hr, hrun, hended, hW, hsame⟩ := X2.leave (v := some (.int q1)) (fun h => by rw [Bd.returns] at h; cases h)
  refine ⟨_, _, k3 _ (retOut X2 hx Bd.returns rfl (Or.inl ⟨rfl, Or.inl rfl, _, rfl⟩) (hb hby d_prog_13_method_5_code_4) hr), hrun, hended, _, _, rfl, ?_, ⟨_, rfl⟩, hW, hsame.mono (by decide) (by decide)⟩
  show Q_adr Z w_TRANSMIT a1 q1 h0 n0 _ T2.heap _
  rw [e2]
  exact ⟨rfl, N0, rfl⟩
def Q_typ (Z : State) (w_TRANSMIT : Addr) (a1 : Addr) (a2 : Addr) (h0 : Heap) (n0 : Nat) (v : Option Value) (h : Heap) (L : List Loc) : Prop := (v = some (.ref a2)) ∧ (Fr n0 L) ∧ (h = h0)
set_option maxRecDepth 65536 in
set_option maxHeartbeats 40000000 in
theorem typ (l : Launch) (Z : State) (a0 : Array Value) (hw : ∀ d ∈ tables_1, d.before a0 Z = true) (ws : List Jvm.Cond) (w_TRANSMIT : Addr) (G : Gst Z w_TRANSMIT) (a1 : Addr) (a2 : Addr) (h0 : Heap) (n0 : Nat) (O0 : Old Z n0 h0) (a_0 : Fld Z h0 a1 "com/example/aspectwise/aspectwise/cmri/Packet" "type" "Lcom/example/aspectwise/aspectwise/cmri/Packet$Type;" (.ref a2)) :
    MetFree l (⟨"com/example/aspectwise/aspectwise/cmri/Packet", "type", "()Lcom/example/aspectwise/aspectwise/cmri/Packet$Type;"⟩ : MethodName) (head1 (Jvm.Cond.code (⟨"com/example/aspectwise/aspectwise/cmri/Packet", "type", "()Lcom/example/aspectwise/aspectwise/cmri/Packet$Type;"⟩ : MethodName) prog_13_method_6_code 1 (some (.object "com/example/aspectwise/aspectwise/cmri/Packet$Type")) :: ws) ({ frames := 0, cells := 0, slots := 0, locals := 0 } : Room)) (fun a U => a = #[(.ref a1)] ∧ Z.Warmed39 U.vm ∧ U.heap = h0) (fun _ _ _ _ _ => True) (fun _ U o U' => ∃ v L, o = .returned v ∧ Q_typ Z w_TRANSMIT a1 a2 h0 n0 v U'.heap L ∧ FrameEnd U o U' L ({ frames := 0, cells := 0, slots := 0, locals := 0 } : Room).cells ({ frames := 0, cells := 0, slots := 0, locals := 0 } : Room).slots) := by
  refine MetFree.of_bodySF (plainFor_of_name pn_0) hisR ?_
  intro p e s m args below meth c s₁ Bd hml0 hP hK
  obtain ⟨rfl, hZ, hh⟩ := hP
  have hx := Bd.exec
  have hby := Bd.bytes
  have hml : c.maxLocals = 1 := hml0
  have hown : s.vm.findClass "com/example/aspectwise/aspectwise/cmri/Packet" = some m.cls := findClass_of_methodNamed Bd.named
  have hnm := (name_of_methodNamed Bd.named Bd.method).1
  have X0 : Stand p l e ({ frames := 0, cells := 0, slots := 0, locals := 0 } : Room) s m #[(.ref a1)] below meth c s₁ [] 0 0 := Stand.of_body Bd
  have e0 : s₁.heap = h0 := by rw [← hh, Bd.state]; rfl
  have N0 := Fr.nil n0
  obtain ⟨S_w_TRANSMIT, E_w_TRANSMIT⟩ := id G
  have k0 : Way p e below (s₁.setTop (entryFrame m #[(.ref a1)] 1)) s₁ (mkF m 0 #[rv a1] []) := fun t k => castTop (by first | (simp [entryFrame, mkF, argsToLocals, Value.category]; done) | rfl) k
  generalize s₁.setTop (entryFrame m #[(.ref a1)] 1) = S0 at k0 ⊢
  have k1 : Way p e below S0 s₁ (mkF m 1 #[rv a1] [(.ref a1)]) := by
    intro t k
    refine k0 t ?_
    refine XS.aloadN X0.here hx rfl (hb hby d_prog_13_method_6_code_0) rfl rfl ?_
    show Steps p.tables e below (s₁.setTop (mkF m 1 #[rv a1] [(.ref a1)])) _
    exact k
  obtain ⟨T2, X2, e2, st2⟩ := getF X0 hx hZ hown (host := "") (Or.inl (hw _ (List.mem_of_getElem? (i := 18) rfl))) Via.refl e0 a_0 (g := (mkF m 1 #[rv a1] [(.ref a1)])) rfl rfl (hb hby d_prog_13_method_6_code_1)
  have k3 : Way p e below S0 T2 (mkF m 4 #[rv a1] [(.ref a2)]) := fun t k => k1 t (st2 _ k)
  obtain ⟨fs, hr, hrun, hended, hW, hsame⟩ := X2.leave (v := some (.ref a2)) (fun h => by rw [Bd.returns] at h; cases h)
  refine ⟨_, _, k3 _ (retOut X2 hx Bd.returns rfl (Or.inr (Or.inr (Or.inr (Or.inr ⟨rfl, rfl, rfl⟩)))) (hb hby d_prog_13_method_6_code_4) hr), hrun, hended, _, _, rfl, ?_, ⟨_, rfl⟩, hW, hsame.mono (by decide) (by decide)⟩
  show Q_typ Z w_TRANSMIT a1 a2 h0 n0 _ T2.heap _
  rw [e2]
  exact ⟨rfl, N0, rfl⟩
def Q_law_met (Z : State) (w_TRANSMIT : Addr) (p1 : Int32) (p2 : Int32) (p3 : Int64) (h0 : Heap) (n0 : Nat) (v : Option Value) (h : Heap) (L : List Loc) : Prop := (v = some (.int (1 : Int32))) ∧ (Fr n0 L)
set_option maxRecDepth 65536 in
set_option maxHeartbeats 40000000 in
theorem law_met (l : Launch) (Z : State) (a0 : Array Value) (hw : ∀ d ∈ tables_1, d.before a0 Z = true) (ws : List Jvm.Cond) (w_TRANSMIT : Addr) (G : Gst Z w_TRANSMIT) (p1 : Int32) (p2 : Int32) (p3 : Int64) (h0 : Heap) (n0 : Nat) (O0 : Old Z n0 h0) :
    MetFree l x (head1 (Jvm.Cond.code x code maxLocals ret :: ws) room_1) (fun a U => a = #[(.int p1), (.int p2), (.long p3)] ∧ Z.Warmed39 U.vm ∧ U.heap = h0) (fun _ _ _ _ _ => True) (fun _ U o U' => ∃ v L, o = .returned v ∧ Q_law_met Z w_TRANSMIT p1 p2 p3 h0 n0 v U'.heap L ∧ FrameEnd U o U' L 16 128) := by
  refine MetFree.of_bodySF (plainFor_of_name pn_1) hisR ?_
  intro p e s m args below meth c s₁ Bd hml0 hP hK
  obtain ⟨rfl, hZ, hh⟩ := hP
  have hx := Bd.exec
  have hby := Bd.bytes
  have hml : c.maxLocals = 11 := hml0
  have hown : s.vm.findClass "com/example/aspectwise/aspectwise/cmri/PacketTransmitPinLaw" = some m.cls := findClass_of_methodNamed Bd.named
  have hnm := (name_of_methodNamed Bd.named Bd.method).1
  have X0 : Stand p l e room_1 s m #[(.int p1), (.int p2), (.long p3)] below meth c s₁ [] 0 0 := Stand.of_body Bd
  have e0 : s₁.heap = h0 := by rw [← hh, Bd.state]; rfl
  have N0 := Fr.nil n0
  obtain ⟨S_w_TRANSMIT, E_w_TRANSMIT⟩ := id G
  have k0 : Way p e below (s₁.setTop (entryFrame m #[(.int p1), (.int p2), (.long p3)] maxLocals)) s₁ (mkF m 0 #[iv p1, iv p2, .val (.long p3), .second, .unset, .unset, .unset, .unset, .unset, .unset, .unset] []) := fun t k => castTop (by first | (simp [entryFrame, mkF, argsToLocals, Value.category, maxLocals]; done) | rfl) k
  generalize s₁.setTop (entryFrame m #[(.int p1), (.int p2), (.long p3)] maxLocals) = S0 at k0 ⊢
  have k1 : Way p e below S0 s₁ (mkF m 5 #[iv p1, iv p2, .val (.long p3), .second, iv (p2 &&& (3 : Int32)), .unset, .unset, .unset, .unset, .unset, .unset] []) := by
    intro t k
    refine k0 t ?_
    refine XS.iloadN X0.here hx rfl (hb hby at_0) rfl ?_
    show Steps p.tables e below (s₁.setTop (mkF m 1 #[iv p1, iv p2, .val (.long p3), .second, .unset, .unset, .unset, .unset, .unset, .unset, .unset] [(.int p2)])) _
    refine XS.iconst X0.here hx rfl (hb hby at_1) ?_
    show Steps p.tables e below (s₁.setTop (mkF m 2 #[iv p1, iv p2, .val (.long p3), .second, .unset, .unset, .unset, .unset, .unset, .unset, .unset] [(.int (3 : Int32)), (.int p2)])) _
    refine XS.iand X0.here hx rfl (hb hby at_2) rfl ?_
    show Steps p.tables e below (s₁.setTop (mkF m 3 #[iv p1, iv p2, .val (.long p3), .second, .unset, .unset, .unset, .unset, .unset, .unset, .unset] [(.int (p2 &&& (3 : Int32)))])) _
    refine XS.istore X0.here hx rfl (hb hby at_3) rfl (l' := #[iv p1, iv p2, .val (.long p3), .second, iv (p2 &&& (3 : Int32)), .unset, .unset, .unset, .unset, .unset, .unset]) rfl ?_
    show Steps p.tables e below (s₁.setTop (mkF m 5 #[iv p1, iv p2, .val (.long p3), .second, iv (p2 &&& (3 : Int32)), .unset, .unset, .unset, .unset, .unset, .unset] [])) _
    exact k
  have hr2 : (p2 &&& (3 : Int32)) = (0 : Int32) ∨ (p2 &&& (3 : Int32)) = (1 : Int32) ∨ (p2 &&& (3 : Int32)) = (2 : Int32) ∨ (p2 &&& (3 : Int32)) = (3 : Int32) := own_mask3 p2
  rcases hr2 with hi2 | hi2 | hi2 | hi2
  · have k3 : Way p e below S0 s₁ (mkF m 5 #[iv p1, iv p2, .val (.long p3), .second, iv (0 : Int32), .unset, .unset, .unset, .unset, .unset, .unset] []) := by have q := k1; rw [hi2] at q; exact q
    have k4 : Way p e below S0 s₁ (mkF m 28 #[iv p1, iv p2, .val (.long p3), .second, iv (0 : Int32), iv ((p3.toInt32).toInt8.toInt32), iv ((((p3.toUInt64 >>> ((8 : Int32) &&& 0x3f).toInt64.toUInt64).toInt64).toInt32).toInt8.toInt32), iv ((((p3.toUInt64 >>> ((16 : Int32) &&& 0x3f).toInt64.toUInt64).toInt64).toInt32).toInt8.toInt32), .unset, .unset, .unset] [(.int (0 : Int32))]) := by
      intro t k
      refine k3 t ?_
      refine XS.lloadN X0.here hx rfl (hb hby at_5) rfl ?_
      show Steps p.tables e below (s₁.setTop (mkF m 6 #[iv p1, iv p2, .val (.long p3), .second, iv (0 : Int32), .unset, .unset, .unset, .unset, .unset, .unset] [(.long p3)])) _
      refine XS.l2i X0.here hx rfl (hb hby at_6) rfl ?_
      show Steps p.tables e below (s₁.setTop (mkF m 7 #[iv p1, iv p2, .val (.long p3), .second, iv (0 : Int32), .unset, .unset, .unset, .unset, .unset, .unset] [(.int (p3.toInt32))])) _
      refine XS.i2b X0.here hx rfl (hb hby at_7) rfl ?_
      show Steps p.tables e below (s₁.setTop (mkF m 8 #[iv p1, iv p2, .val (.long p3), .second, iv (0 : Int32), .unset, .unset, .unset, .unset, .unset, .unset] [(.int ((p3.toInt32).toInt8.toInt32))])) _
      refine XS.istore X0.here hx rfl (hb hby at_8) rfl (l' := #[iv p1, iv p2, .val (.long p3), .second, iv (0 : Int32), iv ((p3.toInt32).toInt8.toInt32), .unset, .unset, .unset, .unset, .unset]) rfl ?_
      show Steps p.tables e below (s₁.setTop (mkF m 10 #[iv p1, iv p2, .val (.long p3), .second, iv (0 : Int32), iv ((p3.toInt32).toInt8.toInt32), .unset, .unset, .unset, .unset, .unset] [])) _
      refine XS.lloadN X0.here hx rfl (hb hby at_10) rfl ?_
      show Steps p.tables e below (s₁.setTop (mkF m 11 #[iv p1, iv p2, .val (.long p3), .second, iv (0 : Int32), iv ((p3.toInt32).toInt8.toInt32), .unset, .unset, .unset, .unset, .unset] [(.long p3)])) _
      refine XS.bipush X0.here hx rfl (hb hby at_11) ?_
      show Steps p.tables e below (s₁.setTop (mkF m 13 #[iv p1, iv p2, .val (.long p3), .second, iv (0 : Int32), iv ((p3.toInt32).toInt8.toInt32), .unset, .unset, .unset, .unset, .unset] [(.int (8 : Int32)), (.long p3)])) _
      refine XS.lushr X0.here hx rfl (hb hby at_13) rfl ?_
      show Steps p.tables e below (s₁.setTop (mkF m 14 #[iv p1, iv p2, .val (.long p3), .second, iv (0 : Int32), iv ((p3.toInt32).toInt8.toInt32), .unset, .unset, .unset, .unset, .unset] [(.long ((p3.toUInt64 >>> ((8 : Int32) &&& 0x3f).toInt64.toUInt64).toInt64))])) _
      refine XS.l2i X0.here hx rfl (hb hby at_14) rfl ?_
      show Steps p.tables e below (s₁.setTop (mkF m 15 #[iv p1, iv p2, .val (.long p3), .second, iv (0 : Int32), iv ((p3.toInt32).toInt8.toInt32), .unset, .unset, .unset, .unset, .unset] [(.int (((p3.toUInt64 >>> ((8 : Int32) &&& 0x3f).toInt64.toUInt64).toInt64).toInt32))])) _
      refine XS.i2b X0.here hx rfl (hb hby at_15) rfl ?_
      show Steps p.tables e below (s₁.setTop (mkF m 16 #[iv p1, iv p2, .val (.long p3), .second, iv (0 : Int32), iv ((p3.toInt32).toInt8.toInt32), .unset, .unset, .unset, .unset, .unset] [(.int ((((p3.toUInt64 >>> ((8 : Int32) &&& 0x3f).toInt64.toUInt64).toInt64).toInt32).toInt8.toInt32))])) _
      refine XS.istore X0.here hx rfl (hb hby at_16) rfl (l' := #[iv p1, iv p2, .val (.long p3), .second, iv (0 : Int32), iv ((p3.toInt32).toInt8.toInt32), iv ((((p3.toUInt64 >>> ((8 : Int32) &&& 0x3f).toInt64.toUInt64).toInt64).toInt32).toInt8.toInt32), .unset, .unset, .unset, .unset]) rfl ?_
      show Steps p.tables e below (s₁.setTop (mkF m 18 #[iv p1, iv p2, .val (.long p3), .second, iv (0 : Int32), iv ((p3.toInt32).toInt8.toInt32), iv ((((p3.toUInt64 >>> ((8 : Int32) &&& 0x3f).toInt64.toUInt64).toInt64).toInt32).toInt8.toInt32), .unset, .unset, .unset, .unset] [])) _
      refine XS.lloadN X0.here hx rfl (hb hby at_18) rfl ?_
      show Steps p.tables e below (s₁.setTop (mkF m 19 #[iv p1, iv p2, .val (.long p3), .second, iv (0 : Int32), iv ((p3.toInt32).toInt8.toInt32), iv ((((p3.toUInt64 >>> ((8 : Int32) &&& 0x3f).toInt64.toUInt64).toInt64).toInt32).toInt8.toInt32), .unset, .unset, .unset, .unset] [(.long p3)])) _
      refine XS.bipush X0.here hx rfl (hb hby at_19) ?_
      show Steps p.tables e below (s₁.setTop (mkF m 21 #[iv p1, iv p2, .val (.long p3), .second, iv (0 : Int32), iv ((p3.toInt32).toInt8.toInt32), iv ((((p3.toUInt64 >>> ((8 : Int32) &&& 0x3f).toInt64.toUInt64).toInt64).toInt32).toInt8.toInt32), .unset, .unset, .unset, .unset] [(.int (16 : Int32)), (.long p3)])) _
      refine XS.lushr X0.here hx rfl (hb hby at_21) rfl ?_
      show Steps p.tables e below (s₁.setTop (mkF m 22 #[iv p1, iv p2, .val (.long p3), .second, iv (0 : Int32), iv ((p3.toInt32).toInt8.toInt32), iv ((((p3.toUInt64 >>> ((8 : Int32) &&& 0x3f).toInt64.toUInt64).toInt64).toInt32).toInt8.toInt32), .unset, .unset, .unset, .unset] [(.long ((p3.toUInt64 >>> ((16 : Int32) &&& 0x3f).toInt64.toUInt64).toInt64))])) _
      refine XS.l2i X0.here hx rfl (hb hby at_22) rfl ?_
      show Steps p.tables e below (s₁.setTop (mkF m 23 #[iv p1, iv p2, .val (.long p3), .second, iv (0 : Int32), iv ((p3.toInt32).toInt8.toInt32), iv ((((p3.toUInt64 >>> ((8 : Int32) &&& 0x3f).toInt64.toUInt64).toInt64).toInt32).toInt8.toInt32), .unset, .unset, .unset, .unset] [(.int (((p3.toUInt64 >>> ((16 : Int32) &&& 0x3f).toInt64.toUInt64).toInt64).toInt32))])) _
      refine XS.i2b X0.here hx rfl (hb hby at_23) rfl ?_
      show Steps p.tables e below (s₁.setTop (mkF m 24 #[iv p1, iv p2, .val (.long p3), .second, iv (0 : Int32), iv ((p3.toInt32).toInt8.toInt32), iv ((((p3.toUInt64 >>> ((8 : Int32) &&& 0x3f).toInt64.toUInt64).toInt64).toInt32).toInt8.toInt32), .unset, .unset, .unset, .unset] [(.int ((((p3.toUInt64 >>> ((16 : Int32) &&& 0x3f).toInt64.toUInt64).toInt64).toInt32).toInt8.toInt32))])) _
      refine XS.istore X0.here hx rfl (hb hby at_24) rfl (l' := #[iv p1, iv p2, .val (.long p3), .second, iv (0 : Int32), iv ((p3.toInt32).toInt8.toInt32), iv ((((p3.toUInt64 >>> ((8 : Int32) &&& 0x3f).toInt64.toUInt64).toInt64).toInt32).toInt8.toInt32), iv ((((p3.toUInt64 >>> ((16 : Int32) &&& 0x3f).toInt64.toUInt64).toInt64).toInt32).toInt8.toInt32), .unset, .unset, .unset]) rfl ?_
      show Steps p.tables e below (s₁.setTop (mkF m 26 #[iv p1, iv p2, .val (.long p3), .second, iv (0 : Int32), iv ((p3.toInt32).toInt8.toInt32), iv ((((p3.toUInt64 >>> ((8 : Int32) &&& 0x3f).toInt64.toUInt64).toInt64).toInt32).toInt8.toInt32), iv ((((p3.toUInt64 >>> ((16 : Int32) &&& 0x3f).toInt64.toUInt64).toInt64).toInt32).toInt8.toInt32), .unset, .unset, .unset] [])) _
      refine XS.iload X0.here hx rfl (hb hby at_26) rfl ?_
      show Steps p.tables e below (s₁.setTop (mkF m 28 #[iv p1, iv p2, .val (.long p3), .second, iv (0 : Int32), iv ((p3.toInt32).toInt8.toInt32), iv ((((p3.toUInt64 >>> ((8 : Int32) &&& 0x3f).toInt64.toUInt64).toInt64).toInt32).toInt8.toInt32), iv ((((p3.toUInt64 >>> ((16 : Int32) &&& 0x3f).toInt64.toUInt64).toInt64).toInt32).toInt8.toInt32), .unset, .unset, .unset] [(.int (0 : Int32))])) _
      exact k
    obtain ⟨T5, h5, c5, X5, e5, E5, A5, B5, st5⟩ := newPE X0 hx hZ (hw _ (List.mem_of_getElem? (i := 0) rfl)) e0 (g := (mkF m 28 #[iv p1, iv p2, .val (.long p3), .second, iv (0 : Int32), iv ((p3.toInt32).toInt8.toInt32), iv ((((p3.toUInt64 >>> ((8 : Int32) &&& 0x3f).toInt64.toUInt64).toInt64).toInt32).toInt8.toInt32), iv ((((p3.toUInt64 >>> ((16 : Int32) &&& 0x3f).toInt64.toUInt64).toInt64).toInt32).toInt8.toInt32), .unset, .unset, .unset] [(.int (0 : Int32))])) rfl (hb hby at_28) rfl (by decide) (cap := 0) (by decide) (by decide) (by decide) (by decide) (ad := "[B") (by decide)
    obtain ⟨b5, g5⟩ : ∃ z, z = h0.size := ⟨_, rfl⟩
    rw [← g5] at A5 B5 st5
    have O5 := O0.ext E5
    have v5 : Arv Z h5 b5 c5 .byte (0 : Int32) [] (.int (0 : Int32)) := (Arv.new A5 (by decide)).pad (pad_rep [] (.int (0 : Int32)) 0)
    have k6 : Way p e below S0 T5 (mkF m 30 #[iv p1, iv p2, .val (.long p3), .second, iv (0 : Int32), iv ((p3.toInt32).toInt8.toInt32), iv ((((p3.toUInt64 >>> ((8 : Int32) &&& 0x3f).toInt64.toUInt64).toInt64).toInt32).toInt8.toInt32), iv ((((p3.toUInt64 >>> ((16 : Int32) &&& 0x3f).toInt64.toUInt64).toInt64).toInt32).toInt8.toInt32), .unset, .unset, .unset] [(.ref b5)]) := fun t k => k4 t (st5 _ k)
    have k7 : Way p e below S0 T5 (mkF m 70 #[iv p1, iv p2, .val (.long p3), .second, iv (0 : Int32), iv ((p3.toInt32).toInt8.toInt32), iv ((((p3.toUInt64 >>> ((8 : Int32) &&& 0x3f).toInt64.toUInt64).toInt64).toInt32).toInt8.toInt32), iv ((((p3.toUInt64 >>> ((16 : Int32) &&& 0x3f).toInt64.toUInt64).toInt64).toInt32).toInt8.toInt32), rv b5, .unset, .unset] [(.ref b5), (.int p1)]) := by
      intro t k
      refine k6 t ?_
      refine XS.astore X5.here hx rfl (hb hby at_30) rfl rfl (l' := #[iv p1, iv p2, .val (.long p3), .second, iv (0 : Int32), iv ((p3.toInt32).toInt8.toInt32), iv ((((p3.toUInt64 >>> ((8 : Int32) &&& 0x3f).toInt64.toUInt64).toInt64).toInt32).toInt8.toInt32), iv ((((p3.toUInt64 >>> ((16 : Int32) &&& 0x3f).toInt64.toUInt64).toInt64).toInt32).toInt8.toInt32), rv b5, .unset, .unset]) rfl ?_
      show Steps p.tables e below (T5.setTop (mkF m 32 #[iv p1, iv p2, .val (.long p3), .second, iv (0 : Int32), iv ((p3.toInt32).toInt8.toInt32), iv ((((p3.toUInt64 >>> ((8 : Int32) &&& 0x3f).toInt64.toUInt64).toInt64).toInt32).toInt8.toInt32), iv ((((p3.toUInt64 >>> ((16 : Int32) &&& 0x3f).toInt64.toUInt64).toInt64).toInt32).toInt8.toInt32), rv b5, .unset, .unset] [])) _
      refine XS.iload X5.here hx rfl (hb hby at_32) rfl ?_
      show Steps p.tables e below (T5.setTop (mkF m 34 #[iv p1, iv p2, .val (.long p3), .second, iv (0 : Int32), iv ((p3.toInt32).toInt8.toInt32), iv ((((p3.toUInt64 >>> ((8 : Int32) &&& 0x3f).toInt64.toUInt64).toInt64).toInt32).toInt8.toInt32), iv ((((p3.toUInt64 >>> ((16 : Int32) &&& 0x3f).toInt64.toUInt64).toInt64).toInt32).toInt8.toInt32), rv b5, .unset, .unset] [(.int (0 : Int32))])) _
      refine XS.ifYes X5.here hx rfl (pc0 := 34) (pc' := 43) rfl (hb hby at_34) rfl ((if0 _ _).trans (flt ((by decide) : ¬ ((0 : Int32) < (0 : Int32)))).2.2.2) (by decide) (by decide) ?_
      show Steps p.tables e below (T5.setTop (mkF m 43 #[iv p1, iv p2, .val (.long p3), .second, iv (0 : Int32), iv ((p3.toInt32).toInt8.toInt32), iv ((((p3.toUInt64 >>> ((8 : Int32) &&& 0x3f).toInt64.toUInt64).toInt64).toInt32).toInt8.toInt32), iv ((((p3.toUInt64 >>> ((16 : Int32) &&& 0x3f).toInt64.toUInt64).toInt64).toInt32).toInt8.toInt32), rv b5, .unset, .unset] [])) _
      refine XS.iload X5.here hx rfl (hb hby at_43) rfl ?_
      show Steps p.tables e below (T5.setTop (mkF m 45 #[iv p1, iv p2, .val (.long p3), .second, iv (0 : Int32), iv ((p3.toInt32).toInt8.toInt32), iv ((((p3.toUInt64 >>> ((8 : Int32) &&& 0x3f).toInt64.toUInt64).toInt64).toInt32).toInt8.toInt32), iv ((((p3.toUInt64 >>> ((16 : Int32) &&& 0x3f).toInt64.toUInt64).toInt64).toInt32).toInt8.toInt32), rv b5, .unset, .unset] [(.int (0 : Int32))])) _
      refine XS.iconst X5.here hx rfl (hb hby at_45) ?_
      show Steps p.tables e below (T5.setTop (mkF m 46 #[iv p1, iv p2, .val (.long p3), .second, iv (0 : Int32), iv ((p3.toInt32).toInt8.toInt32), iv ((((p3.toUInt64 >>> ((8 : Int32) &&& 0x3f).toInt64.toUInt64).toInt64).toInt32).toInt8.toInt32), iv ((((p3.toUInt64 >>> ((16 : Int32) &&& 0x3f).toInt64.toUInt64).toInt64).toInt32).toInt8.toInt32), rv b5, .unset, .unset] [(.int (1 : Int32)), (.int (0 : Int32))])) _
      refine XS.icmpYes X5.here hx rfl (pc0 := 46) (pc' := 55) rfl (hb hby at_46) rfl (flt ((by decide) : ¬ ((1 : Int32) < (0 : Int32)))).2.2.2 (by decide) (by decide) ?_
      show Steps p.tables e below (T5.setTop (mkF m 55 #[iv p1, iv p2, .val (.long p3), .second, iv (0 : Int32), iv ((p3.toInt32).toInt8.toInt32), iv ((((p3.toUInt64 >>> ((8 : Int32) &&& 0x3f).toInt64.toUInt64).toInt64).toInt32).toInt8.toInt32), iv ((((p3.toUInt64 >>> ((16 : Int32) &&& 0x3f).toInt64.toUInt64).toInt64).toInt32).toInt8.toInt32), rv b5, .unset, .unset] [])) _
      refine XS.iload X5.here hx rfl (hb hby at_55) rfl ?_
      show Steps p.tables e below (T5.setTop (mkF m 57 #[iv p1, iv p2, .val (.long p3), .second, iv (0 : Int32), iv ((p3.toInt32).toInt8.toInt32), iv ((((p3.toUInt64 >>> ((8 : Int32) &&& 0x3f).toInt64.toUInt64).toInt64).toInt32).toInt8.toInt32), iv ((((p3.toUInt64 >>> ((16 : Int32) &&& 0x3f).toInt64.toUInt64).toInt64).toInt32).toInt8.toInt32), rv b5, .unset, .unset] [(.int (0 : Int32))])) _
      refine XS.iconst X5.here hx rfl (hb hby at_57) ?_
      show Steps p.tables e below (T5.setTop (mkF m 58 #[iv p1, iv p2, .val (.long p3), .second, iv (0 : Int32), iv ((p3.toInt32).toInt8.toInt32), iv ((((p3.toUInt64 >>> ((8 : Int32) &&& 0x3f).toInt64.toUInt64).toInt64).toInt32).toInt8.toInt32), iv ((((p3.toUInt64 >>> ((16 : Int32) &&& 0x3f).toInt64.toUInt64).toInt64).toInt32).toInt8.toInt32), rv b5, .unset, .unset] [(.int (2 : Int32)), (.int (0 : Int32))])) _
      refine XS.icmpYes X5.here hx rfl (pc0 := 58) (pc' := 67) rfl (hb hby at_58) rfl (flt ((by decide) : ¬ ((2 : Int32) < (0 : Int32)))).2.2.2 (by decide) (by decide) ?_
      show Steps p.tables e below (T5.setTop (mkF m 67 #[iv p1, iv p2, .val (.long p3), .second, iv (0 : Int32), iv ((p3.toInt32).toInt8.toInt32), iv ((((p3.toUInt64 >>> ((8 : Int32) &&& 0x3f).toInt64.toUInt64).toInt64).toInt32).toInt8.toInt32), iv ((((p3.toUInt64 >>> ((16 : Int32) &&& 0x3f).toInt64.toUInt64).toInt64).toInt32).toInt8.toInt32), rv b5, .unset, .unset] [])) _
      refine XS.iloadN X5.here hx rfl (hb hby at_67) rfl ?_
      show Steps p.tables e below (T5.setTop (mkF m 68 #[iv p1, iv p2, .val (.long p3), .second, iv (0 : Int32), iv ((p3.toInt32).toInt8.toInt32), iv ((((p3.toUInt64 >>> ((8 : Int32) &&& 0x3f).toInt64.toUInt64).toInt64).toInt32).toInt8.toInt32), iv ((((p3.toUInt64 >>> ((16 : Int32) &&& 0x3f).toInt64.toUInt64).toInt64).toInt32).toInt8.toInt32), rv b5, .unset, .unset] [(.int p1)])) _
      refine XS.aload X5.here hx rfl (hb hby at_68) rfl rfl ?_
      show Steps p.tables e below (T5.setTop (mkF m 70 #[iv p1, iv p2, .val (.long p3), .second, iv (0 : Int32), iv ((p3.toInt32).toInt8.toInt32), iv ((((p3.toUInt64 >>> ((8 : Int32) &&& 0x3f).toInt64.toUInt64).toInt64).toInt32).toInt8.toInt32), iv ((((p3.toUInt64 >>> ((16 : Int32) &&& 0x3f).toInt64.toUInt64).toInt64).toInt32).toInt8.toInt32), rv b5, .unset, .unset] [(.ref b5), (.int p1)])) _
      exact k
    obtain ⟨_, _, ⟨T8, L8, kk8, nn8⟩, -, X8, ⟨Lc8, hQ8, l8, y8, z8⟩, st8⟩ := Jvm.LawKit.callS X5 hx (y := (⟨"com/example/aspectwise/aspectwise/cmri/Packet", "transmit", "(I[B)Lcom/example/aspectwise/aspectwise/cmri/Packet;"⟩ : MethodName)) hown (mvT hZ (hw _ (List.mem_of_getElem? (i := 1) rfl))) (mvT hZ (hw _ (List.mem_of_getElem? (i := 2) rfl))) (mvT hZ (hw _ (List.mem_of_getElem? (i := 3) rfl))) (mvT hZ (hw _ (List.mem_of_getElem? (i := 4) rfl))) (by decide) (backOf (W := 0) (trans0 l Z a0 hw [] w_TRANSMIT G p1 b5 c5 h5 n0 O5 (B5 : Exa Z h5 b5 "[B") (v5 : Arv Z h5 b5 c5 .byte (0 : Int32) [] (.int (0 : Int32)))) hZ (hw _ (List.mem_of_getElem? (i := 4) rfl)) (hw _ (List.mem_of_getElem? (i := 3) rfl)) (by decide) (by decide)) (g := (mkF m 70 #[iv p1, iv p2, .val (.long p3), .second, iv (0 : Int32), iv ((p3.toInt32).toInt8.toInt32), iv ((((p3.toUInt64 >>> ((8 : Int32) &&& 0x3f).toInt64.toUInt64).toInt64).toInt32).toInt8.toInt32), iv ((((p3.toUInt64 >>> ((16 : Int32) &&& 0x3f).toInt64.toUInt64).toInt64).toInt32).toInt8.toInt32), rv b5, .unset, .unset] [(.ref b5), (.int p1)])) rfl (by rw [hml]; rfl) (argsL := [(.int p1), (.ref b5)]) (rest := []) (lenOf pd_1 rfl) rfl (by show 2 * 0 + _ ≤ _; exact Nat.le_of_eq rfl) (hb hby at_70) (fun _ _ => ⟨rfl, e5, (by decide : 1 + 2 ≤ _), (by decide : 0 + 3 ≤ _)⟩)
    dsimp only [Pt.U, Pt.locs, Pt.cells, Pt.slots] at X8 l8 y8 z8 st8 hQ8
    subst l8 y8 z8
    obtain ⟨b1_8, d1_8, rfl, Nq8, Kq8, po8_0, po8_1, po8_2, po8_3, po8_4, po8_5, po8_6, po8_7⟩ := hQ8
    have N8 := Fr.app N0 Nq8
    have O8 := O5.keep Kq8 all0
    have k9 : Way p e below S0 T8 (mkF m 73 #[iv p1, iv p2, .val (.long p3), .second, iv (0 : Int32), iv ((p3.toInt32).toInt8.toInt32), iv ((((p3.toUInt64 >>> ((8 : Int32) &&& 0x3f).toInt64.toUInt64).toInt64).toInt32).toInt8.toInt32), iv ((((p3.toUInt64 >>> ((16 : Int32) &&& 0x3f).toInt64.toUInt64).toInt64).toInt32).toInt8.toInt32), rv b5, .unset, .unset] [(.ref b1_8)]) := fun t k => k7 t (st8 _ k)
    have k10 : Way p e below S0 T8 (mkF m 121 #[iv p1, iv p2, .val (.long p3), .second, iv (0 : Int32), iv ((p3.toInt32).toInt8.toInt32), iv ((((p3.toUInt64 >>> ((8 : Int32) &&& 0x3f).toInt64.toUInt64).toInt64).toInt32).toInt8.toInt32), iv ((((p3.toUInt64 >>> ((16 : Int32) &&& 0x3f).toInt64.toUInt64).toInt64).toInt32).toInt8.toInt32), rv b5, rv b1_8, .unset] [(.ref b1_8)]) := by
      intro t k
      refine k9 t ?_
      refine XS.astore X8.here hx rfl (hb hby at_73) rfl rfl (l' := #[iv p1, iv p2, .val (.long p3), .second, iv (0 : Int32), iv ((p3.toInt32).toInt8.toInt32), iv ((((p3.toUInt64 >>> ((8 : Int32) &&& 0x3f).toInt64.toUInt64).toInt64).toInt32).toInt8.toInt32), iv ((((p3.toUInt64 >>> ((16 : Int32) &&& 0x3f).toInt64.toUInt64).toInt64).toInt32).toInt8.toInt32), rv b5, rv b1_8, .unset]) rfl ?_
      show Steps p.tables e below (T8.setTop (mkF m 75 #[iv p1, iv p2, .val (.long p3), .second, iv (0 : Int32), iv ((p3.toInt32).toInt8.toInt32), iv ((((p3.toUInt64 >>> ((8 : Int32) &&& 0x3f).toInt64.toUInt64).toInt64).toInt32).toInt8.toInt32), iv ((((p3.toUInt64 >>> ((16 : Int32) &&& 0x3f).toInt64.toUInt64).toInt64).toInt32).toInt8.toInt32), rv b5, rv b1_8, .unset] [])) _
      refine XS.iload X8.here hx rfl (hb hby at_75) rfl ?_
      show Steps p.tables e below (T8.setTop (mkF m 77 #[iv p1, iv p2, .val (.long p3), .second, iv (0 : Int32), iv ((p3.toInt32).toInt8.toInt32), iv ((((p3.toUInt64 >>> ((8 : Int32) &&& 0x3f).toInt64.toUInt64).toInt64).toInt32).toInt8.toInt32), iv ((((p3.toUInt64 >>> ((16 : Int32) &&& 0x3f).toInt64.toUInt64).toInt64).toInt32).toInt8.toInt32), rv b5, rv b1_8, .unset] [(.int (0 : Int32))])) _
      refine XS.ifYes X8.here hx rfl (pc0 := 77) (pc' := 89) rfl (hb hby at_77) rfl ((if0 _ _).trans (flt ((by decide) : ¬ ((0 : Int32) < (0 : Int32)))).2.2.2) (by decide) (by decide) ?_
      show Steps p.tables e below (T8.setTop (mkF m 89 #[iv p1, iv p2, .val (.long p3), .second, iv (0 : Int32), iv ((p3.toInt32).toInt8.toInt32), iv ((((p3.toUInt64 >>> ((8 : Int32) &&& 0x3f).toInt64.toUInt64).toInt64).toInt32).toInt8.toInt32), iv ((((p3.toUInt64 >>> ((16 : Int32) &&& 0x3f).toInt64.toUInt64).toInt64).toInt32).toInt8.toInt32), rv b5, rv b1_8, .unset] [])) _
      refine XS.iload X8.here hx rfl (hb hby at_89) rfl ?_
      show Steps p.tables e below (T8.setTop (mkF m 91 #[iv p1, iv p2, .val (.long p3), .second, iv (0 : Int32), iv ((p3.toInt32).toInt8.toInt32), iv ((((p3.toUInt64 >>> ((8 : Int32) &&& 0x3f).toInt64.toUInt64).toInt64).toInt32).toInt8.toInt32), iv ((((p3.toUInt64 >>> ((16 : Int32) &&& 0x3f).toInt64.toUInt64).toInt64).toInt32).toInt8.toInt32), rv b5, rv b1_8, .unset] [(.int (0 : Int32))])) _
      refine XS.iconst X8.here hx rfl (hb hby at_91) ?_
      show Steps p.tables e below (T8.setTop (mkF m 92 #[iv p1, iv p2, .val (.long p3), .second, iv (0 : Int32), iv ((p3.toInt32).toInt8.toInt32), iv ((((p3.toUInt64 >>> ((8 : Int32) &&& 0x3f).toInt64.toUInt64).toInt64).toInt32).toInt8.toInt32), iv ((((p3.toUInt64 >>> ((16 : Int32) &&& 0x3f).toInt64.toUInt64).toInt64).toInt32).toInt8.toInt32), rv b5, rv b1_8, .unset] [(.int (1 : Int32)), (.int (0 : Int32))])) _
      refine XS.icmpYes X8.here hx rfl (pc0 := 92) (pc' := 104) rfl (hb hby at_92) rfl (flt ((by decide) : ¬ ((1 : Int32) < (0 : Int32)))).2.2.2 (by decide) (by decide) ?_
      show Steps p.tables e below (T8.setTop (mkF m 104 #[iv p1, iv p2, .val (.long p3), .second, iv (0 : Int32), iv ((p3.toInt32).toInt8.toInt32), iv ((((p3.toUInt64 >>> ((8 : Int32) &&& 0x3f).toInt64.toUInt64).toInt64).toInt32).toInt8.toInt32), iv ((((p3.toUInt64 >>> ((16 : Int32) &&& 0x3f).toInt64.toUInt64).toInt64).toInt32).toInt8.toInt32), rv b5, rv b1_8, .unset] [])) _
      refine XS.iload X8.here hx rfl (hb hby at_104) rfl ?_
      show Steps p.tables e below (T8.setTop (mkF m 106 #[iv p1, iv p2, .val (.long p3), .second, iv (0 : Int32), iv ((p3.toInt32).toInt8.toInt32), iv ((((p3.toUInt64 >>> ((8 : Int32) &&& 0x3f).toInt64.toUInt64).toInt64).toInt32).toInt8.toInt32), iv ((((p3.toUInt64 >>> ((16 : Int32) &&& 0x3f).toInt64.toUInt64).toInt64).toInt32).toInt8.toInt32), rv b5, rv b1_8, .unset] [(.int (0 : Int32))])) _
      refine XS.iconst X8.here hx rfl (hb hby at_106) ?_
      show Steps p.tables e below (T8.setTop (mkF m 107 #[iv p1, iv p2, .val (.long p3), .second, iv (0 : Int32), iv ((p3.toInt32).toInt8.toInt32), iv ((((p3.toUInt64 >>> ((8 : Int32) &&& 0x3f).toInt64.toUInt64).toInt64).toInt32).toInt8.toInt32), iv ((((p3.toUInt64 >>> ((16 : Int32) &&& 0x3f).toInt64.toUInt64).toInt64).toInt32).toInt8.toInt32), rv b5, rv b1_8, .unset] [(.int (2 : Int32)), (.int (0 : Int32))])) _
      refine XS.icmpYes X8.here hx rfl (pc0 := 107) (pc' := 119) rfl (hb hby at_107) rfl (flt ((by decide) : ¬ ((2 : Int32) < (0 : Int32)))).2.2.2 (by decide) (by decide) ?_
      show Steps p.tables e below (T8.setTop (mkF m 119 #[iv p1, iv p2, .val (.long p3), .second, iv (0 : Int32), iv ((p3.toInt32).toInt8.toInt32), iv ((((p3.toUInt64 >>> ((8 : Int32) &&& 0x3f).toInt64.toUInt64).toInt64).toInt32).toInt8.toInt32), iv ((((p3.toUInt64 >>> ((16 : Int32) &&& 0x3f).toInt64.toUInt64).toInt64).toInt32).toInt8.toInt32), rv b5, rv b1_8, .unset] [])) _
      refine XS.aload X8.here hx rfl (hb hby at_119) rfl rfl ?_
      show Steps p.tables e below (T8.setTop (mkF m 121 #[iv p1, iv p2, .val (.long p3), .second, iv (0 : Int32), iv ((p3.toInt32).toInt8.toInt32), iv ((((p3.toUInt64 >>> ((8 : Int32) &&& 0x3f).toInt64.toUInt64).toInt64).toInt32).toInt8.toInt32), iv ((((p3.toUInt64 >>> ((16 : Int32) &&& 0x3f).toInt64.toUInt64).toInt64).toInt32).toInt8.toInt32), rv b5, rv b1_8, .unset] [(.ref b1_8)])) _
      exact k
    obtain ⟨cq11, kq11, qq11a, qq11b, qq11c⟩ := isOf hZ rfl po8_2
    obtain ⟨_, _, ⟨T11, L11, kk11, nn11⟩, -, X11, ⟨Lc11, hQ11, l11, y11, z11⟩, st11⟩ := X8.virtualBack hx (y := (⟨"com/example/aspectwise/aspectwise/cmri/Packet", "data", "()[B"⟩ : MethodName)) (z := (⟨"com/example/aspectwise/aspectwise/cmri/Packet", "data", "()[B"⟩ : MethodName)) hown (mvT hZ (hw _ (List.mem_of_getElem? (i := 31) rfl))) (mvT hZ (hw _ (List.mem_of_getElem? (i := 32) rfl))) (notFace_of_selects (args := #[]) (mvT hZ (hw _ (List.mem_of_getElem? (i := 34) rfl)))) (mvT hZ (hw _ (List.mem_of_getElem? (i := 34) rfl))) (mvT hZ (hw _ (List.mem_of_getElem? (i := 33) rfl))) (by decide) (backOf (W := 0) (data0 l Z a0 hw [] w_TRANSMIT G b1_8 d1_8 c5 T8.heap n0 O8 (po8_5 : Fld Z T8.heap b1_8 "com/example/aspectwise/aspectwise/cmri/Packet" "data" "[B" (.ref d1_8)) (po8_6 : Exa Z T8.heap d1_8 "[B") (po8_7 : Arv Z T8.heap d1_8 c5 .byte (0 : Int32) [] (.int (0 : Int32)))) hZ (hw _ (List.mem_of_getElem? (i := 35) rfl)) (hw _ (List.mem_of_getElem? (i := 3) rfl)) (by decide) (by decide)) qq11a qq11c (g := (mkF m 121 #[iv p1, iv p2, .val (.long p3), .second, iv (0 : Int32), iv ((p3.toInt32).toInt8.toInt32), iv ((((p3.toUInt64 >>> ((8 : Int32) &&& 0x3f).toInt64.toUInt64).toInt64).toInt32).toInt8.toInt32), iv ((((p3.toUInt64 >>> ((16 : Int32) &&& 0x3f).toInt64.toUInt64).toInt64).toInt32).toInt8.toInt32), rv b5, rv b1_8, .unset] [(.ref b1_8)])) rfl (by rw [hml]; rfl) (Steps.refl _) (argsL := []) (rest := []) (lenOf pd_2 rfl) rfl (by show 2 * 0 + _ ≤ _; exact Nat.le_of_eq rfl) (hb hby at_121) (fun _ _ => ⟨rfl, rfl, (by decide : 3 + 1 ≤ _), (by decide : 3 + 0 ≤ _)⟩)
    dsimp only [Pt.U, Pt.locs, Pt.cells, Pt.slots] at X11 l11 y11 z11 st11 hQ11
    subst l11 y11 z11
    obtain ⟨d1_11, rfl, Nq11, Kq11, po11_0, po11_1, po11_2⟩ := hQ11
    have N11 := Fr.app N8 Nq11
    have O11 := O8.keep Kq11 all0
    have k12 : Way p e below S0 T11 (mkF m 124 #[iv p1, iv p2, .val (.long p3), .second, iv (0 : Int32), iv ((p3.toInt32).toInt8.toInt32), iv ((((p3.toUInt64 >>> ((8 : Int32) &&& 0x3f).toInt64.toUInt64).toInt64).toInt32).toInt8.toInt32), iv ((((p3.toUInt64 >>> ((16 : Int32) &&& 0x3f).toInt64.toUInt64).toInt64).toInt32).toInt8.toInt32), rv b5, rv b1_8, .unset] [(.ref d1_11)]) := fun t k => k10 t (st11.trans k)
    have k13 : Way p e below S0 T11 (mkF m 128 #[iv p1, iv p2, .val (.long p3), .second, iv (0 : Int32), iv ((p3.toInt32).toInt8.toInt32), iv ((((p3.toUInt64 >>> ((8 : Int32) &&& 0x3f).toInt64.toUInt64).toInt64).toInt32).toInt8.toInt32), iv ((((p3.toUInt64 >>> ((16 : Int32) &&& 0x3f).toInt64.toUInt64).toInt64).toInt32).toInt8.toInt32), rv b5, rv b1_8, rv d1_11] [(.ref b1_8)]) := by
      intro t k
      refine k12 t ?_
      refine XS.astore X11.here hx rfl (hb hby at_124) rfl rfl (l' := #[iv p1, iv p2, .val (.long p3), .second, iv (0 : Int32), iv ((p3.toInt32).toInt8.toInt32), iv ((((p3.toUInt64 >>> ((8 : Int32) &&& 0x3f).toInt64.toUInt64).toInt64).toInt32).toInt8.toInt32), iv ((((p3.toUInt64 >>> ((16 : Int32) &&& 0x3f).toInt64.toUInt64).toInt64).toInt32).toInt8.toInt32), rv b5, rv b1_8, rv d1_11]) rfl ?_
      show Steps p.tables e below (T11.setTop (mkF m 126 #[iv p1, iv p2, .val (.long p3), .second, iv (0 : Int32), iv ((p3.toInt32).toInt8.toInt32), iv ((((p3.toUInt64 >>> ((8 : Int32) &&& 0x3f).toInt64.toUInt64).toInt64).toInt32).toInt8.toInt32), iv ((((p3.toUInt64 >>> ((16 : Int32) &&& 0x3f).toInt64.toUInt64).toInt64).toInt32).toInt8.toInt32), rv b5, rv b1_8, rv d1_11] [])) _
      refine XS.aload X11.here hx rfl (hb hby at_126) rfl rfl ?_
      show Steps p.tables e below (T11.setTop (mkF m 128 #[iv p1, iv p2, .val (.long p3), .second, iv (0 : Int32), iv ((p3.toInt32).toInt8.toInt32), iv ((((p3.toUInt64 >>> ((8 : Int32) &&& 0x3f).toInt64.toUInt64).toInt64).toInt32).toInt8.toInt32), iv ((((p3.toUInt64 >>> ((16 : Int32) &&& 0x3f).toInt64.toUInt64).toInt64).toInt32).toInt8.toInt32), rv b5, rv b1_8, rv d1_11] [(.ref b1_8)])) _
      exact k
    have f14 : Fld Z T11.heap b1_8 "com/example/aspectwise/aspectwise/cmri/Packet" "address" "I" (.int p1) := (po8_3.keep Kq11 nin0)
    have f16 : Exa Z T11.heap b1_8 "com/example/aspectwise/aspectwise/cmri/Packet" := (po8_2.keep Kq11)
    obtain ⟨cq15, kq15, qq15a, qq15b, qq15c⟩ := isOf hZ rfl f16
    obtain ⟨_, _, ⟨T15, L15, kk15, nn15⟩, -, X15, ⟨Lc15, hQ15, l15, y15, z15⟩, st15⟩ := X11.virtualBack hx (y := (⟨"com/example/aspectwise/aspectwise/cmri/Packet", "address", "()I"⟩ : MethodName)) (z := (⟨"com/example/aspectwise/aspectwise/cmri/Packet", "address", "()I"⟩ : MethodName)) hown (mvT hZ (hw _ (List.mem_of_getElem? (i := 36) rfl))) (mvT hZ (hw _ (List.mem_of_getElem? (i := 37) rfl))) (notFace_of_selects (args := #[]) (mvT hZ (hw _ (List.mem_of_getElem? (i := 39) rfl)))) (mvT hZ (hw _ (List.mem_of_getElem? (i := 39) rfl))) (mvT hZ (hw _ (List.mem_of_getElem? (i := 38) rfl))) (by decide) (backOf (W := 0) (adr l Z a0 hw [] w_TRANSMIT G b1_8 p1 T11.heap n0 O11 (f14 : Fld Z T11.heap b1_8 "com/example/aspectwise/aspectwise/cmri/Packet" "address" "I" (.int p1))) hZ (hw _ (List.mem_of_getElem? (i := 40) rfl)) (hw _ (List.mem_of_getElem? (i := 3) rfl)) (by decide) (by decide)) qq15a qq15c (g := (mkF m 128 #[iv p1, iv p2, .val (.long p3), .second, iv (0 : Int32), iv ((p3.toInt32).toInt8.toInt32), iv ((((p3.toUInt64 >>> ((8 : Int32) &&& 0x3f).toInt64.toUInt64).toInt64).toInt32).toInt8.toInt32), iv ((((p3.toUInt64 >>> ((16 : Int32) &&& 0x3f).toInt64.toUInt64).toInt64).toInt32).toInt8.toInt32), rv b5, rv b1_8, rv d1_11] [(.ref b1_8)])) rfl (by rw [hml]; rfl) (Steps.refl _) (argsL := []) (rest := []) (lenOf pd_3 rfl) rfl (by show 2 * 0 + _ ≤ _; exact Nat.le_of_eq rfl) (hb hby at_128) (fun _ _ => ⟨rfl, rfl, (by decide : 4 + 0 ≤ _), (by decide : 3 + 0 ≤ _)⟩)
    dsimp only [Pt.U, Pt.locs, Pt.cells, Pt.slots] at X15 l15 y15 z15 st15 hQ15
    subst l15 y15 z15
    obtain ⟨rfl, Nq15, e15⟩ := hQ15
    have N15 := Fr.app N11 Nq15
    have k17 : Way p e below S0 T15 (mkF m 131 #[iv p1, iv p2, .val (.long p3), .second, iv (0 : Int32), iv ((p3.toInt32).toInt8.toInt32), iv ((((p3.toUInt64 >>> ((8 : Int32) &&& 0x3f).toInt64.toUInt64).toInt64).toInt32).toInt8.toInt32), iv ((((p3.toUInt64 >>> ((16 : Int32) &&& 0x3f).toInt64.toUInt64).toInt64).toInt32).toInt8.toInt32), rv b5, rv b1_8, rv d1_11] [(.int p1)]) := fun t k => k13 t (st15.trans k)
    have k18 : Way p e below S0 T15 (mkF m 139 #[iv p1, iv p2, .val (.long p3), .second, iv (0 : Int32), iv ((p3.toInt32).toInt8.toInt32), iv ((((p3.toUInt64 >>> ((8 : Int32) &&& 0x3f).toInt64.toUInt64).toInt64).toInt32).toInt8.toInt32), iv ((((p3.toUInt64 >>> ((16 : Int32) &&& 0x3f).toInt64.toUInt64).toInt64).toInt32).toInt8.toInt32), rv b5, rv b1_8, rv d1_11] [(.ref b1_8)]) := by
      intro t k
      refine k17 t ?_
      refine XS.iloadN X15.here hx rfl (hb hby at_131) rfl ?_
      show Steps p.tables e below (T15.setTop (mkF m 132 #[iv p1, iv p2, .val (.long p3), .second, iv (0 : Int32), iv ((p3.toInt32).toInt8.toInt32), iv ((((p3.toUInt64 >>> ((8 : Int32) &&& 0x3f).toInt64.toUInt64).toInt64).toInt32).toInt8.toInt32), iv ((((p3.toUInt64 >>> ((16 : Int32) &&& 0x3f).toInt64.toUInt64).toInt64).toInt32).toInt8.toInt32), rv b5, rv b1_8, rv d1_11] [(.int p1), (.int p1)])) _
      refine XS.icmpYes X15.here hx rfl (pc0 := 132) (pc' := 137) rfl (hb hby at_132) rfl (teq (rfl : p1 = p1)).1 (by decide) (by decide) ?_
      show Steps p.tables e below (T15.setTop (mkF m 137 #[iv p1, iv p2, .val (.long p3), .second, iv (0 : Int32), iv ((p3.toInt32).toInt8.toInt32), iv ((((p3.toUInt64 >>> ((8 : Int32) &&& 0x3f).toInt64.toUInt64).toInt64).toInt32).toInt8.toInt32), iv ((((p3.toUInt64 >>> ((16 : Int32) &&& 0x3f).toInt64.toUInt64).toInt64).toInt32).toInt8.toInt32), rv b5, rv b1_8, rv d1_11] [])) _
      refine XS.aload X15.here hx rfl (hb hby at_137) rfl rfl ?_
      show Steps p.tables e below (T15.setTop (mkF m 139 #[iv p1, iv p2, .val (.long p3), .second, iv (0 : Int32), iv ((p3.toInt32).toInt8.toInt32), iv ((((p3.toUInt64 >>> ((8 : Int32) &&& 0x3f).toInt64.toUInt64).toInt64).toInt32).toInt8.toInt32), iv ((((p3.toUInt64 >>> ((16 : Int32) &&& 0x3f).toInt64.toUInt64).toInt64).toInt32).toInt8.toInt32), rv b5, rv b1_8, rv d1_11] [(.ref b1_8)])) _
      exact k
    have f19 : Fld Z T11.heap b1_8 "com/example/aspectwise/aspectwise/cmri/Packet" "type" "Lcom/example/aspectwise/aspectwise/cmri/Packet$Type;" (.ref w_TRANSMIT) := (po8_4.keep Kq11 nin0)
    obtain ⟨cq20, kq20, qq20a, qq20b, qq20c⟩ := isOf hZ e15 f16
    obtain ⟨_, _, ⟨T20, L20, kk20, nn20⟩, -, X20, ⟨Lc20, hQ20, l20, y20, z20⟩, st20⟩ := X15.virtualBack hx (y := (⟨"com/example/aspectwise/aspectwise/cmri/Packet", "type", "()Lcom/example/aspectwise/aspectwise/cmri/Packet$Type;"⟩ : MethodName)) (z := (⟨"com/example/aspectwise/aspectwise/cmri/Packet", "type", "()Lcom/example/aspectwise/aspectwise/cmri/Packet$Type;"⟩ : MethodName)) hown (mvT hZ (hw _ (List.mem_of_getElem? (i := 41) rfl))) (mvT hZ (hw _ (List.mem_of_getElem? (i := 42) rfl))) (notFace_of_selects (args := #[]) (mvT hZ (hw _ (List.mem_of_getElem? (i := 44) rfl)))) (mvT hZ (hw _ (List.mem_of_getElem? (i := 44) rfl))) (mvT hZ (hw _ (List.mem_of_getElem? (i := 43) rfl))) (by decide) (backOf (W := 0) (typ l Z a0 hw [] w_TRANSMIT G b1_8 w_TRANSMIT T11.heap n0 O11 (f19 : Fld Z T11.heap b1_8 "com/example/aspectwise/aspectwise/cmri/Packet" "type" "Lcom/example/aspectwise/aspectwise/cmri/Packet$Type;" (.ref w_TRANSMIT))) hZ (hw _ (List.mem_of_getElem? (i := 45) rfl)) (hw _ (List.mem_of_getElem? (i := 3) rfl)) (by decide) (by decide)) qq20a qq20c (g := (mkF m 139 #[iv p1, iv p2, .val (.long p3), .second, iv (0 : Int32), iv ((p3.toInt32).toInt8.toInt32), iv ((((p3.toUInt64 >>> ((8 : Int32) &&& 0x3f).toInt64.toUInt64).toInt64).toInt32).toInt8.toInt32), iv ((((p3.toUInt64 >>> ((16 : Int32) &&& 0x3f).toInt64.toUInt64).toInt64).toInt32).toInt8.toInt32), rv b5, rv b1_8, rv d1_11] [(.ref b1_8)])) rfl (by rw [hml]; rfl) (Steps.refl _) (argsL := []) (rest := []) (lenOf pd_4 rfl) rfl (by show 2 * 0 + _ ≤ _; exact Nat.le_of_eq rfl) (hb hby at_139) (fun _ _ => ⟨rfl, e15, (by decide : 4 + 0 ≤ _), (by decide : 3 + 0 ≤ _)⟩)
    dsimp only [Pt.U, Pt.locs, Pt.cells, Pt.slots] at X20 l20 y20 z20 st20 hQ20
    subst l20 y20 z20
    obtain ⟨rfl, Nq20, e20⟩ := hQ20
    have N20 := Fr.app N15 Nq20
    have k21 : Way p e below S0 T20 (mkF m 142 #[iv p1, iv p2, .val (.long p3), .second, iv (0 : Int32), iv ((p3.toInt32).toInt8.toInt32), iv ((((p3.toUInt64 >>> ((8 : Int32) &&& 0x3f).toInt64.toUInt64).toInt64).toInt32).toInt8.toInt32), iv ((((p3.toUInt64 >>> ((16 : Int32) &&& 0x3f).toInt64.toUInt64).toInt64).toInt32).toInt8.toInt32), rv b5, rv b1_8, rv d1_11] [(.ref w_TRANSMIT)]) := fun t k => k18 t (st20.trans k)
    obtain ⟨T22, X22, e22, st22⟩ := getS2 X20 hx hZ hown (host := "") (Or.inl (hw _ (List.mem_of_getElem? (i := 46) rfl))) Via.refl e20 (S_w_TRANSMIT.ext O11.2) (g := (mkF m 142 #[iv p1, iv p2, .val (.long p3), .second, iv (0 : Int32), iv ((p3.toInt32).toInt8.toInt32), iv ((((p3.toUInt64 >>> ((8 : Int32) &&& 0x3f).toInt64.toUInt64).toInt64).toInt32).toInt8.toInt32), iv ((((p3.toUInt64 >>> ((16 : Int32) &&& 0x3f).toInt64.toUInt64).toInt64).toInt32).toInt8.toInt32), rv b5, rv b1_8, rv d1_11] [(.ref w_TRANSMIT)])) rfl (hb hby at_142)
    have k23 : Way p e below S0 T22 (mkF m 145 #[iv p1, iv p2, .val (.long p3), .second, iv (0 : Int32), iv ((p3.toInt32).toInt8.toInt32), iv ((((p3.toUInt64 >>> ((8 : Int32) &&& 0x3f).toInt64.toUInt64).toInt64).toInt32).toInt8.toInt32), iv ((((p3.toUInt64 >>> ((16 : Int32) &&& 0x3f).toInt64.toUInt64).toInt64).toInt32).toInt8.toInt32), rv b5, rv b1_8, rv d1_11] [(.ref w_TRANSMIT), (.ref w_TRANSMIT)]) := fun t k => k21 t (st22 _ k)
    have k24 : Way p e below S0 T22 (mkF m 152 #[iv p1, iv p2, .val (.long p3), .second, iv (0 : Int32), iv ((p3.toInt32).toInt8.toInt32), iv ((((p3.toUInt64 >>> ((8 : Int32) &&& 0x3f).toInt64.toUInt64).toInt64).toInt32).toInt8.toInt32), iv ((((p3.toUInt64 >>> ((16 : Int32) &&& 0x3f).toInt64.toUInt64).toInt64).toInt32).toInt8.toInt32), rv b5, rv b1_8, rv d1_11] [(.ref d1_11)]) := by
      intro t k
      refine k23 t ?_
      refine Jvm.RoadKit.acmp (g := (mkF m 145 #[iv p1, iv p2, .val (.long p3), .second, iv (0 : Int32), iv ((p3.toInt32).toInt8.toInt32), iv ((((p3.toUInt64 >>> ((8 : Int32) &&& 0x3f).toInt64.toUInt64).toInt64).toInt32).toInt8.toInt32), iv ((((p3.toUInt64 >>> ((16 : Int32) &&& 0x3f).toInt64.toUInt64).toInt64).toInt32).toInt8.toInt32), rv b5, rv b1_8, rv d1_11] [(.ref w_TRANSMIT), (.ref w_TRANSMIT)])) X22 hx rfl rfl rfl (pc0 := 145) (pc' := 150) (same := true) rfl (hb hby at_145) rfl (decide_eq_true rfl) (by decide) (by decide) ?_
      show Steps p.tables e below (T22.setTop (mkF m 150 #[iv p1, iv p2, .val (.long p3), .second, iv (0 : Int32), iv ((p3.toInt32).toInt8.toInt32), iv ((((p3.toUInt64 >>> ((8 : Int32) &&& 0x3f).toInt64.toUInt64).toInt64).toInt32).toInt8.toInt32), iv ((((p3.toUInt64 >>> ((16 : Int32) &&& 0x3f).toInt64.toUInt64).toInt64).toInt32).toInt8.toInt32), rv b5, rv b1_8, rv d1_11] [])) _
      refine XS.aload X22.here hx rfl (hb hby at_150) rfl rfl ?_
      show Steps p.tables e below (T22.setTop (mkF m 152 #[iv p1, iv p2, .val (.long p3), .second, iv (0 : Int32), iv ((p3.toInt32).toInt8.toInt32), iv ((((p3.toUInt64 >>> ((8 : Int32) &&& 0x3f).toInt64.toUInt64).toInt64).toInt32).toInt8.toInt32), iv ((((p3.toUInt64 >>> ((16 : Int32) &&& 0x3f).toInt64.toUInt64).toInt64).toInt32).toInt8.toInt32), rv b5, rv b1_8, rv d1_11] [(.ref d1_11)])) _
      exact k
    obtain ⟨cl25, Ar25, -, S25, M25, -, -⟩ := id (po11_2)
    have k26 : Way p e below S0 T22 (mkF m 153 #[iv p1, iv p2, .val (.long p3), .second, iv (0 : Int32), iv ((p3.toInt32).toInt8.toInt32), iv ((((p3.toUInt64 >>> ((8 : Int32) &&& 0x3f).toInt64.toUInt64).toInt64).toInt32).toInt8.toInt32), iv ((((p3.toUInt64 >>> ((16 : Int32) &&& 0x3f).toInt64.toUInt64).toInt64).toInt32).toInt8.toInt32), rv b5, rv b1_8, rv d1_11] [(.int (0 : Int32))]) := fun t k => k24 t (X22.arraylength hx (by rw [e22]; exact Ar25.1) (State.isArrayOf_alike hZ.alike Ar25.2.1) (g := (mkF m 152 #[iv p1, iv p2, .val (.long p3), .second, iv (0 : Int32), iv ((p3.toInt32).toInt8.toInt32), iv ((((p3.toUInt64 >>> ((8 : Int32) &&& 0x3f).toInt64.toUInt64).toInt64).toInt32).toInt8.toInt32), iv ((((p3.toUInt64 >>> ((16 : Int32) &&& 0x3f).toInt64.toUInt64).toInt64).toInt32).toInt8.toInt32), rv b5, rv b1_8, rv d1_11] [(.ref d1_11)])) rfl rfl (hb hby at_152) _ (by rw [len_of S25 M25]; exact k))
    have k27 : Way p e below S0 T22 (mkF m 211 #[iv p1, iv p2, .val (.long p3), .second, iv (0 : Int32), iv ((p3.toInt32).toInt8.toInt32), iv ((((p3.toUInt64 >>> ((8 : Int32) &&& 0x3f).toInt64.toUInt64).toInt64).toInt32).toInt8.toInt32), iv ((((p3.toUInt64 >>> ((16 : Int32) &&& 0x3f).toInt64.toUInt64).toInt64).toInt32).toInt8.toInt32), rv b5, rv b1_8, rv d1_11] [(.int (1 : Int32))]) := by
      intro t k
      refine k26 t ?_
      refine XS.iload X22.here hx rfl (hb hby at_153) rfl ?_
      show Steps p.tables e below (T22.setTop (mkF m 155 #[iv p1, iv p2, .val (.long p3), .second, iv (0 : Int32), iv ((p3.toInt32).toInt8.toInt32), iv ((((p3.toUInt64 >>> ((8 : Int32) &&& 0x3f).toInt64.toUInt64).toInt64).toInt32).toInt8.toInt32), iv ((((p3.toUInt64 >>> ((16 : Int32) &&& 0x3f).toInt64.toUInt64).toInt64).toInt32).toInt8.toInt32), rv b5, rv b1_8, rv d1_11] [(.int (0 : Int32)), (.int (0 : Int32))])) _
      refine XS.icmpYes X22.here hx rfl (pc0 := 155) (pc' := 160) rfl (hb hby at_155) rfl (teq ((by decide) : (0 : Int32) = (0 : Int32))).1 (by decide) (by decide) ?_
      show Steps p.tables e below (T22.setTop (mkF m 160 #[iv p1, iv p2, .val (.long p3), .second, iv (0 : Int32), iv ((p3.toInt32).toInt8.toInt32), iv ((((p3.toUInt64 >>> ((8 : Int32) &&& 0x3f).toInt64.toUInt64).toInt64).toInt32).toInt8.toInt32), iv ((((p3.toUInt64 >>> ((16 : Int32) &&& 0x3f).toInt64.toUInt64).toInt64).toInt32).toInt8.toInt32), rv b5, rv b1_8, rv d1_11] [])) _
      refine XS.iload X22.here hx rfl (hb hby at_160) rfl ?_
      show Steps p.tables e below (T22.setTop (mkF m 162 #[iv p1, iv p2, .val (.long p3), .second, iv (0 : Int32), iv ((p3.toInt32).toInt8.toInt32), iv ((((p3.toUInt64 >>> ((8 : Int32) &&& 0x3f).toInt64.toUInt64).toInt64).toInt32).toInt8.toInt32), iv ((((p3.toUInt64 >>> ((16 : Int32) &&& 0x3f).toInt64.toUInt64).toInt64).toInt32).toInt8.toInt32), rv b5, rv b1_8, rv d1_11] [(.int (0 : Int32))])) _
      refine XS.ifYes X22.here hx rfl (pc0 := 162) (pc' := 176) rfl (hb hby at_162) rfl ((if0 _ _).trans (flt ((by decide) : ¬ ((0 : Int32) < (0 : Int32)))).2.2.2) (by decide) (by decide) ?_
      show Steps p.tables e below (T22.setTop (mkF m 176 #[iv p1, iv p2, .val (.long p3), .second, iv (0 : Int32), iv ((p3.toInt32).toInt8.toInt32), iv ((((p3.toUInt64 >>> ((8 : Int32) &&& 0x3f).toInt64.toUInt64).toInt64).toInt32).toInt8.toInt32), iv ((((p3.toUInt64 >>> ((16 : Int32) &&& 0x3f).toInt64.toUInt64).toInt64).toInt32).toInt8.toInt32), rv b5, rv b1_8, rv d1_11] [])) _
      refine XS.iload X22.here hx rfl (hb hby at_176) rfl ?_
      show Steps p.tables e below (T22.setTop (mkF m 178 #[iv p1, iv p2, .val (.long p3), .second, iv (0 : Int32), iv ((p3.toInt32).toInt8.toInt32), iv ((((p3.toUInt64 >>> ((8 : Int32) &&& 0x3f).toInt64.toUInt64).toInt64).toInt32).toInt8.toInt32), iv ((((p3.toUInt64 >>> ((16 : Int32) &&& 0x3f).toInt64.toUInt64).toInt64).toInt32).toInt8.toInt32), rv b5, rv b1_8, rv d1_11] [(.int (0 : Int32))])) _
      refine XS.iconst X22.here hx rfl (hb hby at_178) ?_
      show Steps p.tables e below (T22.setTop (mkF m 179 #[iv p1, iv p2, .val (.long p3), .second, iv (0 : Int32), iv ((p3.toInt32).toInt8.toInt32), iv ((((p3.toUInt64 >>> ((8 : Int32) &&& 0x3f).toInt64.toUInt64).toInt64).toInt32).toInt8.toInt32), iv ((((p3.toUInt64 >>> ((16 : Int32) &&& 0x3f).toInt64.toUInt64).toInt64).toInt32).toInt8.toInt32), rv b5, rv b1_8, rv d1_11] [(.int (1 : Int32)), (.int (0 : Int32))])) _
      refine XS.icmpYes X22.here hx rfl (pc0 := 179) (pc' := 193) rfl (hb hby at_179) rfl (flt ((by decide) : ¬ ((1 : Int32) < (0 : Int32)))).2.2.2 (by decide) (by decide) ?_
      show Steps p.tables e below (T22.setTop (mkF m 193 #[iv p1, iv p2, .val (.long p3), .second, iv (0 : Int32), iv ((p3.toInt32).toInt8.toInt32), iv ((((p3.toUInt64 >>> ((8 : Int32) &&& 0x3f).toInt64.toUInt64).toInt64).toInt32).toInt8.toInt32), iv ((((p3.toUInt64 >>> ((16 : Int32) &&& 0x3f).toInt64.toUInt64).toInt64).toInt32).toInt8.toInt32), rv b5, rv b1_8, rv d1_11] [])) _
      refine XS.iload X22.here hx rfl (hb hby at_193) rfl ?_
      show Steps p.tables e below (T22.setTop (mkF m 195 #[iv p1, iv p2, .val (.long p3), .second, iv (0 : Int32), iv ((p3.toInt32).toInt8.toInt32), iv ((((p3.toUInt64 >>> ((8 : Int32) &&& 0x3f).toInt64.toUInt64).toInt64).toInt32).toInt8.toInt32), iv ((((p3.toUInt64 >>> ((16 : Int32) &&& 0x3f).toInt64.toUInt64).toInt64).toInt32).toInt8.toInt32), rv b5, rv b1_8, rv d1_11] [(.int (0 : Int32))])) _
      refine XS.iconst X22.here hx rfl (hb hby at_195) ?_
      show Steps p.tables e below (T22.setTop (mkF m 196 #[iv p1, iv p2, .val (.long p3), .second, iv (0 : Int32), iv ((p3.toInt32).toInt8.toInt32), iv ((((p3.toUInt64 >>> ((8 : Int32) &&& 0x3f).toInt64.toUInt64).toInt64).toInt32).toInt8.toInt32), iv ((((p3.toUInt64 >>> ((16 : Int32) &&& 0x3f).toInt64.toUInt64).toInt64).toInt32).toInt8.toInt32), rv b5, rv b1_8, rv d1_11] [(.int (2 : Int32)), (.int (0 : Int32))])) _
      refine XS.icmpYes X22.here hx rfl (pc0 := 196) (pc' := 210) rfl (hb hby at_196) rfl (flt ((by decide) : ¬ ((2 : Int32) < (0 : Int32)))).2.2.2 (by decide) (by decide) ?_
      show Steps p.tables e below (T22.setTop (mkF m 210 #[iv p1, iv p2, .val (.long p3), .second, iv (0 : Int32), iv ((p3.toInt32).toInt8.toInt32), iv ((((p3.toUInt64 >>> ((8 : Int32) &&& 0x3f).toInt64.toUInt64).toInt64).toInt32).toInt8.toInt32), iv ((((p3.toUInt64 >>> ((16 : Int32) &&& 0x3f).toInt64.toUInt64).toInt64).toInt32).toInt8.toInt32), rv b5, rv b1_8, rv d1_11] [])) _
      refine XS.iconst X22.here hx rfl (hb hby at_210) ?_
      show Steps p.tables e below (T22.setTop (mkF m 211 #[iv p1, iv p2, .val (.long p3), .second, iv (0 : Int32), iv ((p3.toInt32).toInt8.toInt32), iv ((((p3.toUInt64 >>> ((8 : Int32) &&& 0x3f).toInt64.toUInt64).toInt64).toInt32).toInt8.toInt32), iv ((((p3.toUInt64 >>> ((16 : Int32) &&& 0x3f).toInt64.toUInt64).toInt64).toInt32).toInt8.toInt32), rv b5, rv b1_8, rv d1_11] [(.int (1 : Int32))])) _
      exact k
    obtain ⟨fs, hr, hrun, hended, hW, hsame⟩ := X22.leave (v := some (.int (1 : Int32))) (fun h => by rw [Bd.returns] at h; cases h)
    refine ⟨_, _, k27 _ (retN X22 hx (t := .boolean) Bd.returns (by simp) (hb hby at_211) hr), hrun, hended, _, _, rfl, ?_, ⟨_, rfl⟩, hW, hsame.mono (by decide) (by decide)⟩
    show Q_law_met Z w_TRANSMIT p1 p2 p3 h0 n0 _ T22.heap _
    rw [e22]
    exact ⟨rfl, N20⟩
  · have k28 : Way p e below S0 s₁ (mkF m 5 #[iv p1, iv p2, .val (.long p3), .second, iv (1 : Int32), .unset, .unset, .unset, .unset, .unset, .unset] []) := by have q := k1; rw [hi2] at q; exact q
    have k29 : Way p e below S0 s₁ (mkF m 28 #[iv p1, iv p2, .val (.long p3), .second, iv (1 : Int32), iv ((p3.toInt32).toInt8.toInt32), iv ((((p3.toUInt64 >>> ((8 : Int32) &&& 0x3f).toInt64.toUInt64).toInt64).toInt32).toInt8.toInt32), iv ((((p3.toUInt64 >>> ((16 : Int32) &&& 0x3f).toInt64.toUInt64).toInt64).toInt32).toInt8.toInt32), .unset, .unset, .unset] [(.int (1 : Int32))]) := by
      intro t k
      refine k28 t ?_
      refine XS.lloadN X0.here hx rfl (hb hby at_5) rfl ?_
      show Steps p.tables e below (s₁.setTop (mkF m 6 #[iv p1, iv p2, .val (.long p3), .second, iv (1 : Int32), .unset, .unset, .unset, .unset, .unset, .unset] [(.long p3)])) _
      refine XS.l2i X0.here hx rfl (hb hby at_6) rfl ?_
      show Steps p.tables e below (s₁.setTop (mkF m 7 #[iv p1, iv p2, .val (.long p3), .second, iv (1 : Int32), .unset, .unset, .unset, .unset, .unset, .unset] [(.int (p3.toInt32))])) _
      refine XS.i2b X0.here hx rfl (hb hby at_7) rfl ?_
      show Steps p.tables e below (s₁.setTop (mkF m 8 #[iv p1, iv p2, .val (.long p3), .second, iv (1 : Int32), .unset, .unset, .unset, .unset, .unset, .unset] [(.int ((p3.toInt32).toInt8.toInt32))])) _
      refine XS.istore X0.here hx rfl (hb hby at_8) rfl (l' := #[iv p1, iv p2, .val (.long p3), .second, iv (1 : Int32), iv ((p3.toInt32).toInt8.toInt32), .unset, .unset, .unset, .unset, .unset]) rfl ?_
      show Steps p.tables e below (s₁.setTop (mkF m 10 #[iv p1, iv p2, .val (.long p3), .second, iv (1 : Int32), iv ((p3.toInt32).toInt8.toInt32), .unset, .unset, .unset, .unset, .unset] [])) _
      refine XS.lloadN X0.here hx rfl (hb hby at_10) rfl ?_
      show Steps p.tables e below (s₁.setTop (mkF m 11 #[iv p1, iv p2, .val (.long p3), .second, iv (1 : Int32), iv ((p3.toInt32).toInt8.toInt32), .unset, .unset, .unset, .unset, .unset] [(.long p3)])) _
      refine XS.bipush X0.here hx rfl (hb hby at_11) ?_
      show Steps p.tables e below (s₁.setTop (mkF m 13 #[iv p1, iv p2, .val (.long p3), .second, iv (1 : Int32), iv ((p3.toInt32).toInt8.toInt32), .unset, .unset, .unset, .unset, .unset] [(.int (8 : Int32)), (.long p3)])) _
      refine XS.lushr X0.here hx rfl (hb hby at_13) rfl ?_
      show Steps p.tables e below (s₁.setTop (mkF m 14 #[iv p1, iv p2, .val (.long p3), .second, iv (1 : Int32), iv ((p3.toInt32).toInt8.toInt32), .unset, .unset, .unset, .unset, .unset] [(.long ((p3.toUInt64 >>> ((8 : Int32) &&& 0x3f).toInt64.toUInt64).toInt64))])) _
      refine XS.l2i X0.here hx rfl (hb hby at_14) rfl ?_
      show Steps p.tables e below (s₁.setTop (mkF m 15 #[iv p1, iv p2, .val (.long p3), .second, iv (1 : Int32), iv ((p3.toInt32).toInt8.toInt32), .unset, .unset, .unset, .unset, .unset] [(.int (((p3.toUInt64 >>> ((8 : Int32) &&& 0x3f).toInt64.toUInt64).toInt64).toInt32))])) _
      refine XS.i2b X0.here hx rfl (hb hby at_15) rfl ?_
      show Steps p.tables e below (s₁.setTop (mkF m 16 #[iv p1, iv p2, .val (.long p3), .second, iv (1 : Int32), iv ((p3.toInt32).toInt8.toInt32), .unset, .unset, .unset, .unset, .unset] [(.int ((((p3.toUInt64 >>> ((8 : Int32) &&& 0x3f).toInt64.toUInt64).toInt64).toInt32).toInt8.toInt32))])) _
      refine XS.istore X0.here hx rfl (hb hby at_16) rfl (l' := #[iv p1, iv p2, .val (.long p3), .second, iv (1 : Int32), iv ((p3.toInt32).toInt8.toInt32), iv ((((p3.toUInt64 >>> ((8 : Int32) &&& 0x3f).toInt64.toUInt64).toInt64).toInt32).toInt8.toInt32), .unset, .unset, .unset, .unset]) rfl ?_
      show Steps p.tables e below (s₁.setTop (mkF m 18 #[iv p1, iv p2, .val (.long p3), .second, iv (1 : Int32), iv ((p3.toInt32).toInt8.toInt32), iv ((((p3.toUInt64 >>> ((8 : Int32) &&& 0x3f).toInt64.toUInt64).toInt64).toInt32).toInt8.toInt32), .unset, .unset, .unset, .unset] [])) _
      refine XS.lloadN X0.here hx rfl (hb hby at_18) rfl ?_
      show Steps p.tables e below (s₁.setTop (mkF m 19 #[iv p1, iv p2, .val (.long p3), .second, iv (1 : Int32), iv ((p3.toInt32).toInt8.toInt32), iv ((((p3.toUInt64 >>> ((8 : Int32) &&& 0x3f).toInt64.toUInt64).toInt64).toInt32).toInt8.toInt32), .unset, .unset, .unset, .unset] [(.long p3)])) _
      refine XS.bipush X0.here hx rfl (hb hby at_19) ?_
      show Steps p.tables e below (s₁.setTop (mkF m 21 #[iv p1, iv p2, .val (.long p3), .second, iv (1 : Int32), iv ((p3.toInt32).toInt8.toInt32), iv ((((p3.toUInt64 >>> ((8 : Int32) &&& 0x3f).toInt64.toUInt64).toInt64).toInt32).toInt8.toInt32), .unset, .unset, .unset, .unset] [(.int (16 : Int32)), (.long p3)])) _
      refine XS.lushr X0.here hx rfl (hb hby at_21) rfl ?_
      show Steps p.tables e below (s₁.setTop (mkF m 22 #[iv p1, iv p2, .val (.long p3), .second, iv (1 : Int32), iv ((p3.toInt32).toInt8.toInt32), iv ((((p3.toUInt64 >>> ((8 : Int32) &&& 0x3f).toInt64.toUInt64).toInt64).toInt32).toInt8.toInt32), .unset, .unset, .unset, .unset] [(.long ((p3.toUInt64 >>> ((16 : Int32) &&& 0x3f).toInt64.toUInt64).toInt64))])) _
      refine XS.l2i X0.here hx rfl (hb hby at_22) rfl ?_
      show Steps p.tables e below (s₁.setTop (mkF m 23 #[iv p1, iv p2, .val (.long p3), .second, iv (1 : Int32), iv ((p3.toInt32).toInt8.toInt32), iv ((((p3.toUInt64 >>> ((8 : Int32) &&& 0x3f).toInt64.toUInt64).toInt64).toInt32).toInt8.toInt32), .unset, .unset, .unset, .unset] [(.int (((p3.toUInt64 >>> ((16 : Int32) &&& 0x3f).toInt64.toUInt64).toInt64).toInt32))])) _
      refine XS.i2b X0.here hx rfl (hb hby at_23) rfl ?_
      show Steps p.tables e below (s₁.setTop (mkF m 24 #[iv p1, iv p2, .val (.long p3), .second, iv (1 : Int32), iv ((p3.toInt32).toInt8.toInt32), iv ((((p3.toUInt64 >>> ((8 : Int32) &&& 0x3f).toInt64.toUInt64).toInt64).toInt32).toInt8.toInt32), .unset, .unset, .unset, .unset] [(.int ((((p3.toUInt64 >>> ((16 : Int32) &&& 0x3f).toInt64.toUInt64).toInt64).toInt32).toInt8.toInt32))])) _
      refine XS.istore X0.here hx rfl (hb hby at_24) rfl (l' := #[iv p1, iv p2, .val (.long p3), .second, iv (1 : Int32), iv ((p3.toInt32).toInt8.toInt32), iv ((((p3.toUInt64 >>> ((8 : Int32) &&& 0x3f).toInt64.toUInt64).toInt64).toInt32).toInt8.toInt32), iv ((((p3.toUInt64 >>> ((16 : Int32) &&& 0x3f).toInt64.toUInt64).toInt64).toInt32).toInt8.toInt32), .unset, .unset, .unset]) rfl ?_
      show Steps p.tables e below (s₁.setTop (mkF m 26 #[iv p1, iv p2, .val (.long p3), .second, iv (1 : Int32), iv ((p3.toInt32).toInt8.toInt32), iv ((((p3.toUInt64 >>> ((8 : Int32) &&& 0x3f).toInt64.toUInt64).toInt64).toInt32).toInt8.toInt32), iv ((((p3.toUInt64 >>> ((16 : Int32) &&& 0x3f).toInt64.toUInt64).toInt64).toInt32).toInt8.toInt32), .unset, .unset, .unset] [])) _
      refine XS.iload X0.here hx rfl (hb hby at_26) rfl ?_
      show Steps p.tables e below (s₁.setTop (mkF m 28 #[iv p1, iv p2, .val (.long p3), .second, iv (1 : Int32), iv ((p3.toInt32).toInt8.toInt32), iv ((((p3.toUInt64 >>> ((8 : Int32) &&& 0x3f).toInt64.toUInt64).toInt64).toInt32).toInt8.toInt32), iv ((((p3.toUInt64 >>> ((16 : Int32) &&& 0x3f).toInt64.toUInt64).toInt64).toInt32).toInt8.toInt32), .unset, .unset, .unset] [(.int (1 : Int32))])) _
      exact k
    obtain ⟨T30, h30, c30, X30, e30, E30, A30, B30, st30⟩ := newPE X0 hx hZ (hw _ (List.mem_of_getElem? (i := 0) rfl)) e0 (g := (mkF m 28 #[iv p1, iv p2, .val (.long p3), .second, iv (1 : Int32), iv ((p3.toInt32).toInt8.toInt32), iv ((((p3.toUInt64 >>> ((8 : Int32) &&& 0x3f).toInt64.toUInt64).toInt64).toInt32).toInt8.toInt32), iv ((((p3.toUInt64 >>> ((16 : Int32) &&& 0x3f).toInt64.toUInt64).toInt64).toInt32).toInt8.toInt32), .unset, .unset, .unset] [(.int (1 : Int32))])) rfl (hb hby at_28) rfl (by decide) (cap := 1) (by decide) (by decide) (by decide) (by decide) (ad := "[B") (by decide)
    obtain ⟨b30, g30⟩ : ∃ z, z = h0.size := ⟨_, rfl⟩
    rw [← g30] at A30 B30 st30
    have O30 := O0.ext E30
    have v30 : Arv Z h30 b30 c30 .byte (1 : Int32) [(.int (0 : Int32))] (.int (0 : Int32)) := (Arv.new A30 (by decide)).pad (pad_rep [] (.int (0 : Int32)) 1)
    have k31 : Way p e below S0 T30 (mkF m 30 #[iv p1, iv p2, .val (.long p3), .second, iv (1 : Int32), iv ((p3.toInt32).toInt8.toInt32), iv ((((p3.toUInt64 >>> ((8 : Int32) &&& 0x3f).toInt64.toUInt64).toInt64).toInt32).toInt8.toInt32), iv ((((p3.toUInt64 >>> ((16 : Int32) &&& 0x3f).toInt64.toUInt64).toInt64).toInt32).toInt8.toInt32), .unset, .unset, .unset] [(.ref b30)]) := fun t k => k29 t (st30 _ k)
    have k32 : Way p e below S0 T30 (mkF m 42 #[iv p1, iv p2, .val (.long p3), .second, iv (1 : Int32), iv ((p3.toInt32).toInt8.toInt32), iv ((((p3.toUInt64 >>> ((8 : Int32) &&& 0x3f).toInt64.toUInt64).toInt64).toInt32).toInt8.toInt32), iv ((((p3.toUInt64 >>> ((16 : Int32) &&& 0x3f).toInt64.toUInt64).toInt64).toInt32).toInt8.toInt32), rv b30, .unset, .unset] [(.int ((p3.toInt32).toInt8.toInt32)), (.int (0 : Int32)), (.ref b30)]) := by
      intro t k
      refine k31 t ?_
      refine XS.astore X30.here hx rfl (hb hby at_30) rfl rfl (l' := #[iv p1, iv p2, .val (.long p3), .second, iv (1 : Int32), iv ((p3.toInt32).toInt8.toInt32), iv ((((p3.toUInt64 >>> ((8 : Int32) &&& 0x3f).toInt64.toUInt64).toInt64).toInt32).toInt8.toInt32), iv ((((p3.toUInt64 >>> ((16 : Int32) &&& 0x3f).toInt64.toUInt64).toInt64).toInt32).toInt8.toInt32), rv b30, .unset, .unset]) rfl ?_
      show Steps p.tables e below (T30.setTop (mkF m 32 #[iv p1, iv p2, .val (.long p3), .second, iv (1 : Int32), iv ((p3.toInt32).toInt8.toInt32), iv ((((p3.toUInt64 >>> ((8 : Int32) &&& 0x3f).toInt64.toUInt64).toInt64).toInt32).toInt8.toInt32), iv ((((p3.toUInt64 >>> ((16 : Int32) &&& 0x3f).toInt64.toUInt64).toInt64).toInt32).toInt8.toInt32), rv b30, .unset, .unset] [])) _
      refine XS.iload X30.here hx rfl (hb hby at_32) rfl ?_
      show Steps p.tables e below (T30.setTop (mkF m 34 #[iv p1, iv p2, .val (.long p3), .second, iv (1 : Int32), iv ((p3.toInt32).toInt8.toInt32), iv ((((p3.toUInt64 >>> ((8 : Int32) &&& 0x3f).toInt64.toUInt64).toInt64).toInt32).toInt8.toInt32), iv ((((p3.toUInt64 >>> ((16 : Int32) &&& 0x3f).toInt64.toUInt64).toInt64).toInt32).toInt8.toInt32), rv b30, .unset, .unset] [(.int (1 : Int32))])) _
      refine XS.ifNo X30.here hx rfl (hb hby at_34) rfl ((if0 _ _).trans (tlt ((by decide) : (0 : Int32) < (1 : Int32))).2.2.2) ?_
      show Steps p.tables e below (T30.setTop (mkF m 37 #[iv p1, iv p2, .val (.long p3), .second, iv (1 : Int32), iv ((p3.toInt32).toInt8.toInt32), iv ((((p3.toUInt64 >>> ((8 : Int32) &&& 0x3f).toInt64.toUInt64).toInt64).toInt32).toInt8.toInt32), iv ((((p3.toUInt64 >>> ((16 : Int32) &&& 0x3f).toInt64.toUInt64).toInt64).toInt32).toInt8.toInt32), rv b30, .unset, .unset] [])) _
      refine XS.aload X30.here hx rfl (hb hby at_37) rfl rfl ?_
      show Steps p.tables e below (T30.setTop (mkF m 39 #[iv p1, iv p2, .val (.long p3), .second, iv (1 : Int32), iv ((p3.toInt32).toInt8.toInt32), iv ((((p3.toUInt64 >>> ((8 : Int32) &&& 0x3f).toInt64.toUInt64).toInt64).toInt32).toInt8.toInt32), iv ((((p3.toUInt64 >>> ((16 : Int32) &&& 0x3f).toInt64.toUInt64).toInt64).toInt32).toInt8.toInt32), rv b30, .unset, .unset] [(.ref b30)])) _
      refine XS.iconst X30.here hx rfl (hb hby at_39) ?_
      show Steps p.tables e below (T30.setTop (mkF m 40 #[iv p1, iv p2, .val (.long p3), .second, iv (1 : Int32), iv ((p3.toInt32).toInt8.toInt32), iv ((((p3.toUInt64 >>> ((8 : Int32) &&& 0x3f).toInt64.toUInt64).toInt64).toInt32).toInt8.toInt32), iv ((((p3.toUInt64 >>> ((16 : Int32) &&& 0x3f).toInt64.toUInt64).toInt64).toInt32).toInt8.toInt32), rv b30, .unset, .unset] [(.int (0 : Int32)), (.ref b30)])) _
      refine XS.iload X30.here hx rfl (hb hby at_40) rfl ?_
      show Steps p.tables e below (T30.setTop (mkF m 42 #[iv p1, iv p2, .val (.long p3), .second, iv (1 : Int32), iv ((p3.toInt32).toInt8.toInt32), iv ((((p3.toUInt64 >>> ((8 : Int32) &&& 0x3f).toInt64.toUInt64).toInt64).toInt32).toInt8.toInt32), iv ((((p3.toUInt64 >>> ((16 : Int32) &&& 0x3f).toInt64.toUInt64).toInt64).toInt32).toInt8.toInt32), rv b30, .unset, .unset] [(.int ((p3.toInt32).toInt8.toInt32)), (.int (0 : Int32)), (.ref b30)])) _
      exact k
    obtain ⟨cl33, Ar33, qc33, S33, M33, U33, G33⟩ := id (v30)
    have hin33 : ¬ ((0 : Int32) < 0 ∨ cl33.slots.size ≤ ((0 : Int32)).toNatClampNeg) := inb_of S33 ⟨by decide, by decide⟩
    obtain ⟨T33, h33, X33, e33, W33, st33⟩ := stB X30 hx hZ e30 Ar33 (j := (0 : Int32)) hin33 (g := (mkF m 42 #[iv p1, iv p2, .val (.long p3), .second, iv (1 : Int32), iv ((p3.toInt32).toInt8.toInt32), iv ((((p3.toUInt64 >>> ((8 : Int32) &&& 0x3f).toInt64.toUInt64).toInt64).toInt32).toInt8.toInt32), iv ((((p3.toUInt64 >>> ((16 : Int32) &&& 0x3f).toInt64.toUInt64).toInt64).toInt32).toInt8.toInt32), rv b30, .unset, .unset] [(.int ((p3.toInt32).toInt8.toInt32)), (.int (0 : Int32)), (.ref b30)])) rfl rfl (hb hby at_42)
    have ge34 : n0 ≤ b30 := Nat.le_trans (own_old O0) (Nat.le_of_eq g30.symm)
    have O33 := O30.wr W33 ge34
    have N33 := Fr.snoc X33 N0 ge34
    have va33 : Arv Z h33 b30 c30 .byte (1 : Int32) [(.int (((p3.toInt32).toInt8.toInt32).toInt8.toInt32))] (.int (0 : Int32)) := Arv.set Ar33 qc33 S33 M33 U33 G33 (fits_nar_byte _) W33 0 rfl (Nat.le_of_ble_eq_true rfl)
    have k35 : Way p e below S0 T33 (mkF m 43 #[iv p1, iv p2, .val (.long p3), .second, iv (1 : Int32), iv ((p3.toInt32).toInt8.toInt32), iv ((((p3.toUInt64 >>> ((8 : Int32) &&& 0x3f).toInt64.toUInt64).toInt64).toInt32).toInt8.toInt32), iv ((((p3.toUInt64 >>> ((16 : Int32) &&& 0x3f).toInt64.toUInt64).toInt64).toInt32).toInt8.toInt32), rv b30, .unset, .unset] []) := fun t k => k32 t (st33 _ k)
    have k36 : Way p e below S0 T33 (mkF m 70 #[iv p1, iv p2, .val (.long p3), .second, iv (1 : Int32), iv ((p3.toInt32).toInt8.toInt32), iv ((((p3.toUInt64 >>> ((8 : Int32) &&& 0x3f).toInt64.toUInt64).toInt64).toInt32).toInt8.toInt32), iv ((((p3.toUInt64 >>> ((16 : Int32) &&& 0x3f).toInt64.toUInt64).toInt64).toInt32).toInt8.toInt32), rv b30, .unset, .unset] [(.ref b30), (.int p1)]) := by
      intro t k
      refine k35 t ?_
      refine XS.iload X33.here hx rfl (hb hby at_43) rfl ?_
      show Steps p.tables e below (T33.setTop (mkF m 45 #[iv p1, iv p2, .val (.long p3), .second, iv (1 : Int32), iv ((p3.toInt32).toInt8.toInt32), iv ((((p3.toUInt64 >>> ((8 : Int32) &&& 0x3f).toInt64.toUInt64).toInt64).toInt32).toInt8.toInt32), iv ((((p3.toUInt64 >>> ((16 : Int32) &&& 0x3f).toInt64.toUInt64).toInt64).toInt32).toInt8.toInt32), rv b30, .unset, .unset] [(.int (1 : Int32))])) _
      refine XS.iconst X33.here hx rfl (hb hby at_45) ?_
      show Steps p.tables e below (T33.setTop (mkF m 46 #[iv p1, iv p2, .val (.long p3), .second, iv (1 : Int32), iv ((p3.toInt32).toInt8.toInt32), iv ((((p3.toUInt64 >>> ((8 : Int32) &&& 0x3f).toInt64.toUInt64).toInt64).toInt32).toInt8.toInt32), iv ((((p3.toUInt64 >>> ((16 : Int32) &&& 0x3f).toInt64.toUInt64).toInt64).toInt32).toInt8.toInt32), rv b30, .unset, .unset] [(.int (1 : Int32)), (.int (1 : Int32))])) _
      refine XS.icmpYes X33.here hx rfl (pc0 := 46) (pc' := 55) rfl (hb hby at_46) rfl (flt ((by decide) : ¬ ((1 : Int32) < (1 : Int32)))).2.2.2 (by decide) (by decide) ?_
      show Steps p.tables e below (T33.setTop (mkF m 55 #[iv p1, iv p2, .val (.long p3), .second, iv (1 : Int32), iv ((p3.toInt32).toInt8.toInt32), iv ((((p3.toUInt64 >>> ((8 : Int32) &&& 0x3f).toInt64.toUInt64).toInt64).toInt32).toInt8.toInt32), iv ((((p3.toUInt64 >>> ((16 : Int32) &&& 0x3f).toInt64.toUInt64).toInt64).toInt32).toInt8.toInt32), rv b30, .unset, .unset] [])) _
      refine XS.iload X33.here hx rfl (hb hby at_55) rfl ?_
      show Steps p.tables e below (T33.setTop (mkF m 57 #[iv p1, iv p2, .val (.long p3), .second, iv (1 : Int32), iv ((p3.toInt32).toInt8.toInt32), iv ((((p3.toUInt64 >>> ((8 : Int32) &&& 0x3f).toInt64.toUInt64).toInt64).toInt32).toInt8.toInt32), iv ((((p3.toUInt64 >>> ((16 : Int32) &&& 0x3f).toInt64.toUInt64).toInt64).toInt32).toInt8.toInt32), rv b30, .unset, .unset] [(.int (1 : Int32))])) _
      refine XS.iconst X33.here hx rfl (hb hby at_57) ?_
      show Steps p.tables e below (T33.setTop (mkF m 58 #[iv p1, iv p2, .val (.long p3), .second, iv (1 : Int32), iv ((p3.toInt32).toInt8.toInt32), iv ((((p3.toUInt64 >>> ((8 : Int32) &&& 0x3f).toInt64.toUInt64).toInt64).toInt32).toInt8.toInt32), iv ((((p3.toUInt64 >>> ((16 : Int32) &&& 0x3f).toInt64.toUInt64).toInt64).toInt32).toInt8.toInt32), rv b30, .unset, .unset] [(.int (2 : Int32)), (.int (1 : Int32))])) _
      refine XS.icmpYes X33.here hx rfl (pc0 := 58) (pc' := 67) rfl (hb hby at_58) rfl (flt ((by decide) : ¬ ((2 : Int32) < (1 : Int32)))).2.2.2 (by decide) (by decide) ?_
      show Steps p.tables e below (T33.setTop (mkF m 67 #[iv p1, iv p2, .val (.long p3), .second, iv (1 : Int32), iv ((p3.toInt32).toInt8.toInt32), iv ((((p3.toUInt64 >>> ((8 : Int32) &&& 0x3f).toInt64.toUInt64).toInt64).toInt32).toInt8.toInt32), iv ((((p3.toUInt64 >>> ((16 : Int32) &&& 0x3f).toInt64.toUInt64).toInt64).toInt32).toInt8.toInt32), rv b30, .unset, .unset] [])) _
      refine XS.iloadN X33.here hx rfl (hb hby at_67) rfl ?_
      show Steps p.tables e below (T33.setTop (mkF m 68 #[iv p1, iv p2, .val (.long p3), .second, iv (1 : Int32), iv ((p3.toInt32).toInt8.toInt32), iv ((((p3.toUInt64 >>> ((8 : Int32) &&& 0x3f).toInt64.toUInt64).toInt64).toInt32).toInt8.toInt32), iv ((((p3.toUInt64 >>> ((16 : Int32) &&& 0x3f).toInt64.toUInt64).toInt64).toInt32).toInt8.toInt32), rv b30, .unset, .unset] [(.int p1)])) _
      refine XS.aload X33.here hx rfl (hb hby at_68) rfl rfl ?_
      show Steps p.tables e below (T33.setTop (mkF m 70 #[iv p1, iv p2, .val (.long p3), .second, iv (1 : Int32), iv ((p3.toInt32).toInt8.toInt32), iv ((((p3.toUInt64 >>> ((8 : Int32) &&& 0x3f).toInt64.toUInt64).toInt64).toInt32).toInt8.toInt32), iv ((((p3.toUInt64 >>> ((16 : Int32) &&& 0x3f).toInt64.toUInt64).toInt64).toInt32).toInt8.toInt32), rv b30, .unset, .unset] [(.ref b30), (.int p1)])) _
      exact k
    have f37 : Exa Z h33 b30 "[B" := (B30.wr W33)
    obtain ⟨_, _, ⟨T38, L38, kk38, nn38⟩, -, X38, ⟨Lc38, hQ38, l38, y38, z38⟩, st38⟩ := Jvm.LawKit.callS X33 hx (y := (⟨"com/example/aspectwise/aspectwise/cmri/Packet", "transmit", "(I[B)Lcom/example/aspectwise/aspectwise/cmri/Packet;"⟩ : MethodName)) hown (mvT hZ (hw _ (List.mem_of_getElem? (i := 1) rfl))) (mvT hZ (hw _ (List.mem_of_getElem? (i := 2) rfl))) (mvT hZ (hw _ (List.mem_of_getElem? (i := 3) rfl))) (mvT hZ (hw _ (List.mem_of_getElem? (i := 4) rfl))) (by decide) (backOf (W := 0) (trans1 l Z a0 hw [] w_TRANSMIT G p1 b30 c30 (((p3.toInt32).toInt8.toInt32).toInt8.toInt32) h33 n0 O33 (f37 : Exa Z h33 b30 "[B") (va33 : Arv Z h33 b30 c30 .byte (1 : Int32) [(.int (((p3.toInt32).toInt8.toInt32).toInt8.toInt32))] (.int (0 : Int32)))) hZ (hw _ (List.mem_of_getElem? (i := 4) rfl)) (hw _ (List.mem_of_getElem? (i := 3) rfl)) (by decide) (by decide)) (g := (mkF m 70 #[iv p1, iv p2, .val (.long p3), .second, iv (1 : Int32), iv ((p3.toInt32).toInt8.toInt32), iv ((((p3.toUInt64 >>> ((8 : Int32) &&& 0x3f).toInt64.toUInt64).toInt64).toInt32).toInt8.toInt32), iv ((((p3.toUInt64 >>> ((16 : Int32) &&& 0x3f).toInt64.toUInt64).toInt64).toInt32).toInt8.toInt32), rv b30, .unset, .unset] [(.ref b30), (.int p1)])) rfl (by rw [hml]; rfl) (argsL := [(.int p1), (.ref b30)]) (rest := []) (lenOf pd_1 rfl) rfl (by show 2 * 0 + _ ≤ _; exact Nat.le_of_eq rfl) (hb hby at_70) (fun _ _ => ⟨rfl, e33, (by decide : 1 + 2 ≤ _), (by decide : 1 + 4 ≤ _)⟩)
    dsimp only [Pt.U, Pt.locs, Pt.cells, Pt.slots] at X38 l38 y38 z38 st38 hQ38
    subst l38 y38 z38
    obtain ⟨b1_38, d1_38, rfl, Nq38, Kq38, po38_0, po38_1, po38_2, po38_3, po38_4, po38_5, po38_6, po38_7⟩ := hQ38
    have N38 := Fr.app N33 Nq38
    have O38 := O33.keep Kq38 all0
    have k39 : Way p e below S0 T38 (mkF m 73 #[iv p1, iv p2, .val (.long p3), .second, iv (1 : Int32), iv ((p3.toInt32).toInt8.toInt32), iv ((((p3.toUInt64 >>> ((8 : Int32) &&& 0x3f).toInt64.toUInt64).toInt64).toInt32).toInt8.toInt32), iv ((((p3.toUInt64 >>> ((16 : Int32) &&& 0x3f).toInt64.toUInt64).toInt64).toInt32).toInt8.toInt32), rv b30, .unset, .unset] [(.ref b1_38)]) := fun t k => k36 t (st38 _ k)
    have k40 : Way p e below S0 T38 (mkF m 88 #[iv p1, iv p2, .val (.long p3), .second, iv (1 : Int32), iv ((p3.toInt32).toInt8.toInt32), iv ((((p3.toUInt64 >>> ((8 : Int32) &&& 0x3f).toInt64.toUInt64).toInt64).toInt32).toInt8.toInt32), iv ((((p3.toUInt64 >>> ((16 : Int32) &&& 0x3f).toInt64.toUInt64).toInt64).toInt32).toInt8.toInt32), rv b30, rv b1_38, .unset] [(.int ((((p3.toInt32).toInt8.toInt32) ^^^ (-1 : Int32)).toInt8.toInt32)), (.int (0 : Int32)), (.ref b30)]) := by
      intro t k
      refine k39 t ?_
      refine XS.astore X38.here hx rfl (hb hby at_73) rfl rfl (l' := #[iv p1, iv p2, .val (.long p3), .second, iv (1 : Int32), iv ((p3.toInt32).toInt8.toInt32), iv ((((p3.toUInt64 >>> ((8 : Int32) &&& 0x3f).toInt64.toUInt64).toInt64).toInt32).toInt8.toInt32), iv ((((p3.toUInt64 >>> ((16 : Int32) &&& 0x3f).toInt64.toUInt64).toInt64).toInt32).toInt8.toInt32), rv b30, rv b1_38, .unset]) rfl ?_
      show Steps p.tables e below (T38.setTop (mkF m 75 #[iv p1, iv p2, .val (.long p3), .second, iv (1 : Int32), iv ((p3.toInt32).toInt8.toInt32), iv ((((p3.toUInt64 >>> ((8 : Int32) &&& 0x3f).toInt64.toUInt64).toInt64).toInt32).toInt8.toInt32), iv ((((p3.toUInt64 >>> ((16 : Int32) &&& 0x3f).toInt64.toUInt64).toInt64).toInt32).toInt8.toInt32), rv b30, rv b1_38, .unset] [])) _
      refine XS.iload X38.here hx rfl (hb hby at_75) rfl ?_
      show Steps p.tables e below (T38.setTop (mkF m 77 #[iv p1, iv p2, .val (.long p3), .second, iv (1 : Int32), iv ((p3.toInt32).toInt8.toInt32), iv ((((p3.toUInt64 >>> ((8 : Int32) &&& 0x3f).toInt64.toUInt64).toInt64).toInt32).toInt8.toInt32), iv ((((p3.toUInt64 >>> ((16 : Int32) &&& 0x3f).toInt64.toUInt64).toInt64).toInt32).toInt8.toInt32), rv b30, rv b1_38, .unset] [(.int (1 : Int32))])) _
      refine XS.ifNo X38.here hx rfl (hb hby at_77) rfl ((if0 _ _).trans (tlt ((by decide) : (0 : Int32) < (1 : Int32))).2.2.2) ?_
      show Steps p.tables e below (T38.setTop (mkF m 80 #[iv p1, iv p2, .val (.long p3), .second, iv (1 : Int32), iv ((p3.toInt32).toInt8.toInt32), iv ((((p3.toUInt64 >>> ((8 : Int32) &&& 0x3f).toInt64.toUInt64).toInt64).toInt32).toInt8.toInt32), iv ((((p3.toUInt64 >>> ((16 : Int32) &&& 0x3f).toInt64.toUInt64).toInt64).toInt32).toInt8.toInt32), rv b30, rv b1_38, .unset] [])) _
      refine XS.aload X38.here hx rfl (hb hby at_80) rfl rfl ?_
      show Steps p.tables e below (T38.setTop (mkF m 82 #[iv p1, iv p2, .val (.long p3), .second, iv (1 : Int32), iv ((p3.toInt32).toInt8.toInt32), iv ((((p3.toUInt64 >>> ((8 : Int32) &&& 0x3f).toInt64.toUInt64).toInt64).toInt32).toInt8.toInt32), iv ((((p3.toUInt64 >>> ((16 : Int32) &&& 0x3f).toInt64.toUInt64).toInt64).toInt32).toInt8.toInt32), rv b30, rv b1_38, .unset] [(.ref b30)])) _
      refine XS.iconst X38.here hx rfl (hb hby at_82) ?_
      show Steps p.tables e below (T38.setTop (mkF m 83 #[iv p1, iv p2, .val (.long p3), .second, iv (1 : Int32), iv ((p3.toInt32).toInt8.toInt32), iv ((((p3.toUInt64 >>> ((8 : Int32) &&& 0x3f).toInt64.toUInt64).toInt64).toInt32).toInt8.toInt32), iv ((((p3.toUInt64 >>> ((16 : Int32) &&& 0x3f).toInt64.toUInt64).toInt64).toInt32).toInt8.toInt32), rv b30, rv b1_38, .unset] [(.int (0 : Int32)), (.ref b30)])) _
      refine XS.iload X38.here hx rfl (hb hby at_83) rfl ?_
      show Steps p.tables e below (T38.setTop (mkF m 85 #[iv p1, iv p2, .val (.long p3), .second, iv (1 : Int32), iv ((p3.toInt32).toInt8.toInt32), iv ((((p3.toUInt64 >>> ((8 : Int32) &&& 0x3f).toInt64.toUInt64).toInt64).toInt32).toInt8.toInt32), iv ((((p3.toUInt64 >>> ((16 : Int32) &&& 0x3f).toInt64.toUInt64).toInt64).toInt32).toInt8.toInt32), rv b30, rv b1_38, .unset] [(.int ((p3.toInt32).toInt8.toInt32)), (.int (0 : Int32)), (.ref b30)])) _
      refine XS.iconst X38.here hx rfl (hb hby at_85) ?_
      show Steps p.tables e below (T38.setTop (mkF m 86 #[iv p1, iv p2, .val (.long p3), .second, iv (1 : Int32), iv ((p3.toInt32).toInt8.toInt32), iv ((((p3.toUInt64 >>> ((8 : Int32) &&& 0x3f).toInt64.toUInt64).toInt64).toInt32).toInt8.toInt32), iv ((((p3.toUInt64 >>> ((16 : Int32) &&& 0x3f).toInt64.toUInt64).toInt64).toInt32).toInt8.toInt32), rv b30, rv b1_38, .unset] [(.int (-1 : Int32)), (.int ((p3.toInt32).toInt8.toInt32)), (.int (0 : Int32)), (.ref b30)])) _
      refine XS.ixor X38.here hx rfl (hb hby at_86) rfl ?_
      show Steps p.tables e below (T38.setTop (mkF m 87 #[iv p1, iv p2, .val (.long p3), .second, iv (1 : Int32), iv ((p3.toInt32).toInt8.toInt32), iv ((((p3.toUInt64 >>> ((8 : Int32) &&& 0x3f).toInt64.toUInt64).toInt64).toInt32).toInt8.toInt32), iv ((((p3.toUInt64 >>> ((16 : Int32) &&& 0x3f).toInt64.toUInt64).toInt64).toInt32).toInt8.toInt32), rv b30, rv b1_38, .unset] [(.int (((p3.toInt32).toInt8.toInt32) ^^^ (-1 : Int32))), (.int (0 : Int32)), (.ref b30)])) _
      refine XS.i2b X38.here hx rfl (hb hby at_87) rfl ?_
      show Steps p.tables e below (T38.setTop (mkF m 88 #[iv p1, iv p2, .val (.long p3), .second, iv (1 : Int32), iv ((p3.toInt32).toInt8.toInt32), iv ((((p3.toUInt64 >>> ((8 : Int32) &&& 0x3f).toInt64.toUInt64).toInt64).toInt32).toInt8.toInt32), iv ((((p3.toUInt64 >>> ((16 : Int32) &&& 0x3f).toInt64.toUInt64).toInt64).toInt32).toInt8.toInt32), rv b30, rv b1_38, .unset] [(.int ((((p3.toInt32).toInt8.toInt32) ^^^ (-1 : Int32)).toInt8.toInt32)), (.int (0 : Int32)), (.ref b30)])) _
      exact k
    have f41 : Arv Z T38.heap b30 c30 .byte (1 : Int32) [(.int (((p3.toInt32).toInt8.toInt32).toInt8.toInt32))] (.int (0 : Int32)) := (va33.keep Kq38 nin0)
    obtain ⟨cl42, Ar42, qc42, S42, M42, U42, G42⟩ := id (f41)
    have hin42 : ¬ ((0 : Int32) < 0 ∨ cl42.slots.size ≤ ((0 : Int32)).toNatClampNeg) := inb_of S42 ⟨by decide, by decide⟩
    obtain ⟨T42, h42, X42, e42, W42, st42⟩ := stB X38 hx hZ rfl Ar42 (j := (0 : Int32)) hin42 (g := (mkF m 88 #[iv p1, iv p2, .val (.long p3), .second, iv (1 : Int32), iv ((p3.toInt32).toInt8.toInt32), iv ((((p3.toUInt64 >>> ((8 : Int32) &&& 0x3f).toInt64.toUInt64).toInt64).toInt32).toInt8.toInt32), iv ((((p3.toUInt64 >>> ((16 : Int32) &&& 0x3f).toInt64.toUInt64).toInt64).toInt32).toInt8.toInt32), rv b30, rv b1_38, .unset] [(.int ((((p3.toInt32).toInt8.toInt32) ^^^ (-1 : Int32)).toInt8.toInt32)), (.int (0 : Int32)), (.ref b30)])) rfl rfl (hb hby at_88)
    have O42 := O38.wr W42 ge34
    have N42 := Fr.snoc X42 N38 ge34
    have va42 : Arv Z h42 b30 c30 .byte (1 : Int32) [(.int (((((p3.toInt32).toInt8.toInt32) ^^^ (-1 : Int32)).toInt8.toInt32).toInt8.toInt32))] (.int (0 : Int32)) := Arv.set Ar42 qc42 S42 M42 U42 G42 (fits_nar_byte _) W42 0 rfl (Nat.le_of_ble_eq_true rfl)
    have k43 : Way p e below S0 T42 (mkF m 89 #[iv p1, iv p2, .val (.long p3), .second, iv (1 : Int32), iv ((p3.toInt32).toInt8.toInt32), iv ((((p3.toUInt64 >>> ((8 : Int32) &&& 0x3f).toInt64.toUInt64).toInt64).toInt32).toInt8.toInt32), iv ((((p3.toUInt64 >>> ((16 : Int32) &&& 0x3f).toInt64.toUInt64).toInt64).toInt32).toInt8.toInt32), rv b30, rv b1_38, .unset] []) := fun t k => k40 t (st42 _ k)
    have k44 : Way p e below S0 T42 (mkF m 121 #[iv p1, iv p2, .val (.long p3), .second, iv (1 : Int32), iv ((p3.toInt32).toInt8.toInt32), iv ((((p3.toUInt64 >>> ((8 : Int32) &&& 0x3f).toInt64.toUInt64).toInt64).toInt32).toInt8.toInt32), iv ((((p3.toUInt64 >>> ((16 : Int32) &&& 0x3f).toInt64.toUInt64).toInt64).toInt32).toInt8.toInt32), rv b30, rv b1_38, .unset] [(.ref b1_38)]) := by
      intro t k
      refine k43 t ?_
      refine XS.iload X42.here hx rfl (hb hby at_89) rfl ?_
      show Steps p.tables e below (T42.setTop (mkF m 91 #[iv p1, iv p2, .val (.long p3), .second, iv (1 : Int32), iv ((p3.toInt32).toInt8.toInt32), iv ((((p3.toUInt64 >>> ((8 : Int32) &&& 0x3f).toInt64.toUInt64).toInt64).toInt32).toInt8.toInt32), iv ((((p3.toUInt64 >>> ((16 : Int32) &&& 0x3f).toInt64.toUInt64).toInt64).toInt32).toInt8.toInt32), rv b30, rv b1_38, .unset] [(.int (1 : Int32))])) _
      refine XS.iconst X42.here hx rfl (hb hby at_91) ?_
      show Steps p.tables e below (T42.setTop (mkF m 92 #[iv p1, iv p2, .val (.long p3), .second, iv (1 : Int32), iv ((p3.toInt32).toInt8.toInt32), iv ((((p3.toUInt64 >>> ((8 : Int32) &&& 0x3f).toInt64.toUInt64).toInt64).toInt32).toInt8.toInt32), iv ((((p3.toUInt64 >>> ((16 : Int32) &&& 0x3f).toInt64.toUInt64).toInt64).toInt32).toInt8.toInt32), rv b30, rv b1_38, .unset] [(.int (1 : Int32)), (.int (1 : Int32))])) _
      refine XS.icmpYes X42.here hx rfl (pc0 := 92) (pc' := 104) rfl (hb hby at_92) rfl (flt ((by decide) : ¬ ((1 : Int32) < (1 : Int32)))).2.2.2 (by decide) (by decide) ?_
      show Steps p.tables e below (T42.setTop (mkF m 104 #[iv p1, iv p2, .val (.long p3), .second, iv (1 : Int32), iv ((p3.toInt32).toInt8.toInt32), iv ((((p3.toUInt64 >>> ((8 : Int32) &&& 0x3f).toInt64.toUInt64).toInt64).toInt32).toInt8.toInt32), iv ((((p3.toUInt64 >>> ((16 : Int32) &&& 0x3f).toInt64.toUInt64).toInt64).toInt32).toInt8.toInt32), rv b30, rv b1_38, .unset] [])) _
      refine XS.iload X42.here hx rfl (hb hby at_104) rfl ?_
      show Steps p.tables e below (T42.setTop (mkF m 106 #[iv p1, iv p2, .val (.long p3), .second, iv (1 : Int32), iv ((p3.toInt32).toInt8.toInt32), iv ((((p3.toUInt64 >>> ((8 : Int32) &&& 0x3f).toInt64.toUInt64).toInt64).toInt32).toInt8.toInt32), iv ((((p3.toUInt64 >>> ((16 : Int32) &&& 0x3f).toInt64.toUInt64).toInt64).toInt32).toInt8.toInt32), rv b30, rv b1_38, .unset] [(.int (1 : Int32))])) _
      refine XS.iconst X42.here hx rfl (hb hby at_106) ?_
      show Steps p.tables e below (T42.setTop (mkF m 107 #[iv p1, iv p2, .val (.long p3), .second, iv (1 : Int32), iv ((p3.toInt32).toInt8.toInt32), iv ((((p3.toUInt64 >>> ((8 : Int32) &&& 0x3f).toInt64.toUInt64).toInt64).toInt32).toInt8.toInt32), iv ((((p3.toUInt64 >>> ((16 : Int32) &&& 0x3f).toInt64.toUInt64).toInt64).toInt32).toInt8.toInt32), rv b30, rv b1_38, .unset] [(.int (2 : Int32)), (.int (1 : Int32))])) _
      refine XS.icmpYes X42.here hx rfl (pc0 := 107) (pc' := 119) rfl (hb hby at_107) rfl (flt ((by decide) : ¬ ((2 : Int32) < (1 : Int32)))).2.2.2 (by decide) (by decide) ?_
      show Steps p.tables e below (T42.setTop (mkF m 119 #[iv p1, iv p2, .val (.long p3), .second, iv (1 : Int32), iv ((p3.toInt32).toInt8.toInt32), iv ((((p3.toUInt64 >>> ((8 : Int32) &&& 0x3f).toInt64.toUInt64).toInt64).toInt32).toInt8.toInt32), iv ((((p3.toUInt64 >>> ((16 : Int32) &&& 0x3f).toInt64.toUInt64).toInt64).toInt32).toInt8.toInt32), rv b30, rv b1_38, .unset] [])) _
      refine XS.aload X42.here hx rfl (hb hby at_119) rfl rfl ?_
      show Steps p.tables e below (T42.setTop (mkF m 121 #[iv p1, iv p2, .val (.long p3), .second, iv (1 : Int32), iv ((p3.toInt32).toInt8.toInt32), iv ((((p3.toUInt64 >>> ((8 : Int32) &&& 0x3f).toInt64.toUInt64).toInt64).toInt32).toInt8.toInt32), iv ((((p3.toUInt64 >>> ((16 : Int32) &&& 0x3f).toInt64.toUInt64).toInt64).toInt32).toInt8.toInt32), rv b30, rv b1_38, .unset] [(.ref b1_38)])) _
      exact k
    have f45 : Fld Z h42 b1_38 "com/example/aspectwise/aspectwise/cmri/Packet" "data" "[B" (.ref d1_38) := (po38_5.other W42 (Or.inl (Ne.symm (Nat.ne_of_lt (Nat.lt_of_lt_of_le f37.lt po38_0)))))
    have f46 : Exa Z h42 d1_38 "[B" := (po38_6.wr W42)
    have f47 : Arv Z h42 d1_38 c30 .byte (1 : Int32) [(.int (((p3.toInt32).toInt8.toInt32).toInt8.toInt32))] (.int (0 : Int32)) := (po38_7.other W42 (Ne.symm (Nat.ne_of_lt (Nat.lt_of_lt_of_le f37.lt po38_1))))
    have f49 : Exa Z h42 b1_38 "com/example/aspectwise/aspectwise/cmri/Packet" := (po38_2.wr W42)
    obtain ⟨cq48, kq48, qq48a, qq48b, qq48c⟩ := isOf hZ e42 f49
    obtain ⟨_, _, ⟨T48, L48, kk48, nn48⟩, -, X48, ⟨Lc48, hQ48, l48, y48, z48⟩, st48⟩ := X42.virtualBack hx (y := (⟨"com/example/aspectwise/aspectwise/cmri/Packet", "data", "()[B"⟩ : MethodName)) (z := (⟨"com/example/aspectwise/aspectwise/cmri/Packet", "data", "()[B"⟩ : MethodName)) hown (mvT hZ (hw _ (List.mem_of_getElem? (i := 31) rfl))) (mvT hZ (hw _ (List.mem_of_getElem? (i := 32) rfl))) (notFace_of_selects (args := #[]) (mvT hZ (hw _ (List.mem_of_getElem? (i := 34) rfl)))) (mvT hZ (hw _ (List.mem_of_getElem? (i := 34) rfl))) (mvT hZ (hw _ (List.mem_of_getElem? (i := 33) rfl))) (by decide) (backOf (W := 0) (data1 l Z a0 hw [] w_TRANSMIT G b1_38 d1_38 c30 (((p3.toInt32).toInt8.toInt32).toInt8.toInt32) h42 n0 O42 (f45 : Fld Z h42 b1_38 "com/example/aspectwise/aspectwise/cmri/Packet" "data" "[B" (.ref d1_38)) (f46 : Exa Z h42 d1_38 "[B") (f47 : Arv Z h42 d1_38 c30 .byte (1 : Int32) [(.int (((p3.toInt32).toInt8.toInt32).toInt8.toInt32))] (.int (0 : Int32)))) hZ (hw _ (List.mem_of_getElem? (i := 35) rfl)) (hw _ (List.mem_of_getElem? (i := 3) rfl)) (by decide) (by decide)) qq48a qq48c (g := (mkF m 121 #[iv p1, iv p2, .val (.long p3), .second, iv (1 : Int32), iv ((p3.toInt32).toInt8.toInt32), iv ((((p3.toUInt64 >>> ((8 : Int32) &&& 0x3f).toInt64.toUInt64).toInt64).toInt32).toInt8.toInt32), iv ((((p3.toUInt64 >>> ((16 : Int32) &&& 0x3f).toInt64.toUInt64).toInt64).toInt32).toInt8.toInt32), rv b30, rv b1_38, .unset] [(.ref b1_38)])) rfl (by rw [hml]; rfl) (Steps.refl _) (argsL := []) (rest := []) (lenOf pd_2 rfl) rfl (by show 2 * 0 + _ ≤ _; exact Nat.le_of_eq rfl) (hb hby at_121) (fun _ _ => ⟨rfl, e42, (by decide : 3 + 1 ≤ _), (by decide : 5 + 1 ≤ _)⟩)
    dsimp only [Pt.U, Pt.locs, Pt.cells, Pt.slots] at X48 l48 y48 z48 st48 hQ48
    subst l48 y48 z48
    obtain ⟨d1_48, rfl, Nq48, Kq48, po48_0, po48_1, po48_2⟩ := hQ48
    have N48 := Fr.app N42 Nq48
    have O48 := O42.keep Kq48 all0
    have k50 : Way p e below S0 T48 (mkF m 124 #[iv p1, iv p2, .val (.long p3), .second, iv (1 : Int32), iv ((p3.toInt32).toInt8.toInt32), iv ((((p3.toUInt64 >>> ((8 : Int32) &&& 0x3f).toInt64.toUInt64).toInt64).toInt32).toInt8.toInt32), iv ((((p3.toUInt64 >>> ((16 : Int32) &&& 0x3f).toInt64.toUInt64).toInt64).toInt32).toInt8.toInt32), rv b30, rv b1_38, .unset] [(.ref d1_48)]) := fun t k => k44 t (st48.trans k)
    have k51 : Way p e below S0 T48 (mkF m 128 #[iv p1, iv p2, .val (.long p3), .second, iv (1 : Int32), iv ((p3.toInt32).toInt8.toInt32), iv ((((p3.toUInt64 >>> ((8 : Int32) &&& 0x3f).toInt64.toUInt64).toInt64).toInt32).toInt8.toInt32), iv ((((p3.toUInt64 >>> ((16 : Int32) &&& 0x3f).toInt64.toUInt64).toInt64).toInt32).toInt8.toInt32), rv b30, rv b1_38, rv d1_48] [(.ref b1_38)]) := by
      intro t k
      refine k50 t ?_
      refine XS.astore X48.here hx rfl (hb hby at_124) rfl rfl (l' := #[iv p1, iv p2, .val (.long p3), .second, iv (1 : Int32), iv ((p3.toInt32).toInt8.toInt32), iv ((((p3.toUInt64 >>> ((8 : Int32) &&& 0x3f).toInt64.toUInt64).toInt64).toInt32).toInt8.toInt32), iv ((((p3.toUInt64 >>> ((16 : Int32) &&& 0x3f).toInt64.toUInt64).toInt64).toInt32).toInt8.toInt32), rv b30, rv b1_38, rv d1_48]) rfl ?_
      show Steps p.tables e below (T48.setTop (mkF m 126 #[iv p1, iv p2, .val (.long p3), .second, iv (1 : Int32), iv ((p3.toInt32).toInt8.toInt32), iv ((((p3.toUInt64 >>> ((8 : Int32) &&& 0x3f).toInt64.toUInt64).toInt64).toInt32).toInt8.toInt32), iv ((((p3.toUInt64 >>> ((16 : Int32) &&& 0x3f).toInt64.toUInt64).toInt64).toInt32).toInt8.toInt32), rv b30, rv b1_38, rv d1_48] [])) _
      refine XS.aload X48.here hx rfl (hb hby at_126) rfl rfl ?_
      show Steps p.tables e below (T48.setTop (mkF m 128 #[iv p1, iv p2, .val (.long p3), .second, iv (1 : Int32), iv ((p3.toInt32).toInt8.toInt32), iv ((((p3.toUInt64 >>> ((8 : Int32) &&& 0x3f).toInt64.toUInt64).toInt64).toInt32).toInt8.toInt32), iv ((((p3.toUInt64 >>> ((16 : Int32) &&& 0x3f).toInt64.toUInt64).toInt64).toInt32).toInt8.toInt32), rv b30, rv b1_38, rv d1_48] [(.ref b1_38)])) _
      exact k
    have f52 : Fld Z T48.heap b1_38 "com/example/aspectwise/aspectwise/cmri/Packet" "address" "I" (.int p1) := ((po38_3.other W42 (Or.inl (Ne.symm (Nat.ne_of_lt (Nat.lt_of_lt_of_le f37.lt po38_0))))).keep Kq48 nin0)
    have f54 : Exa Z T48.heap b1_38 "com/example/aspectwise/aspectwise/cmri/Packet" := (f49.keep Kq48)
    obtain ⟨cq53, kq53, qq53a, qq53b, qq53c⟩ := isOf hZ rfl f54
    obtain ⟨_, _, ⟨T53, L53, kk53, nn53⟩, -, X53, ⟨Lc53, hQ53, l53, y53, z53⟩, st53⟩ := X48.virtualBack hx (y := (⟨"com/example/aspectwise/aspectwise/cmri/Packet", "address", "()I"⟩ : MethodName)) (z := (⟨"com/example/aspectwise/aspectwise/cmri/Packet", "address", "()I"⟩ : MethodName)) hown (mvT hZ (hw _ (List.mem_of_getElem? (i := 36) rfl))) (mvT hZ (hw _ (List.mem_of_getElem? (i := 37) rfl))) (notFace_of_selects (args := #[]) (mvT hZ (hw _ (List.mem_of_getElem? (i := 39) rfl)))) (mvT hZ (hw _ (List.mem_of_getElem? (i := 39) rfl))) (mvT hZ (hw _ (List.mem_of_getElem? (i := 38) rfl))) (by decide) (backOf (W := 0) (adr l Z a0 hw [] w_TRANSMIT G b1_38 p1 T48.heap n0 O48 (f52 : Fld Z T48.heap b1_38 "com/example/aspectwise/aspectwise/cmri/Packet" "address" "I" (.int p1))) hZ (hw _ (List.mem_of_getElem? (i := 40) rfl)) (hw _ (List.mem_of_getElem? (i := 3) rfl)) (by decide) (by decide)) qq53a qq53c (g := (mkF m 128 #[iv p1, iv p2, .val (.long p3), .second, iv (1 : Int32), iv ((p3.toInt32).toInt8.toInt32), iv ((((p3.toUInt64 >>> ((8 : Int32) &&& 0x3f).toInt64.toUInt64).toInt64).toInt32).toInt8.toInt32), iv ((((p3.toUInt64 >>> ((16 : Int32) &&& 0x3f).toInt64.toUInt64).toInt64).toInt32).toInt8.toInt32), rv b30, rv b1_38, rv d1_48] [(.ref b1_38)])) rfl (by rw [hml]; rfl) (Steps.refl _) (argsL := []) (rest := []) (lenOf pd_3 rfl) rfl (by show 2 * 0 + _ ≤ _; exact Nat.le_of_eq rfl) (hb hby at_128) (fun _ _ => ⟨rfl, rfl, (by decide : 4 + 0 ≤ _), (by decide : 6 + 0 ≤ _)⟩)
    dsimp only [Pt.U, Pt.locs, Pt.cells, Pt.slots] at X53 l53 y53 z53 st53 hQ53
    subst l53 y53 z53
    obtain ⟨rfl, Nq53, e53⟩ := hQ53
    have N53 := Fr.app N48 Nq53
    have k55 : Way p e below S0 T53 (mkF m 131 #[iv p1, iv p2, .val (.long p3), .second, iv (1 : Int32), iv ((p3.toInt32).toInt8.toInt32), iv ((((p3.toUInt64 >>> ((8 : Int32) &&& 0x3f).toInt64.toUInt64).toInt64).toInt32).toInt8.toInt32), iv ((((p3.toUInt64 >>> ((16 : Int32) &&& 0x3f).toInt64.toUInt64).toInt64).toInt32).toInt8.toInt32), rv b30, rv b1_38, rv d1_48] [(.int p1)]) := fun t k => k51 t (st53.trans k)
    have k56 : Way p e below S0 T53 (mkF m 139 #[iv p1, iv p2, .val (.long p3), .second, iv (1 : Int32), iv ((p3.toInt32).toInt8.toInt32), iv ((((p3.toUInt64 >>> ((8 : Int32) &&& 0x3f).toInt64.toUInt64).toInt64).toInt32).toInt8.toInt32), iv ((((p3.toUInt64 >>> ((16 : Int32) &&& 0x3f).toInt64.toUInt64).toInt64).toInt32).toInt8.toInt32), rv b30, rv b1_38, rv d1_48] [(.ref b1_38)]) := by
      intro t k
      refine k55 t ?_
      refine XS.iloadN X53.here hx rfl (hb hby at_131) rfl ?_
      show Steps p.tables e below (T53.setTop (mkF m 132 #[iv p1, iv p2, .val (.long p3), .second, iv (1 : Int32), iv ((p3.toInt32).toInt8.toInt32), iv ((((p3.toUInt64 >>> ((8 : Int32) &&& 0x3f).toInt64.toUInt64).toInt64).toInt32).toInt8.toInt32), iv ((((p3.toUInt64 >>> ((16 : Int32) &&& 0x3f).toInt64.toUInt64).toInt64).toInt32).toInt8.toInt32), rv b30, rv b1_38, rv d1_48] [(.int p1), (.int p1)])) _
      refine XS.icmpYes X53.here hx rfl (pc0 := 132) (pc' := 137) rfl (hb hby at_132) rfl (teq (rfl : p1 = p1)).1 (by decide) (by decide) ?_
      show Steps p.tables e below (T53.setTop (mkF m 137 #[iv p1, iv p2, .val (.long p3), .second, iv (1 : Int32), iv ((p3.toInt32).toInt8.toInt32), iv ((((p3.toUInt64 >>> ((8 : Int32) &&& 0x3f).toInt64.toUInt64).toInt64).toInt32).toInt8.toInt32), iv ((((p3.toUInt64 >>> ((16 : Int32) &&& 0x3f).toInt64.toUInt64).toInt64).toInt32).toInt8.toInt32), rv b30, rv b1_38, rv d1_48] [])) _
      refine XS.aload X53.here hx rfl (hb hby at_137) rfl rfl ?_
      show Steps p.tables e below (T53.setTop (mkF m 139 #[iv p1, iv p2, .val (.long p3), .second, iv (1 : Int32), iv ((p3.toInt32).toInt8.toInt32), iv ((((p3.toUInt64 >>> ((8 : Int32) &&& 0x3f).toInt64.toUInt64).toInt64).toInt32).toInt8.toInt32), iv ((((p3.toUInt64 >>> ((16 : Int32) &&& 0x3f).toInt64.toUInt64).toInt64).toInt32).toInt8.toInt32), rv b30, rv b1_38, rv d1_48] [(.ref b1_38)])) _
      exact k
    have f57 : Fld Z T48.heap b1_38 "com/example/aspectwise/aspectwise/cmri/Packet" "type" "Lcom/example/aspectwise/aspectwise/cmri/Packet$Type;" (.ref w_TRANSMIT) := ((po38_4.other W42 (Or.inl (Ne.symm (Nat.ne_of_lt (Nat.lt_of_lt_of_le f37.lt po38_0))))).keep Kq48 nin0)
    obtain ⟨cq58, kq58, qq58a, qq58b, qq58c⟩ := isOf hZ e53 f54
    obtain ⟨_, _, ⟨T58, L58, kk58, nn58⟩, -, X58, ⟨Lc58, hQ58, l58, y58, z58⟩, st58⟩ := X53.virtualBack hx (y := (⟨"com/example/aspectwise/aspectwise/cmri/Packet", "type", "()Lcom/example/aspectwise/aspectwise/cmri/Packet$Type;"⟩ : MethodName)) (z := (⟨"com/example/aspectwise/aspectwise/cmri/Packet", "type", "()Lcom/example/aspectwise/aspectwise/cmri/Packet$Type;"⟩ : MethodName)) hown (mvT hZ (hw _ (List.mem_of_getElem? (i := 41) rfl))) (mvT hZ (hw _ (List.mem_of_getElem? (i := 42) rfl))) (notFace_of_selects (args := #[]) (mvT hZ (hw _ (List.mem_of_getElem? (i := 44) rfl)))) (mvT hZ (hw _ (List.mem_of_getElem? (i := 44) rfl))) (mvT hZ (hw _ (List.mem_of_getElem? (i := 43) rfl))) (by decide) (backOf (W := 0) (typ l Z a0 hw [] w_TRANSMIT G b1_38 w_TRANSMIT T48.heap n0 O48 (f57 : Fld Z T48.heap b1_38 "com/example/aspectwise/aspectwise/cmri/Packet" "type" "Lcom/example/aspectwise/aspectwise/cmri/Packet$Type;" (.ref w_TRANSMIT))) hZ (hw _ (List.mem_of_getElem? (i := 45) rfl)) (hw _ (List.mem_of_getElem? (i := 3) rfl)) (by decide) (by decide)) qq58a qq58c (g := (mkF m 139 #[iv p1, iv p2, .val (.long p3), .second, iv (1 : Int32), iv ((p3.toInt32).toInt8.toInt32), iv ((((p3.toUInt64 >>> ((8 : Int32) &&& 0x3f).toInt64.toUInt64).toInt64).toInt32).toInt8.toInt32), iv ((((p3.toUInt64 >>> ((16 : Int32) &&& 0x3f).toInt64.toUInt64).toInt64).toInt32).toInt8.toInt32), rv b30, rv b1_38, rv d1_48] [(.ref b1_38)])) rfl (by rw [hml]; rfl) (Steps.refl _) (argsL := []) (rest := []) (lenOf pd_4 rfl) rfl (by show 2 * 0 + _ ≤ _; exact Nat.le_of_eq rfl) (hb hby at_139) (fun _ _ => ⟨rfl, e53, (by decide : 4 + 0 ≤ _), (by decide : 6 + 0 ≤ _)⟩)
    dsimp only [Pt.U, Pt.locs, Pt.cells, Pt.slots] at X58 l58 y58 z58 st58 hQ58
    subst l58 y58 z58
    obtain ⟨rfl, Nq58, e58⟩ := hQ58
    have N58 := Fr.app N53 Nq58
    have k59 : Way p e below S0 T58 (mkF m 142 #[iv p1, iv p2, .val (.long p3), .second, iv (1 : Int32), iv ((p3.toInt32).toInt8.toInt32), iv ((((p3.toUInt64 >>> ((8 : Int32) &&& 0x3f).toInt64.toUInt64).toInt64).toInt32).toInt8.toInt32), iv ((((p3.toUInt64 >>> ((16 : Int32) &&& 0x3f).toInt64.toUInt64).toInt64).toInt32).toInt8.toInt32), rv b30, rv b1_38, rv d1_48] [(.ref w_TRANSMIT)]) := fun t k => k56 t (st58.trans k)
    obtain ⟨T60, X60, e60, st60⟩ := getS2 X58 hx hZ hown (host := "") (Or.inl (hw _ (List.mem_of_getElem? (i := 46) rfl))) Via.refl e58 (S_w_TRANSMIT.ext O48.2) (g := (mkF m 142 #[iv p1, iv p2, .val (.long p3), .second, iv (1 : Int32), iv ((p3.toInt32).toInt8.toInt32), iv ((((p3.toUInt64 >>> ((8 : Int32) &&& 0x3f).toInt64.toUInt64).toInt64).toInt32).toInt8.toInt32), iv ((((p3.toUInt64 >>> ((16 : Int32) &&& 0x3f).toInt64.toUInt64).toInt64).toInt32).toInt8.toInt32), rv b30, rv b1_38, rv d1_48] [(.ref w_TRANSMIT)])) rfl (hb hby at_142)
    have k61 : Way p e below S0 T60 (mkF m 145 #[iv p1, iv p2, .val (.long p3), .second, iv (1 : Int32), iv ((p3.toInt32).toInt8.toInt32), iv ((((p3.toUInt64 >>> ((8 : Int32) &&& 0x3f).toInt64.toUInt64).toInt64).toInt32).toInt8.toInt32), iv ((((p3.toUInt64 >>> ((16 : Int32) &&& 0x3f).toInt64.toUInt64).toInt64).toInt32).toInt8.toInt32), rv b30, rv b1_38, rv d1_48] [(.ref w_TRANSMIT), (.ref w_TRANSMIT)]) := fun t k => k59 t (st60 _ k)
    have k62 : Way p e below S0 T60 (mkF m 152 #[iv p1, iv p2, .val (.long p3), .second, iv (1 : Int32), iv ((p3.toInt32).toInt8.toInt32), iv ((((p3.toUInt64 >>> ((8 : Int32) &&& 0x3f).toInt64.toUInt64).toInt64).toInt32).toInt8.toInt32), iv ((((p3.toUInt64 >>> ((16 : Int32) &&& 0x3f).toInt64.toUInt64).toInt64).toInt32).toInt8.toInt32), rv b30, rv b1_38, rv d1_48] [(.ref d1_48)]) := by
      intro t k
      refine k61 t ?_
      refine Jvm.RoadKit.acmp (g := (mkF m 145 #[iv p1, iv p2, .val (.long p3), .second, iv (1 : Int32), iv ((p3.toInt32).toInt8.toInt32), iv ((((p3.toUInt64 >>> ((8 : Int32) &&& 0x3f).toInt64.toUInt64).toInt64).toInt32).toInt8.toInt32), iv ((((p3.toUInt64 >>> ((16 : Int32) &&& 0x3f).toInt64.toUInt64).toInt64).toInt32).toInt8.toInt32), rv b30, rv b1_38, rv d1_48] [(.ref w_TRANSMIT), (.ref w_TRANSMIT)])) X60 hx rfl rfl rfl (pc0 := 145) (pc' := 150) (same := true) rfl (hb hby at_145) rfl (decide_eq_true rfl) (by decide) (by decide) ?_
      show Steps p.tables e below (T60.setTop (mkF m 150 #[iv p1, iv p2, .val (.long p3), .second, iv (1 : Int32), iv ((p3.toInt32).toInt8.toInt32), iv ((((p3.toUInt64 >>> ((8 : Int32) &&& 0x3f).toInt64.toUInt64).toInt64).toInt32).toInt8.toInt32), iv ((((p3.toUInt64 >>> ((16 : Int32) &&& 0x3f).toInt64.toUInt64).toInt64).toInt32).toInt8.toInt32), rv b30, rv b1_38, rv d1_48] [])) _
      refine XS.aload X60.here hx rfl (hb hby at_150) rfl rfl ?_
      show Steps p.tables e below (T60.setTop (mkF m 152 #[iv p1, iv p2, .val (.long p3), .second, iv (1 : Int32), iv ((p3.toInt32).toInt8.toInt32), iv ((((p3.toUInt64 >>> ((8 : Int32) &&& 0x3f).toInt64.toUInt64).toInt64).toInt32).toInt8.toInt32), iv ((((p3.toUInt64 >>> ((16 : Int32) &&& 0x3f).toInt64.toUInt64).toInt64).toInt32).toInt8.toInt32), rv b30, rv b1_38, rv d1_48] [(.ref d1_48)])) _
      exact k
    obtain ⟨cl63, Ar63, -, S63, M63, -, -⟩ := id (po48_2)
    have k64 : Way p e below S0 T60 (mkF m 153 #[iv p1, iv p2, .val (.long p3), .second, iv (1 : Int32), iv ((p3.toInt32).toInt8.toInt32), iv ((((p3.toUInt64 >>> ((8 : Int32) &&& 0x3f).toInt64.toUInt64).toInt64).toInt32).toInt8.toInt32), iv ((((p3.toUInt64 >>> ((16 : Int32) &&& 0x3f).toInt64.toUInt64).toInt64).toInt32).toInt8.toInt32), rv b30, rv b1_38, rv d1_48] [(.int (1 : Int32))]) := fun t k => k62 t (X60.arraylength hx (by rw [e60]; exact Ar63.1) (State.isArrayOf_alike hZ.alike Ar63.2.1) (g := (mkF m 152 #[iv p1, iv p2, .val (.long p3), .second, iv (1 : Int32), iv ((p3.toInt32).toInt8.toInt32), iv ((((p3.toUInt64 >>> ((8 : Int32) &&& 0x3f).toInt64.toUInt64).toInt64).toInt32).toInt8.toInt32), iv ((((p3.toUInt64 >>> ((16 : Int32) &&& 0x3f).toInt64.toUInt64).toInt64).toInt32).toInt8.toInt32), rv b30, rv b1_38, rv d1_48] [(.ref d1_48)])) rfl rfl (hb hby at_152) _ (by rw [len_of S63 M63]; exact k))
    have k65 : Way p e below S0 T60 (mkF m 168 #[iv p1, iv p2, .val (.long p3), .second, iv (1 : Int32), iv ((p3.toInt32).toInt8.toInt32), iv ((((p3.toUInt64 >>> ((8 : Int32) &&& 0x3f).toInt64.toUInt64).toInt64).toInt32).toInt8.toInt32), iv ((((p3.toUInt64 >>> ((16 : Int32) &&& 0x3f).toInt64.toUInt64).toInt64).toInt32).toInt8.toInt32), rv b30, rv b1_38, rv d1_48] [(.int (0 : Int32)), (.ref d1_48)]) := by
      intro t k
      refine k64 t ?_
      refine XS.iload X60.here hx rfl (hb hby at_153) rfl ?_
      show Steps p.tables e below (T60.setTop (mkF m 155 #[iv p1, iv p2, .val (.long p3), .second, iv (1 : Int32), iv ((p3.toInt32).toInt8.toInt32), iv ((((p3.toUInt64 >>> ((8 : Int32) &&& 0x3f).toInt64.toUInt64).toInt64).toInt32).toInt8.toInt32), iv ((((p3.toUInt64 >>> ((16 : Int32) &&& 0x3f).toInt64.toUInt64).toInt64).toInt32).toInt8.toInt32), rv b30, rv b1_38, rv d1_48] [(.int (1 : Int32)), (.int (1 : Int32))])) _
      refine XS.icmpYes X60.here hx rfl (pc0 := 155) (pc' := 160) rfl (hb hby at_155) rfl (teq ((by decide) : (1 : Int32) = (1 : Int32))).1 (by decide) (by decide) ?_
      show Steps p.tables e below (T60.setTop (mkF m 160 #[iv p1, iv p2, .val (.long p3), .second, iv (1 : Int32), iv ((p3.toInt32).toInt8.toInt32), iv ((((p3.toUInt64 >>> ((8 : Int32) &&& 0x3f).toInt64.toUInt64).toInt64).toInt32).toInt8.toInt32), iv ((((p3.toUInt64 >>> ((16 : Int32) &&& 0x3f).toInt64.toUInt64).toInt64).toInt32).toInt8.toInt32), rv b30, rv b1_38, rv d1_48] [])) _
      refine XS.iload X60.here hx rfl (hb hby at_160) rfl ?_
      show Steps p.tables e below (T60.setTop (mkF m 162 #[iv p1, iv p2, .val (.long p3), .second, iv (1 : Int32), iv ((p3.toInt32).toInt8.toInt32), iv ((((p3.toUInt64 >>> ((8 : Int32) &&& 0x3f).toInt64.toUInt64).toInt64).toInt32).toInt8.toInt32), iv ((((p3.toUInt64 >>> ((16 : Int32) &&& 0x3f).toInt64.toUInt64).toInt64).toInt32).toInt8.toInt32), rv b30, rv b1_38, rv d1_48] [(.int (1 : Int32))])) _
      refine XS.ifNo X60.here hx rfl (hb hby at_162) rfl ((if0 _ _).trans (tlt ((by decide) : (0 : Int32) < (1 : Int32))).2.2.2) ?_
      show Steps p.tables e below (T60.setTop (mkF m 165 #[iv p1, iv p2, .val (.long p3), .second, iv (1 : Int32), iv ((p3.toInt32).toInt8.toInt32), iv ((((p3.toUInt64 >>> ((8 : Int32) &&& 0x3f).toInt64.toUInt64).toInt64).toInt32).toInt8.toInt32), iv ((((p3.toUInt64 >>> ((16 : Int32) &&& 0x3f).toInt64.toUInt64).toInt64).toInt32).toInt8.toInt32), rv b30, rv b1_38, rv d1_48] [])) _
      refine XS.aload X60.here hx rfl (hb hby at_165) rfl rfl ?_
      show Steps p.tables e below (T60.setTop (mkF m 167 #[iv p1, iv p2, .val (.long p3), .second, iv (1 : Int32), iv ((p3.toInt32).toInt8.toInt32), iv ((((p3.toUInt64 >>> ((8 : Int32) &&& 0x3f).toInt64.toUInt64).toInt64).toInt32).toInt8.toInt32), iv ((((p3.toUInt64 >>> ((16 : Int32) &&& 0x3f).toInt64.toUInt64).toInt64).toInt32).toInt8.toInt32), rv b30, rv b1_38, rv d1_48] [(.ref d1_48)])) _
      refine XS.iconst X60.here hx rfl (hb hby at_167) ?_
      show Steps p.tables e below (T60.setTop (mkF m 168 #[iv p1, iv p2, .val (.long p3), .second, iv (1 : Int32), iv ((p3.toInt32).toInt8.toInt32), iv ((((p3.toUInt64 >>> ((8 : Int32) &&& 0x3f).toInt64.toUInt64).toInt64).toInt32).toInt8.toInt32), iv ((((p3.toUInt64 >>> ((16 : Int32) &&& 0x3f).toInt64.toUInt64).toInt64).toInt32).toInt8.toInt32), rv b30, rv b1_38, rv d1_48] [(.int (0 : Int32)), (.ref d1_48)])) _
      exact k
    obtain ⟨cl66, Ar66, qc66, S66, M66, U66, G66⟩ := id (po48_2)
    have hin66 : ¬ ((0 : Int32) < 0 ∨ cl66.slots.size ≤ ((0 : Int32)).toNatClampNeg) := inb_of S66 ⟨by decide, by decide⟩
    have hat66 : cl66.slots[((0 : Int32)).toNatClampNeg]? = some (.int (((p3.toInt32).toInt8.toInt32).toInt8.toInt32)) := Has.at U66 hin66 rfl
    have k67 : Way p e below S0 T60 (mkF m 169 #[iv p1, iv p2, .val (.long p3), .second, iv (1 : Int32), iv ((p3.toInt32).toInt8.toInt32), iv ((((p3.toUInt64 >>> ((8 : Int32) &&& 0x3f).toInt64.toUInt64).toInt64).toInt32).toInt8.toInt32), iv ((((p3.toUInt64 >>> ((16 : Int32) &&& 0x3f).toInt64.toUInt64).toInt64).toInt32).toInt8.toInt32), rv b30, rv b1_38, rv d1_48] [(.int (((p3.toInt32).toInt8.toInt32).toInt8.toInt32))]) := fun t k => k65 t (X60.baloadBytes hx (j := (0 : Int32)) (v := (.int (((p3.toInt32).toInt8.toInt32).toInt8.toInt32))) (by rw [e60]; exact Ar66.1) (State.isArrayOf_alike hZ.alike Ar66.2.1) Ar66.2.2 hin66 hat66 (g := (mkF m 168 #[iv p1, iv p2, .val (.long p3), .second, iv (1 : Int32), iv ((p3.toInt32).toInt8.toInt32), iv ((((p3.toUInt64 >>> ((8 : Int32) &&& 0x3f).toInt64.toUInt64).toInt64).toInt32).toInt8.toInt32), iv ((((p3.toUInt64 >>> ((16 : Int32) &&& 0x3f).toInt64.toUInt64).toInt64).toInt32).toInt8.toInt32), rv b30, rv b1_38, rv d1_48] [(.int (0 : Int32)), (.ref d1_48)])) rfl rfl (hb hby at_168) _ k)
    have k68 : Way p e below S0 T60 (mkF m 211 #[iv p1, iv p2, .val (.long p3), .second, iv (1 : Int32), iv ((p3.toInt32).toInt8.toInt32), iv ((((p3.toUInt64 >>> ((8 : Int32) &&& 0x3f).toInt64.toUInt64).toInt64).toInt32).toInt8.toInt32), iv ((((p3.toUInt64 >>> ((16 : Int32) &&& 0x3f).toInt64.toUInt64).toInt64).toInt32).toInt8.toInt32), rv b30, rv b1_38, rv d1_48] [(.int (1 : Int32))]) := by
      intro t k
      refine k67 t ?_
      refine XS.iload X60.here hx rfl (hb hby at_169) rfl ?_
      show Steps p.tables e below (T60.setTop (mkF m 171 #[iv p1, iv p2, .val (.long p3), .second, iv (1 : Int32), iv ((p3.toInt32).toInt8.toInt32), iv ((((p3.toUInt64 >>> ((8 : Int32) &&& 0x3f).toInt64.toUInt64).toInt64).toInt32).toInt8.toInt32), iv ((((p3.toUInt64 >>> ((16 : Int32) &&& 0x3f).toInt64.toUInt64).toInt64).toInt32).toInt8.toInt32), rv b30, rv b1_38, rv d1_48] [(.int ((p3.toInt32).toInt8.toInt32)), (.int (((p3.toInt32).toInt8.toInt32).toInt8.toInt32))])) _
      refine XS.icmpYes X60.here hx rfl (pc0 := 171) (pc' := 176) rfl (hb hby at_171) rfl (teq ((own_i2b _) : (((p3.toInt32).toInt8.toInt32).toInt8.toInt32) = ((p3.toInt32).toInt8.toInt32))).1 (by decide) (by decide) ?_
      show Steps p.tables e below (T60.setTop (mkF m 176 #[iv p1, iv p2, .val (.long p3), .second, iv (1 : Int32), iv ((p3.toInt32).toInt8.toInt32), iv ((((p3.toUInt64 >>> ((8 : Int32) &&& 0x3f).toInt64.toUInt64).toInt64).toInt32).toInt8.toInt32), iv ((((p3.toUInt64 >>> ((16 : Int32) &&& 0x3f).toInt64.toUInt64).toInt64).toInt32).toInt8.toInt32), rv b30, rv b1_38, rv d1_48] [])) _
      refine XS.iload X60.here hx rfl (hb hby at_176) rfl ?_
      show Steps p.tables e below (T60.setTop (mkF m 178 #[iv p1, iv p2, .val (.long p3), .second, iv (1 : Int32), iv ((p3.toInt32).toInt8.toInt32), iv ((((p3.toUInt64 >>> ((8 : Int32) &&& 0x3f).toInt64.toUInt64).toInt64).toInt32).toInt8.toInt32), iv ((((p3.toUInt64 >>> ((16 : Int32) &&& 0x3f).toInt64.toUInt64).toInt64).toInt32).toInt8.toInt32), rv b30, rv b1_38, rv d1_48] [(.int (1 : Int32))])) _
      refine XS.iconst X60.here hx rfl (hb hby at_178) ?_
      show Steps p.tables e below (T60.setTop (mkF m 179 #[iv p1, iv p2, .val (.long p3), .second, iv (1 : Int32), iv ((p3.toInt32).toInt8.toInt32), iv ((((p3.toUInt64 >>> ((8 : Int32) &&& 0x3f).toInt64.toUInt64).toInt64).toInt32).toInt8.toInt32), iv ((((p3.toUInt64 >>> ((16 : Int32) &&& 0x3f).toInt64.toUInt64).toInt64).toInt32).toInt8.toInt32), rv b30, rv b1_38, rv d1_48] [(.int (1 : Int32)), (.int (1 : Int32))])) _
      refine XS.icmpYes X60.here hx rfl (pc0 := 179) (pc' := 193) rfl (hb hby at_179) rfl (flt ((by decide) : ¬ ((1 : Int32) < (1 : Int32)))).2.2.2 (by decide) (by decide) ?_
      show Steps p.tables e below (T60.setTop (mkF m 193 #[iv p1, iv p2, .val (.long p3), .second, iv (1 : Int32), iv ((p3.toInt32).toInt8.toInt32), iv ((((p3.toUInt64 >>> ((8 : Int32) &&& 0x3f).toInt64.toUInt64).toInt64).toInt32).toInt8.toInt32), iv ((((p3.toUInt64 >>> ((16 : Int32) &&& 0x3f).toInt64.toUInt64).toInt64).toInt32).toInt8.toInt32), rv b30, rv b1_38, rv d1_48] [])) _
      refine XS.iload X60.here hx rfl (hb hby at_193) rfl ?_
      show Steps p.tables e below (T60.setTop (mkF m 195 #[iv p1, iv p2, .val (.long p3), .second, iv (1 : Int32), iv ((p3.toInt32).toInt8.toInt32), iv ((((p3.toUInt64 >>> ((8 : Int32) &&& 0x3f).toInt64.toUInt64).toInt64).toInt32).toInt8.toInt32), iv ((((p3.toUInt64 >>> ((16 : Int32) &&& 0x3f).toInt64.toUInt64).toInt64).toInt32).toInt8.toInt32), rv b30, rv b1_38, rv d1_48] [(.int (1 : Int32))])) _
      refine XS.iconst X60.here hx rfl (hb hby at_195) ?_
      show Steps p.tables e below (T60.setTop (mkF m 196 #[iv p1, iv p2, .val (.long p3), .second, iv (1 : Int32), iv ((p3.toInt32).toInt8.toInt32), iv ((((p3.toUInt64 >>> ((8 : Int32) &&& 0x3f).toInt64.toUInt64).toInt64).toInt32).toInt8.toInt32), iv ((((p3.toUInt64 >>> ((16 : Int32) &&& 0x3f).toInt64.toUInt64).toInt64).toInt32).toInt8.toInt32), rv b30, rv b1_38, rv d1_48] [(.int (2 : Int32)), (.int (1 : Int32))])) _
      refine XS.icmpYes X60.here hx rfl (pc0 := 196) (pc' := 210) rfl (hb hby at_196) rfl (flt ((by decide) : ¬ ((2 : Int32) < (1 : Int32)))).2.2.2 (by decide) (by decide) ?_
      show Steps p.tables e below (T60.setTop (mkF m 210 #[iv p1, iv p2, .val (.long p3), .second, iv (1 : Int32), iv ((p3.toInt32).toInt8.toInt32), iv ((((p3.toUInt64 >>> ((8 : Int32) &&& 0x3f).toInt64.toUInt64).toInt64).toInt32).toInt8.toInt32), iv ((((p3.toUInt64 >>> ((16 : Int32) &&& 0x3f).toInt64.toUInt64).toInt64).toInt32).toInt8.toInt32), rv b30, rv b1_38, rv d1_48] [])) _
      refine XS.iconst X60.here hx rfl (hb hby at_210) ?_
      show Steps p.tables e below (T60.setTop (mkF m 211 #[iv p1, iv p2, .val (.long p3), .second, iv (1 : Int32), iv ((p3.toInt32).toInt8.toInt32), iv ((((p3.toUInt64 >>> ((8 : Int32) &&& 0x3f).toInt64.toUInt64).toInt64).toInt32).toInt8.toInt32), iv ((((p3.toUInt64 >>> ((16 : Int32) &&& 0x3f).toInt64.toUInt64).toInt64).toInt32).toInt8.toInt32), rv b30, rv b1_38, rv d1_48] [(.int (1 : Int32))])) _
      exact k
    obtain ⟨fs, hr, hrun, hended, hW, hsame⟩ := X60.leave (v := some (.int (1 : Int32))) (fun h => by rw [Bd.returns] at h; cases h)
    refine ⟨_, _, k68 _ (retN X60 hx (t := .boolean) Bd.returns (by simp) (hb hby at_211) hr), hrun, hended, _, _, rfl, ?_, ⟨_, rfl⟩, hW, hsame.mono (by decide) (by decide)⟩
    show Q_law_met Z w_TRANSMIT p1 p2 p3 h0 n0 _ T60.heap _
    rw [e60]
    exact ⟨rfl, N58⟩
  · have k69 : Way p e below S0 s₁ (mkF m 5 #[iv p1, iv p2, .val (.long p3), .second, iv (2 : Int32), .unset, .unset, .unset, .unset, .unset, .unset] []) := by have q := k1; rw [hi2] at q; exact q
    have k70 : Way p e below S0 s₁ (mkF m 28 #[iv p1, iv p2, .val (.long p3), .second, iv (2 : Int32), iv ((p3.toInt32).toInt8.toInt32), iv ((((p3.toUInt64 >>> ((8 : Int32) &&& 0x3f).toInt64.toUInt64).toInt64).toInt32).toInt8.toInt32), iv ((((p3.toUInt64 >>> ((16 : Int32) &&& 0x3f).toInt64.toUInt64).toInt64).toInt32).toInt8.toInt32), .unset, .unset, .unset] [(.int (2 : Int32))]) := by
      intro t k
      refine k69 t ?_
      refine XS.lloadN X0.here hx rfl (hb hby at_5) rfl ?_
      show Steps p.tables e below (s₁.setTop (mkF m 6 #[iv p1, iv p2, .val (.long p3), .second, iv (2 : Int32), .unset, .unset, .unset, .unset, .unset, .unset] [(.long p3)])) _
      refine XS.l2i X0.here hx rfl (hb hby at_6) rfl ?_
      show Steps p.tables e below (s₁.setTop (mkF m 7 #[iv p1, iv p2, .val (.long p3), .second, iv (2 : Int32), .unset, .unset, .unset, .unset, .unset, .unset] [(.int (p3.toInt32))])) _
      refine XS.i2b X0.here hx rfl (hb hby at_7) rfl ?_
      show Steps p.tables e below (s₁.setTop (mkF m 8 #[iv p1, iv p2, .val (.long p3), .second, iv (2 : Int32), .unset, .unset, .unset, .unset, .unset, .unset] [(.int ((p3.toInt32).toInt8.toInt32))])) _
      refine XS.istore X0.here hx rfl (hb hby at_8) rfl (l' := #[iv p1, iv p2, .val (.long p3), .second, iv (2 : Int32), iv ((p3.toInt32).toInt8.toInt32), .unset, .unset, .unset, .unset, .unset]) rfl ?_
      show Steps p.tables e below (s₁.setTop (mkF m 10 #[iv p1, iv p2, .val (.long p3), .second, iv (2 : Int32), iv ((p3.toInt32).toInt8.toInt32), .unset, .unset, .unset, .unset, .unset] [])) _
      refine XS.lloadN X0.here hx rfl (hb hby at_10) rfl ?_
      show Steps p.tables e below (s₁.setTop (mkF m 11 #[iv p1, iv p2, .val (.long p3), .second, iv (2 : Int32), iv ((p3.toInt32).toInt8.toInt32), .unset, .unset, .unset, .unset, .unset] [(.long p3)])) _
      refine XS.bipush X0.here hx rfl (hb hby at_11) ?_
      show Steps p.tables e below (s₁.setTop (mkF m 13 #[iv p1, iv p2, .val (.long p3), .second, iv (2 : Int32), iv ((p3.toInt32).toInt8.toInt32), .unset, .unset, .unset, .unset, .unset] [(.int (8 : Int32)), (.long p3)])) _
      refine XS.lushr X0.here hx rfl (hb hby at_13) rfl ?_
      show Steps p.tables e below (s₁.setTop (mkF m 14 #[iv p1, iv p2, .val (.long p3), .second, iv (2 : Int32), iv ((p3.toInt32).toInt8.toInt32), .unset, .unset, .unset, .unset, .unset] [(.long ((p3.toUInt64 >>> ((8 : Int32) &&& 0x3f).toInt64.toUInt64).toInt64))])) _
      refine XS.l2i X0.here hx rfl (hb hby at_14) rfl ?_
      show Steps p.tables e below (s₁.setTop (mkF m 15 #[iv p1, iv p2, .val (.long p3), .second, iv (2 : Int32), iv ((p3.toInt32).toInt8.toInt32), .unset, .unset, .unset, .unset, .unset] [(.int (((p3.toUInt64 >>> ((8 : Int32) &&& 0x3f).toInt64.toUInt64).toInt64).toInt32))])) _
      refine XS.i2b X0.here hx rfl (hb hby at_15) rfl ?_
      show Steps p.tables e below (s₁.setTop (mkF m 16 #[iv p1, iv p2, .val (.long p3), .second, iv (2 : Int32), iv ((p3.toInt32).toInt8.toInt32), .unset, .unset, .unset, .unset, .unset] [(.int ((((p3.toUInt64 >>> ((8 : Int32) &&& 0x3f).toInt64.toUInt64).toInt64).toInt32).toInt8.toInt32))])) _
      refine XS.istore X0.here hx rfl (hb hby at_16) rfl (l' := #[iv p1, iv p2, .val (.long p3), .second, iv (2 : Int32), iv ((p3.toInt32).toInt8.toInt32), iv ((((p3.toUInt64 >>> ((8 : Int32) &&& 0x3f).toInt64.toUInt64).toInt64).toInt32).toInt8.toInt32), .unset, .unset, .unset, .unset]) rfl ?_
      show Steps p.tables e below (s₁.setTop (mkF m 18 #[iv p1, iv p2, .val (.long p3), .second, iv (2 : Int32), iv ((p3.toInt32).toInt8.toInt32), iv ((((p3.toUInt64 >>> ((8 : Int32) &&& 0x3f).toInt64.toUInt64).toInt64).toInt32).toInt8.toInt32), .unset, .unset, .unset, .unset] [])) _
      refine XS.lloadN X0.here hx rfl (hb hby at_18) rfl ?_
      show Steps p.tables e below (s₁.setTop (mkF m 19 #[iv p1, iv p2, .val (.long p3), .second, iv (2 : Int32), iv ((p3.toInt32).toInt8.toInt32), iv ((((p3.toUInt64 >>> ((8 : Int32) &&& 0x3f).toInt64.toUInt64).toInt64).toInt32).toInt8.toInt32), .unset, .unset, .unset, .unset] [(.long p3)])) _
      refine XS.bipush X0.here hx rfl (hb hby at_19) ?_
      show Steps p.tables e below (s₁.setTop (mkF m 21 #[iv p1, iv p2, .val (.long p3), .second, iv (2 : Int32), iv ((p3.toInt32).toInt8.toInt32), iv ((((p3.toUInt64 >>> ((8 : Int32) &&& 0x3f).toInt64.toUInt64).toInt64).toInt32).toInt8.toInt32), .unset, .unset, .unset, .unset] [(.int (16 : Int32)), (.long p3)])) _
      refine XS.lushr X0.here hx rfl (hb hby at_21) rfl ?_
      show Steps p.tables e below (s₁.setTop (mkF m 22 #[iv p1, iv p2, .val (.long p3), .second, iv (2 : Int32), iv ((p3.toInt32).toInt8.toInt32), iv ((((p3.toUInt64 >>> ((8 : Int32) &&& 0x3f).toInt64.toUInt64).toInt64).toInt32).toInt8.toInt32), .unset, .unset, .unset, .unset] [(.long ((p3.toUInt64 >>> ((16 : Int32) &&& 0x3f).toInt64.toUInt64).toInt64))])) _
      refine XS.l2i X0.here hx rfl (hb hby at_22) rfl ?_
      show Steps p.tables e below (s₁.setTop (mkF m 23 #[iv p1, iv p2, .val (.long p3), .second, iv (2 : Int32), iv ((p3.toInt32).toInt8.toInt32), iv ((((p3.toUInt64 >>> ((8 : Int32) &&& 0x3f).toInt64.toUInt64).toInt64).toInt32).toInt8.toInt32), .unset, .unset, .unset, .unset] [(.int (((p3.toUInt64 >>> ((16 : Int32) &&& 0x3f).toInt64.toUInt64).toInt64).toInt32))])) _
      refine XS.i2b X0.here hx rfl (hb hby at_23) rfl ?_
      show Steps p.tables e below (s₁.setTop (mkF m 24 #[iv p1, iv p2, .val (.long p3), .second, iv (2 : Int32), iv ((p3.toInt32).toInt8.toInt32), iv ((((p3.toUInt64 >>> ((8 : Int32) &&& 0x3f).toInt64.toUInt64).toInt64).toInt32).toInt8.toInt32), .unset, .unset, .unset, .unset] [(.int ((((p3.toUInt64 >>> ((16 : Int32) &&& 0x3f).toInt64.toUInt64).toInt64).toInt32).toInt8.toInt32))])) _
      refine XS.istore X0.here hx rfl (hb hby at_24) rfl (l' := #[iv p1, iv p2, .val (.long p3), .second, iv (2 : Int32), iv ((p3.toInt32).toInt8.toInt32), iv ((((p3.toUInt64 >>> ((8 : Int32) &&& 0x3f).toInt64.toUInt64).toInt64).toInt32).toInt8.toInt32), iv ((((p3.toUInt64 >>> ((16 : Int32) &&& 0x3f).toInt64.toUInt64).toInt64).toInt32).toInt8.toInt32), .unset, .unset, .unset]) rfl ?_
      show Steps p.tables e below (s₁.setTop (mkF m 26 #[iv p1, iv p2, .val (.long p3), .second, iv (2 : Int32), iv ((p3.toInt32).toInt8.toInt32), iv ((((p3.toUInt64 >>> ((8 : Int32) &&& 0x3f).toInt64.toUInt64).toInt64).toInt32).toInt8.toInt32), iv ((((p3.toUInt64 >>> ((16 : Int32) &&& 0x3f).toInt64.toUInt64).toInt64).toInt32).toInt8.toInt32), .unset, .unset, .unset] [])) _
      refine XS.iload X0.here hx rfl (hb hby at_26) rfl ?_
      show Steps p.tables e below (s₁.setTop (mkF m 28 #[iv p1, iv p2, .val (.long p3), .second, iv (2 : Int32), iv ((p3.toInt32).toInt8.toInt32), iv ((((p3.toUInt64 >>> ((8 : Int32) &&& 0x3f).toInt64.toUInt64).toInt64).toInt32).toInt8.toInt32), iv ((((p3.toUInt64 >>> ((16 : Int32) &&& 0x3f).toInt64.toUInt64).toInt64).toInt32).toInt8.toInt32), .unset, .unset, .unset] [(.int (2 : Int32))])) _
      exact k
    obtain ⟨T71, h71, c71, X71, e71, E71, A71, B71, st71⟩ := newPE X0 hx hZ (hw _ (List.mem_of_getElem? (i := 0) rfl)) e0 (g := (mkF m 28 #[iv p1, iv p2, .val (.long p3), .second, iv (2 : Int32), iv ((p3.toInt32).toInt8.toInt32), iv ((((p3.toUInt64 >>> ((8 : Int32) &&& 0x3f).toInt64.toUInt64).toInt64).toInt32).toInt8.toInt32), iv ((((p3.toUInt64 >>> ((16 : Int32) &&& 0x3f).toInt64.toUInt64).toInt64).toInt32).toInt8.toInt32), .unset, .unset, .unset] [(.int (2 : Int32))])) rfl (hb hby at_28) rfl (by decide) (cap := 2) (by decide) (by decide) (by decide) (by decide) (ad := "[B") (by decide)
    obtain ⟨b71, g71⟩ : ∃ z, z = h0.size := ⟨_, rfl⟩
    rw [← g71] at A71 B71 st71
    have O71 := O0.ext E71
    have v71 : Arv Z h71 b71 c71 .byte (2 : Int32) [(.int (0 : Int32)), (.int (0 : Int32))] (.int (0 : Int32)) := (Arv.new A71 (by decide)).pad (pad_rep [] (.int (0 : Int32)) 2)
    have k72 : Way p e below S0 T71 (mkF m 30 #[iv p1, iv p2, .val (.long p3), .second, iv (2 : Int32), iv ((p3.toInt32).toInt8.toInt32), iv ((((p3.toUInt64 >>> ((8 : Int32) &&& 0x3f).toInt64.toUInt64).toInt64).toInt32).toInt8.toInt32), iv ((((p3.toUInt64 >>> ((16 : Int32) &&& 0x3f).toInt64.toUInt64).toInt64).toInt32).toInt8.toInt32), .unset, .unset, .unset] [(.ref b71)]) := fun t k => k70 t (st71 _ k)
    have k73 : Way p e below S0 T71 (mkF m 42 #[iv p1, iv p2, .val (.long p3), .second, iv (2 : Int32), iv ((p3.toInt32).toInt8.toInt32), iv ((((p3.toUInt64 >>> ((8 : Int32) &&& 0x3f).toInt64.toUInt64).toInt64).toInt32).toInt8.toInt32), iv ((((p3.toUInt64 >>> ((16 : Int32) &&& 0x3f).toInt64.toUInt64).toInt64).toInt32).toInt8.toInt32), rv b71, .unset, .unset] [(.int ((p3.toInt32).toInt8.toInt32)), (.int (0 : Int32)), (.ref b71)]) := by
      intro t k
      refine k72 t ?_
      refine XS.astore X71.here hx rfl (hb hby at_30) rfl rfl (l' := #[iv p1, iv p2, .val (.long p3), .second, iv (2 : Int32), iv ((p3.toInt32).toInt8.toInt32), iv ((((p3.toUInt64 >>> ((8 : Int32) &&& 0x3f).toInt64.toUInt64).toInt64).toInt32).toInt8.toInt32), iv ((((p3.toUInt64 >>> ((16 : Int32) &&& 0x3f).toInt64.toUInt64).toInt64).toInt32).toInt8.toInt32), rv b71, .unset, .unset]) rfl ?_
      show Steps p.tables e below (T71.setTop (mkF m 32 #[iv p1, iv p2, .val (.long p3), .second, iv (2 : Int32), iv ((p3.toInt32).toInt8.toInt32), iv ((((p3.toUInt64 >>> ((8 : Int32) &&& 0x3f).toInt64.toUInt64).toInt64).toInt32).toInt8.toInt32), iv ((((p3.toUInt64 >>> ((16 : Int32) &&& 0x3f).toInt64.toUInt64).toInt64).toInt32).toInt8.toInt32), rv b71, .unset, .unset] [])) _
      refine XS.iload X71.here hx rfl (hb hby at_32) rfl ?_
      show Steps p.tables e below (T71.setTop (mkF m 34 #[iv p1, iv p2, .val (.long p3), .second, iv (2 : Int32), iv ((p3.toInt32).toInt8.toInt32), iv ((((p3.toUInt64 >>> ((8 : Int32) &&& 0x3f).toInt64.toUInt64).toInt64).toInt32).toInt8.toInt32), iv ((((p3.toUInt64 >>> ((16 : Int32) &&& 0x3f).toInt64.toUInt64).toInt64).toInt32).toInt8.toInt32), rv b71, .unset, .unset] [(.int (2 : Int32))])) _
      refine XS.ifNo X71.here hx rfl (hb hby at_34) rfl ((if0 _ _).trans (tlt ((by decide) : (0 : Int32) < (2 : Int32))).2.2.2) ?_
      show Steps p.tables e below (T71.setTop (mkF m 37 #[iv p1, iv p2, .val (.long p3), .second, iv (2 : Int32), iv ((p3.toInt32).toInt8.toInt32), iv ((((p3.toUInt64 >>> ((8 : Int32) &&& 0x3f).toInt64.toUInt64).toInt64).toInt32).toInt8.toInt32), iv ((((p3.toUInt64 >>> ((16 : Int32) &&& 0x3f).toInt64.toUInt64).toInt64).toInt32).toInt8.toInt32), rv b71, .unset, .unset] [])) _
      refine XS.aload X71.here hx rfl (hb hby at_37) rfl rfl ?_
      show Steps p.tables e below (T71.setTop (mkF m 39 #[iv p1, iv p2, .val (.long p3), .second, iv (2 : Int32), iv ((p3.toInt32).toInt8.toInt32), iv ((((p3.toUInt64 >>> ((8 : Int32) &&& 0x3f).toInt64.toUInt64).toInt64).toInt32).toInt8.toInt32), iv ((((p3.toUInt64 >>> ((16 : Int32) &&& 0x3f).toInt64.toUInt64).toInt64).toInt32).toInt8.toInt32), rv b71, .unset, .unset] [(.ref b71)])) _
      refine XS.iconst X71.here hx rfl (hb hby at_39) ?_
      show Steps p.tables e below (T71.setTop (mkF m 40 #[iv p1, iv p2, .val (.long p3), .second, iv (2 : Int32), iv ((p3.toInt32).toInt8.toInt32), iv ((((p3.toUInt64 >>> ((8 : Int32) &&& 0x3f).toInt64.toUInt64).toInt64).toInt32).toInt8.toInt32), iv ((((p3.toUInt64 >>> ((16 : Int32) &&& 0x3f).toInt64.toUInt64).toInt64).toInt32).toInt8.toInt32), rv b71, .unset, .unset] [(.int (0 : Int32)), (.ref b71)])) _
      refine XS.iload X71.here hx rfl (hb hby at_40) rfl ?_
      show Steps p.tables e below (T71.setTop (mkF m 42 #[iv p1, iv p2, .val (.long p3), .second, iv (2 : Int32), iv ((p3.toInt32).toInt8.toInt32), iv ((((p3.toUInt64 >>> ((8 : Int32) &&& 0x3f).toInt64.toUInt64).toInt64).toInt32).toInt8.toInt32), iv ((((p3.toUInt64 >>> ((16 : Int32) &&& 0x3f).toInt64.toUInt64).toInt64).toInt32).toInt8.toInt32), rv b71, .unset, .unset] [(.int ((p3.toInt32).toInt8.toInt32)), (.int (0 : Int32)), (.ref b71)])) _
      exact k
    obtain ⟨cl74, Ar74, qc74, S74, M74, U74, G74⟩ := id (v71)
    have hin74 : ¬ ((0 : Int32) < 0 ∨ cl74.slots.size ≤ ((0 : Int32)).toNatClampNeg) := inb_of S74 ⟨by decide, by decide⟩
    obtain ⟨T74, h74, X74, e74, W74, st74⟩ := stB X71 hx hZ e71 Ar74 (j := (0 : Int32)) hin74 (g := (mkF m 42 #[iv p1, iv p2, .val (.long p3), .second, iv (2 : Int32), iv ((p3.toInt32).toInt8.toInt32), iv ((((p3.toUInt64 >>> ((8 : Int32) &&& 0x3f).toInt64.toUInt64).toInt64).toInt32).toInt8.toInt32), iv ((((p3.toUInt64 >>> ((16 : Int32) &&& 0x3f).toInt64.toUInt64).toInt64).toInt32).toInt8.toInt32), rv b71, .unset, .unset] [(.int ((p3.toInt32).toInt8.toInt32)), (.int (0 : Int32)), (.ref b71)])) rfl rfl (hb hby at_42)
    have ge75 : n0 ≤ b71 := Nat.le_trans (own_old O0) (Nat.le_of_eq g71.symm)
    have O74 := O71.wr W74 ge75
    have N74 := Fr.snoc X74 N0 ge75
    have va74 : Arv Z h74 b71 c71 .byte (2 : Int32) [(.int (((p3.toInt32).toInt8.toInt32).toInt8.toInt32)), (.int (0 : Int32))] (.int (0 : Int32)) := Arv.set Ar74 qc74 S74 M74 U74 G74 (fits_nar_byte _) W74 0 rfl (Nat.le_of_ble_eq_true rfl)
    have k76 : Way p e below S0 T74 (mkF m 43 #[iv p1, iv p2, .val (.long p3), .second, iv (2 : Int32), iv ((p3.toInt32).toInt8.toInt32), iv ((((p3.toUInt64 >>> ((8 : Int32) &&& 0x3f).toInt64.toUInt64).toInt64).toInt32).toInt8.toInt32), iv ((((p3.toUInt64 >>> ((16 : Int32) &&& 0x3f).toInt64.toUInt64).toInt64).toInt32).toInt8.toInt32), rv b71, .unset, .unset] []) := fun t k => k73 t (st74 _ k)
    have k77 : Way p e below S0 T74 (mkF m 54 #[iv p1, iv p2, .val (.long p3), .second, iv (2 : Int32), iv ((p3.toInt32).toInt8.toInt32), iv ((((p3.toUInt64 >>> ((8 : Int32) &&& 0x3f).toInt64.toUInt64).toInt64).toInt32).toInt8.toInt32), iv ((((p3.toUInt64 >>> ((16 : Int32) &&& 0x3f).toInt64.toUInt64).toInt64).toInt32).toInt8.toInt32), rv b71, .unset, .unset] [(.int ((((p3.toUInt64 >>> ((8 : Int32) &&& 0x3f).toInt64.toUInt64).toInt64).toInt32).toInt8.toInt32)), (.int (1 : Int32)), (.ref b71)]) := by
      intro t k
      refine k76 t ?_
      refine XS.iload X74.here hx rfl (hb hby at_43) rfl ?_
      show Steps p.tables e below (T74.setTop (mkF m 45 #[iv p1, iv p2, .val (.long p3), .second, iv (2 : Int32), iv ((p3.toInt32).toInt8.toInt32), iv ((((p3.toUInt64 >>> ((8 : Int32) &&& 0x3f).toInt64.toUInt64).toInt64).toInt32).toInt8.toInt32), iv ((((p3.toUInt64 >>> ((16 : Int32) &&& 0x3f).toInt64.toUInt64).toInt64).toInt32).toInt8.toInt32), rv b71, .unset, .unset] [(.int (2 : Int32))])) _
      refine XS.iconst X74.here hx rfl (hb hby at_45) ?_
      show Steps p.tables e below (T74.setTop (mkF m 46 #[iv p1, iv p2, .val (.long p3), .second, iv (2 : Int32), iv ((p3.toInt32).toInt8.toInt32), iv ((((p3.toUInt64 >>> ((8 : Int32) &&& 0x3f).toInt64.toUInt64).toInt64).toInt32).toInt8.toInt32), iv ((((p3.toUInt64 >>> ((16 : Int32) &&& 0x3f).toInt64.toUInt64).toInt64).toInt32).toInt8.toInt32), rv b71, .unset, .unset] [(.int (1 : Int32)), (.int (2 : Int32))])) _
      refine XS.icmpNo X74.here hx rfl (hb hby at_46) rfl (tlt ((by decide) : (1 : Int32) < (2 : Int32))).2.2.2 ?_
      show Steps p.tables e below (T74.setTop (mkF m 49 #[iv p1, iv p2, .val (.long p3), .second, iv (2 : Int32), iv ((p3.toInt32).toInt8.toInt32), iv ((((p3.toUInt64 >>> ((8 : Int32) &&& 0x3f).toInt64.toUInt64).toInt64).toInt32).toInt8.toInt32), iv ((((p3.toUInt64 >>> ((16 : Int32) &&& 0x3f).toInt64.toUInt64).toInt64).toInt32).toInt8.toInt32), rv b71, .unset, .unset] [])) _
      refine XS.aload X74.here hx rfl (hb hby at_49) rfl rfl ?_
      show Steps p.tables e below (T74.setTop (mkF m 51 #[iv p1, iv p2, .val (.long p3), .second, iv (2 : Int32), iv ((p3.toInt32).toInt8.toInt32), iv ((((p3.toUInt64 >>> ((8 : Int32) &&& 0x3f).toInt64.toUInt64).toInt64).toInt32).toInt8.toInt32), iv ((((p3.toUInt64 >>> ((16 : Int32) &&& 0x3f).toInt64.toUInt64).toInt64).toInt32).toInt8.toInt32), rv b71, .unset, .unset] [(.ref b71)])) _
      refine XS.iconst X74.here hx rfl (hb hby at_51) ?_
      show Steps p.tables e below (T74.setTop (mkF m 52 #[iv p1, iv p2, .val (.long p3), .second, iv (2 : Int32), iv ((p3.toInt32).toInt8.toInt32), iv ((((p3.toUInt64 >>> ((8 : Int32) &&& 0x3f).toInt64.toUInt64).toInt64).toInt32).toInt8.toInt32), iv ((((p3.toUInt64 >>> ((16 : Int32) &&& 0x3f).toInt64.toUInt64).toInt64).toInt32).toInt8.toInt32), rv b71, .unset, .unset] [(.int (1 : Int32)), (.ref b71)])) _
      refine XS.iload X74.here hx rfl (hb hby at_52) rfl ?_
      show Steps p.tables e below (T74.setTop (mkF m 54 #[iv p1, iv p2, .val (.long p3), .second, iv (2 : Int32), iv ((p3.toInt32).toInt8.toInt32), iv ((((p3.toUInt64 >>> ((8 : Int32) &&& 0x3f).toInt64.toUInt64).toInt64).toInt32).toInt8.toInt32), iv ((((p3.toUInt64 >>> ((16 : Int32) &&& 0x3f).toInt64.toUInt64).toInt64).toInt32).toInt8.toInt32), rv b71, .unset, .unset] [(.int ((((p3.toUInt64 >>> ((8 : Int32) &&& 0x3f).toInt64.toUInt64).toInt64).toInt32).toInt8.toInt32)), (.int (1 : Int32)), (.ref b71)])) _
      exact k
    obtain ⟨cl78, Ar78, qc78, S78, M78, U78, G78⟩ := id (va74)
    have hin78 : ¬ ((1 : Int32) < 0 ∨ cl78.slots.size ≤ ((1 : Int32)).toNatClampNeg) := inb_of S78 ⟨by decide, by decide⟩
    obtain ⟨T78, h78, X78, e78, W78, st78⟩ := stB X74 hx hZ e74 Ar78 (j := (1 : Int32)) hin78 (g := (mkF m 54 #[iv p1, iv p2, .val (.long p3), .second, iv (2 : Int32), iv ((p3.toInt32).toInt8.toInt32), iv ((((p3.toUInt64 >>> ((8 : Int32) &&& 0x3f).toInt64.toUInt64).toInt64).toInt32).toInt8.toInt32), iv ((((p3.toUInt64 >>> ((16 : Int32) &&& 0x3f).toInt64.toUInt64).toInt64).toInt32).toInt8.toInt32), rv b71, .unset, .unset] [(.int ((((p3.toUInt64 >>> ((8 : Int32) &&& 0x3f).toInt64.toUInt64).toInt64).toInt32).toInt8.toInt32)), (.int (1 : Int32)), (.ref b71)])) rfl rfl (hb hby at_54)
    have O78 := O74.wr W78 ge75
    have N78 := Fr.snoc X78 N74 ge75
    have va78 : Arv Z h78 b71 c71 .byte (2 : Int32) [(.int (((p3.toInt32).toInt8.toInt32).toInt8.toInt32)), (.int (((((p3.toUInt64 >>> ((8 : Int32) &&& 0x3f).toInt64.toUInt64).toInt64).toInt32).toInt8.toInt32).toInt8.toInt32))] (.int (0 : Int32)) := Arv.set Ar78 qc78 S78 M78 U78 G78 (fits_nar_byte _) W78 1 rfl (Nat.le_of_ble_eq_true rfl)
    have k79 : Way p e below S0 T78 (mkF m 55 #[iv p1, iv p2, .val (.long p3), .second, iv (2 : Int32), iv ((p3.toInt32).toInt8.toInt32), iv ((((p3.toUInt64 >>> ((8 : Int32) &&& 0x3f).toInt64.toUInt64).toInt64).toInt32).toInt8.toInt32), iv ((((p3.toUInt64 >>> ((16 : Int32) &&& 0x3f).toInt64.toUInt64).toInt64).toInt32).toInt8.toInt32), rv b71, .unset, .unset] []) := fun t k => k77 t (st78 _ k)
    have k80 : Way p e below S0 T78 (mkF m 70 #[iv p1, iv p2, .val (.long p3), .second, iv (2 : Int32), iv ((p3.toInt32).toInt8.toInt32), iv ((((p3.toUInt64 >>> ((8 : Int32) &&& 0x3f).toInt64.toUInt64).toInt64).toInt32).toInt8.toInt32), iv ((((p3.toUInt64 >>> ((16 : Int32) &&& 0x3f).toInt64.toUInt64).toInt64).toInt32).toInt8.toInt32), rv b71, .unset, .unset] [(.ref b71), (.int p1)]) := by
      intro t k
      refine k79 t ?_
      refine XS.iload X78.here hx rfl (hb hby at_55) rfl ?_
      show Steps p.tables e below (T78.setTop (mkF m 57 #[iv p1, iv p2, .val (.long p3), .second, iv (2 : Int32), iv ((p3.toInt32).toInt8.toInt32), iv ((((p3.toUInt64 >>> ((8 : Int32) &&& 0x3f).toInt64.toUInt64).toInt64).toInt32).toInt8.toInt32), iv ((((p3.toUInt64 >>> ((16 : Int32) &&& 0x3f).toInt64.toUInt64).toInt64).toInt32).toInt8.toInt32), rv b71, .unset, .unset] [(.int (2 : Int32))])) _
      refine XS.iconst X78.here hx rfl (hb hby at_57) ?_
      show Steps p.tables e below (T78.setTop (mkF m 58 #[iv p1, iv p2, .val (.long p3), .second, iv (2 : Int32), iv ((p3.toInt32).toInt8.toInt32), iv ((((p3.toUInt64 >>> ((8 : Int32) &&& 0x3f).toInt64.toUInt64).toInt64).toInt32).toInt8.toInt32), iv ((((p3.toUInt64 >>> ((16 : Int32) &&& 0x3f).toInt64.toUInt64).toInt64).toInt32).toInt8.toInt32), rv b71, .unset, .unset] [(.int (2 : Int32)), (.int (2 : Int32))])) _
      refine XS.icmpYes X78.here hx rfl (pc0 := 58) (pc' := 67) rfl (hb hby at_58) rfl (flt ((by decide) : ¬ ((2 : Int32) < (2 : Int32)))).2.2.2 (by decide) (by decide) ?_
      show Steps p.tables e below (T78.setTop (mkF m 67 #[iv p1, iv p2, .val (.long p3), .second, iv (2 : Int32), iv ((p3.toInt32).toInt8.toInt32), iv ((((p3.toUInt64 >>> ((8 : Int32) &&& 0x3f).toInt64.toUInt64).toInt64).toInt32).toInt8.toInt32), iv ((((p3.toUInt64 >>> ((16 : Int32) &&& 0x3f).toInt64.toUInt64).toInt64).toInt32).toInt8.toInt32), rv b71, .unset, .unset] [])) _
      refine XS.iloadN X78.here hx rfl (hb hby at_67) rfl ?_
      show Steps p.tables e below (T78.setTop (mkF m 68 #[iv p1, iv p2, .val (.long p3), .second, iv (2 : Int32), iv ((p3.toInt32).toInt8.toInt32), iv ((((p3.toUInt64 >>> ((8 : Int32) &&& 0x3f).toInt64.toUInt64).toInt64).toInt32).toInt8.toInt32), iv ((((p3.toUInt64 >>> ((16 : Int32) &&& 0x3f).toInt64.toUInt64).toInt64).toInt32).toInt8.toInt32), rv b71, .unset, .unset] [(.int p1)])) _
      refine XS.aload X78.here hx rfl (hb hby at_68) rfl rfl ?_
      show Steps p.tables e below (T78.setTop (mkF m 70 #[iv p1, iv p2, .val (.long p3), .second, iv (2 : Int32), iv ((p3.toInt32).toInt8.toInt32), iv ((((p3.toUInt64 >>> ((8 : Int32) &&& 0x3f).toInt64.toUInt64).toInt64).toInt32).toInt8.toInt32), iv ((((p3.toUInt64 >>> ((16 : Int32) &&& 0x3f).toInt64.toUInt64).toInt64).toInt32).toInt8.toInt32), rv b71, .unset, .unset] [(.ref b71), (.int p1)])) _
      exact k
    have f81 : Exa Z h78 b71 "[B" := ((B71.wr W74).wr W78)
    obtain ⟨_, _, ⟨T82, L82, kk82, nn82⟩, -, X82, ⟨Lc82, hQ82, l82, y82, z82⟩, st82⟩ := Jvm.LawKit.callS X78 hx (y := (⟨"com/example/aspectwise/aspectwise/cmri/Packet", "transmit", "(I[B)Lcom/example/aspectwise/aspectwise/cmri/Packet;"⟩ : MethodName)) hown (mvT hZ (hw _ (List.mem_of_getElem? (i := 1) rfl))) (mvT hZ (hw _ (List.mem_of_getElem? (i := 2) rfl))) (mvT hZ (hw _ (List.mem_of_getElem? (i := 3) rfl))) (mvT hZ (hw _ (List.mem_of_getElem? (i := 4) rfl))) (by decide) (backOf (W := 0) (trans2 l Z a0 hw [] w_TRANSMIT G p1 b71 c71 (((p3.toInt32).toInt8.toInt32).toInt8.toInt32) (((((p3.toUInt64 >>> ((8 : Int32) &&& 0x3f).toInt64.toUInt64).toInt64).toInt32).toInt8.toInt32).toInt8.toInt32) h78 n0 O78 (f81 : Exa Z h78 b71 "[B") (va78 : Arv Z h78 b71 c71 .byte (2 : Int32) [(.int (((p3.toInt32).toInt8.toInt32).toInt8.toInt32)), (.int (((((p3.toUInt64 >>> ((8 : Int32) &&& 0x3f).toInt64.toUInt64).toInt64).toInt32).toInt8.toInt32).toInt8.toInt32))] (.int (0 : Int32)))) hZ (hw _ (List.mem_of_getElem? (i := 4) rfl)) (hw _ (List.mem_of_getElem? (i := 3) rfl)) (by decide) (by decide)) (g := (mkF m 70 #[iv p1, iv p2, .val (.long p3), .second, iv (2 : Int32), iv ((p3.toInt32).toInt8.toInt32), iv ((((p3.toUInt64 >>> ((8 : Int32) &&& 0x3f).toInt64.toUInt64).toInt64).toInt32).toInt8.toInt32), iv ((((p3.toUInt64 >>> ((16 : Int32) &&& 0x3f).toInt64.toUInt64).toInt64).toInt32).toInt8.toInt32), rv b71, .unset, .unset] [(.ref b71), (.int p1)])) rfl (by rw [hml]; rfl) (argsL := [(.int p1), (.ref b71)]) (rest := []) (lenOf pd_1 rfl) rfl (by show 2 * 0 + _ ≤ _; exact Nat.le_of_eq rfl) (hb hby at_70) (fun _ _ => ⟨rfl, e78, (by decide : 1 + 2 ≤ _), (by decide : 2 + 5 ≤ _)⟩)
    dsimp only [Pt.U, Pt.locs, Pt.cells, Pt.slots] at X82 l82 y82 z82 st82 hQ82
    subst l82 y82 z82
    obtain ⟨b1_82, d1_82, rfl, Nq82, Kq82, po82_0, po82_1, po82_2, po82_3, po82_4, po82_5, po82_6, po82_7⟩ := hQ82
    have N82 := Fr.app N78 Nq82
    have O82 := O78.keep Kq82 all0
    have k83 : Way p e below S0 T82 (mkF m 73 #[iv p1, iv p2, .val (.long p3), .second, iv (2 : Int32), iv ((p3.toInt32).toInt8.toInt32), iv ((((p3.toUInt64 >>> ((8 : Int32) &&& 0x3f).toInt64.toUInt64).toInt64).toInt32).toInt8.toInt32), iv ((((p3.toUInt64 >>> ((16 : Int32) &&& 0x3f).toInt64.toUInt64).toInt64).toInt32).toInt8.toInt32), rv b71, .unset, .unset] [(.ref b1_82)]) := fun t k => k80 t (st82 _ k)
    have k84 : Way p e below S0 T82 (mkF m 88 #[iv p1, iv p2, .val (.long p3), .second, iv (2 : Int32), iv ((p3.toInt32).toInt8.toInt32), iv ((((p3.toUInt64 >>> ((8 : Int32) &&& 0x3f).toInt64.toUInt64).toInt64).toInt32).toInt8.toInt32), iv ((((p3.toUInt64 >>> ((16 : Int32) &&& 0x3f).toInt64.toUInt64).toInt64).toInt32).toInt8.toInt32), rv b71, rv b1_82, .unset] [(.int ((((p3.toInt32).toInt8.toInt32) ^^^ (-1 : Int32)).toInt8.toInt32)), (.int (0 : Int32)), (.ref b71)]) := by
      intro t k
      refine k83 t ?_
      refine XS.astore X82.here hx rfl (hb hby at_73) rfl rfl (l' := #[iv p1, iv p2, .val (.long p3), .second, iv (2 : Int32), iv ((p3.toInt32).toInt8.toInt32), iv ((((p3.toUInt64 >>> ((8 : Int32) &&& 0x3f).toInt64.toUInt64).toInt64).toInt32).toInt8.toInt32), iv ((((p3.toUInt64 >>> ((16 : Int32) &&& 0x3f).toInt64.toUInt64).toInt64).toInt32).toInt8.toInt32), rv b71, rv b1_82, .unset]) rfl ?_
      show Steps p.tables e below (T82.setTop (mkF m 75 #[iv p1, iv p2, .val (.long p3), .second, iv (2 : Int32), iv ((p3.toInt32).toInt8.toInt32), iv ((((p3.toUInt64 >>> ((8 : Int32) &&& 0x3f).toInt64.toUInt64).toInt64).toInt32).toInt8.toInt32), iv ((((p3.toUInt64 >>> ((16 : Int32) &&& 0x3f).toInt64.toUInt64).toInt64).toInt32).toInt8.toInt32), rv b71, rv b1_82, .unset] [])) _
      refine XS.iload X82.here hx rfl (hb hby at_75) rfl ?_
      show Steps p.tables e below (T82.setTop (mkF m 77 #[iv p1, iv p2, .val (.long p3), .second, iv (2 : Int32), iv ((p3.toInt32).toInt8.toInt32), iv ((((p3.toUInt64 >>> ((8 : Int32) &&& 0x3f).toInt64.toUInt64).toInt64).toInt32).toInt8.toInt32), iv ((((p3.toUInt64 >>> ((16 : Int32) &&& 0x3f).toInt64.toUInt64).toInt64).toInt32).toInt8.toInt32), rv b71, rv b1_82, .unset] [(.int (2 : Int32))])) _
      refine XS.ifNo X82.here hx rfl (hb hby at_77) rfl ((if0 _ _).trans (tlt ((by decide) : (0 : Int32) < (2 : Int32))).2.2.2) ?_
      show Steps p.tables e below (T82.setTop (mkF m 80 #[iv p1, iv p2, .val (.long p3), .second, iv (2 : Int32), iv ((p3.toInt32).toInt8.toInt32), iv ((((p3.toUInt64 >>> ((8 : Int32) &&& 0x3f).toInt64.toUInt64).toInt64).toInt32).toInt8.toInt32), iv ((((p3.toUInt64 >>> ((16 : Int32) &&& 0x3f).toInt64.toUInt64).toInt64).toInt32).toInt8.toInt32), rv b71, rv b1_82, .unset] [])) _
      refine XS.aload X82.here hx rfl (hb hby at_80) rfl rfl ?_
      show Steps p.tables e below (T82.setTop (mkF m 82 #[iv p1, iv p2, .val (.long p3), .second, iv (2 : Int32), iv ((p3.toInt32).toInt8.toInt32), iv ((((p3.toUInt64 >>> ((8 : Int32) &&& 0x3f).toInt64.toUInt64).toInt64).toInt32).toInt8.toInt32), iv ((((p3.toUInt64 >>> ((16 : Int32) &&& 0x3f).toInt64.toUInt64).toInt64).toInt32).toInt8.toInt32), rv b71, rv b1_82, .unset] [(.ref b71)])) _
      refine XS.iconst X82.here hx rfl (hb hby at_82) ?_
      show Steps p.tables e below (T82.setTop (mkF m 83 #[iv p1, iv p2, .val (.long p3), .second, iv (2 : Int32), iv ((p3.toInt32).toInt8.toInt32), iv ((((p3.toUInt64 >>> ((8 : Int32) &&& 0x3f).toInt64.toUInt64).toInt64).toInt32).toInt8.toInt32), iv ((((p3.toUInt64 >>> ((16 : Int32) &&& 0x3f).toInt64.toUInt64).toInt64).toInt32).toInt8.toInt32), rv b71, rv b1_82, .unset] [(.int (0 : Int32)), (.ref b71)])) _
      refine XS.iload X82.here hx rfl (hb hby at_83) rfl ?_
      show Steps p.tables e below (T82.setTop (mkF m 85 #[iv p1, iv p2, .val (.long p3), .second, iv (2 : Int32), iv ((p3.toInt32).toInt8.toInt32), iv ((((p3.toUInt64 >>> ((8 : Int32) &&& 0x3f).toInt64.toUInt64).toInt64).toInt32).toInt8.toInt32), iv ((((p3.toUInt64 >>> ((16 : Int32) &&& 0x3f).toInt64.toUInt64).toInt64).toInt32).toInt8.toInt32), rv b71, rv b1_82, .unset] [(.int ((p3.toInt32).toInt8.toInt32)), (.int (0 : Int32)), (.ref b71)])) _
      refine XS.iconst X82.here hx rfl (hb hby at_85) ?_
      show Steps p.tables e below (T82.setTop (mkF m 86 #[iv p1, iv p2, .val (.long p3), .second, iv (2 : Int32), iv ((p3.toInt32).toInt8.toInt32), iv ((((p3.toUInt64 >>> ((8 : Int32) &&& 0x3f).toInt64.toUInt64).toInt64).toInt32).toInt8.toInt32), iv ((((p3.toUInt64 >>> ((16 : Int32) &&& 0x3f).toInt64.toUInt64).toInt64).toInt32).toInt8.toInt32), rv b71, rv b1_82, .unset] [(.int (-1 : Int32)), (.int ((p3.toInt32).toInt8.toInt32)), (.int (0 : Int32)), (.ref b71)])) _
      refine XS.ixor X82.here hx rfl (hb hby at_86) rfl ?_
      show Steps p.tables e below (T82.setTop (mkF m 87 #[iv p1, iv p2, .val (.long p3), .second, iv (2 : Int32), iv ((p3.toInt32).toInt8.toInt32), iv ((((p3.toUInt64 >>> ((8 : Int32) &&& 0x3f).toInt64.toUInt64).toInt64).toInt32).toInt8.toInt32), iv ((((p3.toUInt64 >>> ((16 : Int32) &&& 0x3f).toInt64.toUInt64).toInt64).toInt32).toInt8.toInt32), rv b71, rv b1_82, .unset] [(.int (((p3.toInt32).toInt8.toInt32) ^^^ (-1 : Int32))), (.int (0 : Int32)), (.ref b71)])) _
      refine XS.i2b X82.here hx rfl (hb hby at_87) rfl ?_
      show Steps p.tables e below (T82.setTop (mkF m 88 #[iv p1, iv p2, .val (.long p3), .second, iv (2 : Int32), iv ((p3.toInt32).toInt8.toInt32), iv ((((p3.toUInt64 >>> ((8 : Int32) &&& 0x3f).toInt64.toUInt64).toInt64).toInt32).toInt8.toInt32), iv ((((p3.toUInt64 >>> ((16 : Int32) &&& 0x3f).toInt64.toUInt64).toInt64).toInt32).toInt8.toInt32), rv b71, rv b1_82, .unset] [(.int ((((p3.toInt32).toInt8.toInt32) ^^^ (-1 : Int32)).toInt8.toInt32)), (.int (0 : Int32)), (.ref b71)])) _
      exact k
    have f85 : Arv Z T82.heap b71 c71 .byte (2 : Int32) [(.int (((p3.toInt32).toInt8.toInt32).toInt8.toInt32)), (.int (((((p3.toUInt64 >>> ((8 : Int32) &&& 0x3f).toInt64.toUInt64).toInt64).toInt32).toInt8.toInt32).toInt8.toInt32))] (.int (0 : Int32)) := (va78.keep Kq82 nin0)
    obtain ⟨cl86, Ar86, qc86, S86, M86, U86, G86⟩ := id (f85)
    have hin86 : ¬ ((0 : Int32) < 0 ∨ cl86.slots.size ≤ ((0 : Int32)).toNatClampNeg) := inb_of S86 ⟨by decide, by decide⟩
    obtain ⟨T86, h86, X86, e86, W86, st86⟩ := stB X82 hx hZ rfl Ar86 (j := (0 : Int32)) hin86 (g := (mkF m 88 #[iv p1, iv p2, .val (.long p3), .second, iv (2 : Int32), iv ((p3.toInt32).toInt8.toInt32), iv ((((p3.toUInt64 >>> ((8 : Int32) &&& 0x3f).toInt64.toUInt64).toInt64).toInt32).toInt8.toInt32), iv ((((p3.toUInt64 >>> ((16 : Int32) &&& 0x3f).toInt64.toUInt64).toInt64).toInt32).toInt8.toInt32), rv b71, rv b1_82, .unset] [(.int ((((p3.toInt32).toInt8.toInt32) ^^^ (-1 : Int32)).toInt8.toInt32)), (.int (0 : Int32)), (.ref b71)])) rfl rfl (hb hby at_88)
    have O86 := O82.wr W86 ge75
    have N86 := Fr.snoc X86 N82 ge75
    have va86 : Arv Z h86 b71 c71 .byte (2 : Int32) [(.int (((((p3.toInt32).toInt8.toInt32) ^^^ (-1 : Int32)).toInt8.toInt32).toInt8.toInt32)), (.int (((((p3.toUInt64 >>> ((8 : Int32) &&& 0x3f).toInt64.toUInt64).toInt64).toInt32).toInt8.toInt32).toInt8.toInt32))] (.int (0 : Int32)) := Arv.set Ar86 qc86 S86 M86 U86 G86 (fits_nar_byte _) W86 0 rfl (Nat.le_of_ble_eq_true rfl)
    have k87 : Way p e below S0 T86 (mkF m 89 #[iv p1, iv p2, .val (.long p3), .second, iv (2 : Int32), iv ((p3.toInt32).toInt8.toInt32), iv ((((p3.toUInt64 >>> ((8 : Int32) &&& 0x3f).toInt64.toUInt64).toInt64).toInt32).toInt8.toInt32), iv ((((p3.toUInt64 >>> ((16 : Int32) &&& 0x3f).toInt64.toUInt64).toInt64).toInt32).toInt8.toInt32), rv b71, rv b1_82, .unset] []) := fun t k => k84 t (st86 _ k)
    have k88 : Way p e below S0 T86 (mkF m 103 #[iv p1, iv p2, .val (.long p3), .second, iv (2 : Int32), iv ((p3.toInt32).toInt8.toInt32), iv ((((p3.toUInt64 >>> ((8 : Int32) &&& 0x3f).toInt64.toUInt64).toInt64).toInt32).toInt8.toInt32), iv ((((p3.toUInt64 >>> ((16 : Int32) &&& 0x3f).toInt64.toUInt64).toInt64).toInt32).toInt8.toInt32), rv b71, rv b1_82, .unset] [(.int ((((((p3.toUInt64 >>> ((8 : Int32) &&& 0x3f).toInt64.toUInt64).toInt64).toInt32).toInt8.toInt32) ^^^ (-1 : Int32)).toInt8.toInt32)), (.int (1 : Int32)), (.ref b71)]) := by
      intro t k
      refine k87 t ?_
      refine XS.iload X86.here hx rfl (hb hby at_89) rfl ?_
      show Steps p.tables e below (T86.setTop (mkF m 91 #[iv p1, iv p2, .val (.long p3), .second, iv (2 : Int32), iv ((p3.toInt32).toInt8.toInt32), iv ((((p3.toUInt64 >>> ((8 : Int32) &&& 0x3f).toInt64.toUInt64).toInt64).toInt32).toInt8.toInt32), iv ((((p3.toUInt64 >>> ((16 : Int32) &&& 0x3f).toInt64.toUInt64).toInt64).toInt32).toInt8.toInt32), rv b71, rv b1_82, .unset] [(.int (2 : Int32))])) _
      refine XS.iconst X86.here hx rfl (hb hby at_91) ?_
      show Steps p.tables e below (T86.setTop (mkF m 92 #[iv p1, iv p2, .val (.long p3), .second, iv (2 : Int32), iv ((p3.toInt32).toInt8.toInt32), iv ((((p3.toUInt64 >>> ((8 : Int32) &&& 0x3f).toInt64.toUInt64).toInt64).toInt32).toInt8.toInt32), iv ((((p3.toUInt64 >>> ((16 : Int32) &&& 0x3f).toInt64.toUInt64).toInt64).toInt32).toInt8.toInt32), rv b71, rv b1_82, .unset] [(.int (1 : Int32)), (.int (2 : Int32))])) _
      refine XS.icmpNo X86.here hx rfl (hb hby at_92) rfl (tlt ((by decide) : (1 : Int32) < (2 : Int32))).2.2.2 ?_
      show Steps p.tables e below (T86.setTop (mkF m 95 #[iv p1, iv p2, .val (.long p3), .second, iv (2 : Int32), iv ((p3.toInt32).toInt8.toInt32), iv ((((p3.toUInt64 >>> ((8 : Int32) &&& 0x3f).toInt64.toUInt64).toInt64).toInt32).toInt8.toInt32), iv ((((p3.toUInt64 >>> ((16 : Int32) &&& 0x3f).toInt64.toUInt64).toInt64).toInt32).toInt8.toInt32), rv b71, rv b1_82, .unset] [])) _
      refine XS.aload X86.here hx rfl (hb hby at_95) rfl rfl ?_
      show Steps p.tables e below (T86.setTop (mkF m 97 #[iv p1, iv p2, .val (.long p3), .second, iv (2 : Int32), iv ((p3.toInt32).toInt8.toInt32), iv ((((p3.toUInt64 >>> ((8 : Int32) &&& 0x3f).toInt64.toUInt64).toInt64).toInt32).toInt8.toInt32), iv ((((p3.toUInt64 >>> ((16 : Int32) &&& 0x3f).toInt64.toUInt64).toInt64).toInt32).toInt8.toInt32), rv b71, rv b1_82, .unset] [(.ref b71)])) _
      refine XS.iconst X86.here hx rfl (hb hby at_97) ?_
      show Steps p.tables e below (T86.setTop (mkF m 98 #[iv p1, iv p2, .val (.long p3), .second, iv (2 : Int32), iv ((p3.toInt32).toInt8.toInt32), iv ((((p3.toUInt64 >>> ((8 : Int32) &&& 0x3f).toInt64.toUInt64).toInt64).toInt32).toInt8.toInt32), iv ((((p3.toUInt64 >>> ((16 : Int32) &&& 0x3f).toInt64.toUInt64).toInt64).toInt32).toInt8.toInt32), rv b71, rv b1_82, .unset] [(.int (1 : Int32)), (.ref b71)])) _
      refine XS.iload X86.here hx rfl (hb hby at_98) rfl ?_
      show Steps p.tables e below (T86.setTop (mkF m 100 #[iv p1, iv p2, .val (.long p3), .second, iv (2 : Int32), iv ((p3.toInt32).toInt8.toInt32), iv ((((p3.toUInt64 >>> ((8 : Int32) &&& 0x3f).toInt64.toUInt64).toInt64).toInt32).toInt8.toInt32), iv ((((p3.toUInt64 >>> ((16 : Int32) &&& 0x3f).toInt64.toUInt64).toInt64).toInt32).toInt8.toInt32), rv b71, rv b1_82, .unset] [(.int ((((p3.toUInt64 >>> ((8 : Int32) &&& 0x3f).toInt64.toUInt64).toInt64).toInt32).toInt8.toInt32)), (.int (1 : Int32)), (.ref b71)])) _
      refine XS.iconst X86.here hx rfl (hb hby at_100) ?_
      show Steps p.tables e below (T86.setTop (mkF m 101 #[iv p1, iv p2, .val (.long p3), .second, iv (2 : Int32), iv ((p3.toInt32).toInt8.toInt32), iv ((((p3.toUInt64 >>> ((8 : Int32) &&& 0x3f).toInt64.toUInt64).toInt64).toInt32).toInt8.toInt32), iv ((((p3.toUInt64 >>> ((16 : Int32) &&& 0x3f).toInt64.toUInt64).toInt64).toInt32).toInt8.toInt32), rv b71, rv b1_82, .unset] [(.int (-1 : Int32)), (.int ((((p3.toUInt64 >>> ((8 : Int32) &&& 0x3f).toInt64.toUInt64).toInt64).toInt32).toInt8.toInt32)), (.int (1 : Int32)), (.ref b71)])) _
      refine XS.ixor X86.here hx rfl (hb hby at_101) rfl ?_
      show Steps p.tables e below (T86.setTop (mkF m 102 #[iv p1, iv p2, .val (.long p3), .second, iv (2 : Int32), iv ((p3.toInt32).toInt8.toInt32), iv ((((p3.toUInt64 >>> ((8 : Int32) &&& 0x3f).toInt64.toUInt64).toInt64).toInt32).toInt8.toInt32), iv ((((p3.toUInt64 >>> ((16 : Int32) &&& 0x3f).toInt64.toUInt64).toInt64).toInt32).toInt8.toInt32), rv b71, rv b1_82, .unset] [(.int (((((p3.toUInt64 >>> ((8 : Int32) &&& 0x3f).toInt64.toUInt64).toInt64).toInt32).toInt8.toInt32) ^^^ (-1 : Int32))), (.int (1 : Int32)), (.ref b71)])) _
      refine XS.i2b X86.here hx rfl (hb hby at_102) rfl ?_
      show Steps p.tables e below (T86.setTop (mkF m 103 #[iv p1, iv p2, .val (.long p3), .second, iv (2 : Int32), iv ((p3.toInt32).toInt8.toInt32), iv ((((p3.toUInt64 >>> ((8 : Int32) &&& 0x3f).toInt64.toUInt64).toInt64).toInt32).toInt8.toInt32), iv ((((p3.toUInt64 >>> ((16 : Int32) &&& 0x3f).toInt64.toUInt64).toInt64).toInt32).toInt8.toInt32), rv b71, rv b1_82, .unset] [(.int ((((((p3.toUInt64 >>> ((8 : Int32) &&& 0x3f).toInt64.toUInt64).toInt64).toInt32).toInt8.toInt32) ^^^ (-1 : Int32)).toInt8.toInt32)), (.int (1 : Int32)), (.ref b71)])) _
      exact k
    obtain ⟨cl89, Ar89, qc89, S89, M89, U89, G89⟩ := id (va86)
    have hin89 : ¬ ((1 : Int32) < 0 ∨ cl89.slots.size ≤ ((1 : Int32)).toNatClampNeg) := inb_of S89 ⟨by decide, by decide⟩
    obtain ⟨T89, h89, X89, e89, W89, st89⟩ := stB X86 hx hZ e86 Ar89 (j := (1 : Int32)) hin89 (g := (mkF m 103 #[iv p1, iv p2, .val (.long p3), .second, iv (2 : Int32), iv ((p3.toInt32).toInt8.toInt32), iv ((((p3.toUInt64 >>> ((8 : Int32) &&& 0x3f).toInt64.toUInt64).toInt64).toInt32).toInt8.toInt32), iv ((((p3.toUInt64 >>> ((16 : Int32) &&& 0x3f).toInt64.toUInt64).toInt64).toInt32).toInt8.toInt32), rv b71, rv b1_82, .unset] [(.int ((((((p3.toUInt64 >>> ((8 : Int32) &&& 0x3f).toInt64.toUInt64).toInt64).toInt32).toInt8.toInt32) ^^^ (-1 : Int32)).toInt8.toInt32)), (.int (1 : Int32)), (.ref b71)])) rfl rfl (hb hby at_103)
    have O89 := O86.wr W89 ge75
    have N89 := Fr.snoc X89 N86 ge75
    have va89 : Arv Z h89 b71 c71 .byte (2 : Int32) [(.int (((((p3.toInt32).toInt8.toInt32) ^^^ (-1 : Int32)).toInt8.toInt32).toInt8.toInt32)), (.int (((((((p3.toUInt64 >>> ((8 : Int32) &&& 0x3f).toInt64.toUInt64).toInt64).toInt32).toInt8.toInt32) ^^^ (-1 : Int32)).toInt8.toInt32).toInt8.toInt32))] (.int (0 : Int32)) := Arv.set Ar89 qc89 S89 M89 U89 G89 (fits_nar_byte _) W89 1 rfl (Nat.le_of_ble_eq_true rfl)
    have k90 : Way p e below S0 T89 (mkF m 104 #[iv p1, iv p2, .val (.long p3), .second, iv (2 : Int32), iv ((p3.toInt32).toInt8.toInt32), iv ((((p3.toUInt64 >>> ((8 : Int32) &&& 0x3f).toInt64.toUInt64).toInt64).toInt32).toInt8.toInt32), iv ((((p3.toUInt64 >>> ((16 : Int32) &&& 0x3f).toInt64.toUInt64).toInt64).toInt32).toInt8.toInt32), rv b71, rv b1_82, .unset] []) := fun t k => k88 t (st89 _ k)
    have k91 : Way p e below S0 T89 (mkF m 121 #[iv p1, iv p2, .val (.long p3), .second, iv (2 : Int32), iv ((p3.toInt32).toInt8.toInt32), iv ((((p3.toUInt64 >>> ((8 : Int32) &&& 0x3f).toInt64.toUInt64).toInt64).toInt32).toInt8.toInt32), iv ((((p3.toUInt64 >>> ((16 : Int32) &&& 0x3f).toInt64.toUInt64).toInt64).toInt32).toInt8.toInt32), rv b71, rv b1_82, .unset] [(.ref b1_82)]) := by
      intro t k
      refine k90 t ?_
      refine XS.iload X89.here hx rfl (hb hby at_104) rfl ?_
      show Steps p.tables e below (T89.setTop (mkF m 106 #[iv p1, iv p2, .val (.long p3), .second, iv (2 : Int32), iv ((p3.toInt32).toInt8.toInt32), iv ((((p3.toUInt64 >>> ((8 : Int32) &&& 0x3f).toInt64.toUInt64).toInt64).toInt32).toInt8.toInt32), iv ((((p3.toUInt64 >>> ((16 : Int32) &&& 0x3f).toInt64.toUInt64).toInt64).toInt32).toInt8.toInt32), rv b71, rv b1_82, .unset] [(.int (2 : Int32))])) _
      refine XS.iconst X89.here hx rfl (hb hby at_106) ?_
      show Steps p.tables e below (T89.setTop (mkF m 107 #[iv p1, iv p2, .val (.long p3), .second, iv (2 : Int32), iv ((p3.toInt32).toInt8.toInt32), iv ((((p3.toUInt64 >>> ((8 : Int32) &&& 0x3f).toInt64.toUInt64).toInt64).toInt32).toInt8.toInt32), iv ((((p3.toUInt64 >>> ((16 : Int32) &&& 0x3f).toInt64.toUInt64).toInt64).toInt32).toInt8.toInt32), rv b71, rv b1_82, .unset] [(.int (2 : Int32)), (.int (2 : Int32))])) _
      refine XS.icmpYes X89.here hx rfl (pc0 := 107) (pc' := 119) rfl (hb hby at_107) rfl (flt ((by decide) : ¬ ((2 : Int32) < (2 : Int32)))).2.2.2 (by decide) (by decide) ?_
      show Steps p.tables e below (T89.setTop (mkF m 119 #[iv p1, iv p2, .val (.long p3), .second, iv (2 : Int32), iv ((p3.toInt32).toInt8.toInt32), iv ((((p3.toUInt64 >>> ((8 : Int32) &&& 0x3f).toInt64.toUInt64).toInt64).toInt32).toInt8.toInt32), iv ((((p3.toUInt64 >>> ((16 : Int32) &&& 0x3f).toInt64.toUInt64).toInt64).toInt32).toInt8.toInt32), rv b71, rv b1_82, .unset] [])) _
      refine XS.aload X89.here hx rfl (hb hby at_119) rfl rfl ?_
      show Steps p.tables e below (T89.setTop (mkF m 121 #[iv p1, iv p2, .val (.long p3), .second, iv (2 : Int32), iv ((p3.toInt32).toInt8.toInt32), iv ((((p3.toUInt64 >>> ((8 : Int32) &&& 0x3f).toInt64.toUInt64).toInt64).toInt32).toInt8.toInt32), iv ((((p3.toUInt64 >>> ((16 : Int32) &&& 0x3f).toInt64.toUInt64).toInt64).toInt32).toInt8.toInt32), rv b71, rv b1_82, .unset] [(.ref b1_82)])) _
      exact k
    have f92 : Fld Z h89 b1_82 "com/example/aspectwise/aspectwise/cmri/Packet" "data" "[B" (.ref d1_82) := ((po82_5.other W86 (Or.inl (Ne.symm (Nat.ne_of_lt (Nat.lt_of_lt_of_le f81.lt po82_0))))).other W89 (Or.inl (Ne.symm (Nat.ne_of_lt (Nat.lt_of_lt_of_le f81.lt po82_0)))))
    have f93 : Exa Z h89 d1_82 "[B" := ((po82_6.wr W86).wr W89)
    have f94 : Arv Z h89 d1_82 c71 .byte (2 : Int32) [(.int (((p3.toInt32).toInt8.toInt32).toInt8.toInt32)), (.int (((((p3.toUInt64 >>> ((8 : Int32) &&& 0x3f).toInt64.toUInt64).toInt64).toInt32).toInt8.toInt32).toInt8.toInt32))] (.int (0 : Int32)) := ((po82_7.other W86 (Ne.symm (Nat.ne_of_lt (Nat.lt_of_lt_of_le f81.lt po82_1)))).other W89 (Ne.symm (Nat.ne_of_lt (Nat.lt_of_lt_of_le f81.lt po82_1))))
    have f96 : Exa Z h89 b1_82 "com/example/aspectwise/aspectwise/cmri/Packet" := ((po82_2.wr W86).wr W89)
    obtain ⟨cq95, kq95, qq95a, qq95b, qq95c⟩ := isOf hZ e89 f96
    obtain ⟨_, _, ⟨T95, L95, kk95, nn95⟩, -, X95, ⟨Lc95, hQ95, l95, y95, z95⟩, st95⟩ := X89.virtualBack hx (y := (⟨"com/example/aspectwise/aspectwise/cmri/Packet", "data", "()[B"⟩ : MethodName)) (z := (⟨"com/example/aspectwise/aspectwise/cmri/Packet", "data", "()[B"⟩ : MethodName)) hown (mvT hZ (hw _ (List.mem_of_getElem? (i := 31) rfl))) (mvT hZ (hw _ (List.mem_of_getElem? (i := 32) rfl))) (notFace_of_selects (args := #[]) (mvT hZ (hw _ (List.mem_of_getElem? (i := 34) rfl)))) (mvT hZ (hw _ (List.mem_of_getElem? (i := 34) rfl))) (mvT hZ (hw _ (List.mem_of_getElem? (i := 33) rfl))) (by decide) (backOf (W := 0) (data2 l Z a0 hw [] w_TRANSMIT G b1_82 d1_82 c71 (((p3.toInt32).toInt8.toInt32).toInt8.toInt32) (((((p3.toUInt64 >>> ((8 : Int32) &&& 0x3f).toInt64.toUInt64).toInt64).toInt32).toInt8.toInt32).toInt8.toInt32) h89 n0 O89 (f92 : Fld Z h89 b1_82 "com/example/aspectwise/aspectwise/cmri/Packet" "data" "[B" (.ref d1_82)) (f93 : Exa Z h89 d1_82 "[B") (f94 : Arv Z h89 d1_82 c71 .byte (2 : Int32) [(.int (((p3.toInt32).toInt8.toInt32).toInt8.toInt32)), (.int (((((p3.toUInt64 >>> ((8 : Int32) &&& 0x3f).toInt64.toUInt64).toInt64).toInt32).toInt8.toInt32).toInt8.toInt32))] (.int (0 : Int32)))) hZ (hw _ (List.mem_of_getElem? (i := 35) rfl)) (hw _ (List.mem_of_getElem? (i := 3) rfl)) (by decide) (by decide)) qq95a qq95c (g := (mkF m 121 #[iv p1, iv p2, .val (.long p3), .second, iv (2 : Int32), iv ((p3.toInt32).toInt8.toInt32), iv ((((p3.toUInt64 >>> ((8 : Int32) &&& 0x3f).toInt64.toUInt64).toInt64).toInt32).toInt8.toInt32), iv ((((p3.toUInt64 >>> ((16 : Int32) &&& 0x3f).toInt64.toUInt64).toInt64).toInt32).toInt8.toInt32), rv b71, rv b1_82, .unset] [(.ref b1_82)])) rfl (by rw [hml]; rfl) (Steps.refl _) (argsL := []) (rest := []) (lenOf pd_2 rfl) rfl (by show 2 * 0 + _ ≤ _; exact Nat.le_of_eq rfl) (hb hby at_121) (fun _ _ => ⟨rfl, e89, (by decide : 3 + 1 ≤ _), (by decide : 7 + 2 ≤ _)⟩)
    dsimp only [Pt.U, Pt.locs, Pt.cells, Pt.slots] at X95 l95 y95 z95 st95 hQ95
    subst l95 y95 z95
    obtain ⟨d1_95, rfl, Nq95, Kq95, po95_0, po95_1, po95_2⟩ := hQ95
    have N95 := Fr.app N89 Nq95
    have O95 := O89.keep Kq95 all0
    have k97 : Way p e below S0 T95 (mkF m 124 #[iv p1, iv p2, .val (.long p3), .second, iv (2 : Int32), iv ((p3.toInt32).toInt8.toInt32), iv ((((p3.toUInt64 >>> ((8 : Int32) &&& 0x3f).toInt64.toUInt64).toInt64).toInt32).toInt8.toInt32), iv ((((p3.toUInt64 >>> ((16 : Int32) &&& 0x3f).toInt64.toUInt64).toInt64).toInt32).toInt8.toInt32), rv b71, rv b1_82, .unset] [(.ref d1_95)]) := fun t k => k91 t (st95.trans k)
    have k98 : Way p e below S0 T95 (mkF m 128 #[iv p1, iv p2, .val (.long p3), .second, iv (2 : Int32), iv ((p3.toInt32).toInt8.toInt32), iv ((((p3.toUInt64 >>> ((8 : Int32) &&& 0x3f).toInt64.toUInt64).toInt64).toInt32).toInt8.toInt32), iv ((((p3.toUInt64 >>> ((16 : Int32) &&& 0x3f).toInt64.toUInt64).toInt64).toInt32).toInt8.toInt32), rv b71, rv b1_82, rv d1_95] [(.ref b1_82)]) := by
      intro t k
      refine k97 t ?_
      refine XS.astore X95.here hx rfl (hb hby at_124) rfl rfl (l' := #[iv p1, iv p2, .val (.long p3), .second, iv (2 : Int32), iv ((p3.toInt32).toInt8.toInt32), iv ((((p3.toUInt64 >>> ((8 : Int32) &&& 0x3f).toInt64.toUInt64).toInt64).toInt32).toInt8.toInt32), iv ((((p3.toUInt64 >>> ((16 : Int32) &&& 0x3f).toInt64.toUInt64).toInt64).toInt32).toInt8.toInt32), rv b71, rv b1_82, rv d1_95]) rfl ?_
      show Steps p.tables e below (T95.setTop (mkF m 126 #[iv p1, iv p2, .val (.long p3), .second, iv (2 : Int32), iv ((p3.toInt32).toInt8.toInt32), iv ((((p3.toUInt64 >>> ((8 : Int32) &&& 0x3f).toInt64.toUInt64).toInt64).toInt32).toInt8.toInt32), iv ((((p3.toUInt64 >>> ((16 : Int32) &&& 0x3f).toInt64.toUInt64).toInt64).toInt32).toInt8.toInt32), rv b71, rv b1_82, rv d1_95] [])) _
      refine XS.aload X95.here hx rfl (hb hby at_126) rfl rfl ?_
      show Steps p.tables e below (T95.setTop (mkF m 128 #[iv p1, iv p2, .val (.long p3), .second, iv (2 : Int32), iv ((p3.toInt32).toInt8.toInt32), iv ((((p3.toUInt64 >>> ((8 : Int32) &&& 0x3f).toInt64.toUInt64).toInt64).toInt32).toInt8.toInt32), iv ((((p3.toUInt64 >>> ((16 : Int32) &&& 0x3f).toInt64.toUInt64).toInt64).toInt32).toInt8.toInt32), rv b71, rv b1_82, rv d1_95] [(.ref b1_82)])) _
      exact k
    have f99 : Fld Z T95.heap b1_82 "com/example/aspectwise/aspectwise/cmri/Packet" "address" "I" (.int p1) := (((po82_3.other W86 (Or.inl (Ne.symm (Nat.ne_of_lt (Nat.lt_of_lt_of_le f81.lt po82_0))))).other W89 (Or.inl (Ne.symm (Nat.ne_of_lt (Nat.lt_of_lt_of_le f81.lt po82_0))))).keep Kq95 nin0)
    have f101 : Exa Z T95.heap b1_82 "com/example/aspectwise/aspectwise/cmri/Packet" := (f96.keep Kq95)
    obtain ⟨cq100, kq100, qq100a, qq100b, qq100c⟩ := isOf hZ rfl f101
    obtain ⟨_, _, ⟨T100, L100, kk100, nn100⟩, -, X100, ⟨Lc100, hQ100, l100, y100, z100⟩, st100⟩ := X95.virtualBack hx (y := (⟨"com/example/aspectwise/aspectwise/cmri/Packet", "address", "()I"⟩ : MethodName)) (z := (⟨"com/example/aspectwise/aspectwise/cmri/Packet", "address", "()I"⟩ : MethodName)) hown (mvT hZ (hw _ (List.mem_of_getElem? (i := 36) rfl))) (mvT hZ (hw _ (List.mem_of_getElem? (i := 37) rfl))) (notFace_of_selects (args := #[]) (mvT hZ (hw _ (List.mem_of_getElem? (i := 39) rfl)))) (mvT hZ (hw _ (List.mem_of_getElem? (i := 39) rfl))) (mvT hZ (hw _ (List.mem_of_getElem? (i := 38) rfl))) (by decide) (backOf (W := 0) (adr l Z a0 hw [] w_TRANSMIT G b1_82 p1 T95.heap n0 O95 (f99 : Fld Z T95.heap b1_82 "com/example/aspectwise/aspectwise/cmri/Packet" "address" "I" (.int p1))) hZ (hw _ (List.mem_of_getElem? (i := 40) rfl)) (hw _ (List.mem_of_getElem? (i := 3) rfl)) (by decide) (by decide)) qq100a qq100c (g := (mkF m 128 #[iv p1, iv p2, .val (.long p3), .second, iv (2 : Int32), iv ((p3.toInt32).toInt8.toInt32), iv ((((p3.toUInt64 >>> ((8 : Int32) &&& 0x3f).toInt64.toUInt64).toInt64).toInt32).toInt8.toInt32), iv ((((p3.toUInt64 >>> ((16 : Int32) &&& 0x3f).toInt64.toUInt64).toInt64).toInt32).toInt8.toInt32), rv b71, rv b1_82, rv d1_95] [(.ref b1_82)])) rfl (by rw [hml]; rfl) (Steps.refl _) (argsL := []) (rest := []) (lenOf pd_3 rfl) rfl (by show 2 * 0 + _ ≤ _; exact Nat.le_of_eq rfl) (hb hby at_128) (fun _ _ => ⟨rfl, rfl, (by decide : 4 + 0 ≤ _), (by decide : 9 + 0 ≤ _)⟩)
    dsimp only [Pt.U, Pt.locs, Pt.cells, Pt.slots] at X100 l100 y100 z100 st100 hQ100
    subst l100 y100 z100
    obtain ⟨rfl, Nq100, e100⟩ := hQ100
    have N100 := Fr.app N95 Nq100
    have k102 : Way p e below S0 T100 (mkF m 131 #[iv p1, iv p2, .val (.long p3), .second, iv (2 : Int32), iv ((p3.toInt32).toInt8.toInt32), iv ((((p3.toUInt64 >>> ((8 : Int32) &&& 0x3f).toInt64.toUInt64).toInt64).toInt32).toInt8.toInt32), iv ((((p3.toUInt64 >>> ((16 : Int32) &&& 0x3f).toInt64.toUInt64).toInt64).toInt32).toInt8.toInt32), rv b71, rv b1_82, rv d1_95] [(.int p1)]) := fun t k => k98 t (st100.trans k)
    have k103 : Way p e below S0 T100 (mkF m 139 #[iv p1, iv p2, .val (.long p3), .second, iv (2 : Int32), iv ((p3.toInt32).toInt8.toInt32), iv ((((p3.toUInt64 >>> ((8 : Int32) &&& 0x3f).toInt64.toUInt64).toInt64).toInt32).toInt8.toInt32), iv ((((p3.toUInt64 >>> ((16 : Int32) &&& 0x3f).toInt64.toUInt64).toInt64).toInt32).toInt8.toInt32), rv b71, rv b1_82, rv d1_95] [(.ref b1_82)]) := by
      intro t k
      refine k102 t ?_
      refine XS.iloadN X100.here hx rfl (hb hby at_131) rfl ?_
      show Steps p.tables e below (T100.setTop (mkF m 132 #[iv p1, iv p2, .val (.long p3), .second, iv (2 : Int32), iv ((p3.toInt32).toInt8.toInt32), iv ((((p3.toUInt64 >>> ((8 : Int32) &&& 0x3f).toInt64.toUInt64).toInt64).toInt32).toInt8.toInt32), iv ((((p3.toUInt64 >>> ((16 : Int32) &&& 0x3f).toInt64.toUInt64).toInt64).toInt32).toInt8.toInt32), rv b71, rv b1_82, rv d1_95] [(.int p1), (.int p1)])) _
      refine XS.icmpYes X100.here hx rfl (pc0 := 132) (pc' := 137) rfl (hb hby at_132) rfl (teq (rfl : p1 = p1)).1 (by decide) (by decide) ?_
      show Steps p.tables e below (T100.setTop (mkF m 137 #[iv p1, iv p2, .val (.long p3), .second, iv (2 : Int32), iv ((p3.toInt32).toInt8.toInt32), iv ((((p3.toUInt64 >>> ((8 : Int32) &&& 0x3f).toInt64.toUInt64).toInt64).toInt32).toInt8.toInt32), iv ((((p3.toUInt64 >>> ((16 : Int32) &&& 0x3f).toInt64.toUInt64).toInt64).toInt32).toInt8.toInt32), rv b71, rv b1_82, rv d1_95] [])) _
      refine XS.aload X100.here hx rfl (hb hby at_137) rfl rfl ?_
      show Steps p.tables e below (T100.setTop (mkF m 139 #[iv p1, iv p2, .val (.long p3), .second, iv (2 : Int32), iv ((p3.toInt32).toInt8.toInt32), iv ((((p3.toUInt64 >>> ((8 : Int32) &&& 0x3f).toInt64.toUInt64).toInt64).toInt32).toInt8.toInt32), iv ((((p3.toUInt64 >>> ((16 : Int32) &&& 0x3f).toInt64.toUInt64).toInt64).toInt32).toInt8.toInt32), rv b71, rv b1_82, rv d1_95] [(.ref b1_82)])) _
      exact k
    have f104 : Fld Z T95.heap b1_82 "com/example/aspectwise/aspectwise/cmri/Packet" "type" "Lcom/example/aspectwise/aspectwise/cmri/Packet$Type;" (.ref w_TRANSMIT) := (((po82_4.other W86 (Or.inl (Ne.symm (Nat.ne_of_lt (Nat.lt_of_lt_of_le f81.lt po82_0))))).other W89 (Or.inl (Ne.symm (Nat.ne_of_lt (Nat.lt_of_lt_of_le f81.lt po82_0))))).keep Kq95 nin0)
    obtain ⟨cq105, kq105, qq105a, qq105b, qq105c⟩ := isOf hZ e100 f101
    obtain ⟨_, _, ⟨T105, L105, kk105, nn105⟩, -, X105, ⟨Lc105, hQ105, l105, y105, z105⟩, st105⟩ := X100.virtualBack hx (y := (⟨"com/example/aspectwise/aspectwise/cmri/Packet", "type", "()Lcom/example/aspectwise/aspectwise/cmri/Packet$Type;"⟩ : MethodName)) (z := (⟨"com/example/aspectwise/aspectwise/cmri/Packet", "type", "()Lcom/example/aspectwise/aspectwise/cmri/Packet$Type;"⟩ : MethodName)) hown (mvT hZ (hw _ (List.mem_of_getElem? (i := 41) rfl))) (mvT hZ (hw _ (List.mem_of_getElem? (i := 42) rfl))) (notFace_of_selects (args := #[]) (mvT hZ (hw _ (List.mem_of_getElem? (i := 44) rfl)))) (mvT hZ (hw _ (List.mem_of_getElem? (i := 44) rfl))) (mvT hZ (hw _ (List.mem_of_getElem? (i := 43) rfl))) (by decide) (backOf (W := 0) (typ l Z a0 hw [] w_TRANSMIT G b1_82 w_TRANSMIT T95.heap n0 O95 (f104 : Fld Z T95.heap b1_82 "com/example/aspectwise/aspectwise/cmri/Packet" "type" "Lcom/example/aspectwise/aspectwise/cmri/Packet$Type;" (.ref w_TRANSMIT))) hZ (hw _ (List.mem_of_getElem? (i := 45) rfl)) (hw _ (List.mem_of_getElem? (i := 3) rfl)) (by decide) (by decide)) qq105a qq105c (g := (mkF m 139 #[iv p1, iv p2, .val (.long p3), .second, iv (2 : Int32), iv ((p3.toInt32).toInt8.toInt32), iv ((((p3.toUInt64 >>> ((8 : Int32) &&& 0x3f).toInt64.toUInt64).toInt64).toInt32).toInt8.toInt32), iv ((((p3.toUInt64 >>> ((16 : Int32) &&& 0x3f).toInt64.toUInt64).toInt64).toInt32).toInt8.toInt32), rv b71, rv b1_82, rv d1_95] [(.ref b1_82)])) rfl (by rw [hml]; rfl) (Steps.refl _) (argsL := []) (rest := []) (lenOf pd_4 rfl) rfl (by show 2 * 0 + _ ≤ _; exact Nat.le_of_eq rfl) (hb hby at_139) (fun _ _ => ⟨rfl, e100, (by decide : 4 + 0 ≤ _), (by decide : 9 + 0 ≤ _)⟩)
    dsimp only [Pt.U, Pt.locs, Pt.cells, Pt.slots] at X105 l105 y105 z105 st105 hQ105
    subst l105 y105 z105
    obtain ⟨rfl, Nq105, e105⟩ := hQ105
    have N105 := Fr.app N100 Nq105
    have k106 : Way p e below S0 T105 (mkF m 142 #[iv p1, iv p2, .val (.long p3), .second, iv (2 : Int32), iv ((p3.toInt32).toInt8.toInt32), iv ((((p3.toUInt64 >>> ((8 : Int32) &&& 0x3f).toInt64.toUInt64).toInt64).toInt32).toInt8.toInt32), iv ((((p3.toUInt64 >>> ((16 : Int32) &&& 0x3f).toInt64.toUInt64).toInt64).toInt32).toInt8.toInt32), rv b71, rv b1_82, rv d1_95] [(.ref w_TRANSMIT)]) := fun t k => k103 t (st105.trans k)
    obtain ⟨T107, X107, e107, st107⟩ := getS2 X105 hx hZ hown (host := "") (Or.inl (hw _ (List.mem_of_getElem? (i := 46) rfl))) Via.refl e105 (S_w_TRANSMIT.ext O95.2) (g := (mkF m 142 #[iv p1, iv p2, .val (.long p3), .second, iv (2 : Int32), iv ((p3.toInt32).toInt8.toInt32), iv ((((p3.toUInt64 >>> ((8 : Int32) &&& 0x3f).toInt64.toUInt64).toInt64).toInt32).toInt8.toInt32), iv ((((p3.toUInt64 >>> ((16 : Int32) &&& 0x3f).toInt64.toUInt64).toInt64).toInt32).toInt8.toInt32), rv b71, rv b1_82, rv d1_95] [(.ref w_TRANSMIT)])) rfl (hb hby at_142)
    have k108 : Way p e below S0 T107 (mkF m 145 #[iv p1, iv p2, .val (.long p3), .second, iv (2 : Int32), iv ((p3.toInt32).toInt8.toInt32), iv ((((p3.toUInt64 >>> ((8 : Int32) &&& 0x3f).toInt64.toUInt64).toInt64).toInt32).toInt8.toInt32), iv ((((p3.toUInt64 >>> ((16 : Int32) &&& 0x3f).toInt64.toUInt64).toInt64).toInt32).toInt8.toInt32), rv b71, rv b1_82, rv d1_95] [(.ref w_TRANSMIT), (.ref w_TRANSMIT)]) := fun t k => k106 t (st107 _ k)
    have k109 : Way p e below S0 T107 (mkF m 152 #[iv p1, iv p2, .val (.long p3), .second, iv (2 : Int32), iv ((p3.toInt32).toInt8.toInt32), iv ((((p3.toUInt64 >>> ((8 : Int32) &&& 0x3f).toInt64.toUInt64).toInt64).toInt32).toInt8.toInt32), iv ((((p3.toUInt64 >>> ((16 : Int32) &&& 0x3f).toInt64.toUInt64).toInt64).toInt32).toInt8.toInt32), rv b71, rv b1_82, rv d1_95] [(.ref d1_95)]) := by
      intro t k
      refine k108 t ?_
      refine Jvm.RoadKit.acmp (g := (mkF m 145 #[iv p1, iv p2, .val (.long p3), .second, iv (2 : Int32), iv ((p3.toInt32).toInt8.toInt32), iv ((((p3.toUInt64 >>> ((8 : Int32) &&& 0x3f).toInt64.toUInt64).toInt64).toInt32).toInt8.toInt32), iv ((((p3.toUInt64 >>> ((16 : Int32) &&& 0x3f).toInt64.toUInt64).toInt64).toInt32).toInt8.toInt32), rv b71, rv b1_82, rv d1_95] [(.ref w_TRANSMIT), (.ref w_TRANSMIT)])) X107 hx rfl rfl rfl (pc0 := 145) (pc' := 150) (same := true) rfl (hb hby at_145) rfl (decide_eq_true rfl) (by decide) (by decide) ?_
      show Steps p.tables e below (T107.setTop (mkF m 150 #[iv p1, iv p2, .val (.long p3), .second, iv (2 : Int32), iv ((p3.toInt32).toInt8.toInt32), iv ((((p3.toUInt64 >>> ((8 : Int32) &&& 0x3f).toInt64.toUInt64).toInt64).toInt32).toInt8.toInt32), iv ((((p3.toUInt64 >>> ((16 : Int32) &&& 0x3f).toInt64.toUInt64).toInt64).toInt32).toInt8.toInt32), rv b71, rv b1_82, rv d1_95] [])) _
      refine XS.aload X107.here hx rfl (hb hby at_150) rfl rfl ?_
      show Steps p.tables e below (T107.setTop (mkF m 152 #[iv p1, iv p2, .val (.long p3), .second, iv (2 : Int32), iv ((p3.toInt32).toInt8.toInt32), iv ((((p3.toUInt64 >>> ((8 : Int32) &&& 0x3f).toInt64.toUInt64).toInt64).toInt32).toInt8.toInt32), iv ((((p3.toUInt64 >>> ((16 : Int32) &&& 0x3f).toInt64.toUInt64).toInt64).toInt32).toInt8.toInt32), rv b71, rv b1_82, rv d1_95] [(.ref d1_95)])) _
      exact k
    obtain ⟨cl110, Ar110, -, S110, M110, -, -⟩ := id (po95_2)
    have k111 : Way p e below S0 T107 (mkF m 153 #[iv p1, iv p2, .val (.long p3), .second, iv (2 : Int32), iv ((p3.toInt32).toInt8.toInt32), iv ((((p3.toUInt64 >>> ((8 : Int32) &&& 0x3f).toInt64.toUInt64).toInt64).toInt32).toInt8.toInt32), iv ((((p3.toUInt64 >>> ((16 : Int32) &&& 0x3f).toInt64.toUInt64).toInt64).toInt32).toInt8.toInt32), rv b71, rv b1_82, rv d1_95] [(.int (2 : Int32))]) := fun t k => k109 t (X107.arraylength hx (by rw [e107]; exact Ar110.1) (State.isArrayOf_alike hZ.alike Ar110.2.1) (g := (mkF m 152 #[iv p1, iv p2, .val (.long p3), .second, iv (2 : Int32), iv ((p3.toInt32).toInt8.toInt32), iv ((((p3.toUInt64 >>> ((8 : Int32) &&& 0x3f).toInt64.toUInt64).toInt64).toInt32).toInt8.toInt32), iv ((((p3.toUInt64 >>> ((16 : Int32) &&& 0x3f).toInt64.toUInt64).toInt64).toInt32).toInt8.toInt32), rv b71, rv b1_82, rv d1_95] [(.ref d1_95)])) rfl rfl (hb hby at_152) _ (by rw [len_of S110 M110]; exact k))
    have k112 : Way p e below S0 T107 (mkF m 168 #[iv p1, iv p2, .val (.long p3), .second, iv (2 : Int32), iv ((p3.toInt32).toInt8.toInt32), iv ((((p3.toUInt64 >>> ((8 : Int32) &&& 0x3f).toInt64.toUInt64).toInt64).toInt32).toInt8.toInt32), iv ((((p3.toUInt64 >>> ((16 : Int32) &&& 0x3f).toInt64.toUInt64).toInt64).toInt32).toInt8.toInt32), rv b71, rv b1_82, rv d1_95] [(.int (0 : Int32)), (.ref d1_95)]) := by
      intro t k
      refine k111 t ?_
      refine XS.iload X107.here hx rfl (hb hby at_153) rfl ?_
      show Steps p.tables e below (T107.setTop (mkF m 155 #[iv p1, iv p2, .val (.long p3), .second, iv (2 : Int32), iv ((p3.toInt32).toInt8.toInt32), iv ((((p3.toUInt64 >>> ((8 : Int32) &&& 0x3f).toInt64.toUInt64).toInt64).toInt32).toInt8.toInt32), iv ((((p3.toUInt64 >>> ((16 : Int32) &&& 0x3f).toInt64.toUInt64).toInt64).toInt32).toInt8.toInt32), rv b71, rv b1_82, rv d1_95] [(.int (2 : Int32)), (.int (2 : Int32))])) _
      refine XS.icmpYes X107.here hx rfl (pc0 := 155) (pc' := 160) rfl (hb hby at_155) rfl (teq ((by decide) : (2 : Int32) = (2 : Int32))).1 (by decide) (by decide) ?_
      show Steps p.tables e below (T107.setTop (mkF m 160 #[iv p1, iv p2, .val (.long p3), .second, iv (2 : Int32), iv ((p3.toInt32).toInt8.toInt32), iv ((((p3.toUInt64 >>> ((8 : Int32) &&& 0x3f).toInt64.toUInt64).toInt64).toInt32).toInt8.toInt32), iv ((((p3.toUInt64 >>> ((16 : Int32) &&& 0x3f).toInt64.toUInt64).toInt64).toInt32).toInt8.toInt32), rv b71, rv b1_82, rv d1_95] [])) _
      refine XS.iload X107.here hx rfl (hb hby at_160) rfl ?_
      show Steps p.tables e below (T107.setTop (mkF m 162 #[iv p1, iv p2, .val (.long p3), .second, iv (2 : Int32), iv ((p3.toInt32).toInt8.toInt32), iv ((((p3.toUInt64 >>> ((8 : Int32) &&& 0x3f).toInt64.toUInt64).toInt64).toInt32).toInt8.toInt32), iv ((((p3.toUInt64 >>> ((16 : Int32) &&& 0x3f).toInt64.toUInt64).toInt64).toInt32).toInt8.toInt32), rv b71, rv b1_82, rv d1_95] [(.int (2 : Int32))])) _
      refine XS.ifNo X107.here hx rfl (hb hby at_162) rfl ((if0 _ _).trans (tlt ((by decide) : (0 : Int32) < (2 : Int32))).2.2.2) ?_
      show Steps p.tables e below (T107.setTop (mkF m 165 #[iv p1, iv p2, .val (.long p3), .second, iv (2 : Int32), iv ((p3.toInt32).toInt8.toInt32), iv ((((p3.toUInt64 >>> ((8 : Int32) &&& 0x3f).toInt64.toUInt64).toInt64).toInt32).toInt8.toInt32), iv ((((p3.toUInt64 >>> ((16 : Int32) &&& 0x3f).toInt64.toUInt64).toInt64).toInt32).toInt8.toInt32), rv b71, rv b1_82, rv d1_95] [])) _
      refine XS.aload X107.here hx rfl (hb hby at_165) rfl rfl ?_
      show Steps p.tables e below (T107.setTop (mkF m 167 #[iv p1, iv p2, .val (.long p3), .second, iv (2 : Int32), iv ((p3.toInt32).toInt8.toInt32), iv ((((p3.toUInt64 >>> ((8 : Int32) &&& 0x3f).toInt64.toUInt64).toInt64).toInt32).toInt8.toInt32), iv ((((p3.toUInt64 >>> ((16 : Int32) &&& 0x3f).toInt64.toUInt64).toInt64).toInt32).toInt8.toInt32), rv b71, rv b1_82, rv d1_95] [(.ref d1_95)])) _
      refine XS.iconst X107.here hx rfl (hb hby at_167) ?_
      show Steps p.tables e below (T107.setTop (mkF m 168 #[iv p1, iv p2, .val (.long p3), .second, iv (2 : Int32), iv ((p3.toInt32).toInt8.toInt32), iv ((((p3.toUInt64 >>> ((8 : Int32) &&& 0x3f).toInt64.toUInt64).toInt64).toInt32).toInt8.toInt32), iv ((((p3.toUInt64 >>> ((16 : Int32) &&& 0x3f).toInt64.toUInt64).toInt64).toInt32).toInt8.toInt32), rv b71, rv b1_82, rv d1_95] [(.int (0 : Int32)), (.ref d1_95)])) _
      exact k
    obtain ⟨cl113, Ar113, qc113, S113, M113, U113, G113⟩ := id (po95_2)
    have hin113 : ¬ ((0 : Int32) < 0 ∨ cl113.slots.size ≤ ((0 : Int32)).toNatClampNeg) := inb_of S113 ⟨by decide, by decide⟩
    have hat113 : cl113.slots[((0 : Int32)).toNatClampNeg]? = some (.int (((p3.toInt32).toInt8.toInt32).toInt8.toInt32)) := Has.at U113 hin113 rfl
    have k114 : Way p e below S0 T107 (mkF m 169 #[iv p1, iv p2, .val (.long p3), .second, iv (2 : Int32), iv ((p3.toInt32).toInt8.toInt32), iv ((((p3.toUInt64 >>> ((8 : Int32) &&& 0x3f).toInt64.toUInt64).toInt64).toInt32).toInt8.toInt32), iv ((((p3.toUInt64 >>> ((16 : Int32) &&& 0x3f).toInt64.toUInt64).toInt64).toInt32).toInt8.toInt32), rv b71, rv b1_82, rv d1_95] [(.int (((p3.toInt32).toInt8.toInt32).toInt8.toInt32))]) := fun t k => k112 t (X107.baloadBytes hx (j := (0 : Int32)) (v := (.int (((p3.toInt32).toInt8.toInt32).toInt8.toInt32))) (by rw [e107]; exact Ar113.1) (State.isArrayOf_alike hZ.alike Ar113.2.1) Ar113.2.2 hin113 hat113 (g := (mkF m 168 #[iv p1, iv p2, .val (.long p3), .second, iv (2 : Int32), iv ((p3.toInt32).toInt8.toInt32), iv ((((p3.toUInt64 >>> ((8 : Int32) &&& 0x3f).toInt64.toUInt64).toInt64).toInt32).toInt8.toInt32), iv ((((p3.toUInt64 >>> ((16 : Int32) &&& 0x3f).toInt64.toUInt64).toInt64).toInt32).toInt8.toInt32), rv b71, rv b1_82, rv d1_95] [(.int (0 : Int32)), (.ref d1_95)])) rfl rfl (hb hby at_168) _ k)
    have k115 : Way p e below S0 T107 (mkF m 185 #[iv p1, iv p2, .val (.long p3), .second, iv (2 : Int32), iv ((p3.toInt32).toInt8.toInt32), iv ((((p3.toUInt64 >>> ((8 : Int32) &&& 0x3f).toInt64.toUInt64).toInt64).toInt32).toInt8.toInt32), iv ((((p3.toUInt64 >>> ((16 : Int32) &&& 0x3f).toInt64.toUInt64).toInt64).toInt32).toInt8.toInt32), rv b71, rv b1_82, rv d1_95] [(.int (1 : Int32)), (.ref d1_95)]) := by
      intro t k
      refine k114 t ?_
      refine XS.iload X107.here hx rfl (hb hby at_169) rfl ?_
      show Steps p.tables e below (T107.setTop (mkF m 171 #[iv p1, iv p2, .val (.long p3), .second, iv (2 : Int32), iv ((p3.toInt32).toInt8.toInt32), iv ((((p3.toUInt64 >>> ((8 : Int32) &&& 0x3f).toInt64.toUInt64).toInt64).toInt32).toInt8.toInt32), iv ((((p3.toUInt64 >>> ((16 : Int32) &&& 0x3f).toInt64.toUInt64).toInt64).toInt32).toInt8.toInt32), rv b71, rv b1_82, rv d1_95] [(.int ((p3.toInt32).toInt8.toInt32)), (.int (((p3.toInt32).toInt8.toInt32).toInt8.toInt32))])) _
      refine XS.icmpYes X107.here hx rfl (pc0 := 171) (pc' := 176) rfl (hb hby at_171) rfl (teq ((own_i2b _) : (((p3.toInt32).toInt8.toInt32).toInt8.toInt32) = ((p3.toInt32).toInt8.toInt32))).1 (by decide) (by decide) ?_
      show Steps p.tables e below (T107.setTop (mkF m 176 #[iv p1, iv p2, .val (.long p3), .second, iv (2 : Int32), iv ((p3.toInt32).toInt8.toInt32), iv ((((p3.toUInt64 >>> ((8 : Int32) &&& 0x3f).toInt64.toUInt64).toInt64).toInt32).toInt8.toInt32), iv ((((p3.toUInt64 >>> ((16 : Int32) &&& 0x3f).toInt64.toUInt64).toInt64).toInt32).toInt8.toInt32), rv b71, rv b1_82, rv d1_95] [])) _
      refine XS.iload X107.here hx rfl (hb hby at_176) rfl ?_
      show Steps p.tables e below (T107.setTop (mkF m 178 #[iv p1, iv p2, .val (.long p3), .second, iv (2 : Int32), iv ((p3.toInt32).toInt8.toInt32), iv ((((p3.toUInt64 >>> ((8 : Int32) &&& 0x3f).toInt64.toUInt64).toInt64).toInt32).toInt8.toInt32), iv ((((p3.toUInt64 >>> ((16 : Int32) &&& 0x3f).toInt64.toUInt64).toInt64).toInt32).toInt8.toInt32), rv b71, rv b1_82, rv d1_95] [(.int (2 : Int32))])) _
      refine XS.iconst X107.here hx rfl (hb hby at_178) ?_
      show Steps p.tables e below (T107.setTop (mkF m 179 #[iv p1, iv p2, .val (.long p3), .second, iv (2 : Int32), iv ((p3.toInt32).toInt8.toInt32), iv ((((p3.toUInt64 >>> ((8 : Int32) &&& 0x3f).toInt64.toUInt64).toInt64).toInt32).toInt8.toInt32), iv ((((p3.toUInt64 >>> ((16 : Int32) &&& 0x3f).toInt64.toUInt64).toInt64).toInt32).toInt8.toInt32), rv b71, rv b1_82, rv d1_95] [(.int (1 : Int32)), (.int (2 : Int32))])) _
      refine XS.icmpNo X107.here hx rfl (hb hby at_179) rfl (tlt ((by decide) : (1 : Int32) < (2 : Int32))).2.2.2 ?_
      show Steps p.tables e below (T107.setTop (mkF m 182 #[iv p1, iv p2, .val (.long p3), .second, iv (2 : Int32), iv ((p3.toInt32).toInt8.toInt32), iv ((((p3.toUInt64 >>> ((8 : Int32) &&& 0x3f).toInt64.toUInt64).toInt64).toInt32).toInt8.toInt32), iv ((((p3.toUInt64 >>> ((16 : Int32) &&& 0x3f).toInt64.toUInt64).toInt64).toInt32).toInt8.toInt32), rv b71, rv b1_82, rv d1_95] [])) _
      refine XS.aload X107.here hx rfl (hb hby at_182) rfl rfl ?_
      show Steps p.tables e below (T107.setTop (mkF m 184 #[iv p1, iv p2, .val (.long p3), .second, iv (2 : Int32), iv ((p3.toInt32).toInt8.toInt32), iv ((((p3.toUInt64 >>> ((8 : Int32) &&& 0x3f).toInt64.toUInt64).toInt64).toInt32).toInt8.toInt32), iv ((((p3.toUInt64 >>> ((16 : Int32) &&& 0x3f).toInt64.toUInt64).toInt64).toInt32).toInt8.toInt32), rv b71, rv b1_82, rv d1_95] [(.ref d1_95)])) _
      refine XS.iconst X107.here hx rfl (hb hby at_184) ?_
      show Steps p.tables e below (T107.setTop (mkF m 185 #[iv p1, iv p2, .val (.long p3), .second, iv (2 : Int32), iv ((p3.toInt32).toInt8.toInt32), iv ((((p3.toUInt64 >>> ((8 : Int32) &&& 0x3f).toInt64.toUInt64).toInt64).toInt32).toInt8.toInt32), iv ((((p3.toUInt64 >>> ((16 : Int32) &&& 0x3f).toInt64.toUInt64).toInt64).toInt32).toInt8.toInt32), rv b71, rv b1_82, rv d1_95] [(.int (1 : Int32)), (.ref d1_95)])) _
      exact k
    obtain ⟨cl116, Ar116, qc116, S116, M116, U116, G116⟩ := id (po95_2)
    have hin116 : ¬ ((1 : Int32) < 0 ∨ cl116.slots.size ≤ ((1 : Int32)).toNatClampNeg) := inb_of S116 ⟨by decide, by decide⟩
    have hat116 : cl116.slots[((1 : Int32)).toNatClampNeg]? = some (.int (((((p3.toUInt64 >>> ((8 : Int32) &&& 0x3f).toInt64.toUInt64).toInt64).toInt32).toInt8.toInt32).toInt8.toInt32)) := Has.at U116 hin116 rfl
    have k117 : Way p e below S0 T107 (mkF m 186 #[iv p1, iv p2, .val (.long p3), .second, iv (2 : Int32), iv ((p3.toInt32).toInt8.toInt32), iv ((((p3.toUInt64 >>> ((8 : Int32) &&& 0x3f).toInt64.toUInt64).toInt64).toInt32).toInt8.toInt32), iv ((((p3.toUInt64 >>> ((16 : Int32) &&& 0x3f).toInt64.toUInt64).toInt64).toInt32).toInt8.toInt32), rv b71, rv b1_82, rv d1_95] [(.int (((((p3.toUInt64 >>> ((8 : Int32) &&& 0x3f).toInt64.toUInt64).toInt64).toInt32).toInt8.toInt32).toInt8.toInt32))]) := fun t k => k115 t (X107.baloadBytes hx (j := (1 : Int32)) (v := (.int (((((p3.toUInt64 >>> ((8 : Int32) &&& 0x3f).toInt64.toUInt64).toInt64).toInt32).toInt8.toInt32).toInt8.toInt32))) (by rw [e107]; exact Ar116.1) (State.isArrayOf_alike hZ.alike Ar116.2.1) Ar116.2.2 hin116 hat116 (g := (mkF m 185 #[iv p1, iv p2, .val (.long p3), .second, iv (2 : Int32), iv ((p3.toInt32).toInt8.toInt32), iv ((((p3.toUInt64 >>> ((8 : Int32) &&& 0x3f).toInt64.toUInt64).toInt64).toInt32).toInt8.toInt32), iv ((((p3.toUInt64 >>> ((16 : Int32) &&& 0x3f).toInt64.toUInt64).toInt64).toInt32).toInt8.toInt32), rv b71, rv b1_82, rv d1_95] [(.int (1 : Int32)), (.ref d1_95)])) rfl rfl (hb hby at_185) _ k)
    have k118 : Way p e below S0 T107 (mkF m 211 #[iv p1, iv p2, .val (.long p3), .second, iv (2 : Int32), iv ((p3.toInt32).toInt8.toInt32), iv ((((p3.toUInt64 >>> ((8 : Int32) &&& 0x3f).toInt64.toUInt64).toInt64).toInt32).toInt8.toInt32), iv ((((p3.toUInt64 >>> ((16 : Int32) &&& 0x3f).toInt64.toUInt64).toInt64).toInt32).toInt8.toInt32), rv b71, rv b1_82, rv d1_95] [(.int (1 : Int32))]) := by
      intro t k
      refine k117 t ?_
      refine XS.iload X107.here hx rfl (hb hby at_186) rfl ?_
      show Steps p.tables e below (T107.setTop (mkF m 188 #[iv p1, iv p2, .val (.long p3), .second, iv (2 : Int32), iv ((p3.toInt32).toInt8.toInt32), iv ((((p3.toUInt64 >>> ((8 : Int32) &&& 0x3f).toInt64.toUInt64).toInt64).toInt32).toInt8.toInt32), iv ((((p3.toUInt64 >>> ((16 : Int32) &&& 0x3f).toInt64.toUInt64).toInt64).toInt32).toInt8.toInt32), rv b71, rv b1_82, rv d1_95] [(.int ((((p3.toUInt64 >>> ((8 : Int32) &&& 0x3f).toInt64.toUInt64).toInt64).toInt32).toInt8.toInt32)), (.int (((((p3.toUInt64 >>> ((8 : Int32) &&& 0x3f).toInt64.toUInt64).toInt64).toInt32).toInt8.toInt32).toInt8.toInt32))])) _
      refine XS.icmpYes X107.here hx rfl (pc0 := 188) (pc' := 193) rfl (hb hby at_188) rfl (teq ((own_i2b _) : (((((p3.toUInt64 >>> ((8 : Int32) &&& 0x3f).toInt64.toUInt64).toInt64).toInt32).toInt8.toInt32).toInt8.toInt32) = ((((p3.toUInt64 >>> ((8 : Int32) &&& 0x3f).toInt64.toUInt64).toInt64).toInt32).toInt8.toInt32))).1 (by decide) (by decide) ?_
      show Steps p.tables e below (T107.setTop (mkF m 193 #[iv p1, iv p2, .val (.long p3), .second, iv (2 : Int32), iv ((p3.toInt32).toInt8.toInt32), iv ((((p3.toUInt64 >>> ((8 : Int32) &&& 0x3f).toInt64.toUInt64).toInt64).toInt32).toInt8.toInt32), iv ((((p3.toUInt64 >>> ((16 : Int32) &&& 0x3f).toInt64.toUInt64).toInt64).toInt32).toInt8.toInt32), rv b71, rv b1_82, rv d1_95] [])) _
      refine XS.iload X107.here hx rfl (hb hby at_193) rfl ?_
      show Steps p.tables e below (T107.setTop (mkF m 195 #[iv p1, iv p2, .val (.long p3), .second, iv (2 : Int32), iv ((p3.toInt32).toInt8.toInt32), iv ((((p3.toUInt64 >>> ((8 : Int32) &&& 0x3f).toInt64.toUInt64).toInt64).toInt32).toInt8.toInt32), iv ((((p3.toUInt64 >>> ((16 : Int32) &&& 0x3f).toInt64.toUInt64).toInt64).toInt32).toInt8.toInt32), rv b71, rv b1_82, rv d1_95] [(.int (2 : Int32))])) _
      refine XS.iconst X107.here hx rfl (hb hby at_195) ?_
      show Steps p.tables e below (T107.setTop (mkF m 196 #[iv p1, iv p2, .val (.long p3), .second, iv (2 : Int32), iv ((p3.toInt32).toInt8.toInt32), iv ((((p3.toUInt64 >>> ((8 : Int32) &&& 0x3f).toInt64.toUInt64).toInt64).toInt32).toInt8.toInt32), iv ((((p3.toUInt64 >>> ((16 : Int32) &&& 0x3f).toInt64.toUInt64).toInt64).toInt32).toInt8.toInt32), rv b71, rv b1_82, rv d1_95] [(.int (2 : Int32)), (.int (2 : Int32))])) _
      refine XS.icmpYes X107.here hx rfl (pc0 := 196) (pc' := 210) rfl (hb hby at_196) rfl (flt ((by decide) : ¬ ((2 : Int32) < (2 : Int32)))).2.2.2 (by decide) (by decide) ?_
      show Steps p.tables e below (T107.setTop (mkF m 210 #[iv p1, iv p2, .val (.long p3), .second, iv (2 : Int32), iv ((p3.toInt32).toInt8.toInt32), iv ((((p3.toUInt64 >>> ((8 : Int32) &&& 0x3f).toInt64.toUInt64).toInt64).toInt32).toInt8.toInt32), iv ((((p3.toUInt64 >>> ((16 : Int32) &&& 0x3f).toInt64.toUInt64).toInt64).toInt32).toInt8.toInt32), rv b71, rv b1_82, rv d1_95] [])) _
      refine XS.iconst X107.here hx rfl (hb hby at_210) ?_
      show Steps p.tables e below (T107.setTop (mkF m 211 #[iv p1, iv p2, .val (.long p3), .second, iv (2 : Int32), iv ((p3.toInt32).toInt8.toInt32), iv ((((p3.toUInt64 >>> ((8 : Int32) &&& 0x3f).toInt64.toUInt64).toInt64).toInt32).toInt8.toInt32), iv ((((p3.toUInt64 >>> ((16 : Int32) &&& 0x3f).toInt64.toUInt64).toInt64).toInt32).toInt8.toInt32), rv b71, rv b1_82, rv d1_95] [(.int (1 : Int32))])) _
      exact k
    obtain ⟨fs, hr, hrun, hended, hW, hsame⟩ := X107.leave (v := some (.int (1 : Int32))) (fun h => by rw [Bd.returns] at h; cases h)
    refine ⟨_, _, k118 _ (retN X107 hx (t := .boolean) Bd.returns (by simp) (hb hby at_211) hr), hrun, hended, _, _, rfl, ?_, ⟨_, rfl⟩, hW, hsame.mono (by decide) (by decide)⟩
    show Q_law_met Z w_TRANSMIT p1 p2 p3 h0 n0 _ T107.heap _
    rw [e107]
    exact ⟨rfl, N105⟩
  · have k119 : Way p e below S0 s₁ (mkF m 5 #[iv p1, iv p2, .val (.long p3), .second, iv (3 : Int32), .unset, .unset, .unset, .unset, .unset, .unset] []) := by have q := k1; rw [hi2] at q; exact q
    have k120 : Way p e below S0 s₁ (mkF m 28 #[iv p1, iv p2, .val (.long p3), .second, iv (3 : Int32), iv ((p3.toInt32).toInt8.toInt32), iv ((((p3.toUInt64 >>> ((8 : Int32) &&& 0x3f).toInt64.toUInt64).toInt64).toInt32).toInt8.toInt32), iv ((((p3.toUInt64 >>> ((16 : Int32) &&& 0x3f).toInt64.toUInt64).toInt64).toInt32).toInt8.toInt32), .unset, .unset, .unset] [(.int (3 : Int32))]) := by
      intro t k
      refine k119 t ?_
      refine XS.lloadN X0.here hx rfl (hb hby at_5) rfl ?_
      show Steps p.tables e below (s₁.setTop (mkF m 6 #[iv p1, iv p2, .val (.long p3), .second, iv (3 : Int32), .unset, .unset, .unset, .unset, .unset, .unset] [(.long p3)])) _
      refine XS.l2i X0.here hx rfl (hb hby at_6) rfl ?_
      show Steps p.tables e below (s₁.setTop (mkF m 7 #[iv p1, iv p2, .val (.long p3), .second, iv (3 : Int32), .unset, .unset, .unset, .unset, .unset, .unset] [(.int (p3.toInt32))])) _
      refine XS.i2b X0.here hx rfl (hb hby at_7) rfl ?_
      show Steps p.tables e below (s₁.setTop (mkF m 8 #[iv p1, iv p2, .val (.long p3), .second, iv (3 : Int32), .unset, .unset, .unset, .unset, .unset, .unset] [(.int ((p3.toInt32).toInt8.toInt32))])) _
      refine XS.istore X0.here hx rfl (hb hby at_8) rfl (l' := #[iv p1, iv p2, .val (.long p3), .second, iv (3 : Int32), iv ((p3.toInt32).toInt8.toInt32), .unset, .unset, .unset, .unset, .unset]) rfl ?_
      show Steps p.tables e below (s₁.setTop (mkF m 10 #[iv p1, iv p2, .val (.long p3), .second, iv (3 : Int32), iv ((p3.toInt32).toInt8.toInt32), .unset, .unset, .unset, .unset, .unset] [])) _
      refine XS.lloadN X0.here hx rfl (hb hby at_10) rfl ?_
      show Steps p.tables e below (s₁.setTop (mkF m 11 #[iv p1, iv p2, .val (.long p3), .second, iv (3 : Int32), iv ((p3.toInt32).toInt8.toInt32), .unset, .unset, .unset, .unset, .unset] [(.long p3)])) _
      refine XS.bipush X0.here hx rfl (hb hby at_11) ?_
      show Steps p.tables e below (s₁.setTop (mkF m 13 #[iv p1, iv p2, .val (.long p3), .second, iv (3 : Int32), iv ((p3.toInt32).toInt8.toInt32), .unset, .unset, .unset, .unset, .unset] [(.int (8 : Int32)), (.long p3)])) _
      refine XS.lushr X0.here hx rfl (hb hby at_13) rfl ?_
      show Steps p.tables e below (s₁.setTop (mkF m 14 #[iv p1, iv p2, .val (.long p3), .second, iv (3 : Int32), iv ((p3.toInt32).toInt8.toInt32), .unset, .unset, .unset, .unset, .unset] [(.long ((p3.toUInt64 >>> ((8 : Int32) &&& 0x3f).toInt64.toUInt64).toInt64))])) _
      refine XS.l2i X0.here hx rfl (hb hby at_14) rfl ?_
      show Steps p.tables e below (s₁.setTop (mkF m 15 #[iv p1, iv p2, .val (.long p3), .second, iv (3 : Int32), iv ((p3.toInt32).toInt8.toInt32), .unset, .unset, .unset, .unset, .unset] [(.int (((p3.toUInt64 >>> ((8 : Int32) &&& 0x3f).toInt64.toUInt64).toInt64).toInt32))])) _
      refine XS.i2b X0.here hx rfl (hb hby at_15) rfl ?_
      show Steps p.tables e below (s₁.setTop (mkF m 16 #[iv p1, iv p2, .val (.long p3), .second, iv (3 : Int32), iv ((p3.toInt32).toInt8.toInt32), .unset, .unset, .unset, .unset, .unset] [(.int ((((p3.toUInt64 >>> ((8 : Int32) &&& 0x3f).toInt64.toUInt64).toInt64).toInt32).toInt8.toInt32))])) _
      refine XS.istore X0.here hx rfl (hb hby at_16) rfl (l' := #[iv p1, iv p2, .val (.long p3), .second, iv (3 : Int32), iv ((p3.toInt32).toInt8.toInt32), iv ((((p3.toUInt64 >>> ((8 : Int32) &&& 0x3f).toInt64.toUInt64).toInt64).toInt32).toInt8.toInt32), .unset, .unset, .unset, .unset]) rfl ?_
      show Steps p.tables e below (s₁.setTop (mkF m 18 #[iv p1, iv p2, .val (.long p3), .second, iv (3 : Int32), iv ((p3.toInt32).toInt8.toInt32), iv ((((p3.toUInt64 >>> ((8 : Int32) &&& 0x3f).toInt64.toUInt64).toInt64).toInt32).toInt8.toInt32), .unset, .unset, .unset, .unset] [])) _
      refine XS.lloadN X0.here hx rfl (hb hby at_18) rfl ?_
      show Steps p.tables e below (s₁.setTop (mkF m 19 #[iv p1, iv p2, .val (.long p3), .second, iv (3 : Int32), iv ((p3.toInt32).toInt8.toInt32), iv ((((p3.toUInt64 >>> ((8 : Int32) &&& 0x3f).toInt64.toUInt64).toInt64).toInt32).toInt8.toInt32), .unset, .unset, .unset, .unset] [(.long p3)])) _
      refine XS.bipush X0.here hx rfl (hb hby at_19) ?_
      show Steps p.tables e below (s₁.setTop (mkF m 21 #[iv p1, iv p2, .val (.long p3), .second, iv (3 : Int32), iv ((p3.toInt32).toInt8.toInt32), iv ((((p3.toUInt64 >>> ((8 : Int32) &&& 0x3f).toInt64.toUInt64).toInt64).toInt32).toInt8.toInt32), .unset, .unset, .unset, .unset] [(.int (16 : Int32)), (.long p3)])) _
      refine XS.lushr X0.here hx rfl (hb hby at_21) rfl ?_
      show Steps p.tables e below (s₁.setTop (mkF m 22 #[iv p1, iv p2, .val (.long p3), .second, iv (3 : Int32), iv ((p3.toInt32).toInt8.toInt32), iv ((((p3.toUInt64 >>> ((8 : Int32) &&& 0x3f).toInt64.toUInt64).toInt64).toInt32).toInt8.toInt32), .unset, .unset, .unset, .unset] [(.long ((p3.toUInt64 >>> ((16 : Int32) &&& 0x3f).toInt64.toUInt64).toInt64))])) _
      refine XS.l2i X0.here hx rfl (hb hby at_22) rfl ?_
      show Steps p.tables e below (s₁.setTop (mkF m 23 #[iv p1, iv p2, .val (.long p3), .second, iv (3 : Int32), iv ((p3.toInt32).toInt8.toInt32), iv ((((p3.toUInt64 >>> ((8 : Int32) &&& 0x3f).toInt64.toUInt64).toInt64).toInt32).toInt8.toInt32), .unset, .unset, .unset, .unset] [(.int (((p3.toUInt64 >>> ((16 : Int32) &&& 0x3f).toInt64.toUInt64).toInt64).toInt32))])) _
      refine XS.i2b X0.here hx rfl (hb hby at_23) rfl ?_
      show Steps p.tables e below (s₁.setTop (mkF m 24 #[iv p1, iv p2, .val (.long p3), .second, iv (3 : Int32), iv ((p3.toInt32).toInt8.toInt32), iv ((((p3.toUInt64 >>> ((8 : Int32) &&& 0x3f).toInt64.toUInt64).toInt64).toInt32).toInt8.toInt32), .unset, .unset, .unset, .unset] [(.int ((((p3.toUInt64 >>> ((16 : Int32) &&& 0x3f).toInt64.toUInt64).toInt64).toInt32).toInt8.toInt32))])) _
      refine XS.istore X0.here hx rfl (hb hby at_24) rfl (l' := #[iv p1, iv p2, .val (.long p3), .second, iv (3 : Int32), iv ((p3.toInt32).toInt8.toInt32), iv ((((p3.toUInt64 >>> ((8 : Int32) &&& 0x3f).toInt64.toUInt64).toInt64).toInt32).toInt8.toInt32), iv ((((p3.toUInt64 >>> ((16 : Int32) &&& 0x3f).toInt64.toUInt64).toInt64).toInt32).toInt8.toInt32), .unset, .unset, .unset]) rfl ?_
      show Steps p.tables e below (s₁.setTop (mkF m 26 #[iv p1, iv p2, .val (.long p3), .second, iv (3 : Int32), iv ((p3.toInt32).toInt8.toInt32), iv ((((p3.toUInt64 >>> ((8 : Int32) &&& 0x3f).toInt64.toUInt64).toInt64).toInt32).toInt8.toInt32), iv ((((p3.toUInt64 >>> ((16 : Int32) &&& 0x3f).toInt64.toUInt64).toInt64).toInt32).toInt8.toInt32), .unset, .unset, .unset] [])) _
      refine XS.iload X0.here hx rfl (hb hby at_26) rfl ?_
      show Steps p.tables e below (s₁.setTop (mkF m 28 #[iv p1, iv p2, .val (.long p3), .second, iv (3 : Int32), iv ((p3.toInt32).toInt8.toInt32), iv ((((p3.toUInt64 >>> ((8 : Int32) &&& 0x3f).toInt64.toUInt64).toInt64).toInt32).toInt8.toInt32), iv ((((p3.toUInt64 >>> ((16 : Int32) &&& 0x3f).toInt64.toUInt64).toInt64).toInt32).toInt8.toInt32), .unset, .unset, .unset] [(.int (3 : Int32))])) _
      exact k
    obtain ⟨T121, h121, c121, X121, e121, E121, A121, B121, st121⟩ := newPE X0 hx hZ (hw _ (List.mem_of_getElem? (i := 0) rfl)) e0 (g := (mkF m 28 #[iv p1, iv p2, .val (.long p3), .second, iv (3 : Int32), iv ((p3.toInt32).toInt8.toInt32), iv ((((p3.toUInt64 >>> ((8 : Int32) &&& 0x3f).toInt64.toUInt64).toInt64).toInt32).toInt8.toInt32), iv ((((p3.toUInt64 >>> ((16 : Int32) &&& 0x3f).toInt64.toUInt64).toInt64).toInt32).toInt8.toInt32), .unset, .unset, .unset] [(.int (3 : Int32))])) rfl (hb hby at_28) rfl (by decide) (cap := 3) (by decide) (by decide) (by decide) (by decide) (ad := "[B") (by decide)
    obtain ⟨b121, g121⟩ : ∃ z, z = h0.size := ⟨_, rfl⟩
    rw [← g121] at A121 B121 st121
    have O121 := O0.ext E121
    have v121 : Arv Z h121 b121 c121 .byte (3 : Int32) [(.int (0 : Int32)), (.int (0 : Int32)), (.int (0 : Int32))] (.int (0 : Int32)) := (Arv.new A121 (by decide)).pad (pad_rep [] (.int (0 : Int32)) 3)
    have k122 : Way p e below S0 T121 (mkF m 30 #[iv p1, iv p2, .val (.long p3), .second, iv (3 : Int32), iv ((p3.toInt32).toInt8.toInt32), iv ((((p3.toUInt64 >>> ((8 : Int32) &&& 0x3f).toInt64.toUInt64).toInt64).toInt32).toInt8.toInt32), iv ((((p3.toUInt64 >>> ((16 : Int32) &&& 0x3f).toInt64.toUInt64).toInt64).toInt32).toInt8.toInt32), .unset, .unset, .unset] [(.ref b121)]) := fun t k => k120 t (st121 _ k)
    have k123 : Way p e below S0 T121 (mkF m 42 #[iv p1, iv p2, .val (.long p3), .second, iv (3 : Int32), iv ((p3.toInt32).toInt8.toInt32), iv ((((p3.toUInt64 >>> ((8 : Int32) &&& 0x3f).toInt64.toUInt64).toInt64).toInt32).toInt8.toInt32), iv ((((p3.toUInt64 >>> ((16 : Int32) &&& 0x3f).toInt64.toUInt64).toInt64).toInt32).toInt8.toInt32), rv b121, .unset, .unset] [(.int ((p3.toInt32).toInt8.toInt32)), (.int (0 : Int32)), (.ref b121)]) := by
      intro t k
      refine k122 t ?_
      refine XS.astore X121.here hx rfl (hb hby at_30) rfl rfl (l' := #[iv p1, iv p2, .val (.long p3), .second, iv (3 : Int32), iv ((p3.toInt32).toInt8.toInt32), iv ((((p3.toUInt64 >>> ((8 : Int32) &&& 0x3f).toInt64.toUInt64).toInt64).toInt32).toInt8.toInt32), iv ((((p3.toUInt64 >>> ((16 : Int32) &&& 0x3f).toInt64.toUInt64).toInt64).toInt32).toInt8.toInt32), rv b121, .unset, .unset]) rfl ?_
      show Steps p.tables e below (T121.setTop (mkF m 32 #[iv p1, iv p2, .val (.long p3), .second, iv (3 : Int32), iv ((p3.toInt32).toInt8.toInt32), iv ((((p3.toUInt64 >>> ((8 : Int32) &&& 0x3f).toInt64.toUInt64).toInt64).toInt32).toInt8.toInt32), iv ((((p3.toUInt64 >>> ((16 : Int32) &&& 0x3f).toInt64.toUInt64).toInt64).toInt32).toInt8.toInt32), rv b121, .unset, .unset] [])) _
      refine XS.iload X121.here hx rfl (hb hby at_32) rfl ?_
      show Steps p.tables e below (T121.setTop (mkF m 34 #[iv p1, iv p2, .val (.long p3), .second, iv (3 : Int32), iv ((p3.toInt32).toInt8.toInt32), iv ((((p3.toUInt64 >>> ((8 : Int32) &&& 0x3f).toInt64.toUInt64).toInt64).toInt32).toInt8.toInt32), iv ((((p3.toUInt64 >>> ((16 : Int32) &&& 0x3f).toInt64.toUInt64).toInt64).toInt32).toInt8.toInt32), rv b121, .unset, .unset] [(.int (3 : Int32))])) _
      refine XS.ifNo X121.here hx rfl (hb hby at_34) rfl ((if0 _ _).trans (tlt ((by decide) : (0 : Int32) < (3 : Int32))).2.2.2) ?_
      show Steps p.tables e below (T121.setTop (mkF m 37 #[iv p1, iv p2, .val (.long p3), .second, iv (3 : Int32), iv ((p3.toInt32).toInt8.toInt32), iv ((((p3.toUInt64 >>> ((8 : Int32) &&& 0x3f).toInt64.toUInt64).toInt64).toInt32).toInt8.toInt32), iv ((((p3.toUInt64 >>> ((16 : Int32) &&& 0x3f).toInt64.toUInt64).toInt64).toInt32).toInt8.toInt32), rv b121, .unset, .unset] [])) _
      refine XS.aload X121.here hx rfl (hb hby at_37) rfl rfl ?_
      show Steps p.tables e below (T121.setTop (mkF m 39 #[iv p1, iv p2, .val (.long p3), .second, iv (3 : Int32), iv ((p3.toInt32).toInt8.toInt32), iv ((((p3.toUInt64 >>> ((8 : Int32) &&& 0x3f).toInt64.toUInt64).toInt64).toInt32).toInt8.toInt32), iv ((((p3.toUInt64 >>> ((16 : Int32) &&& 0x3f).toInt64.toUInt64).toInt64).toInt32).toInt8.toInt32), rv b121, .unset, .unset] [(.ref b121)])) _
      refine XS.iconst X121.here hx rfl (hb hby at_39) ?_
      show Steps p.tables e below (T121.setTop (mkF m 40 #[iv p1, iv p2, .val (.long p3), .second, iv (3 : Int32), iv ((p3.toInt32).toInt8.toInt32), iv ((((p3.toUInt64 >>> ((8 : Int32) &&& 0x3f).toInt64.toUInt64).toInt64).toInt32).toInt8.toInt32), iv ((((p3.toUInt64 >>> ((16 : Int32) &&& 0x3f).toInt64.toUInt64).toInt64).toInt32).toInt8.toInt32), rv b121, .unset, .unset] [(.int (0 : Int32)), (.ref b121)])) _
      refine XS.iload X121.here hx rfl (hb hby at_40) rfl ?_
      show Steps p.tables e below (T121.setTop (mkF m 42 #[iv p1, iv p2, .val (.long p3), .second, iv (3 : Int32), iv ((p3.toInt32).toInt8.toInt32), iv ((((p3.toUInt64 >>> ((8 : Int32) &&& 0x3f).toInt64.toUInt64).toInt64).toInt32).toInt8.toInt32), iv ((((p3.toUInt64 >>> ((16 : Int32) &&& 0x3f).toInt64.toUInt64).toInt64).toInt32).toInt8.toInt32), rv b121, .unset, .unset] [(.int ((p3.toInt32).toInt8.toInt32)), (.int (0 : Int32)), (.ref b121)])) _
      exact k
    obtain ⟨cl124, Ar124, qc124, S124, M124, U124, G124⟩ := id (v121)
    have hin124 : ¬ ((0 : Int32) < 0 ∨ cl124.slots.size ≤ ((0 : Int32)).toNatClampNeg) := inb_of S124 ⟨by decide, by decide⟩
    obtain ⟨T124, h124, X124, e124, W124, st124⟩ := stB X121 hx hZ e121 Ar124 (j := (0 : Int32)) hin124 (g := (mkF m 42 #[iv p1, iv p2, .val (.long p3), .second, iv (3 : Int32), iv ((p3.toInt32).toInt8.toInt32), iv ((((p3.toUInt64 >>> ((8 : Int32) &&& 0x3f).toInt64.toUInt64).toInt64).toInt32).toInt8.toInt32), iv ((((p3.toUInt64 >>> ((16 : Int32) &&& 0x3f).toInt64.toUInt64).toInt64).toInt32).toInt8.toInt32), rv b121, .unset, .unset] [(.int ((p3.toInt32).toInt8.toInt32)), (.int (0 : Int32)), (.ref b121)])) rfl rfl (hb hby at_42)
    have ge125 : n0 ≤ b121 := Nat.le_trans (own_old O0) (Nat.le_of_eq g121.symm)
    have O124 := O121.wr W124 ge125
    have N124 := Fr.snoc X124 N0 ge125
    have va124 : Arv Z h124 b121 c121 .byte (3 : Int32) [(.int (((p3.toInt32).toInt8.toInt32).toInt8.toInt32)), (.int (0 : Int32)), (.int (0 : Int32))] (.int (0 : Int32)) := Arv.set Ar124 qc124 S124 M124 U124 G124 (fits_nar_byte _) W124 0 rfl (Nat.le_of_ble_eq_true rfl)
    have k126 : Way p e below S0 T124 (mkF m 43 #[iv p1, iv p2, .val (.long p3), .second, iv (3 : Int32), iv ((p3.toInt32).toInt8.toInt32), iv ((((p3.toUInt64 >>> ((8 : Int32) &&& 0x3f).toInt64.toUInt64).toInt64).toInt32).toInt8.toInt32), iv ((((p3.toUInt64 >>> ((16 : Int32) &&& 0x3f).toInt64.toUInt64).toInt64).toInt32).toInt8.toInt32), rv b121, .unset, .unset] []) := fun t k => k123 t (st124 _ k)
    have k127 : Way p e below S0 T124 (mkF m 54 #[iv p1, iv p2, .val (.long p3), .second, iv (3 : Int32), iv ((p3.toInt32).toInt8.toInt32), iv ((((p3.toUInt64 >>> ((8 : Int32) &&& 0x3f).toInt64.toUInt64).toInt64).toInt32).toInt8.toInt32), iv ((((p3.toUInt64 >>> ((16 : Int32) &&& 0x3f).toInt64.toUInt64).toInt64).toInt32).toInt8.toInt32), rv b121, .unset, .unset] [(.int ((((p3.toUInt64 >>> ((8 : Int32) &&& 0x3f).toInt64.toUInt64).toInt64).toInt32).toInt8.toInt32)), (.int (1 : Int32)), (.ref b121)]) := by
      intro t k
      refine k126 t ?_
      refine XS.iload X124.here hx rfl (hb hby at_43) rfl ?_
      show Steps p.tables e below (T124.setTop (mkF m 45 #[iv p1, iv p2, .val (.long p3), .second, iv (3 : Int32), iv ((p3.toInt32).toInt8.toInt32), iv ((((p3.toUInt64 >>> ((8 : Int32) &&& 0x3f).toInt64.toUInt64).toInt64).toInt32).toInt8.toInt32), iv ((((p3.toUInt64 >>> ((16 : Int32) &&& 0x3f).toInt64.toUInt64).toInt64).toInt32).toInt8.toInt32), rv b121, .unset, .unset] [(.int (3 : Int32))])) _
      refine XS.iconst X124.here hx rfl (hb hby at_45) ?_
      show Steps p.tables e below (T124.setTop (mkF m 46 #[iv p1, iv p2, .val (.long p3), .second, iv (3 : Int32), iv ((p3.toInt32).toInt8.toInt32), iv ((((p3.toUInt64 >>> ((8 : Int32) &&& 0x3f).toInt64.toUInt64).toInt64).toInt32).toInt8.toInt32), iv ((((p3.toUInt64 >>> ((16 : Int32) &&& 0x3f).toInt64.toUInt64).toInt64).toInt32).toInt8.toInt32), rv b121, .unset, .unset] [(.int (1 : Int32)), (.int (3 : Int32))])) _
      refine XS.icmpNo X124.here hx rfl (hb hby at_46) rfl (tlt ((by decide) : (1 : Int32) < (3 : Int32))).2.2.2 ?_
      show Steps p.tables e below (T124.setTop (mkF m 49 #[iv p1, iv p2, .val (.long p3), .second, iv (3 : Int32), iv ((p3.toInt32).toInt8.toInt32), iv ((((p3.toUInt64 >>> ((8 : Int32) &&& 0x3f).toInt64.toUInt64).toInt64).toInt32).toInt8.toInt32), iv ((((p3.toUInt64 >>> ((16 : Int32) &&& 0x3f).toInt64.toUInt64).toInt64).toInt32).toInt8.toInt32), rv b121, .unset, .unset] [])) _
      refine XS.aload X124.here hx rfl (hb hby at_49) rfl rfl ?_
      show Steps p.tables e below (T124.setTop (mkF m 51 #[iv p1, iv p2, .val (.long p3), .second, iv (3 : Int32), iv ((p3.toInt32).toInt8.toInt32), iv ((((p3.toUInt64 >>> ((8 : Int32) &&& 0x3f).toInt64.toUInt64).toInt64).toInt32).toInt8.toInt32), iv ((((p3.toUInt64 >>> ((16 : Int32) &&& 0x3f).toInt64.toUInt64).toInt64).toInt32).toInt8.toInt32), rv b121, .unset, .unset] [(.ref b121)])) _
      refine XS.iconst X124.here hx rfl (hb hby at_51) ?_
      show Steps p.tables e below (T124.setTop (mkF m 52 #[iv p1, iv p2, .val (.long p3), .second, iv (3 : Int32), iv ((p3.toInt32).toInt8.toInt32), iv ((((p3.toUInt64 >>> ((8 : Int32) &&& 0x3f).toInt64.toUInt64).toInt64).toInt32).toInt8.toInt32), iv ((((p3.toUInt64 >>> ((16 : Int32) &&& 0x3f).toInt64.toUInt64).toInt64).toInt32).toInt8.toInt32), rv b121, .unset, .unset] [(.int (1 : Int32)), (.ref b121)])) _
      refine XS.iload X124.here hx rfl (hb hby at_52) rfl ?_
      show Steps p.tables e below (T124.setTop (mkF m 54 #[iv p1, iv p2, .val (.long p3), .second, iv (3 : Int32), iv ((p3.toInt32).toInt8.toInt32), iv ((((p3.toUInt64 >>> ((8 : Int32) &&& 0x3f).toInt64.toUInt64).toInt64).toInt32).toInt8.toInt32), iv ((((p3.toUInt64 >>> ((16 : Int32) &&& 0x3f).toInt64.toUInt64).toInt64).toInt32).toInt8.toInt32), rv b121, .unset, .unset] [(.int ((((p3.toUInt64 >>> ((8 : Int32) &&& 0x3f).toInt64.toUInt64).toInt64).toInt32).toInt8.toInt32)), (.int (1 : Int32)), (.ref b121)])) _
      exact k
    obtain ⟨cl128, Ar128, qc128, S128, M128, U128, G128⟩ := id (va124)
    have hin128 : ¬ ((1 : Int32) < 0 ∨ cl128.slots.size ≤ ((1 : Int32)).toNatClampNeg) := inb_of S128 ⟨by decide, by decide⟩
    obtain ⟨T128, h128, X128, e128, W128, st128⟩ := stB X124 hx hZ e124 Ar128 (j := (1 : Int32)) hin128 (g := (mkF m 54 #[iv p1, iv p2, .val (.long p3), .second, iv (3 : Int32), iv ((p3.toInt32).toInt8.toInt32), iv ((((p3.toUInt64 >>> ((8 : Int32) &&& 0x3f).toInt64.toUInt64).toInt64).toInt32).toInt8.toInt32), iv ((((p3.toUInt64 >>> ((16 : Int32) &&& 0x3f).toInt64.toUInt64).toInt64).toInt32).toInt8.toInt32), rv b121, .unset, .unset] [(.int ((((p3.toUInt64 >>> ((8 : Int32) &&& 0x3f).toInt64.toUInt64).toInt64).toInt32).toInt8.toInt32)), (.int (1 : Int32)), (.ref b121)])) rfl rfl (hb hby at_54)
    have O128 := O124.wr W128 ge125
    have N128 := Fr.snoc X128 N124 ge125
    have va128 : Arv Z h128 b121 c121 .byte (3 : Int32) [(.int (((p3.toInt32).toInt8.toInt32).toInt8.toInt32)), (.int (((((p3.toUInt64 >>> ((8 : Int32) &&& 0x3f).toInt64.toUInt64).toInt64).toInt32).toInt8.toInt32).toInt8.toInt32)), (.int (0 : Int32))] (.int (0 : Int32)) := Arv.set Ar128 qc128 S128 M128 U128 G128 (fits_nar_byte _) W128 1 rfl (Nat.le_of_ble_eq_true rfl)
    have k129 : Way p e below S0 T128 (mkF m 55 #[iv p1, iv p2, .val (.long p3), .second, iv (3 : Int32), iv ((p3.toInt32).toInt8.toInt32), iv ((((p3.toUInt64 >>> ((8 : Int32) &&& 0x3f).toInt64.toUInt64).toInt64).toInt32).toInt8.toInt32), iv ((((p3.toUInt64 >>> ((16 : Int32) &&& 0x3f).toInt64.toUInt64).toInt64).toInt32).toInt8.toInt32), rv b121, .unset, .unset] []) := fun t k => k127 t (st128 _ k)
    have k130 : Way p e below S0 T128 (mkF m 66 #[iv p1, iv p2, .val (.long p3), .second, iv (3 : Int32), iv ((p3.toInt32).toInt8.toInt32), iv ((((p3.toUInt64 >>> ((8 : Int32) &&& 0x3f).toInt64.toUInt64).toInt64).toInt32).toInt8.toInt32), iv ((((p3.toUInt64 >>> ((16 : Int32) &&& 0x3f).toInt64.toUInt64).toInt64).toInt32).toInt8.toInt32), rv b121, .unset, .unset] [(.int ((((p3.toUInt64 >>> ((16 : Int32) &&& 0x3f).toInt64.toUInt64).toInt64).toInt32).toInt8.toInt32)), (.int (2 : Int32)), (.ref b121)]) := by
      intro t k
      refine k129 t ?_
      refine XS.iload X128.here hx rfl (hb hby at_55) rfl ?_
      show Steps p.tables e below (T128.setTop (mkF m 57 #[iv p1, iv p2, .val (.long p3), .second, iv (3 : Int32), iv ((p3.toInt32).toInt8.toInt32), iv ((((p3.toUInt64 >>> ((8 : Int32) &&& 0x3f).toInt64.toUInt64).toInt64).toInt32).toInt8.toInt32), iv ((((p3.toUInt64 >>> ((16 : Int32) &&& 0x3f).toInt64.toUInt64).toInt64).toInt32).toInt8.toInt32), rv b121, .unset, .unset] [(.int (3 : Int32))])) _
      refine XS.iconst X128.here hx rfl (hb hby at_57) ?_
      show Steps p.tables e below (T128.setTop (mkF m 58 #[iv p1, iv p2, .val (.long p3), .second, iv (3 : Int32), iv ((p3.toInt32).toInt8.toInt32), iv ((((p3.toUInt64 >>> ((8 : Int32) &&& 0x3f).toInt64.toUInt64).toInt64).toInt32).toInt8.toInt32), iv ((((p3.toUInt64 >>> ((16 : Int32) &&& 0x3f).toInt64.toUInt64).toInt64).toInt32).toInt8.toInt32), rv b121, .unset, .unset] [(.int (2 : Int32)), (.int (3 : Int32))])) _
      refine XS.icmpNo X128.here hx rfl (hb hby at_58) rfl (tlt ((by decide) : (2 : Int32) < (3 : Int32))).2.2.2 ?_
      show Steps p.tables e below (T128.setTop (mkF m 61 #[iv p1, iv p2, .val (.long p3), .second, iv (3 : Int32), iv ((p3.toInt32).toInt8.toInt32), iv ((((p3.toUInt64 >>> ((8 : Int32) &&& 0x3f).toInt64.toUInt64).toInt64).toInt32).toInt8.toInt32), iv ((((p3.toUInt64 >>> ((16 : Int32) &&& 0x3f).toInt64.toUInt64).toInt64).toInt32).toInt8.toInt32), rv b121, .unset, .unset] [])) _
      refine XS.aload X128.here hx rfl (hb hby at_61) rfl rfl ?_
      show Steps p.tables e below (T128.setTop (mkF m 63 #[iv p1, iv p2, .val (.long p3), .second, iv (3 : Int32), iv ((p3.toInt32).toInt8.toInt32), iv ((((p3.toUInt64 >>> ((8 : Int32) &&& 0x3f).toInt64.toUInt64).toInt64).toInt32).toInt8.toInt32), iv ((((p3.toUInt64 >>> ((16 : Int32) &&& 0x3f).toInt64.toUInt64).toInt64).toInt32).toInt8.toInt32), rv b121, .unset, .unset] [(.ref b121)])) _
      refine XS.iconst X128.here hx rfl (hb hby at_63) ?_
      show Steps p.tables e below (T128.setTop (mkF m 64 #[iv p1, iv p2, .val (.long p3), .second, iv (3 : Int32), iv ((p3.toInt32).toInt8.toInt32), iv ((((p3.toUInt64 >>> ((8 : Int32) &&& 0x3f).toInt64.toUInt64).toInt64).toInt32).toInt8.toInt32), iv ((((p3.toUInt64 >>> ((16 : Int32) &&& 0x3f).toInt64.toUInt64).toInt64).toInt32).toInt8.toInt32), rv b121, .unset, .unset] [(.int (2 : Int32)), (.ref b121)])) _
      refine XS.iload X128.here hx rfl (hb hby at_64) rfl ?_
      show Steps p.tables e below (T128.setTop (mkF m 66 #[iv p1, iv p2, .val (.long p3), .second, iv (3 : Int32), iv ((p3.toInt32).toInt8.toInt32), iv ((((p3.toUInt64 >>> ((8 : Int32) &&& 0x3f).toInt64.toUInt64).toInt64).toInt32).toInt8.toInt32), iv ((((p3.toUInt64 >>> ((16 : Int32) &&& 0x3f).toInt64.toUInt64).toInt64).toInt32).toInt8.toInt32), rv b121, .unset, .unset] [(.int ((((p3.toUInt64 >>> ((16 : Int32) &&& 0x3f).toInt64.toUInt64).toInt64).toInt32).toInt8.toInt32)), (.int (2 : Int32)), (.ref b121)])) _
      exact k
    obtain ⟨cl131, Ar131, qc131, S131, M131, U131, G131⟩ := id (va128)
    have hin131 : ¬ ((2 : Int32) < 0 ∨ cl131.slots.size ≤ ((2 : Int32)).toNatClampNeg) := inb_of S131 ⟨by decide, by decide⟩
    obtain ⟨T131, h131, X131, e131, W131, st131⟩ := stB X128 hx hZ e128 Ar131 (j := (2 : Int32)) hin131 (g := (mkF m 66 #[iv p1, iv p2, .val (.long p3), .second, iv (3 : Int32), iv ((p3.toInt32).toInt8.toInt32), iv ((((p3.toUInt64 >>> ((8 : Int32) &&& 0x3f).toInt64.toUInt64).toInt64).toInt32).toInt8.toInt32), iv ((((p3.toUInt64 >>> ((16 : Int32) &&& 0x3f).toInt64.toUInt64).toInt64).toInt32).toInt8.toInt32), rv b121, .unset, .unset] [(.int ((((p3.toUInt64 >>> ((16 : Int32) &&& 0x3f).toInt64.toUInt64).toInt64).toInt32).toInt8.toInt32)), (.int (2 : Int32)), (.ref b121)])) rfl rfl (hb hby at_66)
    have O131 := O128.wr W131 ge125
    have N131 := Fr.snoc X131 N128 ge125
    have va131 : Arv Z h131 b121 c121 .byte (3 : Int32) [(.int (((p3.toInt32).toInt8.toInt32).toInt8.toInt32)), (.int (((((p3.toUInt64 >>> ((8 : Int32) &&& 0x3f).toInt64.toUInt64).toInt64).toInt32).toInt8.toInt32).toInt8.toInt32)), (.int (((((p3.toUInt64 >>> ((16 : Int32) &&& 0x3f).toInt64.toUInt64).toInt64).toInt32).toInt8.toInt32).toInt8.toInt32))] (.int (0 : Int32)) := Arv.set Ar131 qc131 S131 M131 U131 G131 (fits_nar_byte _) W131 2 rfl (Nat.le_of_ble_eq_true rfl)
    have k132 : Way p e below S0 T131 (mkF m 67 #[iv p1, iv p2, .val (.long p3), .second, iv (3 : Int32), iv ((p3.toInt32).toInt8.toInt32), iv ((((p3.toUInt64 >>> ((8 : Int32) &&& 0x3f).toInt64.toUInt64).toInt64).toInt32).toInt8.toInt32), iv ((((p3.toUInt64 >>> ((16 : Int32) &&& 0x3f).toInt64.toUInt64).toInt64).toInt32).toInt8.toInt32), rv b121, .unset, .unset] []) := fun t k => k130 t (st131 _ k)
    have k133 : Way p e below S0 T131 (mkF m 70 #[iv p1, iv p2, .val (.long p3), .second, iv (3 : Int32), iv ((p3.toInt32).toInt8.toInt32), iv ((((p3.toUInt64 >>> ((8 : Int32) &&& 0x3f).toInt64.toUInt64).toInt64).toInt32).toInt8.toInt32), iv ((((p3.toUInt64 >>> ((16 : Int32) &&& 0x3f).toInt64.toUInt64).toInt64).toInt32).toInt8.toInt32), rv b121, .unset, .unset] [(.ref b121), (.int p1)]) := by
      intro t k
      refine k132 t ?_
      refine XS.iloadN X131.here hx rfl (hb hby at_67) rfl ?_
      show Steps p.tables e below (T131.setTop (mkF m 68 #[iv p1, iv p2, .val (.long p3), .second, iv (3 : Int32), iv ((p3.toInt32).toInt8.toInt32), iv ((((p3.toUInt64 >>> ((8 : Int32) &&& 0x3f).toInt64.toUInt64).toInt64).toInt32).toInt8.toInt32), iv ((((p3.toUInt64 >>> ((16 : Int32) &&& 0x3f).toInt64.toUInt64).toInt64).toInt32).toInt8.toInt32), rv b121, .unset, .unset] [(.int p1)])) _
      refine XS.aload X131.here hx rfl (hb hby at_68) rfl rfl ?_
      show Steps p.tables e below (T131.setTop (mkF m 70 #[iv p1, iv p2, .val (.long p3), .second, iv (3 : Int32), iv ((p3.toInt32).toInt8.toInt32), iv ((((p3.toUInt64 >>> ((8 : Int32) &&& 0x3f).toInt64.toUInt64).toInt64).toInt32).toInt8.toInt32), iv ((((p3.toUInt64 >>> ((16 : Int32) &&& 0x3f).toInt64.toUInt64).toInt64).toInt32).toInt8.toInt32), rv b121, .unset, .unset] [(.ref b121), (.int p1)])) _
      exact k
    have f134 : Exa Z h131 b121 "[B" := (((B121.wr W124).wr W128).wr W131)
    obtain ⟨_, _, ⟨T135, L135, kk135, nn135⟩, -, X135, ⟨Lc135, hQ135, l135, y135, z135⟩, st135⟩ := Jvm.LawKit.callS X131 hx (y := (⟨"com/example/aspectwise/aspectwise/cmri/Packet", "transmit", "(I[B)Lcom/example/aspectwise/aspectwise/cmri/Packet;"⟩ : MethodName)) hown (mvT hZ (hw _ (List.mem_of_getElem? (i := 1) rfl))) (mvT hZ (hw _ (List.mem_of_getElem? (i := 2) rfl))) (mvT hZ (hw _ (List.mem_of_getElem? (i := 3) rfl))) (mvT hZ (hw _ (List.mem_of_getElem? (i := 4) rfl))) (by decide) (backOf (W := 0) (trans3 l Z a0 hw [] w_TRANSMIT G p1 b121 c121 (((p3.toInt32).toInt8.toInt32).toInt8.toInt32) (((((p3.toUInt64 >>> ((8 : Int32) &&& 0x3f).toInt64.toUInt64).toInt64).toInt32).toInt8.toInt32).toInt8.toInt32) (((((p3.toUInt64 >>> ((16 : Int32) &&& 0x3f).toInt64.toUInt64).toInt64).toInt32).toInt8.toInt32).toInt8.toInt32) h131 n0 O131 (f134 : Exa Z h131 b121 "[B") (va131 : Arv Z h131 b121 c121 .byte (3 : Int32) [(.int (((p3.toInt32).toInt8.toInt32).toInt8.toInt32)), (.int (((((p3.toUInt64 >>> ((8 : Int32) &&& 0x3f).toInt64.toUInt64).toInt64).toInt32).toInt8.toInt32).toInt8.toInt32)), (.int (((((p3.toUInt64 >>> ((16 : Int32) &&& 0x3f).toInt64.toUInt64).toInt64).toInt32).toInt8.toInt32).toInt8.toInt32))] (.int (0 : Int32)))) hZ (hw _ (List.mem_of_getElem? (i := 4) rfl)) (hw _ (List.mem_of_getElem? (i := 3) rfl)) (by decide) (by decide)) (g := (mkF m 70 #[iv p1, iv p2, .val (.long p3), .second, iv (3 : Int32), iv ((p3.toInt32).toInt8.toInt32), iv ((((p3.toUInt64 >>> ((8 : Int32) &&& 0x3f).toInt64.toUInt64).toInt64).toInt32).toInt8.toInt32), iv ((((p3.toUInt64 >>> ((16 : Int32) &&& 0x3f).toInt64.toUInt64).toInt64).toInt32).toInt8.toInt32), rv b121, .unset, .unset] [(.ref b121), (.int p1)])) rfl (by rw [hml]; rfl) (argsL := [(.int p1), (.ref b121)]) (rest := []) (lenOf pd_1 rfl) rfl (by show 2 * 0 + _ ≤ _; exact Nat.le_of_eq rfl) (hb hby at_70) (fun _ _ => ⟨rfl, e131, (by decide : 1 + 2 ≤ _), (by decide : 3 + 6 ≤ _)⟩)
    dsimp only [Pt.U, Pt.locs, Pt.cells, Pt.slots] at X135 l135 y135 z135 st135 hQ135
    subst l135 y135 z135
    obtain ⟨b1_135, d1_135, rfl, Nq135, Kq135, po135_0, po135_1, po135_2, po135_3, po135_4, po135_5, po135_6, po135_7⟩ := hQ135
    have N135 := Fr.app N131 Nq135
    have O135 := O131.keep Kq135 all0
    have k136 : Way p e below S0 T135 (mkF m 73 #[iv p1, iv p2, .val (.long p3), .second, iv (3 : Int32), iv ((p3.toInt32).toInt8.toInt32), iv ((((p3.toUInt64 >>> ((8 : Int32) &&& 0x3f).toInt64.toUInt64).toInt64).toInt32).toInt8.toInt32), iv ((((p3.toUInt64 >>> ((16 : Int32) &&& 0x3f).toInt64.toUInt64).toInt64).toInt32).toInt8.toInt32), rv b121, .unset, .unset] [(.ref b1_135)]) := fun t k => k133 t (st135 _ k)
    have k137 : Way p e below S0 T135 (mkF m 88 #[iv p1, iv p2, .val (.long p3), .second, iv (3 : Int32), iv ((p3.toInt32).toInt8.toInt32), iv ((((p3.toUInt64 >>> ((8 : Int32) &&& 0x3f).toInt64.toUInt64).toInt64).toInt32).toInt8.toInt32), iv ((((p3.toUInt64 >>> ((16 : Int32) &&& 0x3f).toInt64.toUInt64).toInt64).toInt32).toInt8.toInt32), rv b121, rv b1_135, .unset] [(.int ((((p3.toInt32).toInt8.toInt32) ^^^ (-1 : Int32)).toInt8.toInt32)), (.int (0 : Int32)), (.ref b121)]) := by
      intro t k
      refine k136 t ?_
      refine XS.astore X135.here hx rfl (hb hby at_73) rfl rfl (l' := #[iv p1, iv p2, .val (.long p3), .second, iv (3 : Int32), iv ((p3.toInt32).toInt8.toInt32), iv ((((p3.toUInt64 >>> ((8 : Int32) &&& 0x3f).toInt64.toUInt64).toInt64).toInt32).toInt8.toInt32), iv ((((p3.toUInt64 >>> ((16 : Int32) &&& 0x3f).toInt64.toUInt64).toInt64).toInt32).toInt8.toInt32), rv b121, rv b1_135, .unset]) rfl ?_
      show Steps p.tables e below (T135.setTop (mkF m 75 #[iv p1, iv p2, .val (.long p3), .second, iv (3 : Int32), iv ((p3.toInt32).toInt8.toInt32), iv ((((p3.toUInt64 >>> ((8 : Int32) &&& 0x3f).toInt64.toUInt64).toInt64).toInt32).toInt8.toInt32), iv ((((p3.toUInt64 >>> ((16 : Int32) &&& 0x3f).toInt64.toUInt64).toInt64).toInt32).toInt8.toInt32), rv b121, rv b1_135, .unset] [])) _
      refine XS.iload X135.here hx rfl (hb hby at_75) rfl ?_
      show Steps p.tables e below (T135.setTop (mkF m 77 #[iv p1, iv p2, .val (.long p3), .second, iv (3 : Int32), iv ((p3.toInt32).toInt8.toInt32), iv ((((p3.toUInt64 >>> ((8 : Int32) &&& 0x3f).toInt64.toUInt64).toInt64).toInt32).toInt8.toInt32), iv ((((p3.toUInt64 >>> ((16 : Int32) &&& 0x3f).toInt64.toUInt64).toInt64).toInt32).toInt8.toInt32), rv b121, rv b1_135, .unset] [(.int (3 : Int32))])) _
      refine XS.ifNo X135.here hx rfl (hb hby at_77) rfl ((if0 _ _).trans (tlt ((by decide) : (0 : Int32) < (3 : Int32))).2.2.2) ?_
      show Steps p.tables e below (T135.setTop (mkF m 80 #[iv p1, iv p2, .val (.long p3), .second, iv (3 : Int32), iv ((p3.toInt32).toInt8.toInt32), iv ((((p3.toUInt64 >>> ((8 : Int32) &&& 0x3f).toInt64.toUInt64).toInt64).toInt32).toInt8.toInt32), iv ((((p3.toUInt64 >>> ((16 : Int32) &&& 0x3f).toInt64.toUInt64).toInt64).toInt32).toInt8.toInt32), rv b121, rv b1_135, .unset] [])) _
      refine XS.aload X135.here hx rfl (hb hby at_80) rfl rfl ?_
      show Steps p.tables e below (T135.setTop (mkF m 82 #[iv p1, iv p2, .val (.long p3), .second, iv (3 : Int32), iv ((p3.toInt32).toInt8.toInt32), iv ((((p3.toUInt64 >>> ((8 : Int32) &&& 0x3f).toInt64.toUInt64).toInt64).toInt32).toInt8.toInt32), iv ((((p3.toUInt64 >>> ((16 : Int32) &&& 0x3f).toInt64.toUInt64).toInt64).toInt32).toInt8.toInt32), rv b121, rv b1_135, .unset] [(.ref b121)])) _
      refine XS.iconst X135.here hx rfl (hb hby at_82) ?_
      show Steps p.tables e below (T135.setTop (mkF m 83 #[iv p1, iv p2, .val (.long p3), .second, iv (3 : Int32), iv ((p3.toInt32).toInt8.toInt32), iv ((((p3.toUInt64 >>> ((8 : Int32) &&& 0x3f).toInt64.toUInt64).toInt64).toInt32).toInt8.toInt32), iv ((((p3.toUInt64 >>> ((16 : Int32) &&& 0x3f).toInt64.toUInt64).toInt64).toInt32).toInt8.toInt32), rv b121, rv b1_135, .unset] [(.int (0 : Int32)), (.ref b121)])) _
      refine XS.iload X135.here hx rfl (hb hby at_83) rfl ?_
      show Steps p.tables e below (T135.setTop (mkF m 85 #[iv p1, iv p2, .val (.long p3), .second, iv (3 : Int32), iv ((p3.toInt32).toInt8.toInt32), iv ((((p3.toUInt64 >>> ((8 : Int32) &&& 0x3f).toInt64.toUInt64).toInt64).toInt32).toInt8.toInt32), iv ((((p3.toUInt64 >>> ((16 : Int32) &&& 0x3f).toInt64.toUInt64).toInt64).toInt32).toInt8.toInt32), rv b121, rv b1_135, .unset] [(.int ((p3.toInt32).toInt8.toInt32)), (.int (0 : Int32)), (.ref b121)])) _
      refine XS.iconst X135.here hx rfl (hb hby at_85) ?_
      show Steps p.tables e below (T135.setTop (mkF m 86 #[iv p1, iv p2, .val (.long p3), .second, iv (3 : Int32), iv ((p3.toInt32).toInt8.toInt32), iv ((((p3.toUInt64 >>> ((8 : Int32) &&& 0x3f).toInt64.toUInt64).toInt64).toInt32).toInt8.toInt32), iv ((((p3.toUInt64 >>> ((16 : Int32) &&& 0x3f).toInt64.toUInt64).toInt64).toInt32).toInt8.toInt32), rv b121, rv b1_135, .unset] [(.int (-1 : Int32)), (.int ((p3.toInt32).toInt8.toInt32)), (.int (0 : Int32)), (.ref b121)])) _
      refine XS.ixor X135.here hx rfl (hb hby at_86) rfl ?_
      show Steps p.tables e below (T135.setTop (mkF m 87 #[iv p1, iv p2, .val (.long p3), .second, iv (3 : Int32), iv ((p3.toInt32).toInt8.toInt32), iv ((((p3.toUInt64 >>> ((8 : Int32) &&& 0x3f).toInt64.toUInt64).toInt64).toInt32).toInt8.toInt32), iv ((((p3.toUInt64 >>> ((16 : Int32) &&& 0x3f).toInt64.toUInt64).toInt64).toInt32).toInt8.toInt32), rv b121, rv b1_135, .unset] [(.int (((p3.toInt32).toInt8.toInt32) ^^^ (-1 : Int32))), (.int (0 : Int32)), (.ref b121)])) _
      refine XS.i2b X135.here hx rfl (hb hby at_87) rfl ?_
      show Steps p.tables e below (T135.setTop (mkF m 88 #[iv p1, iv p2, .val (.long p3), .second, iv (3 : Int32), iv ((p3.toInt32).toInt8.toInt32), iv ((((p3.toUInt64 >>> ((8 : Int32) &&& 0x3f).toInt64.toUInt64).toInt64).toInt32).toInt8.toInt32), iv ((((p3.toUInt64 >>> ((16 : Int32) &&& 0x3f).toInt64.toUInt64).toInt64).toInt32).toInt8.toInt32), rv b121, rv b1_135, .unset] [(.int ((((p3.toInt32).toInt8.toInt32) ^^^ (-1 : Int32)).toInt8.toInt32)), (.int (0 : Int32)), (.ref b121)])) _
      exact k
    have f138 : Arv Z T135.heap b121 c121 .byte (3 : Int32) [(.int (((p3.toInt32).toInt8.toInt32).toInt8.toInt32)), (.int (((((p3.toUInt64 >>> ((8 : Int32) &&& 0x3f).toInt64.toUInt64).toInt64).toInt32).toInt8.toInt32).toInt8.toInt32)), (.int (((((p3.toUInt64 >>> ((16 : Int32) &&& 0x3f).toInt64.toUInt64).toInt64).toInt32).toInt8.toInt32).toInt8.toInt32))] (.int (0 : Int32)) := (va131.keep Kq135 nin0)
    obtain ⟨cl139, Ar139, qc139, S139, M139, U139, G139⟩ := id (f138)
    have hin139 : ¬ ((0 : Int32) < 0 ∨ cl139.slots.size ≤ ((0 : Int32)).toNatClampNeg) := inb_of S139 ⟨by decide, by decide⟩
    obtain ⟨T139, h139, X139, e139, W139, st139⟩ := stB X135 hx hZ rfl Ar139 (j := (0 : Int32)) hin139 (g := (mkF m 88 #[iv p1, iv p2, .val (.long p3), .second, iv (3 : Int32), iv ((p3.toInt32).toInt8.toInt32), iv ((((p3.toUInt64 >>> ((8 : Int32) &&& 0x3f).toInt64.toUInt64).toInt64).toInt32).toInt8.toInt32), iv ((((p3.toUInt64 >>> ((16 : Int32) &&& 0x3f).toInt64.toUInt64).toInt64).toInt32).toInt8.toInt32), rv b121, rv b1_135, .unset] [(.int ((((p3.toInt32).toInt8.toInt32) ^^^ (-1 : Int32)).toInt8.toInt32)), (.int (0 : Int32)), (.ref b121)])) rfl rfl (hb hby at_88)
    have O139 := O135.wr W139 ge125
    have N139 := Fr.snoc X139 N135 ge125
    have va139 : Arv Z h139 b121 c121 .byte (3 : Int32) [(.int (((((p3.toInt32).toInt8.toInt32) ^^^ (-1 : Int32)).toInt8.toInt32).toInt8.toInt32)), (.int (((((p3.toUInt64 >>> ((8 : Int32) &&& 0x3f).toInt64.toUInt64).toInt64).toInt32).toInt8.toInt32).toInt8.toInt32)), (.int (((((p3.toUInt64 >>> ((16 : Int32) &&& 0x3f).toInt64.toUInt64).toInt64).toInt32).toInt8.toInt32).toInt8.toInt32))] (.int (0 : Int32)) := Arv.set Ar139 qc139 S139 M139 U139 G139 (fits_nar_byte _) W139 0 rfl (Nat.le_of_ble_eq_true rfl)
    have k140 : Way p e below S0 T139 (mkF m 89 #[iv p1, iv p2, .val (.long p3), .second, iv (3 : Int32), iv ((p3.toInt32).toInt8.toInt32), iv ((((p3.toUInt64 >>> ((8 : Int32) &&& 0x3f).toInt64.toUInt64).toInt64).toInt32).toInt8.toInt32), iv ((((p3.toUInt64 >>> ((16 : Int32) &&& 0x3f).toInt64.toUInt64).toInt64).toInt32).toInt8.toInt32), rv b121, rv b1_135, .unset] []) := fun t k => k137 t (st139 _ k)
    have k141 : Way p e below S0 T139 (mkF m 103 #[iv p1, iv p2, .val (.long p3), .second, iv (3 : Int32), iv ((p3.toInt32).toInt8.toInt32), iv ((((p3.toUInt64 >>> ((8 : Int32) &&& 0x3f).toInt64.toUInt64).toInt64).toInt32).toInt8.toInt32), iv ((((p3.toUInt64 >>> ((16 : Int32) &&& 0x3f).toInt64.toUInt64).toInt64).toInt32).toInt8.toInt32), rv b121, rv b1_135, .unset] [(.int ((((((p3.toUInt64 >>> ((8 : Int32) &&& 0x3f).toInt64.toUInt64).toInt64).toInt32).toInt8.toInt32) ^^^ (-1 : Int32)).toInt8.toInt32)), (.int (1 : Int32)), (.ref b121)]) := by
      intro t k
      refine k140 t ?_
      refine XS.iload X139.here hx rfl (hb hby at_89) rfl ?_
      show Steps p.tables e below (T139.setTop (mkF m 91 #[iv p1, iv p2, .val (.long p3), .second, iv (3 : Int32), iv ((p3.toInt32).toInt8.toInt32), iv ((((p3.toUInt64 >>> ((8 : Int32) &&& 0x3f).toInt64.toUInt64).toInt64).toInt32).toInt8.toInt32), iv ((((p3.toUInt64 >>> ((16 : Int32) &&& 0x3f).toInt64.toUInt64).toInt64).toInt32).toInt8.toInt32), rv b121, rv b1_135, .unset] [(.int (3 : Int32))])) _
      refine XS.iconst X139.here hx rfl (hb hby at_91) ?_
      show Steps p.tables e below (T139.setTop (mkF m 92 #[iv p1, iv p2, .val (.long p3), .second, iv (3 : Int32), iv ((p3.toInt32).toInt8.toInt32), iv ((((p3.toUInt64 >>> ((8 : Int32) &&& 0x3f).toInt64.toUInt64).toInt64).toInt32).toInt8.toInt32), iv ((((p3.toUInt64 >>> ((16 : Int32) &&& 0x3f).toInt64.toUInt64).toInt64).toInt32).toInt8.toInt32), rv b121, rv b1_135, .unset] [(.int (1 : Int32)), (.int (3 : Int32))])) _
      refine XS.icmpNo X139.here hx rfl (hb hby at_92) rfl (tlt ((by decide) : (1 : Int32) < (3 : Int32))).2.2.2 ?_
      show Steps p.tables e below (T139.setTop (mkF m 95 #[iv p1, iv p2, .val (.long p3), .second, iv (3 : Int32), iv ((p3.toInt32).toInt8.toInt32), iv ((((p3.toUInt64 >>> ((8 : Int32) &&& 0x3f).toInt64.toUInt64).toInt64).toInt32).toInt8.toInt32), iv ((((p3.toUInt64 >>> ((16 : Int32) &&& 0x3f).toInt64.toUInt64).toInt64).toInt32).toInt8.toInt32), rv b121, rv b1_135, .unset] [])) _
      refine XS.aload X139.here hx rfl (hb hby at_95) rfl rfl ?_
      show Steps p.tables e below (T139.setTop (mkF m 97 #[iv p1, iv p2, .val (.long p3), .second, iv (3 : Int32), iv ((p3.toInt32).toInt8.toInt32), iv ((((p3.toUInt64 >>> ((8 : Int32) &&& 0x3f).toInt64.toUInt64).toInt64).toInt32).toInt8.toInt32), iv ((((p3.toUInt64 >>> ((16 : Int32) &&& 0x3f).toInt64.toUInt64).toInt64).toInt32).toInt8.toInt32), rv b121, rv b1_135, .unset] [(.ref b121)])) _
      refine XS.iconst X139.here hx rfl (hb hby at_97) ?_
      show Steps p.tables e below (T139.setTop (mkF m 98 #[iv p1, iv p2, .val (.long p3), .second, iv (3 : Int32), iv ((p3.toInt32).toInt8.toInt32), iv ((((p3.toUInt64 >>> ((8 : Int32) &&& 0x3f).toInt64.toUInt64).toInt64).toInt32).toInt8.toInt32), iv ((((p3.toUInt64 >>> ((16 : Int32) &&& 0x3f).toInt64.toUInt64).toInt64).toInt32).toInt8.toInt32), rv b121, rv b1_135, .unset] [(.int (1 : Int32)), (.ref b121)])) _
      refine XS.iload X139.here hx rfl (hb hby at_98) rfl ?_
      show Steps p.tables e below (T139.setTop (mkF m 100 #[iv p1, iv p2, .val (.long p3), .second, iv (3 : Int32), iv ((p3.toInt32).toInt8.toInt32), iv ((((p3.toUInt64 >>> ((8 : Int32) &&& 0x3f).toInt64.toUInt64).toInt64).toInt32).toInt8.toInt32), iv ((((p3.toUInt64 >>> ((16 : Int32) &&& 0x3f).toInt64.toUInt64).toInt64).toInt32).toInt8.toInt32), rv b121, rv b1_135, .unset] [(.int ((((p3.toUInt64 >>> ((8 : Int32) &&& 0x3f).toInt64.toUInt64).toInt64).toInt32).toInt8.toInt32)), (.int (1 : Int32)), (.ref b121)])) _
      refine XS.iconst X139.here hx rfl (hb hby at_100) ?_
      show Steps p.tables e below (T139.setTop (mkF m 101 #[iv p1, iv p2, .val (.long p3), .second, iv (3 : Int32), iv ((p3.toInt32).toInt8.toInt32), iv ((((p3.toUInt64 >>> ((8 : Int32) &&& 0x3f).toInt64.toUInt64).toInt64).toInt32).toInt8.toInt32), iv ((((p3.toUInt64 >>> ((16 : Int32) &&& 0x3f).toInt64.toUInt64).toInt64).toInt32).toInt8.toInt32), rv b121, rv b1_135, .unset] [(.int (-1 : Int32)), (.int ((((p3.toUInt64 >>> ((8 : Int32) &&& 0x3f).toInt64.toUInt64).toInt64).toInt32).toInt8.toInt32)), (.int (1 : Int32)), (.ref b121)])) _
      refine XS.ixor X139.here hx rfl (hb hby at_101) rfl ?_
      show Steps p.tables e below (T139.setTop (mkF m 102 #[iv p1, iv p2, .val (.long p3), .second, iv (3 : Int32), iv ((p3.toInt32).toInt8.toInt32), iv ((((p3.toUInt64 >>> ((8 : Int32) &&& 0x3f).toInt64.toUInt64).toInt64).toInt32).toInt8.toInt32), iv ((((p3.toUInt64 >>> ((16 : Int32) &&& 0x3f).toInt64.toUInt64).toInt64).toInt32).toInt8.toInt32), rv b121, rv b1_135, .unset] [(.int (((((p3.toUInt64 >>> ((8 : Int32) &&& 0x3f).toInt64.toUInt64).toInt64).toInt32).toInt8.toInt32) ^^^ (-1 : Int32))), (.int (1 : Int32)), (.ref b121)])) _
      refine XS.i2b X139.here hx rfl (hb hby at_102) rfl ?_
      show Steps p.tables e below (T139.setTop (mkF m 103 #[iv p1, iv p2, .val (.long p3), .second, iv (3 : Int32), iv ((p3.toInt32).toInt8.toInt32), iv ((((p3.toUInt64 >>> ((8 : Int32) &&& 0x3f).toInt64.toUInt64).toInt64).toInt32).toInt8.toInt32), iv ((((p3.toUInt64 >>> ((16 : Int32) &&& 0x3f).toInt64.toUInt64).toInt64).toInt32).toInt8.toInt32), rv b121, rv b1_135, .unset] [(.int ((((((p3.toUInt64 >>> ((8 : Int32) &&& 0x3f).toInt64.toUInt64).toInt64).toInt32).toInt8.toInt32) ^^^ (-1 : Int32)).toInt8.toInt32)), (.int (1 : Int32)), (.ref b121)])) _
      exact k
    obtain ⟨cl142, Ar142, qc142, S142, M142, U142, G142⟩ := id (va139)
    have hin142 : ¬ ((1 : Int32) < 0 ∨ cl142.slots.size ≤ ((1 : Int32)).toNatClampNeg) := inb_of S142 ⟨by decide, by decide⟩
    obtain ⟨T142, h142, X142, e142, W142, st142⟩ := stB X139 hx hZ e139 Ar142 (j := (1 : Int32)) hin142 (g := (mkF m 103 #[iv p1, iv p2, .val (.long p3), .second, iv (3 : Int32), iv ((p3.toInt32).toInt8.toInt32), iv ((((p3.toUInt64 >>> ((8 : Int32) &&& 0x3f).toInt64.toUInt64).toInt64).toInt32).toInt8.toInt32), iv ((((p3.toUInt64 >>> ((16 : Int32) &&& 0x3f).toInt64.toUInt64).toInt64).toInt32).toInt8.toInt32), rv b121, rv b1_135, .unset] [(.int ((((((p3.toUInt64 >>> ((8 : Int32) &&& 0x3f).toInt64.toUInt64).toInt64).toInt32).toInt8.toInt32) ^^^ (-1 : Int32)).toInt8.toInt32)), (.int (1 : Int32)), (.ref b121)])) rfl rfl (hb hby at_103)
    have O142 := O139.wr W142 ge125
    have N142 := Fr.snoc X142 N139 ge125
    have va142 : Arv Z h142 b121 c121 .byte (3 : Int32) [(.int (((((p3.toInt32).toInt8.toInt32) ^^^ (-1 : Int32)).toInt8.toInt32).toInt8.toInt32)), (.int (((((((p3.toUInt64 >>> ((8 : Int32) &&& 0x3f).toInt64.toUInt64).toInt64).toInt32).toInt8.toInt32) ^^^ (-1 : Int32)).toInt8.toInt32).toInt8.toInt32)), (.int (((((p3.toUInt64 >>> ((16 : Int32) &&& 0x3f).toInt64.toUInt64).toInt64).toInt32).toInt8.toInt32).toInt8.toInt32))] (.int (0 : Int32)) := Arv.set Ar142 qc142 S142 M142 U142 G142 (fits_nar_byte _) W142 1 rfl (Nat.le_of_ble_eq_true rfl)
    have k143 : Way p e below S0 T142 (mkF m 104 #[iv p1, iv p2, .val (.long p3), .second, iv (3 : Int32), iv ((p3.toInt32).toInt8.toInt32), iv ((((p3.toUInt64 >>> ((8 : Int32) &&& 0x3f).toInt64.toUInt64).toInt64).toInt32).toInt8.toInt32), iv ((((p3.toUInt64 >>> ((16 : Int32) &&& 0x3f).toInt64.toUInt64).toInt64).toInt32).toInt8.toInt32), rv b121, rv b1_135, .unset] []) := fun t k => k141 t (st142 _ k)
    have k144 : Way p e below S0 T142 (mkF m 118 #[iv p1, iv p2, .val (.long p3), .second, iv (3 : Int32), iv ((p3.toInt32).toInt8.toInt32), iv ((((p3.toUInt64 >>> ((8 : Int32) &&& 0x3f).toInt64.toUInt64).toInt64).toInt32).toInt8.toInt32), iv ((((p3.toUInt64 >>> ((16 : Int32) &&& 0x3f).toInt64.toUInt64).toInt64).toInt32).toInt8.toInt32), rv b121, rv b1_135, .unset] [(.int ((((((p3.toUInt64 >>> ((16 : Int32) &&& 0x3f).toInt64.toUInt64).toInt64).toInt32).toInt8.toInt32) ^^^ (-1 : Int32)).toInt8.toInt32)), (.int (2 : Int32)), (.ref b121)]) := by
      intro t k
      refine k143 t ?_
      refine XS.iload X142.here hx rfl (hb hby at_104) rfl ?_
      show Steps p.tables e below (T142.setTop (mkF m 106 #[iv p1, iv p2, .val (.long p3), .second, iv (3 : Int32), iv ((p3.toInt32).toInt8.toInt32), iv ((((p3.toUInt64 >>> ((8 : Int32) &&& 0x3f).toInt64.toUInt64).toInt64).toInt32).toInt8.toInt32), iv ((((p3.toUInt64 >>> ((16 : Int32) &&& 0x3f).toInt64.toUInt64).toInt64).toInt32).toInt8.toInt32), rv b121, rv b1_135, .unset] [(.int (3 : Int32))])) _
      refine XS.iconst X142.here hx rfl (hb hby at_106) ?_
      show Steps p.tables e below (T142.setTop (mkF m 107 #[iv p1, iv p2, .val (.long p3), .second, iv (3 : Int32), iv ((p3.toInt32).toInt8.toInt32), iv ((((p3.toUInt64 >>> ((8 : Int32) &&& 0x3f).toInt64.toUInt64).toInt64).toInt32).toInt8.toInt32), iv ((((p3.toUInt64 >>> ((16 : Int32) &&& 0x3f).toInt64.toUInt64).toInt64).toInt32).toInt8.toInt32), rv b121, rv b1_135, .unset] [(.int (2 : Int32)), (.int (3 : Int32))])) _
      refine XS.icmpNo X142.here hx rfl (hb hby at_107) rfl (tlt ((by decide) : (2 : Int32) < (3 : Int32))).2.2.2 ?_
      show Steps p.tables e below (T142.setTop (mkF m 110 #[iv p1, iv p2, .val (.long p3), .second, iv (3 : Int32), iv ((p3.toInt32).toInt8.toInt32), iv ((((p3.toUInt64 >>> ((8 : Int32) &&& 0x3f).toInt64.toUInt64).toInt64).toInt32).toInt8.toInt32), iv ((((p3.toUInt64 >>> ((16 : Int32) &&& 0x3f).toInt64.toUInt64).toInt64).toInt32).toInt8.toInt32), rv b121, rv b1_135, .unset] [])) _
      refine XS.aload X142.here hx rfl (hb hby at_110) rfl rfl ?_
      show Steps p.tables e below (T142.setTop (mkF m 112 #[iv p1, iv p2, .val (.long p3), .second, iv (3 : Int32), iv ((p3.toInt32).toInt8.toInt32), iv ((((p3.toUInt64 >>> ((8 : Int32) &&& 0x3f).toInt64.toUInt64).toInt64).toInt32).toInt8.toInt32), iv ((((p3.toUInt64 >>> ((16 : Int32) &&& 0x3f).toInt64.toUInt64).toInt64).toInt32).toInt8.toInt32), rv b121, rv b1_135, .unset] [(.ref b121)])) _
      refine XS.iconst X142.here hx rfl (hb hby at_112) ?_
      show Steps p.tables e below (T142.setTop (mkF m 113 #[iv p1, iv p2, .val (.long p3), .second, iv (3 : Int32), iv ((p3.toInt32).toInt8.toInt32), iv ((((p3.toUInt64 >>> ((8 : Int32) &&& 0x3f).toInt64.toUInt64).toInt64).toInt32).toInt8.toInt32), iv ((((p3.toUInt64 >>> ((16 : Int32) &&& 0x3f).toInt64.toUInt64).toInt64).toInt32).toInt8.toInt32), rv b121, rv b1_135, .unset] [(.int (2 : Int32)), (.ref b121)])) _
      refine XS.iload X142.here hx rfl (hb hby at_113) rfl ?_
      show Steps p.tables e below (T142.setTop (mkF m 115 #[iv p1, iv p2, .val (.long p3), .second, iv (3 : Int32), iv ((p3.toInt32).toInt8.toInt32), iv ((((p3.toUInt64 >>> ((8 : Int32) &&& 0x3f).toInt64.toUInt64).toInt64).toInt32).toInt8.toInt32), iv ((((p3.toUInt64 >>> ((16 : Int32) &&& 0x3f).toInt64.toUInt64).toInt64).toInt32).toInt8.toInt32), rv b121, rv b1_135, .unset] [(.int ((((p3.toUInt64 >>> ((16 : Int32) &&& 0x3f).toInt64.toUInt64).toInt64).toInt32).toInt8.toInt32)), (.int (2 : Int32)), (.ref b121)])) _
      refine XS.iconst X142.here hx rfl (hb hby at_115) ?_
      show Steps p.tables e below (T142.setTop (mkF m 116 #[iv p1, iv p2, .val (.long p3), .second, iv (3 : Int32), iv ((p3.toInt32).toInt8.toInt32), iv ((((p3.toUInt64 >>> ((8 : Int32) &&& 0x3f).toInt64.toUInt64).toInt64).toInt32).toInt8.toInt32), iv ((((p3.toUInt64 >>> ((16 : Int32) &&& 0x3f).toInt64.toUInt64).toInt64).toInt32).toInt8.toInt32), rv b121, rv b1_135, .unset] [(.int (-1 : Int32)), (.int ((((p3.toUInt64 >>> ((16 : Int32) &&& 0x3f).toInt64.toUInt64).toInt64).toInt32).toInt8.toInt32)), (.int (2 : Int32)), (.ref b121)])) _
      refine XS.ixor X142.here hx rfl (hb hby at_116) rfl ?_
      show Steps p.tables e below (T142.setTop (mkF m 117 #[iv p1, iv p2, .val (.long p3), .second, iv (3 : Int32), iv ((p3.toInt32).toInt8.toInt32), iv ((((p3.toUInt64 >>> ((8 : Int32) &&& 0x3f).toInt64.toUInt64).toInt64).toInt32).toInt8.toInt32), iv ((((p3.toUInt64 >>> ((16 : Int32) &&& 0x3f).toInt64.toUInt64).toInt64).toInt32).toInt8.toInt32), rv b121, rv b1_135, .unset] [(.int (((((p3.toUInt64 >>> ((16 : Int32) &&& 0x3f).toInt64.toUInt64).toInt64).toInt32).toInt8.toInt32) ^^^ (-1 : Int32))), (.int (2 : Int32)), (.ref b121)])) _
      refine XS.i2b X142.here hx rfl (hb hby at_117) rfl ?_
      show Steps p.tables e below (T142.setTop (mkF m 118 #[iv p1, iv p2, .val (.long p3), .second, iv (3 : Int32), iv ((p3.toInt32).toInt8.toInt32), iv ((((p3.toUInt64 >>> ((8 : Int32) &&& 0x3f).toInt64.toUInt64).toInt64).toInt32).toInt8.toInt32), iv ((((p3.toUInt64 >>> ((16 : Int32) &&& 0x3f).toInt64.toUInt64).toInt64).toInt32).toInt8.toInt32), rv b121, rv b1_135, .unset] [(.int ((((((p3.toUInt64 >>> ((16 : Int32) &&& 0x3f).toInt64.toUInt64).toInt64).toInt32).toInt8.toInt32) ^^^ (-1 : Int32)).toInt8.toInt32)), (.int (2 : Int32)), (.ref b121)])) _
      exact k
    obtain ⟨cl145, Ar145, qc145, S145, M145, U145, G145⟩ := id (va142)
    have hin145 : ¬ ((2 : Int32) < 0 ∨ cl145.slots.size ≤ ((2 : Int32)).toNatClampNeg) := inb_of S145 ⟨by decide, by decide⟩
    obtain ⟨T145, h145, X145, e145, W145, st145⟩ := stB X142 hx hZ e142 Ar145 (j := (2 : Int32)) hin145 (g := (mkF m 118 #[iv p1, iv p2, .val (.long p3), .second, iv (3 : Int32), iv ((p3.toInt32).toInt8.toInt32), iv ((((p3.toUInt64 >>> ((8 : Int32) &&& 0x3f).toInt64.toUInt64).toInt64).toInt32).toInt8.toInt32), iv ((((p3.toUInt64 >>> ((16 : Int32) &&& 0x3f).toInt64.toUInt64).toInt64).toInt32).toInt8.toInt32), rv b121, rv b1_135, .unset] [(.int ((((((p3.toUInt64 >>> ((16 : Int32) &&& 0x3f).toInt64.toUInt64).toInt64).toInt32).toInt8.toInt32) ^^^ (-1 : Int32)).toInt8.toInt32)), (.int (2 : Int32)), (.ref b121)])) rfl rfl (hb hby at_118)
    have O145 := O142.wr W145 ge125
    have N145 := Fr.snoc X145 N142 ge125
    have va145 : Arv Z h145 b121 c121 .byte (3 : Int32) [(.int (((((p3.toInt32).toInt8.toInt32) ^^^ (-1 : Int32)).toInt8.toInt32).toInt8.toInt32)), (.int (((((((p3.toUInt64 >>> ((8 : Int32) &&& 0x3f).toInt64.toUInt64).toInt64).toInt32).toInt8.toInt32) ^^^ (-1 : Int32)).toInt8.toInt32).toInt8.toInt32)), (.int (((((((p3.toUInt64 >>> ((16 : Int32) &&& 0x3f).toInt64.toUInt64).toInt64).toInt32).toInt8.toInt32) ^^^ (-1 : Int32)).toInt8.toInt32).toInt8.toInt32))] (.int (0 : Int32)) := Arv.set Ar145 qc145 S145 M145 U145 G145 (fits_nar_byte _) W145 2 rfl (Nat.le_of_ble_eq_true rfl)
    have k146 : Way p e below S0 T145 (mkF m 119 #[iv p1, iv p2, .val (.long p3), .second, iv (3 : Int32), iv ((p3.toInt32).toInt8.toInt32), iv ((((p3.toUInt64 >>> ((8 : Int32) &&& 0x3f).toInt64.toUInt64).toInt64).toInt32).toInt8.toInt32), iv ((((p3.toUInt64 >>> ((16 : Int32) &&& 0x3f).toInt64.toUInt64).toInt64).toInt32).toInt8.toInt32), rv b121, rv b1_135, .unset] []) := fun t k => k144 t (st145 _ k)
    have k147 : Way p e below S0 T145 (mkF m 121 #[iv p1, iv p2, .val (.long p3), .second, iv (3 : Int32), iv ((p3.toInt32).toInt8.toInt32), iv ((((p3.toUInt64 >>> ((8 : Int32) &&& 0x3f).toInt64.toUInt64).toInt64).toInt32).toInt8.toInt32), iv ((((p3.toUInt64 >>> ((16 : Int32) &&& 0x3f).toInt64.toUInt64).toInt64).toInt32).toInt8.toInt32), rv b121, rv b1_135, .unset] [(.ref b1_135)]) := by
      intro t k
      refine k146 t ?_
      refine XS.aload X145.here hx rfl (hb hby at_119) rfl rfl ?_
      show Steps p.tables e below (T145.setTop (mkF m 121 #[iv p1, iv p2, .val (.long p3), .second, iv (3 : Int32), iv ((p3.toInt32).toInt8.toInt32), iv ((((p3.toUInt64 >>> ((8 : Int32) &&& 0x3f).toInt64.toUInt64).toInt64).toInt32).toInt8.toInt32), iv ((((p3.toUInt64 >>> ((16 : Int32) &&& 0x3f).toInt64.toUInt64).toInt64).toInt32).toInt8.toInt32), rv b121, rv b1_135, .unset] [(.ref b1_135)])) _
      exact k
    have f148 : Fld Z h145 b1_135 "com/example/aspectwise/aspectwise/cmri/Packet" "data" "[B" (.ref d1_135) := (((po135_5.other W139 (Or.inl (Ne.symm (Nat.ne_of_lt (Nat.lt_of_lt_of_le f134.lt po135_0))))).other W142 (Or.inl (Ne.symm (Nat.ne_of_lt (Nat.lt_of_lt_of_le f134.lt po135_0))))).other W145 (Or.inl (Ne.symm (Nat.ne_of_lt (Nat.lt_of_lt_of_le f134.lt po135_0)))))
    have f149 : Exa Z h145 d1_135 "[B" := (((po135_6.wr W139).wr W142).wr W145)
    have f150 : Arv Z h145 d1_135 c121 .byte (3 : Int32) [(.int (((p3.toInt32).toInt8.toInt32).toInt8.toInt32)), (.int (((((p3.toUInt64 >>> ((8 : Int32) &&& 0x3f).toInt64.toUInt64).toInt64).toInt32).toInt8.toInt32).toInt8.toInt32)), (.int (((((p3.toUInt64 >>> ((16 : Int32) &&& 0x3f).toInt64.toUInt64).toInt64).toInt32).toInt8.toInt32).toInt8.toInt32))] (.int (0 : Int32)) := (((po135_7.other W139 (Ne.symm (Nat.ne_of_lt (Nat.lt_of_lt_of_le f134.lt po135_1)))).other W142 (Ne.symm (Nat.ne_of_lt (Nat.lt_of_lt_of_le f134.lt po135_1)))).other W145 (Ne.symm (Nat.ne_of_lt (Nat.lt_of_lt_of_le f134.lt po135_1))))
    have f152 : Exa Z h145 b1_135 "com/example/aspectwise/aspectwise/cmri/Packet" := (((po135_2.wr W139).wr W142).wr W145)
    obtain ⟨cq151, kq151, qq151a, qq151b, qq151c⟩ := isOf hZ e145 f152
    obtain ⟨_, _, ⟨T151, L151, kk151, nn151⟩, -, X151, ⟨Lc151, hQ151, l151, y151, z151⟩, st151⟩ := X145.virtualBack hx (y := (⟨"com/example/aspectwise/aspectwise/cmri/Packet", "data", "()[B"⟩ : MethodName)) (z := (⟨"com/example/aspectwise/aspectwise/cmri/Packet", "data", "()[B"⟩ : MethodName)) hown (mvT hZ (hw _ (List.mem_of_getElem? (i := 31) rfl))) (mvT hZ (hw _ (List.mem_of_getElem? (i := 32) rfl))) (notFace_of_selects (args := #[]) (mvT hZ (hw _ (List.mem_of_getElem? (i := 34) rfl)))) (mvT hZ (hw _ (List.mem_of_getElem? (i := 34) rfl))) (mvT hZ (hw _ (List.mem_of_getElem? (i := 33) rfl))) (by decide) (backOf (W := 0) (data3 l Z a0 hw [] w_TRANSMIT G b1_135 d1_135 c121 (((p3.toInt32).toInt8.toInt32).toInt8.toInt32) (((((p3.toUInt64 >>> ((8 : Int32) &&& 0x3f).toInt64.toUInt64).toInt64).toInt32).toInt8.toInt32).toInt8.toInt32) (((((p3.toUInt64 >>> ((16 : Int32) &&& 0x3f).toInt64.toUInt64).toInt64).toInt32).toInt8.toInt32).toInt8.toInt32) h145 n0 O145 (f148 : Fld Z h145 b1_135 "com/example/aspectwise/aspectwise/cmri/Packet" "data" "[B" (.ref d1_135)) (f149 : Exa Z h145 d1_135 "[B") (f150 : Arv Z h145 d1_135 c121 .byte (3 : Int32) [(.int (((p3.toInt32).toInt8.toInt32).toInt8.toInt32)), (.int (((((p3.toUInt64 >>> ((8 : Int32) &&& 0x3f).toInt64.toUInt64).toInt64).toInt32).toInt8.toInt32).toInt8.toInt32)), (.int (((((p3.toUInt64 >>> ((16 : Int32) &&& 0x3f).toInt64.toUInt64).toInt64).toInt32).toInt8.toInt32).toInt8.toInt32))] (.int (0 : Int32)))) hZ (hw _ (List.mem_of_getElem? (i := 35) rfl)) (hw _ (List.mem_of_getElem? (i := 3) rfl)) (by decide) (by decide)) qq151a qq151c (g := (mkF m 121 #[iv p1, iv p2, .val (.long p3), .second, iv (3 : Int32), iv ((p3.toInt32).toInt8.toInt32), iv ((((p3.toUInt64 >>> ((8 : Int32) &&& 0x3f).toInt64.toUInt64).toInt64).toInt32).toInt8.toInt32), iv ((((p3.toUInt64 >>> ((16 : Int32) &&& 0x3f).toInt64.toUInt64).toInt64).toInt32).toInt8.toInt32), rv b121, rv b1_135, .unset] [(.ref b1_135)])) rfl (by rw [hml]; rfl) (Steps.refl _) (argsL := []) (rest := []) (lenOf pd_2 rfl) rfl (by show 2 * 0 + _ ≤ _; exact Nat.le_of_eq rfl) (hb hby at_121) (fun _ _ => ⟨rfl, e145, (by decide : 3 + 1 ≤ _), (by decide : 9 + 3 ≤ _)⟩)
    dsimp only [Pt.U, Pt.locs, Pt.cells, Pt.slots] at X151 l151 y151 z151 st151 hQ151
    subst l151 y151 z151
    obtain ⟨d1_151, rfl, Nq151, Kq151, po151_0, po151_1, po151_2⟩ := hQ151
    have N151 := Fr.app N145 Nq151
    have O151 := O145.keep Kq151 all0
    have k153 : Way p e below S0 T151 (mkF m 124 #[iv p1, iv p2, .val (.long p3), .second, iv (3 : Int32), iv ((p3.toInt32).toInt8.toInt32), iv ((((p3.toUInt64 >>> ((8 : Int32) &&& 0x3f).toInt64.toUInt64).toInt64).toInt32).toInt8.toInt32), iv ((((p3.toUInt64 >>> ((16 : Int32) &&& 0x3f).toInt64.toUInt64).toInt64).toInt32).toInt8.toInt32), rv b121, rv b1_135, .unset] [(.ref d1_151)]) := fun t k => k147 t (st151.trans k)
    have k154 : Way p e below S0 T151 (mkF m 128 #[iv p1, iv p2, .val (.long p3), .second, iv (3 : Int32), iv ((p3.toInt32).toInt8.toInt32), iv ((((p3.toUInt64 >>> ((8 : Int32) &&& 0x3f).toInt64.toUInt64).toInt64).toInt32).toInt8.toInt32), iv ((((p3.toUInt64 >>> ((16 : Int32) &&& 0x3f).toInt64.toUInt64).toInt64).toInt32).toInt8.toInt32), rv b121, rv b1_135, rv d1_151] [(.ref b1_135)]) := by
      intro t k
      refine k153 t ?_
      refine XS.astore X151.here hx rfl (hb hby at_124) rfl rfl (l' := #[iv p1, iv p2, .val (.long p3), .second, iv (3 : Int32), iv ((p3.toInt32).toInt8.toInt32), iv ((((p3.toUInt64 >>> ((8 : Int32) &&& 0x3f).toInt64.toUInt64).toInt64).toInt32).toInt8.toInt32), iv ((((p3.toUInt64 >>> ((16 : Int32) &&& 0x3f).toInt64.toUInt64).toInt64).toInt32).toInt8.toInt32), rv b121, rv b1_135, rv d1_151]) rfl ?_
      show Steps p.tables e below (T151.setTop (mkF m 126 #[iv p1, iv p2, .val (.long p3), .second, iv (3 : Int32), iv ((p3.toInt32).toInt8.toInt32), iv ((((p3.toUInt64 >>> ((8 : Int32) &&& 0x3f).toInt64.toUInt64).toInt64).toInt32).toInt8.toInt32), iv ((((p3.toUInt64 >>> ((16 : Int32) &&& 0x3f).toInt64.toUInt64).toInt64).toInt32).toInt8.toInt32), rv b121, rv b1_135, rv d1_151] [])) _
      refine XS.aload X151.here hx rfl (hb hby at_126) rfl rfl ?_
      show Steps p.tables e below (T151.setTop (mkF m 128 #[iv p1, iv p2, .val (.long p3), .second, iv (3 : Int32), iv ((p3.toInt32).toInt8.toInt32), iv ((((p3.toUInt64 >>> ((8 : Int32) &&& 0x3f).toInt64.toUInt64).toInt64).toInt32).toInt8.toInt32), iv ((((p3.toUInt64 >>> ((16 : Int32) &&& 0x3f).toInt64.toUInt64).toInt64).toInt32).toInt8.toInt32), rv b121, rv b1_135, rv d1_151] [(.ref b1_135)])) _
      exact k
    have f155 : Fld Z T151.heap b1_135 "com/example/aspectwise/aspectwise/cmri/Packet" "address" "I" (.int p1) := ((((po135_3.other W139 (Or.inl (Ne.symm (Nat.ne_of_lt (Nat.lt_of_lt_of_le f134.lt po135_0))))).other W142 (Or.inl (Ne.symm (Nat.ne_of_lt (Nat.lt_of_lt_of_le f134.lt po135_0))))).other W145 (Or.inl (Ne.symm (Nat.ne_of_lt (Nat.lt_of_lt_of_le f134.lt po135_0))))).keep Kq151 nin0)
    have f157 : Exa Z T151.heap b1_135 "com/example/aspectwise/aspectwise/cmri/Packet" := (f152.keep Kq151)
    obtain ⟨cq156, kq156, qq156a, qq156b, qq156c⟩ := isOf hZ rfl f157
    obtain ⟨_, _, ⟨T156, L156, kk156, nn156⟩, -, X156, ⟨Lc156, hQ156, l156, y156, z156⟩, st156⟩ := X151.virtualBack hx (y := (⟨"com/example/aspectwise/aspectwise/cmri/Packet", "address", "()I"⟩ : MethodName)) (z := (⟨"com/example/aspectwise/aspectwise/cmri/Packet", "address", "()I"⟩ : MethodName)) hown (mvT hZ (hw _ (List.mem_of_getElem? (i := 36) rfl))) (mvT hZ (hw _ (List.mem_of_getElem? (i := 37) rfl))) (notFace_of_selects (args := #[]) (mvT hZ (hw _ (List.mem_of_getElem? (i := 39) rfl)))) (mvT hZ (hw _ (List.mem_of_getElem? (i := 39) rfl))) (mvT hZ (hw _ (List.mem_of_getElem? (i := 38) rfl))) (by decide) (backOf (W := 0) (adr l Z a0 hw [] w_TRANSMIT G b1_135 p1 T151.heap n0 O151 (f155 : Fld Z T151.heap b1_135 "com/example/aspectwise/aspectwise/cmri/Packet" "address" "I" (.int p1))) hZ (hw _ (List.mem_of_getElem? (i := 40) rfl)) (hw _ (List.mem_of_getElem? (i := 3) rfl)) (by decide) (by decide)) qq156a qq156c (g := (mkF m 128 #[iv p1, iv p2, .val (.long p3), .second, iv (3 : Int32), iv ((p3.toInt32).toInt8.toInt32), iv ((((p3.toUInt64 >>> ((8 : Int32) &&& 0x3f).toInt64.toUInt64).toInt64).toInt32).toInt8.toInt32), iv ((((p3.toUInt64 >>> ((16 : Int32) &&& 0x3f).toInt64.toUInt64).toInt64).toInt32).toInt8.toInt32), rv b121, rv b1_135, rv d1_151] [(.ref b1_135)])) rfl (by rw [hml]; rfl) (Steps.refl _) (argsL := []) (rest := []) (lenOf pd_3 rfl) rfl (by show 2 * 0 + _ ≤ _; exact Nat.le_of_eq rfl) (hb hby at_128) (fun _ _ => ⟨rfl, rfl, (by decide : 4 + 0 ≤ _), (by decide : 12 + 0 ≤ _)⟩)
    dsimp only [Pt.U, Pt.locs, Pt.cells, Pt.slots] at X156 l156 y156 z156 st156 hQ156
    subst l156 y156 z156
    obtain ⟨rfl, Nq156, e156⟩ := hQ156
    have N156 := Fr.app N151 Nq156
    have k158 : Way p e below S0 T156 (mkF m 131 #[iv p1, iv p2, .val (.long p3), .second, iv (3 : Int32), iv ((p3.toInt32).toInt8.toInt32), iv ((((p3.toUInt64 >>> ((8 : Int32) &&& 0x3f).toInt64.toUInt64).toInt64).toInt32).toInt8.toInt32), iv ((((p3.toUInt64 >>> ((16 : Int32) &&& 0x3f).toInt64.toUInt64).toInt64).toInt32).toInt8.toInt32), rv b121, rv b1_135, rv d1_151] [(.int p1)]) := fun t k => k154 t (st156.trans k)
    have k159 : Way p e below S0 T156 (mkF m 139 #[iv p1, iv p2, .val (.long p3), .second, iv (3 : Int32), iv ((p3.toInt32).toInt8.toInt32), iv ((((p3.toUInt64 >>> ((8 : Int32) &&& 0x3f).toInt64.toUInt64).toInt64).toInt32).toInt8.toInt32), iv ((((p3.toUInt64 >>> ((16 : Int32) &&& 0x3f).toInt64.toUInt64).toInt64).toInt32).toInt8.toInt32), rv b121, rv b1_135, rv d1_151] [(.ref b1_135)]) := by
      intro t k
      refine k158 t ?_
      refine XS.iloadN X156.here hx rfl (hb hby at_131) rfl ?_
      show Steps p.tables e below (T156.setTop (mkF m 132 #[iv p1, iv p2, .val (.long p3), .second, iv (3 : Int32), iv ((p3.toInt32).toInt8.toInt32), iv ((((p3.toUInt64 >>> ((8 : Int32) &&& 0x3f).toInt64.toUInt64).toInt64).toInt32).toInt8.toInt32), iv ((((p3.toUInt64 >>> ((16 : Int32) &&& 0x3f).toInt64.toUInt64).toInt64).toInt32).toInt8.toInt32), rv b121, rv b1_135, rv d1_151] [(.int p1), (.int p1)])) _
      refine XS.icmpYes X156.here hx rfl (pc0 := 132) (pc' := 137) rfl (hb hby at_132) rfl (teq (rfl : p1 = p1)).1 (by decide) (by decide) ?_
      show Steps p.tables e below (T156.setTop (mkF m 137 #[iv p1, iv p2, .val (.long p3), .second, iv (3 : Int32), iv ((p3.toInt32).toInt8.toInt32), iv ((((p3.toUInt64 >>> ((8 : Int32) &&& 0x3f).toInt64.toUInt64).toInt64).toInt32).toInt8.toInt32), iv ((((p3.toUInt64 >>> ((16 : Int32) &&& 0x3f).toInt64.toUInt64).toInt64).toInt32).toInt8.toInt32), rv b121, rv b1_135, rv d1_151] [])) _
      refine XS.aload X156.here hx rfl (hb hby at_137) rfl rfl ?_
      show Steps p.tables e below (T156.setTop (mkF m 139 #[iv p1, iv p2, .val (.long p3), .second, iv (3 : Int32), iv ((p3.toInt32).toInt8.toInt32), iv ((((p3.toUInt64 >>> ((8 : Int32) &&& 0x3f).toInt64.toUInt64).toInt64).toInt32).toInt8.toInt32), iv ((((p3.toUInt64 >>> ((16 : Int32) &&& 0x3f).toInt64.toUInt64).toInt64).toInt32).toInt8.toInt32), rv b121, rv b1_135, rv d1_151] [(.ref b1_135)])) _
      exact k
    have f160 : Fld Z T151.heap b1_135 "com/example/aspectwise/aspectwise/cmri/Packet" "type" "Lcom/example/aspectwise/aspectwise/cmri/Packet$Type;" (.ref w_TRANSMIT) := ((((po135_4.other W139 (Or.inl (Ne.symm (Nat.ne_of_lt (Nat.lt_of_lt_of_le f134.lt po135_0))))).other W142 (Or.inl (Ne.symm (Nat.ne_of_lt (Nat.lt_of_lt_of_le f134.lt po135_0))))).other W145 (Or.inl (Ne.symm (Nat.ne_of_lt (Nat.lt_of_lt_of_le f134.lt po135_0))))).keep Kq151 nin0)
    obtain ⟨cq161, kq161, qq161a, qq161b, qq161c⟩ := isOf hZ e156 f157
    obtain ⟨_, _, ⟨T161, L161, kk161, nn161⟩, -, X161, ⟨Lc161, hQ161, l161, y161, z161⟩, st161⟩ := X156.virtualBack hx (y := (⟨"com/example/aspectwise/aspectwise/cmri/Packet", "type", "()Lcom/example/aspectwise/aspectwise/cmri/Packet$Type;"⟩ : MethodName)) (z := (⟨"com/example/aspectwise/aspectwise/cmri/Packet", "type", "()Lcom/example/aspectwise/aspectwise/cmri/Packet$Type;"⟩ : MethodName)) hown (mvT hZ (hw _ (List.mem_of_getElem? (i := 41) rfl))) (mvT hZ (hw _ (List.mem_of_getElem? (i := 42) rfl))) (notFace_of_selects (args := #[]) (mvT hZ (hw _ (List.mem_of_getElem? (i := 44) rfl)))) (mvT hZ (hw _ (List.mem_of_getElem? (i := 44) rfl))) (mvT hZ (hw _ (List.mem_of_getElem? (i := 43) rfl))) (by decide) (backOf (W := 0) (typ l Z a0 hw [] w_TRANSMIT G b1_135 w_TRANSMIT T151.heap n0 O151 (f160 : Fld Z T151.heap b1_135 "com/example/aspectwise/aspectwise/cmri/Packet" "type" "Lcom/example/aspectwise/aspectwise/cmri/Packet$Type;" (.ref w_TRANSMIT))) hZ (hw _ (List.mem_of_getElem? (i := 45) rfl)) (hw _ (List.mem_of_getElem? (i := 3) rfl)) (by decide) (by decide)) qq161a qq161c (g := (mkF m 139 #[iv p1, iv p2, .val (.long p3), .second, iv (3 : Int32), iv ((p3.toInt32).toInt8.toInt32), iv ((((p3.toUInt64 >>> ((8 : Int32) &&& 0x3f).toInt64.toUInt64).toInt64).toInt32).toInt8.toInt32), iv ((((p3.toUInt64 >>> ((16 : Int32) &&& 0x3f).toInt64.toUInt64).toInt64).toInt32).toInt8.toInt32), rv b121, rv b1_135, rv d1_151] [(.ref b1_135)])) rfl (by rw [hml]; rfl) (Steps.refl _) (argsL := []) (rest := []) (lenOf pd_4 rfl) rfl (by show 2 * 0 + _ ≤ _; exact Nat.le_of_eq rfl) (hb hby at_139) (fun _ _ => ⟨rfl, e156, (by decide : 4 + 0 ≤ _), (by decide : 12 + 0 ≤ _)⟩)
    dsimp only [Pt.U, Pt.locs, Pt.cells, Pt.slots] at X161 l161 y161 z161 st161 hQ161
    subst l161 y161 z161
    obtain ⟨rfl, Nq161, e161⟩ := hQ161
    have N161 := Fr.app N156 Nq161
    have k162 : Way p e below S0 T161 (mkF m 142 #[iv p1, iv p2, .val (.long p3), .second, iv (3 : Int32), iv ((p3.toInt32).toInt8.toInt32), iv ((((p3.toUInt64 >>> ((8 : Int32) &&& 0x3f).toInt64.toUInt64).toInt64).toInt32).toInt8.toInt32), iv ((((p3.toUInt64 >>> ((16 : Int32) &&& 0x3f).toInt64.toUInt64).toInt64).toInt32).toInt8.toInt32), rv b121, rv b1_135, rv d1_151] [(.ref w_TRANSMIT)]) := fun t k => k159 t (st161.trans k)
    obtain ⟨T163, X163, e163, st163⟩ := getS2 X161 hx hZ hown (host := "") (Or.inl (hw _ (List.mem_of_getElem? (i := 46) rfl))) Via.refl e161 (S_w_TRANSMIT.ext O151.2) (g := (mkF m 142 #[iv p1, iv p2, .val (.long p3), .second, iv (3 : Int32), iv ((p3.toInt32).toInt8.toInt32), iv ((((p3.toUInt64 >>> ((8 : Int32) &&& 0x3f).toInt64.toUInt64).toInt64).toInt32).toInt8.toInt32), iv ((((p3.toUInt64 >>> ((16 : Int32) &&& 0x3f).toInt64.toUInt64).toInt64).toInt32).toInt8.toInt32), rv b121, rv b1_135, rv d1_151] [(.ref w_TRANSMIT)])) rfl (hb hby at_142)
    have k164 : Way p e below S0 T163 (mkF m 145 #[iv p1, iv p2, .val (.long p3), .second, iv (3 : Int32), iv ((p3.toInt32).toInt8.toInt32), iv ((((p3.toUInt64 >>> ((8 : Int32) &&& 0x3f).toInt64.toUInt64).toInt64).toInt32).toInt8.toInt32), iv ((((p3.toUInt64 >>> ((16 : Int32) &&& 0x3f).toInt64.toUInt64).toInt64).toInt32).toInt8.toInt32), rv b121, rv b1_135, rv d1_151] [(.ref w_TRANSMIT), (.ref w_TRANSMIT)]) := fun t k => k162 t (st163 _ k)
    have k165 : Way p e below S0 T163 (mkF m 152 #[iv p1, iv p2, .val (.long p3), .second, iv (3 : Int32), iv ((p3.toInt32).toInt8.toInt32), iv ((((p3.toUInt64 >>> ((8 : Int32) &&& 0x3f).toInt64.toUInt64).toInt64).toInt32).toInt8.toInt32), iv ((((p3.toUInt64 >>> ((16 : Int32) &&& 0x3f).toInt64.toUInt64).toInt64).toInt32).toInt8.toInt32), rv b121, rv b1_135, rv d1_151] [(.ref d1_151)]) := by
      intro t k
      refine k164 t ?_
      refine Jvm.RoadKit.acmp (g := (mkF m 145 #[iv p1, iv p2, .val (.long p3), .second, iv (3 : Int32), iv ((p3.toInt32).toInt8.toInt32), iv ((((p3.toUInt64 >>> ((8 : Int32) &&& 0x3f).toInt64.toUInt64).toInt64).toInt32).toInt8.toInt32), iv ((((p3.toUInt64 >>> ((16 : Int32) &&& 0x3f).toInt64.toUInt64).toInt64).toInt32).toInt8.toInt32), rv b121, rv b1_135, rv d1_151] [(.ref w_TRANSMIT), (.ref w_TRANSMIT)])) X163 hx rfl rfl rfl (pc0 := 145) (pc' := 150) (same := true) rfl (hb hby at_145) rfl (decide_eq_true rfl) (by decide) (by decide) ?_
      show Steps p.tables e below (T163.setTop (mkF m 150 #[iv p1, iv p2, .val (.long p3), .second, iv (3 : Int32), iv ((p3.toInt32).toInt8.toInt32), iv ((((p3.toUInt64 >>> ((8 : Int32) &&& 0x3f).toInt64.toUInt64).toInt64).toInt32).toInt8.toInt32), iv ((((p3.toUInt64 >>> ((16 : Int32) &&& 0x3f).toInt64.toUInt64).toInt64).toInt32).toInt8.toInt32), rv b121, rv b1_135, rv d1_151] [])) _
      refine XS.aload X163.here hx rfl (hb hby at_150) rfl rfl ?_
      show Steps p.tables e below (T163.setTop (mkF m 152 #[iv p1, iv p2, .val (.long p3), .second, iv (3 : Int32), iv ((p3.toInt32).toInt8.toInt32), iv ((((p3.toUInt64 >>> ((8 : Int32) &&& 0x3f).toInt64.toUInt64).toInt64).toInt32).toInt8.toInt32), iv ((((p3.toUInt64 >>> ((16 : Int32) &&& 0x3f).toInt64.toUInt64).toInt64).toInt32).toInt8.toInt32), rv b121, rv b1_135, rv d1_151] [(.ref d1_151)])) _
      exact k
    obtain ⟨cl166, Ar166, -, S166, M166, -, -⟩ := id (po151_2)
    have k167 : Way p e below S0 T163 (mkF m 153 #[iv p1, iv p2, .val (.long p3), .second, iv (3 : Int32), iv ((p3.toInt32).toInt8.toInt32), iv ((((p3.toUInt64 >>> ((8 : Int32) &&& 0x3f).toInt64.toUInt64).toInt64).toInt32).toInt8.toInt32), iv ((((p3.toUInt64 >>> ((16 : Int32) &&& 0x3f).toInt64.toUInt64).toInt64).toInt32).toInt8.toInt32), rv b121, rv b1_135, rv d1_151] [(.int (3 : Int32))]) := fun t k => k165 t (X163.arraylength hx (by rw [e163]; exact Ar166.1) (State.isArrayOf_alike hZ.alike Ar166.2.1) (g := (mkF m 152 #[iv p1, iv p2, .val (.long p3), .second, iv (3 : Int32), iv ((p3.toInt32).toInt8.toInt32), iv ((((p3.toUInt64 >>> ((8 : Int32) &&& 0x3f).toInt64.toUInt64).toInt64).toInt32).toInt8.toInt32), iv ((((p3.toUInt64 >>> ((16 : Int32) &&& 0x3f).toInt64.toUInt64).toInt64).toInt32).toInt8.toInt32), rv b121, rv b1_135, rv d1_151] [(.ref d1_151)])) rfl rfl (hb hby at_152) _ (by rw [len_of S166 M166]; exact k))
    have k168 : Way p e below S0 T163 (mkF m 168 #[iv p1, iv p2, .val (.long p3), .second, iv (3 : Int32), iv ((p3.toInt32).toInt8.toInt32), iv ((((p3.toUInt64 >>> ((8 : Int32) &&& 0x3f).toInt64.toUInt64).toInt64).toInt32).toInt8.toInt32), iv ((((p3.toUInt64 >>> ((16 : Int32) &&& 0x3f).toInt64.toUInt64).toInt64).toInt32).toInt8.toInt32), rv b121, rv b1_135, rv d1_151] [(.int (0 : Int32)), (.ref d1_151)]) := by
      intro t k
      refine k167 t ?_
      refine XS.iload X163.here hx rfl (hb hby at_153) rfl ?_
      show Steps p.tables e below (T163.setTop (mkF m 155 #[iv p1, iv p2, .val (.long p3), .second, iv (3 : Int32), iv ((p3.toInt32).toInt8.toInt32), iv ((((p3.toUInt64 >>> ((8 : Int32) &&& 0x3f).toInt64.toUInt64).toInt64).toInt32).toInt8.toInt32), iv ((((p3.toUInt64 >>> ((16 : Int32) &&& 0x3f).toInt64.toUInt64).toInt64).toInt32).toInt8.toInt32), rv b121, rv b1_135, rv d1_151] [(.int (3 : Int32)), (.int (3 : Int32))])) _
      refine XS.icmpYes X163.here hx rfl (pc0 := 155) (pc' := 160) rfl (hb hby at_155) rfl (teq ((by decide) : (3 : Int32) = (3 : Int32))).1 (by decide) (by decide) ?_
      show Steps p.tables e below (T163.setTop (mkF m 160 #[iv p1, iv p2, .val (.long p3), .second, iv (3 : Int32), iv ((p3.toInt32).toInt8.toInt32), iv ((((p3.toUInt64 >>> ((8 : Int32) &&& 0x3f).toInt64.toUInt64).toInt64).toInt32).toInt8.toInt32), iv ((((p3.toUInt64 >>> ((16 : Int32) &&& 0x3f).toInt64.toUInt64).toInt64).toInt32).toInt8.toInt32), rv b121, rv b1_135, rv d1_151] [])) _
      refine XS.iload X163.here hx rfl (hb hby at_160) rfl ?_
      show Steps p.tables e below (T163.setTop (mkF m 162 #[iv p1, iv p2, .val (.long p3), .second, iv (3 : Int32), iv ((p3.toInt32).toInt8.toInt32), iv ((((p3.toUInt64 >>> ((8 : Int32) &&& 0x3f).toInt64.toUInt64).toInt64).toInt32).toInt8.toInt32), iv ((((p3.toUInt64 >>> ((16 : Int32) &&& 0x3f).toInt64.toUInt64).toInt64).toInt32).toInt8.toInt32), rv b121, rv b1_135, rv d1_151] [(.int (3 : Int32))])) _
      refine XS.ifNo X163.here hx rfl (hb hby at_162) rfl ((if0 _ _).trans (tlt ((by decide) : (0 : Int32) < (3 : Int32))).2.2.2) ?_
      show Steps p.tables e below (T163.setTop (mkF m 165 #[iv p1, iv p2, .val (.long p3), .second, iv (3 : Int32), iv ((p3.toInt32).toInt8.toInt32), iv ((((p3.toUInt64 >>> ((8 : Int32) &&& 0x3f).toInt64.toUInt64).toInt64).toInt32).toInt8.toInt32), iv ((((p3.toUInt64 >>> ((16 : Int32) &&& 0x3f).toInt64.toUInt64).toInt64).toInt32).toInt8.toInt32), rv b121, rv b1_135, rv d1_151] [])) _
      refine XS.aload X163.here hx rfl (hb hby at_165) rfl rfl ?_
      show Steps p.tables e below (T163.setTop (mkF m 167 #[iv p1, iv p2, .val (.long p3), .second, iv (3 : Int32), iv ((p3.toInt32).toInt8.toInt32), iv ((((p3.toUInt64 >>> ((8 : Int32) &&& 0x3f).toInt64.toUInt64).toInt64).toInt32).toInt8.toInt32), iv ((((p3.toUInt64 >>> ((16 : Int32) &&& 0x3f).toInt64.toUInt64).toInt64).toInt32).toInt8.toInt32), rv b121, rv b1_135, rv d1_151] [(.ref d1_151)])) _
      refine XS.iconst X163.here hx rfl (hb hby at_167) ?_
      show Steps p.tables e below (T163.setTop (mkF m 168 #[iv p1, iv p2, .val (.long p3), .second, iv (3 : Int32), iv ((p3.toInt32).toInt8.toInt32), iv ((((p3.toUInt64 >>> ((8 : Int32) &&& 0x3f).toInt64.toUInt64).toInt64).toInt32).toInt8.toInt32), iv ((((p3.toUInt64 >>> ((16 : Int32) &&& 0x3f).toInt64.toUInt64).toInt64).toInt32).toInt8.toInt32), rv b121, rv b1_135, rv d1_151] [(.int (0 : Int32)), (.ref d1_151)])) _
      exact k
    obtain ⟨cl169, Ar169, qc169, S169, M169, U169, G169⟩ := id (po151_2)
    have hin169 : ¬ ((0 : Int32) < 0 ∨ cl169.slots.size ≤ ((0 : Int32)).toNatClampNeg) := inb_of S169 ⟨by decide, by decide⟩
    have hat169 : cl169.slots[((0 : Int32)).toNatClampNeg]? = some (.int (((p3.toInt32).toInt8.toInt32).toInt8.toInt32)) := Has.at U169 hin169 rfl
    have k170 : Way p e below S0 T163 (mkF m 169 #[iv p1, iv p2, .val (.long p3), .second, iv (3 : Int32), iv ((p3.toInt32).toInt8.toInt32), iv ((((p3.toUInt64 >>> ((8 : Int32) &&& 0x3f).toInt64.toUInt64).toInt64).toInt32).toInt8.toInt32), iv ((((p3.toUInt64 >>> ((16 : Int32) &&& 0x3f).toInt64.toUInt64).toInt64).toInt32).toInt8.toInt32), rv b121, rv b1_135, rv d1_151] [(.int (((p3.toInt32).toInt8.toInt32).toInt8.toInt32))]) := fun t k => k168 t (X163.baloadBytes hx (j := (0 : Int32)) (v := (.int (((p3.toInt32).toInt8.toInt32).toInt8.toInt32))) (by rw [e163]; exact Ar169.1) (State.isArrayOf_alike hZ.alike Ar169.2.1) Ar169.2.2 hin169 hat169 (g := (mkF m 168 #[iv p1, iv p2, .val (.long p3), .second, iv (3 : Int32), iv ((p3.toInt32).toInt8.toInt32), iv ((((p3.toUInt64 >>> ((8 : Int32) &&& 0x3f).toInt64.toUInt64).toInt64).toInt32).toInt8.toInt32), iv ((((p3.toUInt64 >>> ((16 : Int32) &&& 0x3f).toInt64.toUInt64).toInt64).toInt32).toInt8.toInt32), rv b121, rv b1_135, rv d1_151] [(.int (0 : Int32)), (.ref d1_151)])) rfl rfl (hb hby at_168) _ k)
    have k171 : Way p e below S0 T163 (mkF m 185 #[iv p1, iv p2, .val (.long p3), .second, iv (3 : Int32), iv ((p3.toInt32).toInt8.toInt32), iv ((((p3.toUInt64 >>> ((8 : Int32) &&& 0x3f).toInt64.toUInt64).toInt64).toInt32).toInt8.toInt32), iv ((((p3.toUInt64 >>> ((16 : Int32) &&& 0x3f).toInt64.toUInt64).toInt64).toInt32).toInt8.toInt32), rv b121, rv b1_135, rv d1_151] [(.int (1 : Int32)), (.ref d1_151)]) := by
      intro t k
      refine k170 t ?_
      refine XS.iload X163.here hx rfl (hb hby at_169) rfl ?_
      show Steps p.tables e below (T163.setTop (mkF m 171 #[iv p1, iv p2, .val (.long p3), .second, iv (3 : Int32), iv ((p3.toInt32).toInt8.toInt32), iv ((((p3.toUInt64 >>> ((8 : Int32) &&& 0x3f).toInt64.toUInt64).toInt64).toInt32).toInt8.toInt32), iv ((((p3.toUInt64 >>> ((16 : Int32) &&& 0x3f).toInt64.toUInt64).toInt64).toInt32).toInt8.toInt32), rv b121, rv b1_135, rv d1_151] [(.int ((p3.toInt32).toInt8.toInt32)), (.int (((p3.toInt32).toInt8.toInt32).toInt8.toInt32))])) _
      refine XS.icmpYes X163.here hx rfl (pc0 := 171) (pc' := 176) rfl (hb hby at_171) rfl (teq ((own_i2b _) : (((p3.toInt32).toInt8.toInt32).toInt8.toInt32) = ((p3.toInt32).toInt8.toInt32))).1 (by decide) (by decide) ?_
      show Steps p.tables e below (T163.setTop (mkF m 176 #[iv p1, iv p2, .val (.long p3), .second, iv (3 : Int32), iv ((p3.toInt32).toInt8.toInt32), iv ((((p3.toUInt64 >>> ((8 : Int32) &&& 0x3f).toInt64.toUInt64).toInt64).toInt32).toInt8.toInt32), iv ((((p3.toUInt64 >>> ((16 : Int32) &&& 0x3f).toInt64.toUInt64).toInt64).toInt32).toInt8.toInt32), rv b121, rv b1_135, rv d1_151] [])) _
      refine XS.iload X163.here hx rfl (hb hby at_176) rfl ?_
      show Steps p.tables e below (T163.setTop (mkF m 178 #[iv p1, iv p2, .val (.long p3), .second, iv (3 : Int32), iv ((p3.toInt32).toInt8.toInt32), iv ((((p3.toUInt64 >>> ((8 : Int32) &&& 0x3f).toInt64.toUInt64).toInt64).toInt32).toInt8.toInt32), iv ((((p3.toUInt64 >>> ((16 : Int32) &&& 0x3f).toInt64.toUInt64).toInt64).toInt32).toInt8.toInt32), rv b121, rv b1_135, rv d1_151] [(.int (3 : Int32))])) _
      refine XS.iconst X163.here hx rfl (hb hby at_178) ?_
      show Steps p.tables e below (T163.setTop (mkF m 179 #[iv p1, iv p2, .val (.long p3), .second, iv (3 : Int32), iv ((p3.toInt32).toInt8.toInt32), iv ((((p3.toUInt64 >>> ((8 : Int32) &&& 0x3f).toInt64.toUInt64).toInt64).toInt32).toInt8.toInt32), iv ((((p3.toUInt64 >>> ((16 : Int32) &&& 0x3f).toInt64.toUInt64).toInt64).toInt32).toInt8.toInt32), rv b121, rv b1_135, rv d1_151] [(.int (1 : Int32)), (.int (3 : Int32))])) _
      refine XS.icmpNo X163.here hx rfl (hb hby at_179) rfl (tlt ((by decide) : (1 : Int32) < (3 : Int32))).2.2.2 ?_
      show Steps p.tables e below (T163.setTop (mkF m 182 #[iv p1, iv p2, .val (.long p3), .second, iv (3 : Int32), iv ((p3.toInt32).toInt8.toInt32), iv ((((p3.toUInt64 >>> ((8 : Int32) &&& 0x3f).toInt64.toUInt64).toInt64).toInt32).toInt8.toInt32), iv ((((p3.toUInt64 >>> ((16 : Int32) &&& 0x3f).toInt64.toUInt64).toInt64).toInt32).toInt8.toInt32), rv b121, rv b1_135, rv d1_151] [])) _
      refine XS.aload X163.here hx rfl (hb hby at_182) rfl rfl ?_
      show Steps p.tables e below (T163.setTop (mkF m 184 #[iv p1, iv p2, .val (.long p3), .second, iv (3 : Int32), iv ((p3.toInt32).toInt8.toInt32), iv ((((p3.toUInt64 >>> ((8 : Int32) &&& 0x3f).toInt64.toUInt64).toInt64).toInt32).toInt8.toInt32), iv ((((p3.toUInt64 >>> ((16 : Int32) &&& 0x3f).toInt64.toUInt64).toInt64).toInt32).toInt8.toInt32), rv b121, rv b1_135, rv d1_151] [(.ref d1_151)])) _
      refine XS.iconst X163.here hx rfl (hb hby at_184) ?_
      show Steps p.tables e below (T163.setTop (mkF m 185 #[iv p1, iv p2, .val (.long p3), .second, iv (3 : Int32), iv ((p3.toInt32).toInt8.toInt32), iv ((((p3.toUInt64 >>> ((8 : Int32) &&& 0x3f).toInt64.toUInt64).toInt64).toInt32).toInt8.toInt32), iv ((((p3.toUInt64 >>> ((16 : Int32) &&& 0x3f).toInt64.toUInt64).toInt64).toInt32).toInt8.toInt32), rv b121, rv b1_135, rv d1_151] [(.int (1 : Int32)), (.ref d1_151)])) _
      exact k
    obtain ⟨cl172, Ar172, qc172, S172, M172, U172, G172⟩ := id (po151_2)
    have hin172 : ¬ ((1 : Int32) < 0 ∨ cl172.slots.size ≤ ((1 : Int32)).toNatClampNeg) := inb_of S172 ⟨by decide, by decide⟩
    have hat172 : cl172.slots[((1 : Int32)).toNatClampNeg]? = some (.int (((((p3.toUInt64 >>> ((8 : Int32) &&& 0x3f).toInt64.toUInt64).toInt64).toInt32).toInt8.toInt32).toInt8.toInt32)) := Has.at U172 hin172 rfl
    have k173 : Way p e below S0 T163 (mkF m 186 #[iv p1, iv p2, .val (.long p3), .second, iv (3 : Int32), iv ((p3.toInt32).toInt8.toInt32), iv ((((p3.toUInt64 >>> ((8 : Int32) &&& 0x3f).toInt64.toUInt64).toInt64).toInt32).toInt8.toInt32), iv ((((p3.toUInt64 >>> ((16 : Int32) &&& 0x3f).toInt64.toUInt64).toInt64).toInt32).toInt8.toInt32), rv b121, rv b1_135, rv d1_151] [(.int (((((p3.toUInt64 >>> ((8 : Int32) &&& 0x3f).toInt64.toUInt64).toInt64).toInt32).toInt8.toInt32).toInt8.toInt32))]) := fun t k => k171 t (X163.baloadBytes hx (j := (1 : Int32)) (v := (.int (((((p3.toUInt64 >>> ((8 : Int32) &&& 0x3f).toInt64.toUInt64).toInt64).toInt32).toInt8.toInt32).toInt8.toInt32))) (by rw [e163]; exact Ar172.1) (State.isArrayOf_alike hZ.alike Ar172.2.1) Ar172.2.2 hin172 hat172 (g := (mkF m 185 #[iv p1, iv p2, .val (.long p3), .second, iv (3 : Int32), iv ((p3.toInt32).toInt8.toInt32), iv ((((p3.toUInt64 >>> ((8 : Int32) &&& 0x3f).toInt64.toUInt64).toInt64).toInt32).toInt8.toInt32), iv ((((p3.toUInt64 >>> ((16 : Int32) &&& 0x3f).toInt64.toUInt64).toInt64).toInt32).toInt8.toInt32), rv b121, rv b1_135, rv d1_151] [(.int (1 : Int32)), (.ref d1_151)])) rfl rfl (hb hby at_185) _ k)
    have k174 : Way p e below S0 T163 (mkF m 202 #[iv p1, iv p2, .val (.long p3), .second, iv (3 : Int32), iv ((p3.toInt32).toInt8.toInt32), iv ((((p3.toUInt64 >>> ((8 : Int32) &&& 0x3f).toInt64.toUInt64).toInt64).toInt32).toInt8.toInt32), iv ((((p3.toUInt64 >>> ((16 : Int32) &&& 0x3f).toInt64.toUInt64).toInt64).toInt32).toInt8.toInt32), rv b121, rv b1_135, rv d1_151] [(.int (2 : Int32)), (.ref d1_151)]) := by
      intro t k
      refine k173 t ?_
      refine XS.iload X163.here hx rfl (hb hby at_186) rfl ?_
      show Steps p.tables e below (T163.setTop (mkF m 188 #[iv p1, iv p2, .val (.long p3), .second, iv (3 : Int32), iv ((p3.toInt32).toInt8.toInt32), iv ((((p3.toUInt64 >>> ((8 : Int32) &&& 0x3f).toInt64.toUInt64).toInt64).toInt32).toInt8.toInt32), iv ((((p3.toUInt64 >>> ((16 : Int32) &&& 0x3f).toInt64.toUInt64).toInt64).toInt32).toInt8.toInt32), rv b121, rv b1_135, rv d1_151] [(.int ((((p3.toUInt64 >>> ((8 : Int32) &&& 0x3f).toInt64.toUInt64).toInt64).toInt32).toInt8.toInt32)), (.int (((((p3.toUInt64 >>> ((8 : Int32) &&& 0x3f).toInt64.toUInt64).toInt64).toInt32).toInt8.toInt32).toInt8.toInt32))])) _
      refine XS.icmpYes X163.here hx rfl (pc0 := 188) (pc' := 193) rfl (hb hby at_188) rfl (teq ((own_i2b _) : (((((p3.toUInt64 >>> ((8 : Int32) &&& 0x3f).toInt64.toUInt64).toInt64).toInt32).toInt8.toInt32).toInt8.toInt32) = ((((p3.toUInt64 >>> ((8 : Int32) &&& 0x3f).toInt64.toUInt64).toInt64).toInt32).toInt8.toInt32))).1 (by decide) (by decide) ?_
      show Steps p.tables e below (T163.setTop (mkF m 193 #[iv p1, iv p2, .val (.long p3), .second, iv (3 : Int32), iv ((p3.toInt32).toInt8.toInt32), iv ((((p3.toUInt64 >>> ((8 : Int32) &&& 0x3f).toInt64.toUInt64).toInt64).toInt32).toInt8.toInt32), iv ((((p3.toUInt64 >>> ((16 : Int32) &&& 0x3f).toInt64.toUInt64).toInt64).toInt32).toInt8.toInt32), rv b121, rv b1_135, rv d1_151] [])) _
      refine XS.iload X163.here hx rfl (hb hby at_193) rfl ?_
      show Steps p.tables e below (T163.setTop (mkF m 195 #[iv p1, iv p2, .val (.long p3), .second, iv (3 : Int32), iv ((p3.toInt32).toInt8.toInt32), iv ((((p3.toUInt64 >>> ((8 : Int32) &&& 0x3f).toInt64.toUInt64).toInt64).toInt32).toInt8.toInt32), iv ((((p3.toUInt64 >>> ((16 : Int32) &&& 0x3f).toInt64.toUInt64).toInt64).toInt32).toInt8.toInt32), rv b121, rv b1_135, rv d1_151] [(.int (3 : Int32))])) _
      refine XS.iconst X163.here hx rfl (hb hby at_195) ?_
      show Steps p.tables e below (T163.setTop (mkF m 196 #[iv p1, iv p2, .val (.long p3), .second, iv (3 : Int32), iv ((p3.toInt32).toInt8.toInt32), iv ((((p3.toUInt64 >>> ((8 : Int32) &&& 0x3f).toInt64.toUInt64).toInt64).toInt32).toInt8.toInt32), iv ((((p3.toUInt64 >>> ((16 : Int32) &&& 0x3f).toInt64.toUInt64).toInt64).toInt32).toInt8.toInt32), rv b121, rv b1_135, rv d1_151] [(.int (2 : Int32)), (.int (3 : Int32))])) _
      refine XS.icmpNo X163.here hx rfl (hb hby at_196) rfl (tlt ((by decide) : (2 : Int32) < (3 : Int32))).2.2.2 ?_
      show Steps p.tables e below (T163.setTop (mkF m 199 #[iv p1, iv p2, .val (.long p3), .second, iv (3 : Int32), iv ((p3.toInt32).toInt8.toInt32), iv ((((p3.toUInt64 >>> ((8 : Int32) &&& 0x3f).toInt64.toUInt64).toInt64).toInt32).toInt8.toInt32), iv ((((p3.toUInt64 >>> ((16 : Int32) &&& 0x3f).toInt64.toUInt64).toInt64).toInt32).toInt8.toInt32), rv b121, rv b1_135, rv d1_151] [])) _
      refine XS.aload X163.here hx rfl (hb hby at_199) rfl rfl ?_
      show Steps p.tables e below (T163.setTop (mkF m 201 #[iv p1, iv p2, .val (.long p3), .second, iv (3 : Int32), iv ((p3.toInt32).toInt8.toInt32), iv ((((p3.toUInt64 >>> ((8 : Int32) &&& 0x3f).toInt64.toUInt64).toInt64).toInt32).toInt8.toInt32), iv ((((p3.toUInt64 >>> ((16 : Int32) &&& 0x3f).toInt64.toUInt64).toInt64).toInt32).toInt8.toInt32), rv b121, rv b1_135, rv d1_151] [(.ref d1_151)])) _
      refine XS.iconst X163.here hx rfl (hb hby at_201) ?_
      show Steps p.tables e below (T163.setTop (mkF m 202 #[iv p1, iv p2, .val (.long p3), .second, iv (3 : Int32), iv ((p3.toInt32).toInt8.toInt32), iv ((((p3.toUInt64 >>> ((8 : Int32) &&& 0x3f).toInt64.toUInt64).toInt64).toInt32).toInt8.toInt32), iv ((((p3.toUInt64 >>> ((16 : Int32) &&& 0x3f).toInt64.toUInt64).toInt64).toInt32).toInt8.toInt32), rv b121, rv b1_135, rv d1_151] [(.int (2 : Int32)), (.ref d1_151)])) _
      exact k
    obtain ⟨cl175, Ar175, qc175, S175, M175, U175, G175⟩ := id (po151_2)
    have hin175 : ¬ ((2 : Int32) < 0 ∨ cl175.slots.size ≤ ((2 : Int32)).toNatClampNeg) := inb_of S175 ⟨by decide, by decide⟩
    have hat175 : cl175.slots[((2 : Int32)).toNatClampNeg]? = some (.int (((((p3.toUInt64 >>> ((16 : Int32) &&& 0x3f).toInt64.toUInt64).toInt64).toInt32).toInt8.toInt32).toInt8.toInt32)) := Has.at U175 hin175 rfl
    have k176 : Way p e below S0 T163 (mkF m 203 #[iv p1, iv p2, .val (.long p3), .second, iv (3 : Int32), iv ((p3.toInt32).toInt8.toInt32), iv ((((p3.toUInt64 >>> ((8 : Int32) &&& 0x3f).toInt64.toUInt64).toInt64).toInt32).toInt8.toInt32), iv ((((p3.toUInt64 >>> ((16 : Int32) &&& 0x3f).toInt64.toUInt64).toInt64).toInt32).toInt8.toInt32), rv b121, rv b1_135, rv d1_151] [(.int (((((p3.toUInt64 >>> ((16 : Int32) &&& 0x3f).toInt64.toUInt64).toInt64).toInt32).toInt8.toInt32).toInt8.toInt32))]) := fun t k => k174 t (X163.baloadBytes hx (j := (2 : Int32)) (v := (.int (((((p3.toUInt64 >>> ((16 : Int32) &&& 0x3f).toInt64.toUInt64).toInt64).toInt32).toInt8.toInt32).toInt8.toInt32))) (by rw [e163]; exact Ar175.1) (State.isArrayOf_alike hZ.alike Ar175.2.1) Ar175.2.2 hin175 hat175 (g := (mkF m 202 #[iv p1, iv p2, .val (.long p3), .second, iv (3 : Int32), iv ((p3.toInt32).toInt8.toInt32), iv ((((p3.toUInt64 >>> ((8 : Int32) &&& 0x3f).toInt64.toUInt64).toInt64).toInt32).toInt8.toInt32), iv ((((p3.toUInt64 >>> ((16 : Int32) &&& 0x3f).toInt64.toUInt64).toInt64).toInt32).toInt8.toInt32), rv b121, rv b1_135, rv d1_151] [(.int (2 : Int32)), (.ref d1_151)])) rfl rfl (hb hby at_202) _ k)
    have k177 : Way p e below S0 T163 (mkF m 211 #[iv p1, iv p2, .val (.long p3), .second, iv (3 : Int32), iv ((p3.toInt32).toInt8.toInt32), iv ((((p3.toUInt64 >>> ((8 : Int32) &&& 0x3f).toInt64.toUInt64).toInt64).toInt32).toInt8.toInt32), iv ((((p3.toUInt64 >>> ((16 : Int32) &&& 0x3f).toInt64.toUInt64).toInt64).toInt32).toInt8.toInt32), rv b121, rv b1_135, rv d1_151] [(.int (1 : Int32))]) := by
      intro t k
      refine k176 t ?_
      refine XS.iload X163.here hx rfl (hb hby at_203) rfl ?_
      show Steps p.tables e below (T163.setTop (mkF m 205 #[iv p1, iv p2, .val (.long p3), .second, iv (3 : Int32), iv ((p3.toInt32).toInt8.toInt32), iv ((((p3.toUInt64 >>> ((8 : Int32) &&& 0x3f).toInt64.toUInt64).toInt64).toInt32).toInt8.toInt32), iv ((((p3.toUInt64 >>> ((16 : Int32) &&& 0x3f).toInt64.toUInt64).toInt64).toInt32).toInt8.toInt32), rv b121, rv b1_135, rv d1_151] [(.int ((((p3.toUInt64 >>> ((16 : Int32) &&& 0x3f).toInt64.toUInt64).toInt64).toInt32).toInt8.toInt32)), (.int (((((p3.toUInt64 >>> ((16 : Int32) &&& 0x3f).toInt64.toUInt64).toInt64).toInt32).toInt8.toInt32).toInt8.toInt32))])) _
      refine XS.icmpYes X163.here hx rfl (pc0 := 205) (pc' := 210) rfl (hb hby at_205) rfl (teq ((own_i2b _) : (((((p3.toUInt64 >>> ((16 : Int32) &&& 0x3f).toInt64.toUInt64).toInt64).toInt32).toInt8.toInt32).toInt8.toInt32) = ((((p3.toUInt64 >>> ((16 : Int32) &&& 0x3f).toInt64.toUInt64).toInt64).toInt32).toInt8.toInt32))).1 (by decide) (by decide) ?_
      show Steps p.tables e below (T163.setTop (mkF m 210 #[iv p1, iv p2, .val (.long p3), .second, iv (3 : Int32), iv ((p3.toInt32).toInt8.toInt32), iv ((((p3.toUInt64 >>> ((8 : Int32) &&& 0x3f).toInt64.toUInt64).toInt64).toInt32).toInt8.toInt32), iv ((((p3.toUInt64 >>> ((16 : Int32) &&& 0x3f).toInt64.toUInt64).toInt64).toInt32).toInt8.toInt32), rv b121, rv b1_135, rv d1_151] [])) _
      refine XS.iconst X163.here hx rfl (hb hby at_210) ?_
      show Steps p.tables e below (T163.setTop (mkF m 211 #[iv p1, iv p2, .val (.long p3), .second, iv (3 : Int32), iv ((p3.toInt32).toInt8.toInt32), iv ((((p3.toUInt64 >>> ((8 : Int32) &&& 0x3f).toInt64.toUInt64).toInt64).toInt32).toInt8.toInt32), iv ((((p3.toUInt64 >>> ((16 : Int32) &&& 0x3f).toInt64.toUInt64).toInt64).toInt32).toInt8.toInt32), rv b121, rv b1_135, rv d1_151] [(.int (1 : Int32))])) _
      exact k
    obtain ⟨fs, hr, hrun, hended, hW, hsame⟩ := X163.leave (v := some (.int (1 : Int32))) (fun h => by rw [Bd.returns] at h; cases h)
    refine ⟨_, _, k177 _ (retN X163 hx (t := .boolean) Bd.returns (by simp) (hb hby at_211) hr), hrun, hended, _, _, rfl, ?_, ⟨_, rfl⟩, hW, hsame.mono (by decide) (by decide)⟩
    show Q_law_met Z w_TRANSMIT p1 p2 p3 h0 n0 _ T163.heap _
    rw [e163]
    exact ⟨rfl, N161⟩
set_option maxRecDepth 65536 in
set_option maxHeartbeats 40000000 in
theorem comes_1 {Post : Tables → Env → Array Value → State → Outcome → State → Prop} (hpost : ∀ tb e args s v u, (limb_1_1.after args s (.returned v) u = true ∧ limb_1_2.after args s (.returned v) u = true ∧ True) → FrameEnd s (.returned v) u (Jvm.fieldLocs frame_1_writes args s ++ Jvm.arrayLocs frame_1_arrays args s ++ Jvm.staticLocs frame_1_statics s) 16 128 → Post tb e args s (.returned v) u) :
    ArmFor flags0 classFile x code maxLocals ret World_1 tables_1 room_1 Calls_1 rest_1 Pre_1 Post := by
  intro l hfl _ _ p e ha hc hk s m args below hf hA hF happ hP
  obtain ⟨hcalls, hrest, hpre⟩ := hP
  obtain ⟨-, -, -, hnamed, -, -, -, hat⟩ := (Spec.applies_iff hf).mp happ
  obtain ⟨hg, hn⟩ := and_e (Cond.before_iff.mp (show (Jvm.Cond.and given_1 narrow_1).before args s = true from hpre))
  obtain ⟨g1a, g1b⟩ := and_e hg
  obtain ⟨g2a, g2b⟩ := and_e g1b
  obtain ⟨g3a, g3b⟩ := and_e g2b
  obtain ⟨w0, w1, w2, rfl⟩ : ∃ w0 w1 w2 : Value, args = #[w0, w1, w2] := by
    have hs : args.size = 3 := by simpa [Cond.value, given_1] using g1a
    obtain ⟨L⟩ := args
    match L, hs with
    | [w0, w1, w2], _ => exact ⟨w0, w1, w2, rfl⟩
  have hw := fun d (hd : d ∈ tables_1) => atoms_spec (ws := Jvm.Cond.code x code maxLocals ret :: tables_1) hat d (List.mem_cons_of_mem _ hd)
  have hfit : Fit s := fun {y c} hc i hi => by
    obtain ⟨ha, rfl⟩ := Array.getElem?_eq_some_iff.mp hc
    have q := List.all_eq_true.mp ((Array.all_eq_true_iff_forall_mem.mp hF) _ (Array.getElem_mem ha)) i (List.mem_range.mpr hi)
    simpa [Array.getElem?_eq_getElem hi] using q
  obtain ⟨i0, ei0⟩ := is_v g2a
  obtain rfl : w0 = (.int i0) := Option.some.inj ei0
  obtain ⟨i1, ei1⟩ := is_v g3a
  obtain rfl : w1 = (.int i1) := Option.some.inj ei1
  obtain ⟨i2, ei2⟩ := isL_v g3b
  obtain rfl : w2 = (.long i2) := Option.some.inj ei2
  obtain ⟨w_TRANSMIT, ev_w_TRANSMIT⟩ := exa_v hn
  have S_w_TRANSMIT := Sta.start ev_w_TRANSMIT (Or.inr ⟨(hw _ (List.mem_of_getElem? (i := 8) rfl)), (hw _ (List.mem_of_getElem? (i := 9) rfl))⟩)
  have E_w_TRANSMIT := Exa.start ev_w_TRANSMIT hn
  have G : Gst s w_TRANSMIT := ⟨S_w_TRANSMIT, E_w_TRANSMIT⟩
  obtain ⟨n, o, h1, h2, h3, _, L, rfl, ⟨rfl, N⟩, hq⟩ := law_met l s _ hw tables_1 w_TRANSMIT G i0 i1 i2 s.heap s.heap.size (Old.start s)  p e ha hc hk s m _ below hf ((Spec.applies_iff_loose hf).mp happ).1 ⟨rfl, State.Warmed39.refl s, rfl⟩ trivial
  refine ⟨n, _, h1, h2, h3, hpost _ _ _ _ _ _ ⟨Cond.after_iff.mpr rfl, Cond.after_iff.mpr (eq_i res_at (Term.int_eval (1)) rfl), trivial⟩ ⟨hq.1, hq.2.1, (hq.2.2.sift fun y hy => Or.inr (N y hy)).mono (by decide) (by decide)⟩⟩
theorem main_1_1 : Claimed_1_1 := comes_1 fun _ _ _ _ _ _ h hF => ⟨h.1, hF⟩
theorem main_1_2 : Claimed_1_2 := comes_1 fun _ _ _ _ _ _ h hF => ⟨h.2.1, hF⟩
end Jvm.Pilot.@@N@@
namespace Jvm.Pilot.@@N@@
open Jvm Jvm.ClassFile Sem Op Lib Jvm.Free Jvm.Stand Jvm.Pilot.@@N@@.Jvm.D
/-! MADE BY PROGRAM (witnessworld.py) out of the Statement's table words and the real class files: 13 classes; the members and pool entries that the words name. The judged class is class 1, her method 1. -/
namespace start1
open Jvm.ClassFile
def u (s : String) : CpInfo := .utf8 (stringToUtf16 s)
/-- a pool by its gaps: so many unusable entries, then the entry; so many at the end -/
def gap : Nat → List CpInfo → List CpInfo
  | 0, r => r
  | n + 1, r => .unusable :: gap n r
def poolList (es : List (Nat × CpInfo)) (last : Nat) : List CpInfo := es.foldr (fun e r => gap e.1 (e.2 :: r)) (gap last [])
def pool (es : List (Nat × CpInfo)) (last : Nat) : Array CpInfo := ⟨poolList es last⟩
def fileOf (pool : Array CpInfo) (this : Nat) (attrs : Array Attribute := #[]) (ms : Array MethodInfo := #[]) (fl : Nat := 33) (sup : Nat := 0) (ifs : Array Nat := #[]) (fds : Array FieldInfo := #[]) : ClassFile where
  minorVersion := 0
  majorVersion := 65
  constantPool := pool
  accessFlags := fl
  thisClass := this
  superClass := sup
  interfaces := ifs
  fields := fds
  methods := ms
  attributes := attrs
def plain (name : String) (sup : Option ClassId) : Class where
  name := name
  kind := .ordinary
  loader := none
  accessFlags := 33
  super := sup
  interfaces := #[]
  cf := none
  fields := #[]
  methods := #[]
  instanceTypes := #[]
  staticTypes := #[]
  resolved := #[]
  callSites := []
  init := .initialized
  statics := none
  mirror := none

def pool0 : Array CpInfo := pool [(5, u "<init>"), (0, u "()V"), (1, .class_ 10), (1, u "java/lang/Object"), (85, u "clone"), (0, u "()Ljava/lang/Object;")] 26

def k0c0 : Code := { maxStack := 0, maxLocals := 1, code := object_method_1_code, exceptionTable := #[], attributes := #[] }
def k0m0 : Method := { name := "<init>", desc := "()V", sig := { parameters := [], returnType := none }, accessFlags := 1, code := some k0c0 }
def k0m1 : Method := { name := "clone", desc := "()Ljava/lang/Object;", sig := { parameters := [], returnType := some (.object "java/lang/Object") }, accessFlags := 260, code := none }
/-- java/lang/Object -/
def k0 : Class := { plain "java/lang/Object" none with
  accessFlags := 33
  interfaces := #[]
  cf := some (fileOf pool0 8 #[] #[{ accessFlags := 1, nameIndex := 5, descriptorIndex := 6, attributes := #[] }, { accessFlags := 260, nameIndex := 96, descriptorIndex := 97, attributes := #[] }] 33 0 #[] #[])
  fields := #[]
  methods := #[k0m0, k0m1]
  instanceTypes := #[]
  staticTypes := #[]
  resolved := Array.replicate 124 none
  statics := none }

def pool1 : Array CpInfo := pool [(2, .class_ 4), (1, u "java/lang/Object"), (0, u "<init>"), (0, u "()V"), (0, .methodref 8 9), (0, .class_ 10), (0, .nameAndType 11 12), (0, u "com/example/aspectwise/aspectwise/cmri/Packet"), (0, u "transmit"), (0, u "(I[B)Lcom/example/aspectwise/aspectwise/cmri/Packet;"), (0, .methodref 8 14), (0, .nameAndType 15 16), (0, u "data"), (0, u "()[B"), (0, .methodref 8 18), (0, .nameAndType 19 20), (0, u "address"), (0, u "()I"), (0, .methodref 8 22), (0, .nameAndType 23 24), (0, u "type"), (0, u "()Lcom/example/aspectwise/aspectwise/cmri/Packet$Type;"), (0, .fieldref 26 27), (0, .class_ 28), (0, .nameAndType 29 30), (0, u "com/example/aspectwise/aspectwise/cmri/Packet$Type"), (0, u "TRANSMIT"), (0, u "Lcom/example/aspectwise/aspectwise/cmri/Packet$Type;"), (0, .class_ 32), (0, u "com/example/aspectwise/aspectwise/cmri/PacketTransmitPinLaw"), (2, u "law"), (0, u "(IIJ)Z")] 7

def k1m0 : Method := { name := "<init>", desc := "()V", sig := { parameters := [], returnType := none }, accessFlags := 1, code := none }
def k1c1 : Code := { maxStack := 4, maxLocals := 11, code := code, exceptionTable := #[], attributes := #[] }
def k1m1 : Method := { name := "law", desc := "(IIJ)Z", sig := { parameters := [.int, .int, .long], returnType := some .boolean }, accessFlags := 9, code := some k1c1 }
/-- com/example/aspectwise/aspectwise/cmri/PacketTransmitPinLaw -/
def k1 : Class := { plain "com/example/aspectwise/aspectwise/cmri/PacketTransmitPinLaw" (some 0) with
  accessFlags := 49
  interfaces := #[]
  cf := some (fileOf pool1 31 #[] #[{ accessFlags := 1, nameIndex := 5, descriptorIndex := 6, attributes := #[] }, { accessFlags := 9, nameIndex := 35, descriptorIndex := 36, attributes := #[] }] 49 2 #[] #[])
  fields := #[]
  methods := #[k1m0, k1m1]
  instanceTypes := #[]
  staticTypes := #[]
  resolved := Array.replicate 44 none
  statics := none }

def pool2 : Array CpInfo := pool [(1, .methodref 2 3), (0, .class_ 4), (0, .nameAndType 5 6), (0, u "java/lang/Object"), (0, u "<init>"), (0, u "()V"), (0, .fieldref 8 9), (0, .class_ 10), (0, .nameAndType 11 12), (0, u "com/example/aspectwise/aspectwise/cmri/Packet"), (0, u "address"), (0, u "I"), (0, .fieldref 8 14), (0, .nameAndType 15 16), (0, u "type"), (0, u "Lcom/example/aspectwise/aspectwise/cmri/Packet$Type;"), (0, .methodref 18 19), (0, .class_ 20), (0, .nameAndType 21 22), (0, u "[B"), (0, u "clone"), (0, u "()Ljava/lang/Object;"), (0, .fieldref 8 24), (0, .nameAndType 25 20), (0, u "data"), (1, .class_ 29), (1, u "com/example/aspectwise/aspectwise/cmri/Packet$1"), (12, u "()I"), (8, .class_ 53), (1, u "com/example/aspectwise/aspectwise/cmri/Packet$Type"), (1, .methodref 8 56), (0, .nameAndType 5 57), (0, u "(ILcom/example/aspectwise/aspectwise/cmri/Packet$Type;[B)V"), (3, .fieldref 51 62), (0, .nameAndType 63 16), (0, u "TRANSMIT"), (14, u "()[B"), (43, u "MAX_DATA"), (2, u "SYN"), (1, u "STX"), (1, u "ETX"), (1, u "DLE"), (1, u "ADDRESS_OFFSET"), (1, u "SMINI_DEFINITION"), (8, u "transmit"), (0, u "(I[B)Lcom/example/aspectwise/aspectwise/cmri/Packet;"), (0, u "()Lcom/example/aspectwise/aspectwise/cmri/Packet$Type;")] 10

def k2c0 : Code := { maxStack := 2, maxLocals := 4, code := prog_13_method_1_code, exceptionTable := #[], attributes := #[] }
def k2m0 : Method := { name := "<init>", desc := "(ILcom/example/aspectwise/aspectwise/cmri/Packet$Type;[B)V", sig := { parameters := [.int, (.object "com/example/aspectwise/aspectwise/cmri/Packet$Type"), (.array .byte)], returnType := none }, accessFlags := 2, code := some k2c0 }
def k2c1 : Code := { maxStack := 5, maxLocals := 2, code := prog_13_method_4_code, exceptionTable := #[], attributes := #[] }
def k2m1 : Method := { name := "transmit", desc := "(I[B)Lcom/example/aspectwise/aspectwise/cmri/Packet;", sig := { parameters := [.int, (.array .byte)], returnType := some (.object "com/example/aspectwise/aspectwise/cmri/Packet") }, accessFlags := 8, code := some k2c1 }
def k2c2 : Code := { maxStack := 1, maxLocals := 1, code := prog_13_method_5_code, exceptionTable := #[], attributes := #[] }
def k2m2 : Method := { name := "address", desc := "()I", sig := { parameters := [], returnType := some .int }, accessFlags := 0, code := some k2c2 }
def k2c3 : Code := { maxStack := 1, maxLocals := 1, code := prog_13_method_6_code, exceptionTable := #[], attributes := #[] }
def k2m3 : Method := { name := "type", desc := "()Lcom/example/aspectwise/aspectwise/cmri/Packet$Type;", sig := { parameters := [], returnType := some (.object "com/example/aspectwise/aspectwise/cmri/Packet$Type") }, accessFlags := 0, code := some k2c3 }
def k2c4 : Code := { maxStack := 1, maxLocals := 1, code := prog_13_method_7_code, exceptionTable := #[], attributes := #[] }
def k2m4 : Method := { name := "data", desc := "()[B", sig := { parameters := [], returnType := some (.array .byte) }, accessFlags := 0, code := some k2c4 }
/-- com/example/aspectwise/aspectwise/cmri/Packet -/
def k2 : Class := { plain "com/example/aspectwise/aspectwise/cmri/Packet" (some 0) with
  accessFlags := 48
  interfaces := #[]
  cf := some (fileOf pool2 8 #[.nestMembers #[27, 51]] #[{ accessFlags := 2, nameIndex := 5, descriptorIndex := 57, attributes := #[] }, { accessFlags := 8, nameIndex := 144, descriptorIndex := 145, attributes := #[] }, { accessFlags := 0, nameIndex := 11, descriptorIndex := 42, attributes := #[] }, { accessFlags := 0, nameIndex := 15, descriptorIndex := 146, attributes := #[] }, { accessFlags := 0, nameIndex := 25, descriptorIndex := 78, attributes := #[] }] 48 2 #[] #[{ accessFlags := 24, nameIndex := 122, descriptorIndex := 12, attributes := #[] }, { accessFlags := 26, nameIndex := 125, descriptorIndex := 12, attributes := #[] }, { accessFlags := 26, nameIndex := 127, descriptorIndex := 12, attributes := #[] }, { accessFlags := 26, nameIndex := 129, descriptorIndex := 12, attributes := #[] }, { accessFlags := 26, nameIndex := 131, descriptorIndex := 12, attributes := #[] }, { accessFlags := 26, nameIndex := 133, descriptorIndex := 12, attributes := #[] }, { accessFlags := 26, nameIndex := 135, descriptorIndex := 12, attributes := #[] }, { accessFlags := 18, nameIndex := 11, descriptorIndex := 12, attributes := #[] }, { accessFlags := 18, nameIndex := 15, descriptorIndex := 16, attributes := #[] }, { accessFlags := 18, nameIndex := 25, descriptorIndex := 20, attributes := #[] }])
  fields := #[{ name := "MAX_DATA", type := .int, accessFlags := 24, slot := 0, constantValue := 0 }, { name := "SYN", type := .int, accessFlags := 26, slot := 1, constantValue := 0 }, { name := "STX", type := .int, accessFlags := 26, slot := 2, constantValue := 0 }, { name := "ETX", type := .int, accessFlags := 26, slot := 3, constantValue := 0 }, { name := "DLE", type := .int, accessFlags := 26, slot := 4, constantValue := 0 }, { name := "ADDRESS_OFFSET", type := .int, accessFlags := 26, slot := 5, constantValue := 0 }, { name := "SMINI_DEFINITION", type := .int, accessFlags := 26, slot := 6, constantValue := 0 }, { name := "address", type := .int, accessFlags := 18, slot := 0, constantValue := 0 }, { name := "type", type := (.object "com/example/aspectwise/aspectwise/cmri/Packet$Type"), accessFlags := 18, slot := 1, constantValue := 0 }, { name := "data", type := (.array .byte), accessFlags := 18, slot := 2, constantValue := 0 }]
  methods := #[k2m0, k2m1, k2m2, k2m3, k2m4]
  instanceTypes := #[.int, (.object "com/example/aspectwise/aspectwise/cmri/Packet$Type"), (.array .byte)]
  staticTypes := #[.int, .int, .int, .int, .int, .int, .int]
  resolved := Array.replicate 157 none
  statics := none }

def pool3 : Array CpInfo := pool [(1, .class_ 2), (0, u "java/lang/constant/Constable"), (0, .class_ 4), (0, u "java/lang/Object")] 6

/-- java/lang/constant/Constable -/
def k3 : Class := { plain "java/lang/constant/Constable" (some 0) with
  accessFlags := 1537
  interfaces := #[]
  cf := some (fileOf pool3 1 #[] #[] 1537 3 #[] #[])
  fields := #[]
  methods := #[]
  instanceTypes := #[]
  staticTypes := #[]
  resolved := Array.replicate 11 none
  statics := none }

def pool4 : Array CpInfo := pool [(1, .class_ 2), (0, u "java/lang/Comparable"), (0, .class_ 4), (0, u "java/lang/Object")] 7

/-- java/lang/Comparable -/
def k4 : Class := { plain "java/lang/Comparable" (some 0) with
  accessFlags := 1537
  interfaces := #[]
  cf := some (fileOf pool4 1 #[] #[] 1537 3 #[] #[])
  fields := #[]
  methods := #[]
  instanceTypes := #[]
  staticTypes := #[]
  resolved := Array.replicate 12 none
  statics := none }

def pool5 : Array CpInfo := pool [(1, .class_ 2), (0, u "java/io/Serializable"), (0, .class_ 4), (0, u "java/lang/Object")] 2

/-- java/io/Serializable -/
def k5 : Class := { plain "java/io/Serializable" (some 0) with
  accessFlags := 1537
  interfaces := #[]
  cf := some (fileOf pool5 1 #[] #[] 1537 3 #[] #[])
  fields := #[]
  methods := #[]
  instanceTypes := #[]
  staticTypes := #[]
  resolved := Array.replicate 7 none
  statics := none }

def pool6 : Array CpInfo := pool [(2, .class_ 4), (1, u "java/lang/Enum"), (0, u "name"), (0, u "Ljava/lang/String;"), (2, u "ordinal"), (0, u "I"), (1, .class_ 14), (1, u "java/lang/Object"), (4, u "hash"), (86, .class_ 108), (1, u "java/lang/Enum$EnumDesc"), (2, .class_ 112), (0, u "java/lang/constant/Constable"), (0, .class_ 114), (0, u "java/lang/Comparable"), (0, .class_ 116), (0, u "java/io/Serializable")] 87

/-- java/lang/Enum -/
def k6 : Class := { plain "java/lang/Enum" (some 0) with
  accessFlags := 1057
  interfaces := #[3, 4, 5]
  cf := some (fileOf pool6 2 #[.nestMembers #[106]] #[] 1057 12 #[111, 113, 115] #[{ accessFlags := 18, nameIndex := 5, descriptorIndex := 6, attributes := #[] }, { accessFlags := 18, nameIndex := 9, descriptorIndex := 10, attributes := #[] }, { accessFlags := 2, nameIndex := 19, descriptorIndex := 10, attributes := #[] }])
  fields := #[{ name := "name", type := (.object "java/lang/String"), accessFlags := 18, slot := 0, constantValue := 0 }, { name := "ordinal", type := .int, accessFlags := 18, slot := 1, constantValue := 0 }, { name := "hash", type := .int, accessFlags := 2, slot := 2, constantValue := 0 }]
  methods := #[]
  instanceTypes := #[(.object "java/lang/String"), .int, .int]
  staticTypes := #[]
  resolved := Array.replicate 204 none
  statics := none }

def pool7 : Array CpInfo := pool [(1, .class_ 2), (0, u "com/example/aspectwise/aspectwise/cmri/Packet$Type"), (2, u "INIT"), (0, u "Lcom/example/aspectwise/aspectwise/cmri/Packet$Type;"), (2, u "POLL"), (2, u "RECEIVE"), (2, u "TRANSMIT"), (2, u "$VALUES"), (0, u "[Lcom/example/aspectwise/aspectwise/cmri/Packet$Type;"), (6, .class_ 28), (1, u "java/lang/Enum"), (8, u "letter"), (0, u "I"), (55, .class_ 95), (0, u "com/example/aspectwise/aspectwise/cmri/Packet")] 2

/-- com/example/aspectwise/aspectwise/cmri/Packet$Type -/
def k7 : Class := { plain "com/example/aspectwise/aspectwise/cmri/Packet$Type" (some 6) with
  accessFlags := 16432
  interfaces := #[]
  cf := some (fileOf pool7 1 #[.nestHost 94] #[] 16432 26 #[] #[{ accessFlags := 16409, nameIndex := 5, descriptorIndex := 6, attributes := #[] }, { accessFlags := 16409, nameIndex := 9, descriptorIndex := 6, attributes := #[] }, { accessFlags := 16409, nameIndex := 12, descriptorIndex := 6, attributes := #[] }, { accessFlags := 16409, nameIndex := 15, descriptorIndex := 6, attributes := #[] }, { accessFlags := 18, nameIndex := 37, descriptorIndex := 38, attributes := #[] }, { accessFlags := 4122, nameIndex := 18, descriptorIndex := 19, attributes := #[] }])
  fields := #[{ name := "INIT", type := (.object "com/example/aspectwise/aspectwise/cmri/Packet$Type"), accessFlags := 16409, slot := 0, constantValue := 0 }, { name := "POLL", type := (.object "com/example/aspectwise/aspectwise/cmri/Packet$Type"), accessFlags := 16409, slot := 1, constantValue := 0 }, { name := "RECEIVE", type := (.object "com/example/aspectwise/aspectwise/cmri/Packet$Type"), accessFlags := 16409, slot := 2, constantValue := 0 }, { name := "TRANSMIT", type := (.object "com/example/aspectwise/aspectwise/cmri/Packet$Type"), accessFlags := 16409, slot := 3, constantValue := 0 }, { name := "letter", type := .int, accessFlags := 18, slot := 3, constantValue := 0 }, { name := "$VALUES", type := (.array (.object "com/example/aspectwise/aspectwise/cmri/Packet$Type")), accessFlags := 4122, slot := 4, constantValue := 0 }]
  methods := #[]
  instanceTypes := #[(.object "java/lang/String"), .int, .int, .int]
  staticTypes := #[(.object "com/example/aspectwise/aspectwise/cmri/Packet$Type"), (.object "com/example/aspectwise/aspectwise/cmri/Packet$Type"), (.object "com/example/aspectwise/aspectwise/cmri/Packet$Type"), (.object "com/example/aspectwise/aspectwise/cmri/Packet$Type"), (.array (.object "com/example/aspectwise/aspectwise/cmri/Packet$Type"))]
  resolved := Array.replicate 98 none
  statics := some 0 }

def pool8 : Array CpInfo := pool [(1, .class_ 2), (0, u "java/lang/Cloneable"), (0, .class_ 4), (0, u "java/lang/Object")] 2

/-- java/lang/Cloneable -/
def k8 : Class := { plain "java/lang/Cloneable" (some 0) with
  accessFlags := 1537
  interfaces := #[]
  cf := some (fileOf pool8 1 #[] #[] 1537 3 #[] #[])
  fields := #[]
  methods := #[]
  instanceTypes := #[]
  staticTypes := #[]
  resolved := Array.replicate 7 none
  statics := none }

/-- the primitive byte -/
def k9 : Class := { plain "byte" none with kind := .primitive 'B', accessFlags := 0x411 }
/-- [B -/
def k10 : Class := { plain "[B" (some 0) with kind := .array 9 .byte, interfaces := #[8, 5], accessFlags := 1041 }

/-- the primitive int -/
def k11 : Class := { plain "int" none with kind := .primitive 'I', accessFlags := 0x411 }
/-- [I -/
def k12 : Class := { plain "[I" (some 0) with kind := .array 11 .int, interfaces := #[8, 5], accessFlags := 1041 }

def heap : Heap := #[{ cls := 7, slots := #[.null, .null, .null, .ref 1, .null], vm := .statics 7 },
  { cls := 7, slots := #[.null, .int 0, .int 0, .int 84], vm := .none }]
def classes : Array Class := #[k0, k1, k2, k3, k4, k5, k6, k7, k8, k9, k10, k11, k12]
def interned : List (Array UInt16 × Addr) := []
def slotsUsed : Nat := 9
def theMethod : MethodId := ⟨1, 1⟩
def args0 : Array Value := #[.int 5, .int 7, .long 66051]
def aboutOver (below : List Frame) : State where
  vm := { classes := classes, interned := interned.toArray }
  heap := heap
  slotsUsed := slotsUsed
  threads := #[{ frames := .invoking theMethod args0 :: below }]
def below0 : List Frame := [.native { method := ⟨0, 0⟩, args := #[] }]
def about1 : State := aboutOver below0
def p0 : Program := .bare "" "" ""
def e0 : Env := launch0.env 0 0 0
theorem w_frames : about1.frames = Frame.invoking theMethod args0 :: below0 := rfl
set_option maxRecDepth 65536 in
theorem w_args : argsFit about1.vm theMethod args0 = true := by decide +kernel
set_option maxRecDepth 65536 in
theorem w_heap : heapFits about1 = true := by decide +kernel
set_option maxRecDepth 65536 in
theorem w_runnable : about1.curStatus? = some .runnable := by decide +kernel
set_option maxRecDepth 65536 in
theorem w_alone : about1.alone = true := by decide +kernel
set_option maxRecDepth 65536 in
theorem w_named : about1.methodNamed? x = some theMethod := by decide +kernel
set_option maxRecDepth 65536 in
theorem w_hears : about1.hears theMethod below0 = true := by decide +kernel
set_option maxRecDepth 65536 in
theorem w_ripe : about1.ripe theMethod args0 below0 = true := by decide +kernel
theorem w_running : about1.status = .running := rfl
set_option maxRecDepth 65536 in
theorem w_room : about1.hasRoom e0.platform room_1 = true :=
  launch0.hasRoom_least _ room_1 (by decide +kernel) (by decide +kernel) (by decide +kernel) (by decide +kernel) (by decide +kernel) (by decide +kernel)
theorem allAtoms_all (ts : List Jvm.Cond) (a : Array Jvm.Value) (st : Jvm.State) : (allAtoms ts).before a st = ts.all (fun c => c.before a st) := by
  induction ts with
  | nil => rfl
  | cons c t ih =>
    show (Jvm.Cond.and c (allAtoms t)).before a st = _
    rw [Jvm.Cond.before_and, ih, List.all_cons]
def words1 : List Jvm.Cond := Jvm.Cond.code x code maxLocals ret :: tables_1
/-- a 'code' word, met by the world's own term for the bytes: nothing is compared byte by byte -/
theorem code_word {y : MethodName} {bytes : ByteArray} {mx : Nat} {rt : Option FieldType} {a : Array Value} {s : State} {m : MethodId} {meth : Method} {c : Code} (h1 : s.methodNamed? y = some m) (h2 : s.vm.method? m = some meth) (h3 : meth.code = some c) (h4 : c.code = bytes)
    (h5 : (c.maxLocals == mx && c.exceptionTable.isEmpty && decide (c.maxStack ≤ mostOperands) && decide (meth.sig.returnType = rt) && !meth.locks && decide (parseMethodDescriptor y.desc = some meth.sig)) = true) : (Jvm.Cond.code y bytes mx rt).before a s = true := by
  simp only [Bool.and_eq_true, beq_iff_eq, Bool.not_eq_true', decide_eq_true_eq] at h5
  obtain ⟨⟨⟨⟨⟨g1, g2⟩, g3⟩, g4⟩, g5⟩, g6⟩ := h5
  simp [Cond.before, Cond.holds, Cond.value, h1, h2, h3, h4, g1, g2, g3, g4, g5, g6]
def isCode : Jvm.Cond → Bool
  | .code _ _ _ _ => true
  | _ => false
theorem all_split {L : List Jvm.Cond} {P : Jvm.Cond → Bool} (h1 : L.all (fun c => isCode c || P c) = true) (h2 : ∀ c ∈ L.filter isCode, P c = true) : L.all P = true := by
  refine List.all_eq_true.mpr fun c hc => ?_
  have h := List.all_eq_true.mp h1 c hc
  rcases Bool.eq_false_or_eq_true (isCode c) with hi | hi
  · exact h2 c (List.mem_filter.mpr ⟨hc, hi⟩)
  · simpa [hi] using h
set_option maxRecDepth 65536 in
theorem w_c0 : (Jvm.Cond.code x code maxLocals ret).before args0 about1 = true := code_word (m := ⟨1, 1⟩) (meth := k1m1) (c := k1c1) (by decide +kernel) rfl rfl rfl (by decide +kernel)
set_option maxRecDepth 65536 in
theorem w_c1 : (Jvm.Cond.code ({ cls := "com/example/aspectwise/aspectwise/cmri/Packet", name := "transmit", desc := "(I[B)Lcom/example/aspectwise/aspectwise/cmri/Packet;" } : Jvm.MethodName) prog_13_method_4_code (2 : Nat) (Option.some (Jvm.ClassFile.FieldType.object "com/example/aspectwise/aspectwise/cmri/Packet"))).before args0 about1 = true := code_word (m := ⟨2, 1⟩) (meth := k2m1) (c := k2c1) (by decide +kernel) rfl rfl rfl (by decide +kernel)
set_option maxRecDepth 65536 in
theorem w_c2 : (Jvm.Cond.code ({ cls := "com/example/aspectwise/aspectwise/cmri/Packet", name := "<init>", desc := "(ILcom/example/aspectwise/aspectwise/cmri/Packet$Type;[B)V" } : Jvm.MethodName) prog_13_method_1_code (4 : Nat) (Option.none : Option Jvm.ClassFile.FieldType)).before args0 about1 = true := code_word (m := ⟨2, 0⟩) (meth := k2m0) (c := k2c0) (by decide +kernel) rfl rfl rfl (by decide +kernel)
set_option maxRecDepth 65536 in
theorem w_c3 : (Jvm.Cond.code ({ cls := "java/lang/Object", name := "<init>", desc := "()V" } : Jvm.MethodName) object_method_1_code (1 : Nat) (Option.none : Option Jvm.ClassFile.FieldType)).before args0 about1 = true := code_word (m := ⟨0, 0⟩) (meth := k0m0) (c := k0c0) (by decide +kernel) rfl rfl rfl (by decide +kernel)
set_option maxRecDepth 65536 in
theorem w_c4 : (Jvm.Cond.code ({ cls := "com/example/aspectwise/aspectwise/cmri/Packet", name := "data", desc := "()[B" } : Jvm.MethodName) prog_13_method_7_code (1 : Nat) (Option.some (Jvm.ClassFile.FieldType.array Jvm.ClassFile.FieldType.byte))).before args0 about1 = true := code_word (m := ⟨2, 4⟩) (meth := k2m4) (c := k2c4) (by decide +kernel) rfl rfl rfl (by decide +kernel)
set_option maxRecDepth 65536 in
theorem w_c5 : (Jvm.Cond.code ({ cls := "com/example/aspectwise/aspectwise/cmri/Packet", name := "address", desc := "()I" } : Jvm.MethodName) prog_13_method_5_code (1 : Nat) (Option.some Jvm.ClassFile.FieldType.int)).before args0 about1 = true := code_word (m := ⟨2, 2⟩) (meth := k2m2) (c := k2c2) (by decide +kernel) rfl rfl rfl (by decide +kernel)
set_option maxRecDepth 65536 in
theorem w_c6 : (Jvm.Cond.code ({ cls := "com/example/aspectwise/aspectwise/cmri/Packet", name := "type", desc := "()Lcom/example/aspectwise/aspectwise/cmri/Packet$Type;" } : Jvm.MethodName) prog_13_method_6_code (1 : Nat) (Option.some (Jvm.ClassFile.FieldType.object "com/example/aspectwise/aspectwise/cmri/Packet$Type"))).before args0 about1 = true := code_word (m := ⟨2, 3⟩) (meth := k2m3) (c := k2c3) (by decide +kernel) rfl rfl rfl (by decide +kernel)
def codes1 : List Jvm.Cond := [Jvm.Cond.code x code maxLocals ret, Jvm.Cond.code ({ cls := "com/example/aspectwise/aspectwise/cmri/Packet", name := "transmit", desc := "(I[B)Lcom/example/aspectwise/aspectwise/cmri/Packet;" } : Jvm.MethodName) prog_13_method_4_code (2 : Nat) (Option.some (Jvm.ClassFile.FieldType.object "com/example/aspectwise/aspectwise/cmri/Packet")), Jvm.Cond.code ({ cls := "com/example/aspectwise/aspectwise/cmri/Packet", name := "<init>", desc := "(ILcom/example/aspectwise/aspectwise/cmri/Packet$Type;[B)V" } : Jvm.MethodName) prog_13_method_1_code (4 : Nat) (Option.none : Option Jvm.ClassFile.FieldType), Jvm.Cond.code ({ cls := "java/lang/Object", name := "<init>", desc := "()V" } : Jvm.MethodName) object_method_1_code (1 : Nat) (Option.none : Option Jvm.ClassFile.FieldType), Jvm.Cond.code ({ cls := "com/example/aspectwise/aspectwise/cmri/Packet", name := "data", desc := "()[B" } : Jvm.MethodName) prog_13_method_7_code (1 : Nat) (Option.some (Jvm.ClassFile.FieldType.array Jvm.ClassFile.FieldType.byte)), Jvm.Cond.code ({ cls := "com/example/aspectwise/aspectwise/cmri/Packet", name := "address", desc := "()I" } : Jvm.MethodName) prog_13_method_5_code (1 : Nat) (Option.some Jvm.ClassFile.FieldType.int), Jvm.Cond.code ({ cls := "com/example/aspectwise/aspectwise/cmri/Packet", name := "type", desc := "()Lcom/example/aspectwise/aspectwise/cmri/Packet$Type;" } : Jvm.MethodName) prog_13_method_6_code (1 : Nat) (Option.some (Jvm.ClassFile.FieldType.object "com/example/aspectwise/aspectwise/cmri/Packet$Type"))]
set_option maxRecDepth 65536 in
theorem codes_eq : words1.filter isCode = codes1 := rfl
theorem w_codes : ∀ c ∈ words1.filter isCode, c.before args0 about1 = true := by
  rw [codes_eq]
  intro c hc
  simp only [codes1, List.mem_cons, List.not_mem_nil, or_false] at hc
  rcases hc with rfl | rfl | rfl | rfl | rfl | rfl | rfl
  · exact w_c0
  · exact w_c1
  · exact w_c2
  · exact w_c3
  · exact w_c4
  · exact w_c5
  · exact w_c6
set_option maxRecDepth 65536 in
theorem w_t1 : (words1.take 24).all (fun c => isCode c || c.before args0 about1) = true := by decide +kernel
set_option maxRecDepth 65536 in
theorem w_t2 : (words1.drop 24).all (fun c => isCode c || c.before args0 about1) = true := by decide +kernel
theorem w_tables : (allAtoms (Jvm.Cond.code x code maxLocals ret :: tables_1)).before args0 about1 = true := by
  rw [allAtoms_all]
  show words1.all (fun c => c.before args0 about1) = true
  refine all_split ?_ w_codes
  rw [← List.take_append_drop 24 words1, List.all_append, w_t1, w_t2]
  rfl
set_option maxRecDepth 65536 in
theorem w_case : (Jvm.Cond.and given_1 narrow_1).before args0 about1 = true := by decide +kernel
theorem w_applies : (headSpec (Jvm.Cond.code x code maxLocals ret :: tables_1) room_1).applies x e0.platform about1 = true :=
  (Spec.applies_iff w_frames).mpr ⟨w_running, w_runnable, w_alone, w_named, w_hears, w_ripe, w_room, w_tables⟩
theorem atStart : AtStart classFile x code maxLocals ret World_1 tables_1 room_1 Calls_1 rest_1 Pre_1 launch0 p0 e0 about1 theMethod args0 below0 :=
  ⟨lists_1, trivial, launch0.admits_env _ _ _, launch0.least_env, fairChoices_fair.cas, fairChoices_fair.clock, w_frames, w_args, w_heap, w_applies, trivial, trivial, w_case⟩
end start1
theorem witness_1 : WitnessClaimed_1 := ⟨start1.p0, start1.e0, start1.about1, start1.theMethod, start1.args0, start1.below0, start1.atStart⟩
end Jvm.Pilot.@@N@@
