import JvmDerived
import JvmDerived.Pilot.@@N@@Statement
import JvmDerived.Pilot.@@N@@Code
set_option linter.unusedVariables false
set_option linter.unusedSimpArgs false
namespace Jvm.Pilot.@@N@@
open Jvm Jvm.ClassFile Sem Op Lib Jvm.Free Jvm.Stand Jvm.LawKit Jvm.RoadKit Bundle Jvm.Pilot.@@N@@.Jvm.D
abbrev Way (p : Program) (e : Env) (below : List Frame) (S0 T : State) (g : JFrame) : Prop := ∀ t, Steps p.tables e below (T.setTop g) t → Steps p.tables e below S0 t
theorem own_old {Z : State} {n0 : Nat} {h : Heap} (O : Old Z n0 h) : n0 ≤ h.size := O.1 ▸ O.2.1
theorem own_i2b (x : Int32) : x.toInt8.toInt32.toInt8.toInt32 = x.toInt8.toInt32 := by simp
theorem own_eqF {args : Array Value} {s : State} {t : Term} {x : Addr} {C n d : String} {k : Int32} (ht : t.eval args s none [] s = some (.ref x)) (h : (Jvm.Cond.eq (.field t C n d) (.int k)).value args s none s [] = some true) : s.fieldOf? x C n d = some (.int k) :=
  (fld_at ht).symm.trans (Cond.eq_int (Cond.before_iff.mpr h) rfl)
theorem own_arvmon {Z : State} {h h' : Heap} {a : Addr} {k : ClassId} {ty : FieldType} {z : Int32} {vs : List Value} {dv : Value} (F : Arv Z h a k ty z vs dv) (M : Mon h h') : Arv Z h' a k ty z vs dv := by
  obtain ⟨c, ⟨A1, A2, A3⟩, q1, q2, q3, H, G⟩ := F
  obtain ⟨mo, q⟩ := M.2 _ _ A1
  exact ⟨_, ⟨q, A2, A3⟩, q1, q2, q3, H, G⟩
theorem own_oldset {Z : State} {n0 : Nat} {h : Heap} {a : Addr} {c : Cell} (O : Old Z n0 h) (q : n0 ≤ a) : Old Z n0 (h.setIfInBounds a c) := by
  refine ⟨O.1, by simpa using O.2.1, fun b cl hb => ?_⟩
  have hlt := (Array.getElem?_eq_some_iff.mp hb).1
  have hn := O.1
  rw [Array.getElem?_setIfInBounds_ne (by omega)]
  exact O.2.2 b cl hb
theorem own_same {s t : State} {L : List Loc} {k n : Nat} (hs : s.sameButNew t L k n) {b : Addr} {cl : Cell} (hb : s.heap[b]? = some cl) : ∃ c' : Cell, t.heap[b]? = some c' ∧ c' = { cl with slots := c'.slots } ∧ c'.slots.size = cl.slots.size ∧ ∀ i, (⟨b, i⟩ : Loc) ∉ L → c'.slots[i]? = cl.slots[i]? := hs.2.2.2.2.2 b cl hb
theorem own_untY {s t : State} {vm : Vm} {h : Heap} {L : List Loc} {k n : Nat} {a : Addr} (hh : s.heap = h) (N : Unt h a) (hs : s.sameButNew { t with vm := vm } L k n) : Unt t.heap a := by
  subst hh
  obtain ⟨cl, u1, u2, u3⟩ := N
  obtain ⟨c', q1, q2, -, -⟩ := own_same hs u1
  exact ⟨c', q1, by rw [q2]; exact u2, by rw [q2]; exact u3⟩
theorem own_keepY {s t : State} {vm : Vm} {h : Heap} {L : List Loc} {k n : Nat} {ws : List Addr} (hh : s.heap = h) (hs : s.sameButNew { t with vm := vm } L k n) (hl : ∀ y ∈ L, y.base ∈ ws) : Keep h t.heap ws := by
  subst hh
  refine ⟨hs.2.1, fun x c hx hn => ?_, fun x c hx => ?_⟩
  · obtain ⟨c', q1, q2, q3, q4⟩ := own_same hs hx
    have e : c'.slots = c.slots := Array.ext_getElem? fun i => q4 i fun hm => hn (hl _ hm)
    have e2 : c' = c := by rw [q2, e]
    rw [← e2]; exact q1
  · obtain ⟨c', q1, q2, q3, -⟩ := own_same hs hx
    exact ⟨c', q1, by rw [q2], by rw [q2], q3⟩
theorem own_backY {p : Program} {l : Launch} {e : Env} {R : Room} {s : State} {args : Array Value} {below : List Frame} {Z : State} {a0 : Array Value} {h : Heap} {y : MethodName} {bytes : ByteArray} {maxL : Nat} {ret : Option FieldType} {rm : Room} {len W : Nat} {as' : Array Value} {a1 : Addr} {Q : Option Value → Heap → List Loc → Prop}
    (hM : MetFree l y (head1 [Jvm.Cond.codeSync y bytes maxL ret, Jvm.Cond.instanceMethod y] rm) (fun a U => a = as' ∧ Z.Warmed39 U.vm ∧ U.heap = h ∧ ∃ cell : Cell, h[a1]? = some cell ∧ cell.enterable U.cur) (fun _ _ _ _ _ => True) (fun _ U o U' => ∃ v L, o = .returned v ∧ Q v U'.heap L ∧ FrameEnd U o U' L rm.cells rm.slots))
    (hZ : Z.Warmed39 s.vm) (wc : (Jvm.Cond.codeSync y bytes maxL ret).before a0 Z = true) (wi : (Jvm.Cond.instanceMethod y).before a0 Z = true) (wz : (Jvm.Cond.initialized y.cls).before a0 Z = true) (N : Unt h a1) (hf : rm.frames + 1 ≤ R.frames) (hl : W + (maxL + 11) + rm.locals ≤ R.locals) :
    Back l R p e below s args y len W (fun A a => a = as' ∧ A.U.heap = h ∧ A.cells + rm.cells ≤ R.cells ∧ A.slots + rm.slots ≤ R.slots)
      (fun A _ v B => ∃ L, Q v B.U.heap L ∧ B.locs = A.locs ++ L ∧ B.cells = A.cells + rm.cells ∧ B.slots = A.slots + rm.slots) :=
  Jvm.Free.XT.back_of_sync (bytes := bytes) (maxL := maxL) (ret := ret) (E := fun _ _ o t L k n => k = rm.cells ∧ n = rm.slots ∧ ∃ v, o = .returned v ∧ Q v t.heap L) hM hf hl
    (fun m meth c A a Y hp => have hU : Z.Warmed39 A.U.vm := wtrans hZ Y.warmed
      ⟨by show (Jvm.Cond.and _ (Jvm.Cond.and _ .tt)).before a A.U = true; rw [Cond.before_and, Cond.before_and, mv hU wc, mv hU wi]; rfl, mv hU wc, mv hU wz, hp.2.2.1, hp.2.2.2⟩)
    (fun m meth c A a g mk Y hp => ⟨hp.1, wtrans hZ Y.warmed, hp.2.1, by obtain ⟨cl, u1, -, u3⟩ := N; exact ⟨cl, u1, by rw [Cell.enterable, u3]; simp⟩⟩)
    (fun _ _ _ _ _ _ _ _ _ => trivial)
    (fun _ _ _ _ ⟨v, L, h1, h2, h3⟩ => ⟨L, _, _, h3, rfl, rfl, v, h1, h2⟩)
    (fun m meth c A a g mk v t L k n Y hp _ _ ⟨e1, e2, v', e3, e4⟩ => by cases e3; subst e1 e2; exact ⟨L, e4, rfl, rfl, rfl⟩)
theorem own_getFR {p : Program} {l : Launch} {e : Env} {R : Room} {s : State} {m : MethodId} {args : Array Value} {below : List Frame} {meth : Method} {c : Code} {T : State} {locs : List Loc} {cells slots : Nat} {Z : State} {a0 : Array Value} {h : Heap} (X : Stand p l e R s m args below meth c T locs cells slots) (hx : p.tables.exec = Jvm.exec) (hZ : Z.Warmed39 s.vm) {own O n d : String} {index : Nat} (hown : s.vm.findClass own = some m.cls) (w : (Jvm.Cond.fieldRef own index O n d).before a0 Z = true)
    (eT : T.heap = h) {a : Addr} {v : Value} (F : Fld Z h a O n d v) {g : JFrame} (hg : g.method = m) {rest : List Value} (hs : g.stack = .ref a :: rest) (hd : decode c.code g.pc = .ok (.getfield index, 3)) : ∀ target, Steps p.tables e below (T.setTop { g with pc := g.pc + 3, stack := v :: rest }) target → Steps p.tables e below (T.setTop g) target := by
  obtain ⟨cell, cf, k, i, f, h1, h2, h3, h4, -, -, h7⟩ := F
  have hT : Z.Warmed39 T.vm := wtrans hZ X.warmed
  have w2 := Cond.fieldRef_warmed39 hT w
  have hcur : (Z.setVm T.vm).vm.findClass own = some m.cls := by
    show T.vm.findClass own = some m.cls
    rw [X.warmed.alike.findClass]; exact hown
  obtain ⟨c', k', i', f', hi, hready⟩ := Cond.fieldRef_spec hcur w2
  obtain ⟨k2, q1, -⟩ := State.fieldFound?_setVm (s := Z) hT.alike h2
  cases hi.symm.trans q1
  intro target k
  subst hg
  jvm_step X.here [hx, hd, getfield.wp_ready (e := e) (s := T) (f := g) X.here.top hready h3 hs (by rw [eT]; exact h1) h4 h7]
  exact k
def Gst (Z : State) (w_POLL : Addr) : Prop := (Sta Z Z.heap "com/example/aspectwise/aspectwise/cmri/Packet$Type" "POLL" "Lcom/example/aspectwise/aspectwise/cmri/Packet$Type;" (.ref w_POLL)) ∧ (Exa Z Z.heap w_POLL "com/example/aspectwise/aspectwise/cmri/Packet$Type") ∧ (Fld Z Z.heap w_POLL "com/example/aspectwise/aspectwise/cmri/Packet$Type" "letter" "I" (.int (80 : Int32)))
theorem d_prog_13_method_1_code_0 : decode prog_13_method_1_code 0 = .ok (.aload_n 0, 1) := by decide +kernel
theorem d_prog_13_method_1_code_1 : decode prog_13_method_1_code 1 = .ok (.invokespecial 1, 3) := by decide +kernel
theorem d_prog_13_method_1_code_4 : decode prog_13_method_1_code 4 = .ok (.aload_n 0, 1) := by decide +kernel
theorem d_prog_13_method_1_code_5 : decode prog_13_method_1_code 5 = .ok (.iload_n 1, 1) := by decide +kernel
theorem d_prog_13_method_1_code_6 : decode prog_13_method_1_code 6 = .ok (.putfield 7, 3) := by decide +kernel
theorem d_prog_13_method_1_code_9 : decode prog_13_method_1_code 9 = .ok (.aload_n 0, 1) := by decide +kernel
theorem d_prog_13_method_1_code_10 : decode prog_13_method_1_code 10 = .ok (.aload_n 2, 1) := by decide +kernel
theorem d_prog_13_method_1_code_11 : decode prog_13_method_1_code 11 = .ok (.putfield 13, 3) := by decide +kernel
theorem d_prog_13_method_1_code_14 : decode prog_13_method_1_code 14 = .ok (.aload_n 0, 1) := by decide +kernel
theorem d_prog_13_method_1_code_15 : decode prog_13_method_1_code 15 = .ok (.aload_n 3, 1) := by decide +kernel
theorem d_prog_13_method_1_code_16 : decode prog_13_method_1_code 16 = .ok (.invokevirtual 17, 3) := by decide +kernel
theorem d_prog_13_method_1_code_19 : decode prog_13_method_1_code 19 = .ok (.checkcast 18, 3) := by decide +kernel
theorem d_prog_13_method_1_code_22 : decode prog_13_method_1_code 22 = .ok (.putfield 23, 3) := by decide +kernel
theorem d_prog_13_method_1_code_25 : decode prog_13_method_1_code 25 = .ok (.return_, 1) := by decide +kernel
theorem pn_0 : plainName "com/example/aspectwise/aspectwise/cmri/Packet" = true := by first | (simp [plainName, overriddenIn]; done) | decide +kernel
theorem d_prog_13_method_3_code_0 : decode prog_13_method_3_code 0 = .ok (.new 8, 3) := by decide +kernel
theorem d_prog_13_method_3_code_3 : decode prog_13_method_3_code 3 = .ok (.dup, 1) := by decide +kernel
theorem d_prog_13_method_3_code_4 : decode prog_13_method_3_code 4 = .ok (.iload_n 0, 1) := by decide +kernel
theorem d_prog_13_method_3_code_5 : decode prog_13_method_3_code 5 = .ok (.getstatic 58, 3) := by decide +kernel
theorem d_prog_13_method_3_code_8 : decode prog_13_method_3_code 8 = .ok (.iconst 0, 1) := by decide +kernel
theorem d_prog_13_method_3_code_9 : decode prog_13_method_3_code 9 = .ok (.newarray .byte, 2) := by decide +kernel
theorem d_prog_13_method_3_code_11 : decode prog_13_method_3_code 11 = .ok (.invokespecial 55, 3) := by decide +kernel
theorem pd_0 : parseMethodDescriptor "(ILcom/example/aspectwise/aspectwise/cmri/Packet$Type;[B)V" = some ⟨[.int, (.object "com/example/aspectwise/aspectwise/cmri/Packet$Type"), (.array .byte)], none⟩ := by decide +kernel
theorem d_prog_13_method_3_code_14 : decode prog_13_method_3_code 14 = .ok (.areturn, 1) := by decide +kernel
theorem d_prog_13_method_7_code_0 : decode prog_13_method_7_code 0 = .ok (.aload_n 0, 1) := by decide +kernel
theorem d_prog_13_method_7_code_1 : decode prog_13_method_7_code 1 = .ok (.getfield 23, 3) := by decide +kernel
theorem d_prog_13_method_7_code_4 : decode prog_13_method_7_code 4 = .ok (.invokevirtual 17, 3) := by decide +kernel
theorem d_prog_13_method_7_code_7 : decode prog_13_method_7_code 7 = .ok (.checkcast 18, 3) := by decide +kernel
theorem d_prog_13_method_7_code_10 : decode prog_13_method_7_code 10 = .ok (.areturn, 1) := by decide +kernel
theorem d_prog_13_method_5_code_0 : decode prog_13_method_5_code 0 = .ok (.aload_n 0, 1) := by decide +kernel
theorem d_prog_13_method_5_code_1 : decode prog_13_method_5_code 1 = .ok (.getfield 7, 3) := by decide +kernel
theorem d_prog_13_method_5_code_4 : decode prog_13_method_5_code 4 = .ok (.ireturn, 1) := by decide +kernel
theorem d_prog_13_method_6_code_0 : decode prog_13_method_6_code 0 = .ok (.aload_n 0, 1) := by decide +kernel
theorem d_prog_13_method_6_code_1 : decode prog_13_method_6_code 1 = .ok (.getfield 13, 3) := by decide +kernel
theorem d_prog_13_method_6_code_4 : decode prog_13_method_6_code 4 = .ok (.areturn, 1) := by decide +kernel
theorem d_jdk_2038_method_1_code_0 : decode jdk_2038_method_1_code 0 = .ok (.aload_n 0, 1) := by decide +kernel
theorem d_jdk_2038_method_1_code_1 : decode jdk_2038_method_1_code 1 = .ok (.invokespecial 1, 3) := by decide +kernel
theorem d_jdk_2038_method_1_code_4 : decode jdk_2038_method_1_code 4 = .ok (.return_, 1) := by decide +kernel
theorem pn_1 : plainName "java/io/OutputStream" = true := by first | (simp [plainName, overriddenIn]; done) | decide +kernel
theorem d_jdk_2005_method_2_code_0 : decode jdk_2005_method_2_code 0 = .ok (.aload_n 0, 1) := by decide +kernel
theorem d_jdk_2005_method_2_code_1 : decode jdk_2005_method_2_code 1 = .ok (.invokespecial 7, 3) := by decide +kernel
theorem pd_1 : parseMethodDescriptor "()V" = some ⟨[], none⟩ := by decide +kernel
theorem d_jdk_2005_method_2_code_4 : decode jdk_2005_method_2_code 4 = .ok (.iload_n 1, 1) := by decide +kernel
theorem d_jdk_2005_method_2_code_5 : decode jdk_2005_method_2_code 5 = .ok (.ifCond .ge 30, 3) := by decide +kernel
theorem d_jdk_2005_method_2_code_35 : decode jdk_2005_method_2_code 35 = .ok (.aload_n 0, 1) := by decide +kernel
theorem d_jdk_2005_method_2_code_36 : decode jdk_2005_method_2_code 36 = .ok (.iload_n 1, 1) := by decide +kernel
theorem d_jdk_2005_method_2_code_37 : decode jdk_2005_method_2_code 37 = .ok (.newarray .byte, 2) := by decide +kernel
theorem d_jdk_2005_method_2_code_39 : decode jdk_2005_method_2_code 39 = .ok (.putfield 33, 3) := by decide +kernel
theorem d_jdk_2005_method_2_code_42 : decode jdk_2005_method_2_code 42 = .ok (.return_, 1) := by decide +kernel
theorem pn_2 : plainName "java/io/ByteArrayOutputStream" = true := by first | (simp [plainName, overriddenIn]; done) | decide +kernel
theorem d_jdk_2005_method_3_code_0 : decode jdk_2005_method_3_code 0 = .ok (.aload_n 0, 1) := by decide +kernel
theorem d_jdk_2005_method_3_code_1 : decode jdk_2005_method_3_code 1 = .ok (.getfield 33, 3) := by decide +kernel
theorem d_jdk_2005_method_3_code_4 : decode jdk_2005_method_3_code 4 = .ok (.arraylength, 1) := by decide +kernel
theorem d_jdk_2005_method_3_code_5 : decode jdk_2005_method_3_code 5 = .ok (.istore_n 2, 1) := by decide +kernel
theorem d_jdk_2005_method_3_code_6 : decode jdk_2005_method_3_code 6 = .ok (.iload_n 1, 1) := by decide +kernel
theorem d_jdk_2005_method_3_code_7 : decode jdk_2005_method_3_code 7 = .ok (.iload_n 2, 1) := by decide +kernel
theorem d_jdk_2005_method_3_code_8 : decode jdk_2005_method_3_code 8 = .ok (.isub, 1) := by decide +kernel
theorem d_jdk_2005_method_3_code_9 : decode jdk_2005_method_3_code 9 = .ok (.istore_n 3, 1) := by decide +kernel
theorem d_jdk_2005_method_3_code_10 : decode jdk_2005_method_3_code 10 = .ok (.iload_n 3, 1) := by decide +kernel
theorem d_jdk_2005_method_3_code_11 : decode jdk_2005_method_3_code 11 = .ok (.ifCond .le 20, 3) := by decide +kernel
theorem d_jdk_2005_method_3_code_31 : decode jdk_2005_method_3_code 31 = .ok (.return_, 1) := by decide +kernel
theorem d_jdk_2005_method_4_code_0 : decode jdk_2005_method_4_code 0 = .ok (.aload_n 0, 1) := by decide +kernel
theorem d_jdk_2005_method_4_code_1 : decode jdk_2005_method_4_code 1 = .ok (.aload_n 0, 1) := by decide +kernel
theorem d_jdk_2005_method_4_code_2 : decode jdk_2005_method_4_code 2 = .ok (.getfield 49, 3) := by decide +kernel
theorem d_jdk_2005_method_4_code_5 : decode jdk_2005_method_4_code 5 = .ok (.iconst 1, 1) := by decide +kernel
theorem d_jdk_2005_method_4_code_6 : decode jdk_2005_method_4_code 6 = .ok (.iadd, 1) := by decide +kernel
theorem d_jdk_2005_method_4_code_7 : decode jdk_2005_method_4_code 7 = .ok (.invokevirtual 53, 3) := by decide +kernel
theorem pd_2 : parseMethodDescriptor "(I)V" = some ⟨[.int], none⟩ := by decide +kernel
theorem d_jdk_2005_method_4_code_10 : decode jdk_2005_method_4_code 10 = .ok (.aload_n 0, 1) := by decide +kernel
theorem d_jdk_2005_method_4_code_11 : decode jdk_2005_method_4_code 11 = .ok (.getfield 33, 3) := by decide +kernel
theorem d_jdk_2005_method_4_code_14 : decode jdk_2005_method_4_code 14 = .ok (.aload_n 0, 1) := by decide +kernel
theorem d_jdk_2005_method_4_code_15 : decode jdk_2005_method_4_code 15 = .ok (.getfield 49, 3) := by decide +kernel
theorem d_jdk_2005_method_4_code_18 : decode jdk_2005_method_4_code 18 = .ok (.iload_n 1, 1) := by decide +kernel
theorem d_jdk_2005_method_4_code_19 : decode jdk_2005_method_4_code 19 = .ok (.i2b, 1) := by decide +kernel
theorem d_jdk_2005_method_4_code_20 : decode jdk_2005_method_4_code 20 = .ok (.bastore, 1) := by decide +kernel
theorem d_jdk_2005_method_4_code_21 : decode jdk_2005_method_4_code 21 = .ok (.aload_n 0, 1) := by decide +kernel
theorem d_jdk_2005_method_4_code_22 : decode jdk_2005_method_4_code 22 = .ok (.dup, 1) := by decide +kernel
theorem d_jdk_2005_method_4_code_23 : decode jdk_2005_method_4_code 23 = .ok (.getfield 49, 3) := by decide +kernel
theorem d_jdk_2005_method_4_code_26 : decode jdk_2005_method_4_code 26 = .ok (.iconst 1, 1) := by decide +kernel
theorem d_jdk_2005_method_4_code_27 : decode jdk_2005_method_4_code 27 = .ok (.iadd, 1) := by decide +kernel
theorem d_jdk_2005_method_4_code_28 : decode jdk_2005_method_4_code 28 = .ok (.putfield 49, 3) := by decide +kernel
theorem d_jdk_2005_method_4_code_31 : decode jdk_2005_method_4_code 31 = .ok (.return_, 1) := by decide +kernel
theorem d_jdk_65_method_121_code_0 : decode jdk_65_method_121_code 0 = .ok (.iload_n 1, 1) := by decide +kernel
theorem d_jdk_65_method_121_code_1 : decode jdk_65_method_121_code 1 = .ok (.aload_n 0, 1) := by decide +kernel
theorem d_jdk_65_method_121_code_2 : decode jdk_65_method_121_code 2 = .ok (.arraylength, 1) := by decide +kernel
theorem d_jdk_65_method_121_code_3 : decode jdk_65_method_121_code 3 = .ok (.if_icmp .ne 11, 3) := by decide +kernel
theorem d_jdk_65_method_121_code_6 : decode jdk_65_method_121_code 6 = .ok (.aload_n 0, 1) := by decide +kernel
theorem d_jdk_65_method_121_code_7 : decode jdk_65_method_121_code 7 = .ok (.invokevirtual 310, 3) := by decide +kernel
theorem d_jdk_65_method_121_code_10 : decode jdk_65_method_121_code 10 = .ok (.checkcast 311, 3) := by decide +kernel
theorem d_jdk_65_method_121_code_13 : decode jdk_65_method_121_code 13 = .ok (.areturn, 1) := by decide +kernel
theorem pn_3 : plainName "java/util/Arrays" = true := by first | (simp [plainName, overriddenIn]; done) | decide +kernel
theorem d_jdk_2005_method_9_code_0 : decode jdk_2005_method_9_code 0 = .ok (.aload_n 0, 1) := by decide +kernel
theorem d_jdk_2005_method_9_code_1 : decode jdk_2005_method_9_code 1 = .ok (.getfield 33, 3) := by decide +kernel
theorem d_jdk_2005_method_9_code_4 : decode jdk_2005_method_9_code 4 = .ok (.aload_n 0, 1) := by decide +kernel
theorem d_jdk_2005_method_9_code_5 : decode jdk_2005_method_9_code 5 = .ok (.getfield 49, 3) := by decide +kernel
theorem d_jdk_2005_method_9_code_8 : decode jdk_2005_method_9_code 8 = .ok (.invokestatic 43, 3) := by decide +kernel
theorem pd_3 : parseMethodDescriptor "([BI)[B" = some ⟨[(.array .byte), .int], some (.array .byte)⟩ := by decide +kernel
theorem d_jdk_2005_method_9_code_11 : decode jdk_2005_method_9_code 11 = .ok (.areturn, 1) := by decide +kernel
theorem d_prog_13_method_8_code_0 : decode prog_13_method_8_code 0 = .ok (.new 64, 3) := by decide +kernel
theorem d_prog_13_method_8_code_3 : decode prog_13_method_8_code 3 = .ok (.dup, 1) := by decide +kernel
theorem d_prog_13_method_8_code_4 : decode prog_13_method_8_code 4 = .ok (.iconst 2, 1) := by decide +kernel
theorem d_prog_13_method_8_code_5 : decode prog_13_method_8_code 5 = .ok (.aload_n 0, 1) := by decide +kernel
theorem d_prog_13_method_8_code_6 : decode prog_13_method_8_code 6 = .ok (.getfield 23, 3) := by decide +kernel
theorem d_prog_13_method_8_code_9 : decode prog_13_method_8_code 9 = .ok (.arraylength, 1) := by decide +kernel
theorem d_prog_13_method_8_code_10 : decode prog_13_method_8_code 10 = .ok (.imul, 1) := by decide +kernel
theorem d_prog_13_method_8_code_11 : decode prog_13_method_8_code 11 = .ok (.bipush 6, 2) := by decide +kernel
theorem d_prog_13_method_8_code_13 : decode prog_13_method_8_code 13 = .ok (.iadd, 1) := by decide +kernel
theorem d_prog_13_method_8_code_14 : decode prog_13_method_8_code 14 = .ok (.invokespecial 66, 3) := by decide +kernel
theorem d_prog_13_method_8_code_17 : decode prog_13_method_8_code 17 = .ok (.astore_n 1, 1) := by decide +kernel
theorem d_prog_13_method_8_code_18 : decode prog_13_method_8_code 18 = .ok (.aload_n 1, 1) := by decide +kernel
theorem d_prog_13_method_8_code_19 : decode prog_13_method_8_code 19 = .ok (.sipush 255, 3) := by decide +kernel
theorem d_prog_13_method_8_code_22 : decode prog_13_method_8_code 22 = .ok (.invokevirtual 69, 3) := by decide +kernel
theorem d_prog_13_method_8_code_25 : decode prog_13_method_8_code 25 = .ok (.aload_n 1, 1) := by decide +kernel
theorem d_prog_13_method_8_code_26 : decode prog_13_method_8_code 26 = .ok (.sipush 255, 3) := by decide +kernel
theorem d_prog_13_method_8_code_29 : decode prog_13_method_8_code 29 = .ok (.invokevirtual 69, 3) := by decide +kernel
theorem d_prog_13_method_8_code_32 : decode prog_13_method_8_code 32 = .ok (.aload_n 1, 1) := by decide +kernel
theorem d_prog_13_method_8_code_33 : decode prog_13_method_8_code 33 = .ok (.iconst 2, 1) := by decide +kernel
theorem d_prog_13_method_8_code_34 : decode prog_13_method_8_code 34 = .ok (.invokevirtual 69, 3) := by decide +kernel
theorem d_prog_13_method_8_code_37 : decode prog_13_method_8_code 37 = .ok (.aload_n 1, 1) := by decide +kernel
theorem d_prog_13_method_8_code_38 : decode prog_13_method_8_code 38 = .ok (.aload_n 0, 1) := by decide +kernel
theorem d_prog_13_method_8_code_39 : decode prog_13_method_8_code 39 = .ok (.getfield 7, 3) := by decide +kernel
theorem d_prog_13_method_8_code_42 : decode prog_13_method_8_code 42 = .ok (.bipush 65, 2) := by decide +kernel
theorem d_prog_13_method_8_code_44 : decode prog_13_method_8_code 44 = .ok (.iadd, 1) := by decide +kernel
theorem d_prog_13_method_8_code_45 : decode prog_13_method_8_code 45 = .ok (.invokevirtual 69, 3) := by decide +kernel
theorem d_prog_13_method_8_code_48 : decode prog_13_method_8_code 48 = .ok (.aload_n 1, 1) := by decide +kernel
theorem d_prog_13_method_8_code_49 : decode prog_13_method_8_code 49 = .ok (.aload_n 0, 1) := by decide +kernel
theorem d_prog_13_method_8_code_50 : decode prog_13_method_8_code 50 = .ok (.getfield 13, 3) := by decide +kernel
theorem d_prog_13_method_8_code_53 : decode prog_13_method_8_code 53 = .ok (.getfield 72, 3) := by decide +kernel
theorem d_prog_13_method_8_code_56 : decode prog_13_method_8_code 56 = .ok (.invokevirtual 69, 3) := by decide +kernel
theorem d_prog_13_method_8_code_59 : decode prog_13_method_8_code 59 = .ok (.aload_n 0, 1) := by decide +kernel
theorem d_prog_13_method_8_code_60 : decode prog_13_method_8_code 60 = .ok (.getfield 23, 3) := by decide +kernel
theorem d_prog_13_method_8_code_63 : decode prog_13_method_8_code 63 = .ok (.astore_n 2, 1) := by decide +kernel
theorem d_prog_13_method_8_code_64 : decode prog_13_method_8_code 64 = .ok (.aload_n 2, 1) := by decide +kernel
theorem d_prog_13_method_8_code_65 : decode prog_13_method_8_code 65 = .ok (.arraylength, 1) := by decide +kernel
theorem d_prog_13_method_8_code_66 : decode prog_13_method_8_code 66 = .ok (.istore_n 3, 1) := by decide +kernel
theorem d_prog_13_method_8_code_67 : decode prog_13_method_8_code 67 = .ok (.iconst 0, 1) := by decide +kernel
theorem d_prog_13_method_8_code_68 : decode prog_13_method_8_code 68 = .ok (.istore 4, 2) := by decide +kernel
theorem d_prog_13_method_8_code_70 : decode prog_13_method_8_code 70 = .ok (.iload 4, 2) := by decide +kernel
theorem d_prog_13_method_8_code_72 : decode prog_13_method_8_code 72 = .ok (.iload_n 3, 1) := by decide +kernel
theorem d_prog_13_method_8_code_73 : decode prog_13_method_8_code 73 = .ok (.if_icmp .ge 54, 3) := by decide +kernel
theorem d_prog_13_method_8_code_127 : decode prog_13_method_8_code 127 = .ok (.aload_n 1, 1) := by decide +kernel
theorem d_prog_13_method_8_code_128 : decode prog_13_method_8_code 128 = .ok (.iconst 3, 1) := by decide +kernel
theorem d_prog_13_method_8_code_129 : decode prog_13_method_8_code 129 = .ok (.invokevirtual 69, 3) := by decide +kernel
theorem d_prog_13_method_8_code_132 : decode prog_13_method_8_code 132 = .ok (.aload_n 1, 1) := by decide +kernel
theorem d_prog_13_method_8_code_133 : decode prog_13_method_8_code 133 = .ok (.invokevirtual 75, 3) := by decide +kernel
theorem pd_4 : parseMethodDescriptor "()[B" = some ⟨[], some (.array .byte)⟩ := by decide +kernel
theorem d_prog_13_method_8_code_136 : decode prog_13_method_8_code 136 = .ok (.areturn, 1) := by decide +kernel
theorem pd_5 : parseMethodDescriptor "(I)Lcom/example/aspectwise/aspectwise/cmri/Packet;" = some ⟨[.int], some (.object "com/example/aspectwise/aspectwise/cmri/Packet")⟩ := by decide +kernel
theorem pd_6 : parseMethodDescriptor "()I" = some ⟨[], some .int⟩ := by decide +kernel
theorem pd_7 : parseMethodDescriptor "()Lcom/example/aspectwise/aspectwise/cmri/Packet$Type;" = some ⟨[], some (.object "com/example/aspectwise/aspectwise/cmri/Packet$Type")⟩ := by decide +kernel
theorem pn_4 : plainName "com/example/aspectwise/aspectwise/cmri/PacketPollPinLaw" = true := by first | (simp [plainName, overriddenIn]; done) | decide +kernel
def Q_init (Z : State) (w_POLL : Addr) (a1 : Addr) (p2 : Int32) (a3 : Addr) (a4 : Addr) (kc : ClassId) (h0 : Heap) (n0 : Nat) (v : Option Value) (h : Heap) (L : List Loc) : Prop := ∃ d1 : Addr, (v = none) ∧ (Fr n0 L) ∧ (Keep h0 h [a1]) ∧ (h0.size ≤ d1) ∧ (Exa Z h a1 "com/example/aspectwise/aspectwise/cmri/Packet") ∧ (Fld Z h a1 "com/example/aspectwise/aspectwise/cmri/Packet" "address" "I" (.int p2)) ∧ (Fld Z h a1 "com/example/aspectwise/aspectwise/cmri/Packet" "type" "Lcom/example/aspectwise/aspectwise/cmri/Packet$Type;" (.ref a3)) ∧ (Fld Z h a1 "com/example/aspectwise/aspectwise/cmri/Packet" "data" "[B" (.ref d1)) ∧ (Exa Z h d1 "[B") ∧ (Arv Z h d1 kc .byte (0 : Int32) [] (.int (0 : Int32)))
set_option maxRecDepth 65536 in
set_option maxHeartbeats 40000000 in
theorem init (l : Launch) (Z : State) (a0 : Array Value) (hw : ∀ d ∈ tables_1, d.before a0 Z = true) (ws : List Jvm.Cond) (w_POLL : Addr) (G : Gst Z w_POLL) (a1 : Addr) (p2 : Int32) (a3 : Addr) (a4 : Addr) (kc : ClassId) (h0 : Heap) (n0 : Nat) (O0 : Old Z n0 h0) (a_0 : Exa Z h0 a1 "com/example/aspectwise/aspectwise/cmri/Packet") (a_1 : Fld Z h0 a1 "com/example/aspectwise/aspectwise/cmri/Packet" "address" "I" (.int (0 : Int32))) (a_2 : Fld Z h0 a1 "com/example/aspectwise/aspectwise/cmri/Packet" "type" "Lcom/example/aspectwise/aspectwise/cmri/Packet$Type;" .null) (a_3 : Fld Z h0 a1 "com/example/aspectwise/aspectwise/cmri/Packet" "data" "[B" .null) (ga1 : n0 ≤ a1) (hne : a1 ≠ a4) (a_6 : Exa Z h0 a4 "[B") (a_7 : Arv Z h0 a4 kc .byte (0 : Int32) [] (.int (0 : Int32))) :
    MetFree l (⟨"com/example/aspectwise/aspectwise/cmri/Packet", "<init>", "(ILcom/example/aspectwise/aspectwise/cmri/Packet$Type;[B)V"⟩ : MethodName) (head1 (Jvm.Cond.code (⟨"com/example/aspectwise/aspectwise/cmri/Packet", "<init>", "(ILcom/example/aspectwise/aspectwise/cmri/Packet$Type;[B)V"⟩ : MethodName) prog_13_method_1_code 4 none :: ws) ({ frames := 1, cells := 1, slots := 0, locals := 15 } : Room)) (fun a U => a = #[(.ref a1), (.int p2), (.ref a3), (.ref a4)] ∧ Z.Warmed39 U.vm ∧ U.heap = h0) (fun _ _ _ _ _ => True) (fun _ U o U' => ∃ v L, o = .returned v ∧ Q_init Z w_POLL a1 p2 a3 a4 kc h0 n0 v U'.heap L ∧ FrameEnd U o U' L ({ frames := 1, cells := 1, slots := 0, locals := 15 } : Room).cells ({ frames := 1, cells := 1, slots := 0, locals := 15 } : Room).slots) := by
  refine MetFree.of_bodySF (plainFor_of_name pn_0) hisR ?_
  intro p e s m args below meth c s₁ Bd hml0 hP hK
  obtain ⟨rfl, hZ, hh⟩ := hP
  have hx := Bd.exec
  have hby := Bd.bytes
  have hml : c.maxLocals = 4 := hml0
  have hown : s.vm.findClass "com/example/aspectwise/aspectwise/cmri/Packet" = some m.cls := findClass_of_methodNamed Bd.named
  have hnm := (name_of_methodNamed Bd.named Bd.method).1
  have X0 : Stand p l e ({ frames := 1, cells := 1, slots := 0, locals := 15 } : Room) s m #[(.ref a1), (.int p2), (.ref a3), (.ref a4)] below meth c s₁ [] 0 0 := Stand.of_body Bd
  have e0 : s₁.heap = h0 := by rw [← hh, Bd.state]; rfl
  have N0 := Fr.nil n0
  obtain ⟨S_w_POLL, E_w_POLL, F_w_POLL_letter⟩ := id G
  have k0 : Way p e below (s₁.setTop (entryFrame m #[(.ref a1), (.int p2), (.ref a3), (.ref a4)] 4)) s₁ (mkF m 0 #[rv a1, iv p2, rv a3, rv a4] []) := fun t k => castTop (by first | (simp [entryFrame, mkF, argsToLocals, Value.category]; done) | rfl) k
  generalize s₁.setTop (entryFrame m #[(.ref a1), (.int p2), (.ref a3), (.ref a4)] 4) = S0 at k0 ⊢
  have k1 : Way p e below S0 s₁ (mkF m 1 #[rv a1, iv p2, rv a3, rv a4] [(.ref a1)]) := by
    intro t k
    refine k0 t ?_
    refine XS.aloadN X0.here hx rfl (hb hby d_prog_13_method_1_code_0) rfl rfl ?_
    show Steps p.tables e below (s₁.setTop (mkF m 1 #[rv a1, iv p2, rv a3, rv a4] [(.ref a1)])) _
    exact k
  obtain ⟨T2, X2, e2, st2⟩ := initO X0 hx hZ hown (hw _ (List.mem_of_getElem? (i := 13) rfl)) (hw _ (List.mem_of_getElem? (i := 14) rfl)) (hw _ (List.mem_of_getElem? (i := 15) rfl)) e0 (g := (mkF m 1 #[rv a1, iv p2, rv a3, rv a4] [(.ref a1)])) rfl (by rw [hml]; rfl) rfl (hb hby d_prog_13_method_1_code_1) (by decide) (W := 0) (by show 2 * 0 + _ ≤ _; exact Nat.le_of_eq rfl) (by decide)
  have k3 : Way p e below S0 T2 (mkF m 4 #[rv a1, iv p2, rv a3, rv a4] []) := fun t k => k1 t (st2 _ k)
  have k4 : Way p e below S0 T2 (mkF m 6 #[rv a1, iv p2, rv a3, rv a4] [(.int p2), (.ref a1)]) := by
    intro t k
    refine k3 t ?_
    refine XS.aloadN X2.here hx rfl (hb hby d_prog_13_method_1_code_4) rfl rfl ?_
    show Steps p.tables e below (T2.setTop (mkF m 5 #[rv a1, iv p2, rv a3, rv a4] [(.ref a1)])) _
    refine XS.iloadN X2.here hx rfl (hb hby d_prog_13_method_1_code_5) rfl ?_
    show Steps p.tables e below (T2.setTop (mkF m 6 #[rv a1, iv p2, rv a3, rv a4] [(.int p2), (.ref a1)])) _
    exact k
  obtain ⟨T5, h5, X5, e5, W5, st5⟩ := putF X2 hx hZ hown (host := "") (Or.inl (hw _ (List.mem_of_getElem? (i := 16) rfl))) Via.refl e2 a_1 a_0 (Or.inr ⟨(hw _ (List.mem_of_getElem? (i := 17) rfl)), rfl, hnm⟩) (hw _ (List.mem_of_getElem? (i := 5) rfl)) (ty := .int) (by decide) rfl rfl (g := (mkF m 6 #[rv a1, iv p2, rv a3, rv a4] [(.int p2), (.ref a1)])) rfl rfl (hb hby d_prog_13_method_1_code_6)
  have O5 := O0.wr W5 ga1
  have N5 := Fr.snoc X5 N0 ga1
  have K5 : Keep h0 h5 [a1] := (Keep.refl h0 [a1]).wr W5 (Or.inl (List.mem_of_getElem? (i := 0) rfl))
  have fw5 : Fld Z h5 a1 "com/example/aspectwise/aspectwise/cmri/Packet" "address" "I" (.int p2) := a_1.same W5
  have k6 : Way p e below S0 T5 (mkF m 9 #[rv a1, iv p2, rv a3, rv a4] []) := fun t k => k4 t (st5 _ k)
  have k7 : Way p e below S0 T5 (mkF m 11 #[rv a1, iv p2, rv a3, rv a4] [(.ref a3), (.ref a1)]) := by
    intro t k
    refine k6 t ?_
    refine XS.aloadN X5.here hx rfl (hb hby d_prog_13_method_1_code_9) rfl rfl ?_
    show Steps p.tables e below (T5.setTop (mkF m 10 #[rv a1, iv p2, rv a3, rv a4] [(.ref a1)])) _
    refine XS.aloadN X5.here hx rfl (hb hby d_prog_13_method_1_code_10) rfl rfl ?_
    show Steps p.tables e below (T5.setTop (mkF m 11 #[rv a1, iv p2, rv a3, rv a4] [(.ref a3), (.ref a1)])) _
    exact k
  have f8 : Fld Z h5 a1 "com/example/aspectwise/aspectwise/cmri/Packet" "type" "Lcom/example/aspectwise/aspectwise/cmri/Packet$Type;" .null := (a_2.other W5 (Or.inr (slot_ne (Or.inr (hw _ (List.mem_of_getElem? (i := 19) rfl))) (Or.inr (hw _ (List.mem_of_getElem? (i := 17) rfl))) (by decide) (t := (.object "com/example/aspectwise/aspectwise/cmri/Packet$Type")) (t' := .int) (by decide) (by decide))))
  have f9 : Exa Z h5 a1 "com/example/aspectwise/aspectwise/cmri/Packet" := (a_0.wr W5)
  obtain ⟨T10, h10, X10, e10, W10, st10⟩ := putF X5 hx hZ hown (host := "") (Or.inl (hw _ (List.mem_of_getElem? (i := 18) rfl))) Via.refl e5 f8 f9 (Or.inr ⟨(hw _ (List.mem_of_getElem? (i := 19) rfl)), rfl, hnm⟩) (hw _ (List.mem_of_getElem? (i := 5) rfl)) (ty := (.object "com/example/aspectwise/aspectwise/cmri/Packet$Type")) (by decide) rfl rfl (g := (mkF m 11 #[rv a1, iv p2, rv a3, rv a4] [(.ref a3), (.ref a1)])) rfl rfl (hb hby d_prog_13_method_1_code_11)
  have O10 := O5.wr W10 ga1
  have N10 := Fr.snoc X10 N5 ga1
  have K10 : Keep h0 h10 [a1] := K5.wr W10 (Or.inl (List.mem_of_getElem? (i := 0) rfl))
  have fw10 : Fld Z h10 a1 "com/example/aspectwise/aspectwise/cmri/Packet" "type" "Lcom/example/aspectwise/aspectwise/cmri/Packet$Type;" (.ref a3) := f8.same W10
  have k11 : Way p e below S0 T10 (mkF m 14 #[rv a1, iv p2, rv a3, rv a4] []) := fun t k => k7 t (st10 _ k)
  have k12 : Way p e below S0 T10 (mkF m 16 #[rv a1, iv p2, rv a3, rv a4] [(.ref a4), (.ref a1)]) := by
    intro t k
    refine k11 t ?_
    refine XS.aloadN X10.here hx rfl (hb hby d_prog_13_method_1_code_14) rfl rfl ?_
    show Steps p.tables e below (T10.setTop (mkF m 15 #[rv a1, iv p2, rv a3, rv a4] [(.ref a1)])) _
    refine XS.aloadN X10.here hx rfl (hb hby d_prog_13_method_1_code_15) rfl rfl ?_
    show Steps p.tables e below (T10.setTop (mkF m 16 #[rv a1, iv p2, rv a3, rv a4] [(.ref a4), (.ref a1)])) _
    exact k
  have f13 : Arv Z h10 a4 kc .byte (0 : Int32) [] (.int (0 : Int32)) := ((a_7.other W5 (Ne.symm hne)).other W10 (Ne.symm hne))
  have f14 : Exa Z h10 a4 "[B" := ((a_6.wr W5).wr W10)
  obtain ⟨T15, h15, X15, e15, E15, A15, B15, st15⟩ := cloneH X10 hx hZ hown (hw _ (List.mem_of_getElem? (i := 20) rfl)) (hw _ (List.mem_of_getElem? (i := 21) rfl)) (hw _ (List.mem_of_getElem? (i := 25) rfl)) (hw _ (List.mem_of_getElem? (i := 23) rfl)) (hw _ (List.mem_of_getElem? (i := 24) rfl)) (hw _ (List.mem_of_getElem? (i := 26) rfl)) e10 (Arv.arh f13) f14 (g := (mkF m 16 #[rv a1, iv p2, rv a3, rv a4] [(.ref a4), (.ref a1)])) rfl (by rw [hml]; rfl) rfl (hb hby d_prog_13_method_1_code_16) (by decide) (W := 1) (cap := 0) (by show 2 * 0 + _ ≤ _; exact Nat.le_of_eq rfl) (by decide) (by decide) (by decide) (by decide)
  obtain ⟨b15, g15⟩ : ∃ z, z = h10.size := ⟨_, rfl⟩
  rw [← g15] at A15 B15 st15
  have O15 := O10.ext E15
  have K15 : Keep h0 h15 [a1] := K10.ext E15
  have v15 : Arv Z h15 b15 kc .byte (0 : Int32) [] (.int (0 : Int32)) := A15
  have k16 : Way p e below S0 T15 (mkF m 19 #[rv a1, iv p2, rv a3, rv a4] [(.ref b15), (.ref a1)]) := fun t k => k12 t (st15 _ k)
  obtain ⟨T17, X17, e17, st17⟩ := castY X15 hx hZ hown (hw _ (List.mem_of_getElem? (i := 27) rfl)) e15 (Ins.self B15) (g := (mkF m 19 #[rv a1, iv p2, rv a3, rv a4] [(.ref b15), (.ref a1)])) rfl rfl (hb hby d_prog_13_method_1_code_19)
  have k18 : Way p e below S0 T17 (mkF m 22 #[rv a1, iv p2, rv a3, rv a4] [(.ref b15), (.ref a1)]) := fun t k => k16 t (st17 _ k)
  have f19 : Fld Z h15 a1 "com/example/aspectwise/aspectwise/cmri/Packet" "data" "[B" .null := (((a_3.other W5 (Or.inr (slot_ne (Or.inr (hw _ (List.mem_of_getElem? (i := 30) rfl))) (Or.inr (hw _ (List.mem_of_getElem? (i := 17) rfl))) (by decide) (t := (.array .byte)) (t' := .int) (by decide) (by decide)))).other W10 (Or.inr (slot_ne (Or.inr (hw _ (List.mem_of_getElem? (i := 30) rfl))) (Or.inr (hw _ (List.mem_of_getElem? (i := 19) rfl))) (by decide) (t := (.array .byte)) (t' := (.object "com/example/aspectwise/aspectwise/cmri/Packet$Type")) (by decide) (by decide)))).ext E15)
  have f20 : Exa Z h15 a1 "com/example/aspectwise/aspectwise/cmri/Packet" := ((f9.wr W10).ext E15)
  obtain ⟨T21, h21, X21, e21, W21, st21⟩ := putF X17 hx hZ hown (host := "") (Or.inl (hw _ (List.mem_of_getElem? (i := 29) rfl))) Via.refl e17 f19 f20 (Or.inr ⟨(hw _ (List.mem_of_getElem? (i := 30) rfl)), rfl, hnm⟩) (hw _ (List.mem_of_getElem? (i := 5) rfl)) (ty := (.array .byte)) (by decide) rfl rfl (g := (mkF m 22 #[rv a1, iv p2, rv a3, rv a4] [(.ref b15), (.ref a1)])) rfl rfl (hb hby d_prog_13_method_1_code_22)
  have O21 := O15.wr W21 ga1
  have N21 := Fr.snoc X21 N10 ga1
  have K21 : Keep h0 h21 [a1] := K15.wr W21 (Or.inl (List.mem_of_getElem? (i := 0) rfl))
  have fw21 : Fld Z h21 a1 "com/example/aspectwise/aspectwise/cmri/Packet" "data" "[B" (.ref b15) := f19.same W21
  have k22 : Way p e below S0 T21 (mkF m 25 #[rv a1, iv p2, rv a3, rv a4] []) := fun t k => k18 t (st21 _ k)
  obtain ⟨fs, hr, hrun, hended, hW, hsame⟩ := X21.leave (v := none) (fun _ => rfl)
  have gz23 : h0.size ≤ b15 := Nat.le_trans K10.1 (Nat.le_of_eq g15.symm)
  have f24 : Exa Z h21 a1 "com/example/aspectwise/aspectwise/cmri/Packet" := (f20.wr W21)
  have f25 : Fld Z h21 a1 "com/example/aspectwise/aspectwise/cmri/Packet" "address" "I" (.int p2) := (((fw5.other W10 (Or.inr (slot_ne (Or.inr (hw _ (List.mem_of_getElem? (i := 17) rfl))) (Or.inr (hw _ (List.mem_of_getElem? (i := 19) rfl))) (by decide) (t := .int) (t' := (.object "com/example/aspectwise/aspectwise/cmri/Packet$Type")) (by decide) (by decide)))).ext E15).other W21 (Or.inr (slot_ne (Or.inr (hw _ (List.mem_of_getElem? (i := 17) rfl))) (Or.inr (hw _ (List.mem_of_getElem? (i := 30) rfl))) (by decide) (t := .int) (t' := (.array .byte)) (by decide) (by decide))))
  have f26 : Fld Z h21 a1 "com/example/aspectwise/aspectwise/cmri/Packet" "type" "Lcom/example/aspectwise/aspectwise/cmri/Packet$Type;" (.ref a3) := ((fw10.ext E15).other W21 (Or.inr (slot_ne (Or.inr (hw _ (List.mem_of_getElem? (i := 19) rfl))) (Or.inr (hw _ (List.mem_of_getElem? (i := 30) rfl))) (by decide) (t := (.object "com/example/aspectwise/aspectwise/cmri/Packet$Type")) (t' := (.array .byte)) (by decide) (by decide))))
  have f27 : Exa Z h21 b15 "[B" := (B15.wr W21)
  have f28 : Arv Z h21 b15 kc .byte (0 : Int32) [] (.int (0 : Int32)) := (v15.other W21 (Ne.symm (Nat.ne_of_lt (Nat.lt_of_lt_of_le (f9.wr W10).lt (Nat.le_of_eq g15.symm)))))
  refine ⟨_, _, k22 _ (X21.returnOut hx Bd.returns (hb hby d_prog_13_method_1_code_25) hr), hrun, hended, _, _, rfl, ?_, ⟨_, rfl⟩, hW, hsame.mono (by decide) (by decide)⟩
  show Q_init Z w_POLL a1 p2 a3 a4 kc h0 n0 _ T21.heap _
  rw [e21]
  exact ⟨b15, rfl, N21, K21, gz23, f24, f25, f26, fw21, f27, f28⟩
def Q_poll (Z : State) (w_POLL : Addr) (p1 : Int32) (h0 : Heap) (n0 : Nat) (v : Option Value) (h : Heap) (L : List Loc) : Prop := ∃ b1 : Addr, ∃ d1 : Addr, ∃ kc : ClassId, (v = some (.ref b1)) ∧ (Fr n0 L) ∧ (Keep h0 h []) ∧ (h0.size ≤ b1) ∧ (h0.size ≤ d1) ∧ (Exa Z h b1 "com/example/aspectwise/aspectwise/cmri/Packet") ∧ (Fld Z h b1 "com/example/aspectwise/aspectwise/cmri/Packet" "address" "I" (.int p1)) ∧ (Fld Z h b1 "com/example/aspectwise/aspectwise/cmri/Packet" "type" "Lcom/example/aspectwise/aspectwise/cmri/Packet$Type;" (.ref w_POLL)) ∧ (Fld Z h b1 "com/example/aspectwise/aspectwise/cmri/Packet" "data" "[B" (.ref d1)) ∧ (Exa Z h d1 "[B") ∧ (Arv Z h d1 kc .byte (0 : Int32) [] (.int (0 : Int32)))
set_option maxRecDepth 65536 in
set_option maxHeartbeats 40000000 in
theorem poll (l : Launch) (Z : State) (a0 : Array Value) (hw : ∀ d ∈ tables_1, d.before a0 Z = true) (ws : List Jvm.Cond) (w_POLL : Addr) (G : Gst Z w_POLL) (p1 : Int32) (h0 : Heap) (n0 : Nat) (O0 : Old Z n0 h0) :
    MetFree l (⟨"com/example/aspectwise/aspectwise/cmri/Packet", "poll", "(I)Lcom/example/aspectwise/aspectwise/cmri/Packet;"⟩ : MethodName) (head1 (Jvm.Cond.code (⟨"com/example/aspectwise/aspectwise/cmri/Packet", "poll", "(I)Lcom/example/aspectwise/aspectwise/cmri/Packet;"⟩ : MethodName) prog_13_method_3_code 1 (some (.object "com/example/aspectwise/aspectwise/cmri/Packet")) :: ws) ({ frames := 2, cells := 3, slots := 3, locals := 31 } : Room)) (fun a U => a = #[(.int p1)] ∧ Z.Warmed39 U.vm ∧ U.heap = h0) (fun _ _ _ _ _ => True) (fun _ U o U' => ∃ v L, o = .returned v ∧ Q_poll Z w_POLL p1 h0 n0 v U'.heap L ∧ FrameEnd U o U' L ({ frames := 2, cells := 3, slots := 3, locals := 31 } : Room).cells ({ frames := 2, cells := 3, slots := 3, locals := 31 } : Room).slots) := by
  refine MetFree.of_bodySF (plainFor_of_name pn_0) hisR ?_
  intro p e s m args below meth c s₁ Bd hml0 hP hK
  obtain ⟨rfl, hZ, hh⟩ := hP
  have hx := Bd.exec
  have hby := Bd.bytes
  have hml : c.maxLocals = 1 := hml0
  have hown : s.vm.findClass "com/example/aspectwise/aspectwise/cmri/Packet" = some m.cls := findClass_of_methodNamed Bd.named
  have hnm := (name_of_methodNamed Bd.named Bd.method).1
  have X0 : Stand p l e ({ frames := 2, cells := 3, slots := 3, locals := 31 } : Room) s m #[(.int p1)] below meth c s₁ [] 0 0 := Stand.of_body Bd
  have e0 : s₁.heap = h0 := by rw [← hh, Bd.state]; rfl
  have N0 := Fr.nil n0
  obtain ⟨S_w_POLL, E_w_POLL, F_w_POLL_letter⟩ := id G
  have k0 : Way p e below (s₁.setTop (entryFrame m #[(.int p1)] 1)) s₁ (mkF m 0 #[iv p1] []) := fun t k => castTop (by first | (simp [entryFrame, mkF, argsToLocals, Value.category]; done) | rfl) k
  generalize s₁.setTop (entryFrame m #[(.int p1)] 1) = S0 at k0 ⊢
  obtain ⟨T1, h1, X1, e1, E1, A1, D1, U1, st1⟩ := newO X0 hx hZ hown (hw _ (List.mem_of_getElem? (i := 4) rfl)) (hw _ (List.mem_of_getElem? (i := 5) rfl)) (hw _ (List.mem_of_getElem? (i := 2) rfl)) e0 (g := (mkF m 0 #[iv p1] [])) rfl (hb hby d_prog_13_method_3_code_0) (by decide) (by decide)
  obtain ⟨b1, g1⟩ : ∃ z, z = h0.size := ⟨_, rfl⟩
  rw [← g1] at A1 D1 U1 st1
  have O1 := O0.ext E1
  have K1 : Keep h0 h1 [] := (Keep.refl h0 []).ext E1
  have i1_address : Fld Z h1 b1 "com/example/aspectwise/aspectwise/cmri/Packet" "address" "I" (.int (0 : Int32)) := D1 (Or.inr (hw _ (List.mem_of_getElem? (i := 17) rfl))) (ty := .int) (by decide)
  have i1_type : Fld Z h1 b1 "com/example/aspectwise/aspectwise/cmri/Packet" "type" "Lcom/example/aspectwise/aspectwise/cmri/Packet$Type;" .null := D1 (Or.inr (hw _ (List.mem_of_getElem? (i := 19) rfl))) (ty := (.object "com/example/aspectwise/aspectwise/cmri/Packet$Type")) (by decide)
  have i1_data : Fld Z h1 b1 "com/example/aspectwise/aspectwise/cmri/Packet" "data" "[B" .null := D1 (Or.inr (hw _ (List.mem_of_getElem? (i := 30) rfl))) (ty := (.array .byte)) (by decide)
  have k2 : Way p e below S0 T1 (mkF m 3 #[iv p1] [(.ref b1)]) := fun t k => k0 t (st1 _ k)
  have k3 : Way p e below S0 T1 (mkF m 5 #[iv p1] [(.int p1), (.ref b1), (.ref b1)]) := by
    intro t k
    refine k2 t ?_
    refine XS.dup X1.here hx rfl (hb hby d_prog_13_method_3_code_3) rfl rfl ?_
    show Steps p.tables e below (T1.setTop (mkF m 4 #[iv p1] [(.ref b1), (.ref b1)])) _
    refine XS.iloadN X1.here hx rfl (hb hby d_prog_13_method_3_code_4) rfl ?_
    show Steps p.tables e below (T1.setTop (mkF m 5 #[iv p1] [(.int p1), (.ref b1), (.ref b1)])) _
    exact k
  obtain ⟨T4, X4, e4, st4⟩ := getS2 X1 hx hZ hown (host := "") (Or.inl (hw _ (List.mem_of_getElem? (i := 6) rfl))) Via.refl e1 (S_w_POLL.ext O1.2) (g := (mkF m 5 #[iv p1] [(.int p1), (.ref b1), (.ref b1)])) rfl (hb hby d_prog_13_method_3_code_5)
  have k5 : Way p e below S0 T4 (mkF m 8 #[iv p1] [(.ref w_POLL), (.int p1), (.ref b1), (.ref b1)]) := fun t k => k3 t (st4 _ k)
  have k6 : Way p e below S0 T4 (mkF m 9 #[iv p1] [(.int (0 : Int32)), (.ref w_POLL), (.int p1), (.ref b1), (.ref b1)]) := by
    intro t k
    refine k5 t ?_
    refine XS.iconst X4.here hx rfl (hb hby d_prog_13_method_3_code_8) ?_
    show Steps p.tables e below (T4.setTop (mkF m 9 #[iv p1] [(.int (0 : Int32)), (.ref w_POLL), (.int p1), (.ref b1), (.ref b1)])) _
    exact k
  obtain ⟨T7, h7, c7, X7, e7, E7, A7, B7, st7⟩ := newPE X4 hx hZ (hw _ (List.mem_of_getElem? (i := 9) rfl)) e4 (g := (mkF m 9 #[iv p1] [(.int (0 : Int32)), (.ref w_POLL), (.int p1), (.ref b1), (.ref b1)])) rfl (hb hby d_prog_13_method_3_code_9) rfl (by decide) (cap := 0) (by decide) (by decide) (by decide) (by decide) (ad := "[B") (by decide)
  obtain ⟨b7, g7⟩ : ∃ z, z = h1.size := ⟨_, rfl⟩
  rw [← g7] at A7 B7 st7
  have O7 := O1.ext E7
  have K7 : Keep h0 h7 [] := K1.ext E7
  have v7 : Arv Z h7 b7 c7 .byte (0 : Int32) [] (.int (0 : Int32)) := (Arv.new A7 (by decide)).pad (pad_rep [] (.int (0 : Int32)) 0)
  have k8 : Way p e below S0 T7 (mkF m 11 #[iv p1] [(.ref b7), (.ref w_POLL), (.int p1), (.ref b1), (.ref b1)]) := fun t k => k6 t (st7 _ k)
  have f9 : Exa Z h7 b1 "com/example/aspectwise/aspectwise/cmri/Packet" := (A1.ext E7)
  have f10 : Fld Z h7 b1 "com/example/aspectwise/aspectwise/cmri/Packet" "address" "I" (.int (0 : Int32)) := (i1_address.ext E7)
  have f11 : Fld Z h7 b1 "com/example/aspectwise/aspectwise/cmri/Packet" "type" "Lcom/example/aspectwise/aspectwise/cmri/Packet$Type;" .null := (i1_type.ext E7)
  have f12 : Fld Z h7 b1 "com/example/aspectwise/aspectwise/cmri/Packet" "data" "[B" .null := (i1_data.ext E7)
  have ge13 : n0 ≤ b1 := Nat.le_trans (own_old O0) (Nat.le_of_eq g1.symm)
  obtain ⟨_, _, ⟨T14, L14, kk14, nn14⟩, -, X14, ⟨Lc14, hQ14, l14, y14, z14⟩, st14⟩ := X7.specialBack hx (y := (⟨"com/example/aspectwise/aspectwise/cmri/Packet", "<init>", "(ILcom/example/aspectwise/aspectwise/cmri/Packet$Type;[B)V"⟩ : MethodName)) rfl hown (mvT hZ (hw _ (List.mem_of_getElem? (i := 10) rfl))) (mvT hZ (hw _ (List.mem_of_getElem? (i := 11) rfl))) (mvT hZ (hw _ (List.mem_of_getElem? (i := 12) rfl))) (by decide) (backOf (W := 1) (init l Z a0 hw [] w_POLL G b1 p1 w_POLL b7 c7 h7 n0 O7 (f9 : Exa Z h7 b1 "com/example/aspectwise/aspectwise/cmri/Packet") (f10 : Fld Z h7 b1 "com/example/aspectwise/aspectwise/cmri/Packet" "address" "I" (.int (0 : Int32))) (f11 : Fld Z h7 b1 "com/example/aspectwise/aspectwise/cmri/Packet" "type" "Lcom/example/aspectwise/aspectwise/cmri/Packet$Type;" .null) (f12 : Fld Z h7 b1 "com/example/aspectwise/aspectwise/cmri/Packet" "data" "[B" .null) (ge13 : n0 ≤ b1) ((Nat.ne_of_lt (Nat.lt_of_lt_of_le A1.lt (Nat.le_of_eq g7.symm))) : b1 ≠ b7) (B7 : Exa Z h7 b7 "[B") (v7 : Arv Z h7 b7 c7 .byte (0 : Int32) [] (.int (0 : Int32)))) hZ (hw _ (List.mem_of_getElem? (i := 12) rfl)) (hw _ (List.mem_of_getElem? (i := 2) rfl)) (by decide) (by decide)) (g := (mkF m 11 #[iv p1] [(.ref b7), (.ref w_POLL), (.int p1), (.ref b1), (.ref b1)])) rfl (by rw [hml]; rfl) (Steps.refl _) (a := b1) (argsL := [(.int p1), (.ref w_POLL), (.ref b7)]) (rest := [(.ref b1)]) (lenOf pd_0 rfl) rfl (by show 2 * 0 + _ ≤ _; exact Nat.le_of_eq rfl) (hb hby d_prog_13_method_3_code_11) (fun _ _ => ⟨rfl, e7, (by decide : 2 + 1 ≤ _), (by decide : 3 + 0 ≤ _)⟩)
  dsimp only [Pt.U, Pt.locs, Pt.cells, Pt.slots] at X14 l14 y14 z14 st14 hQ14
  subst l14 y14 z14
  obtain ⟨d1_14, rfl, Nq14, Kq14, po14_0, po14_1, po14_2, po14_3, po14_4, po14_5, po14_6⟩ := hQ14
  have N14 := Fr.app N0 Nq14
  have O14 := O7.keep Kq14 (allS ge13 all0)
  have gz15 : h0.size ≤ b1 := Nat.le_trans (Keep.refl h0 []).1 (Nat.le_of_eq g1.symm)
  have K14 : Keep h0 T14.heap [] := K7.trans Kq14 (allS (Or.inr gz15) all0)
  have k16 : Way p e below S0 T14 (mkF m 14 #[iv p1] [(.ref b1)]) := fun t k => k8 t (st14.trans k)
  obtain ⟨fs, hr, hrun, hended, hW, hsame⟩ := X14.leave (v := some (.ref b1)) (fun h => by rw [Bd.returns] at h; cases h)
  have gz17 : h0.size ≤ d1_14 := Nat.le_trans K7.1 po14_0
  refine ⟨_, _, k16 _ (retOut X14 hx Bd.returns rfl (Or.inr (Or.inr (Or.inr (Or.inr ⟨rfl, rfl, rfl⟩)))) (hb hby d_prog_13_method_3_code_14) hr), hrun, hended, _, _, rfl, ?_, ⟨_, rfl⟩, hW, hsame.mono (by decide) (by decide)⟩
  show Q_poll Z w_POLL p1 h0 n0 _ T14.heap _
  exact ⟨b1, d1_14, c7, rfl, N14, K14, gz15, gz17, po14_1, po14_2, po14_3, po14_4, po14_5, po14_6⟩
def Q_data (Z : State) (w_POLL : Addr) (a1 : Addr) (a2 : Addr) (kc : ClassId) (h0 : Heap) (n0 : Nat) (v : Option Value) (h : Heap) (L : List Loc) : Prop := ∃ d1 : Addr, (v = some (.ref d1)) ∧ (Fr n0 L) ∧ (Keep h0 h []) ∧ (h0.size ≤ d1) ∧ (Exa Z h d1 "[B") ∧ (Arv Z h d1 kc .byte (0 : Int32) [] (.int (0 : Int32)))
set_option maxRecDepth 65536 in
set_option maxHeartbeats 40000000 in
theorem data (l : Launch) (Z : State) (a0 : Array Value) (hw : ∀ d ∈ tables_1, d.before a0 Z = true) (ws : List Jvm.Cond) (w_POLL : Addr) (G : Gst Z w_POLL) (a1 : Addr) (a2 : Addr) (kc : ClassId) (h0 : Heap) (n0 : Nat) (O0 : Old Z n0 h0) (a_0 : Fld Z h0 a1 "com/example/aspectwise/aspectwise/cmri/Packet" "data" "[B" (.ref a2)) (a_1 : Exa Z h0 a2 "[B") (a_2 : Arv Z h0 a2 kc .byte (0 : Int32) [] (.int (0 : Int32))) :
    MetFree l (⟨"com/example/aspectwise/aspectwise/cmri/Packet", "data", "()[B"⟩ : MethodName) (head1 (Jvm.Cond.code (⟨"com/example/aspectwise/aspectwise/cmri/Packet", "data", "()[B"⟩ : MethodName) prog_13_method_7_code 1 (some (.array .byte)) :: ws) ({ frames := 1, cells := 1, slots := 0, locals := 14 } : Room)) (fun a U => a = #[(.ref a1)] ∧ Z.Warmed39 U.vm ∧ U.heap = h0) (fun _ _ _ _ _ => True) (fun _ U o U' => ∃ v L, o = .returned v ∧ Q_data Z w_POLL a1 a2 kc h0 n0 v U'.heap L ∧ FrameEnd U o U' L ({ frames := 1, cells := 1, slots := 0, locals := 14 } : Room).cells ({ frames := 1, cells := 1, slots := 0, locals := 14 } : Room).slots) := by
  refine MetFree.of_bodySF (plainFor_of_name pn_0) hisR ?_
  intro p e s m args below meth c s₁ Bd hml0 hP hK
  obtain ⟨rfl, hZ, hh⟩ := hP
  have hx := Bd.exec
  have hby := Bd.bytes
  have hml : c.maxLocals = 1 := hml0
  have hown : s.vm.findClass "com/example/aspectwise/aspectwise/cmri/Packet" = some m.cls := findClass_of_methodNamed Bd.named
  have hnm := (name_of_methodNamed Bd.named Bd.method).1
  have X0 : Stand p l e ({ frames := 1, cells := 1, slots := 0, locals := 14 } : Room) s m #[(.ref a1)] below meth c s₁ [] 0 0 := Stand.of_body Bd
  have e0 : s₁.heap = h0 := by rw [← hh, Bd.state]; rfl
  have N0 := Fr.nil n0
  obtain ⟨S_w_POLL, E_w_POLL, F_w_POLL_letter⟩ := id G
  have k0 : Way p e below (s₁.setTop (entryFrame m #[(.ref a1)] 1)) s₁ (mkF m 0 #[rv a1] []) := fun t k => castTop (by first | (simp [entryFrame, mkF, argsToLocals, Value.category]; done) | rfl) k
  generalize s₁.setTop (entryFrame m #[(.ref a1)] 1) = S0 at k0 ⊢
  have k1 : Way p e below S0 s₁ (mkF m 1 #[rv a1] [(.ref a1)]) := by
    intro t k
    refine k0 t ?_
    refine XS.aloadN X0.here hx rfl (hb hby d_prog_13_method_7_code_0) rfl rfl ?_
    show Steps p.tables e below (s₁.setTop (mkF m 1 #[rv a1] [(.ref a1)])) _
    exact k
  obtain ⟨T2, X2, e2, st2⟩ := getF X0 hx hZ hown (host := "") (Or.inl (hw _ (List.mem_of_getElem? (i := 29) rfl))) Via.refl e0 a_0 (g := (mkF m 1 #[rv a1] [(.ref a1)])) rfl rfl (hb hby d_prog_13_method_7_code_1)
  have k3 : Way p e below S0 T2 (mkF m 4 #[rv a1] [(.ref a2)]) := fun t k => k1 t (st2 _ k)
  obtain ⟨T4, h4, X4, e4, E4, A4, B4, st4⟩ := cloneH X2 hx hZ hown (hw _ (List.mem_of_getElem? (i := 20) rfl)) (hw _ (List.mem_of_getElem? (i := 21) rfl)) (hw _ (List.mem_of_getElem? (i := 25) rfl)) (hw _ (List.mem_of_getElem? (i := 23) rfl)) (hw _ (List.mem_of_getElem? (i := 24) rfl)) (hw _ (List.mem_of_getElem? (i := 26) rfl)) e2 (Arv.arh a_2) a_1 (g := (mkF m 4 #[rv a1] [(.ref a2)])) rfl (by rw [hml]; rfl) rfl (hb hby d_prog_13_method_7_code_4) (by decide) (W := 0) (cap := 0) (by show 2 * 0 + _ ≤ _; exact Nat.le_of_eq rfl) (by decide) (by decide) (by decide) (by decide)
  obtain ⟨b4, g4⟩ : ∃ z, z = h0.size := ⟨_, rfl⟩
  rw [← g4] at A4 B4 st4
  have O4 := O0.ext E4
  have K4 : Keep h0 h4 [] := (Keep.refl h0 []).ext E4
  have v4 : Arv Z h4 b4 kc .byte (0 : Int32) [] (.int (0 : Int32)) := A4
  have k5 : Way p e below S0 T4 (mkF m 7 #[rv a1] [(.ref b4)]) := fun t k => k3 t (st4 _ k)
  obtain ⟨T6, X6, e6, st6⟩ := castY X4 hx hZ hown (hw _ (List.mem_of_getElem? (i := 27) rfl)) e4 (Ins.self B4) (g := (mkF m 7 #[rv a1] [(.ref b4)])) rfl rfl (hb hby d_prog_13_method_7_code_7)
  have k7 : Way p e below S0 T6 (mkF m 10 #[rv a1] [(.ref b4)]) := fun t k => k5 t (st6 _ k)
  obtain ⟨fs, hr, hrun, hended, hW, hsame⟩ := X6.leave (v := some (.ref b4)) (fun h => by rw [Bd.returns] at h; cases h)
  have gz8 : h0.size ≤ b4 := Nat.le_trans (Keep.refl h0 []).1 (Nat.le_of_eq g4.symm)
  refine ⟨_, _, k7 _ (retOut X6 hx Bd.returns rfl (Or.inr (Or.inr (Or.inr (Or.inr ⟨rfl, rfl, rfl⟩)))) (hb hby d_prog_13_method_7_code_10) hr), hrun, hended, _, _, rfl, ?_, ⟨_, rfl⟩, hW, hsame.mono (by decide) (by decide)⟩
  show Q_data Z w_POLL a1 a2 kc h0 n0 _ T6.heap _
  rw [e6]
  exact ⟨b4, rfl, N0, K4, gz8, B4, v4⟩
def Q_adr (Z : State) (w_POLL : Addr) (a1 : Addr) (q1 : Int32) (h0 : Heap) (n0 : Nat) (v : Option Value) (h : Heap) (L : List Loc) : Prop := (v = some (.int q1)) ∧ (Fr n0 L) ∧ (h = h0)
set_option maxRecDepth 65536 in
set_option maxHeartbeats 40000000 in
theorem adr (l : Launch) (Z : State) (a0 : Array Value) (hw : ∀ d ∈ tables_1, d.before a0 Z = true) (ws : List Jvm.Cond) (w_POLL : Addr) (G : Gst Z w_POLL) (a1 : Addr) (q1 : Int32) (h0 : Heap) (n0 : Nat) (O0 : Old Z n0 h0) (a_0 : Fld Z h0 a1 "com/example/aspectwise/aspectwise/cmri/Packet" "address" "I" (.int q1)) :
    MetFree l (⟨"com/example/aspectwise/aspectwise/cmri/Packet", "address", "()I"⟩ : MethodName) (head1 (Jvm.Cond.code (⟨"com/example/aspectwise/aspectwise/cmri/Packet", "address", "()I"⟩ : MethodName) prog_13_method_5_code 1 (some .int) :: ws) ({ frames := 0, cells := 0, slots := 0, locals := 0 } : Room)) (fun a U => a = #[(.ref a1)] ∧ Z.Warmed39 U.vm ∧ U.heap = h0) (fun _ _ _ _ _ => True) (fun _ U o U' => ∃ v L, o = .returned v ∧ Q_adr Z w_POLL a1 q1 h0 n0 v U'.heap L ∧ FrameEnd U o U' L ({ frames := 0, cells := 0, slots := 0, locals := 0 } : Room).cells ({ frames := 0, cells := 0, slots := 0, locals := 0 } : Room).slots) := by
  refine MetFree.of_bodySF (plainFor_of_name pn_0) hisR ?_
  intro p e s m args below meth c s₁ Bd hml0 hP hK
  obtain ⟨rfl, hZ, hh⟩ := hP
  have hx := Bd.exec
  have hby := Bd.bytes
  have hml : c.maxLocals = 1 := hml0
  have hown : s.vm.findClass "com/example/aspectwise/aspectwise/cmri/Packet" = some m.cls := findClass_of_methodNamed Bd.named
  have hnm := (name_of_methodNamed Bd.named Bd.method).1
  have X0 : Stand p l e ({ frames := 0, cells := 0, slots := 0, locals := 0 } : Room) s m #[(.ref a1)] below meth c s₁ [] 0 0 := Stand.of_body Bd
  have e0 : s₁.heap = h0 := by rw [← hh, Bd.state]; rfl
  have N0 := Fr.nil n0
  obtain ⟨S_w_POLL, E_w_POLL, F_w_POLL_letter⟩ := id G
  have k0 : Way p e below (s₁.setTop (entryFrame m #[(.ref a1)] 1)) s₁ (mkF m 0 #[rv a1] []) := fun t k => castTop (by first | (simp [entryFrame, mkF, argsToLocals, Value.category]; done) | rfl) k
  generalize s₁.setTop (entryFrame m #[(.ref a1)] 1) = S0 at k0 ⊢
  have k1 : Way p e below S0 s₁ (mkF m 1 #[rv a1] [(.ref a1)]) := by
    intro t k
    refine k0 t ?_
    refine XS.aloadN X0.here hx rfl (hb hby d_prog_13_method_5_code_0) rfl rfl ?_
    show Steps p.tables e below (s₁.setTop (mkF m 1 #[rv a1] [(.ref a1)])) _
    exact k
  obtain ⟨T2, X2, e2, st2⟩ := getF X0 hx hZ hown (host := "") (Or.inl (hw _ (List.mem_of_getElem? (i := 16) rfl))) Via.refl e0 a_0 (g := (mkF m 1 #[rv a1] [(.ref a1)])) rfl rfl (hb hby d_prog_13_method_5_code_1)
  have k3 : Way p e below S0 T2 (mkF m 4 #[rv a1] [(.int q1)]) := fun t k => k1 t (st2 _ k)
  obtain ⟨fs, hr, hrun, hended, hW, hsame⟩ := X2.leave (v := some (.int q1)) (fun h => by rw [Bd.returns] at h; cases h)
  refine ⟨_, _, k3 _ (retOut X2 hx Bd.returns rfl (Or.inl ⟨rfl, Or.inl rfl, _, rfl⟩) (hb hby d_prog_13_method_5_code_4) hr), hrun, hended, _, _, rfl, ?_, ⟨_, rfl⟩, hW, hsame.mono (by decide) (by decide)⟩
  show Q_adr Z w_POLL a1 q1 h0 n0 _ T2.heap _
  rw [e2]
  exact ⟨rfl, N0, rfl⟩
def Q_typ (Z : State) (w_POLL : Addr) (a1 : Addr) (a2 : Addr) (h0 : Heap) (n0 : Nat) (v : Option Value) (h : Heap) (L : List Loc) : Prop := (v = some (.ref a2)) ∧ (Fr n0 L) ∧ (h = h0)
set_option maxRecDepth 65536 in
set_option maxHeartbeats 40000000 in
theorem typ (l : Launch) (Z : State) (a0 : Array Value) (hw : ∀ d ∈ tables_1, d.before a0 Z = true) (ws : List Jvm.Cond) (w_POLL : Addr) (G : Gst Z w_POLL) (a1 : Addr) (a2 : Addr) (h0 : Heap) (n0 : Nat) (O0 : Old Z n0 h0) (a_0 : Fld Z h0 a1 "com/example/aspectwise/aspectwise/cmri/Packet" "type" "Lcom/example/aspectwise/aspectwise/cmri/Packet$Type;" (.ref a2)) :
    MetFree l (⟨"com/example/aspectwise/aspectwise/cmri/Packet", "type", "()Lcom/example/aspectwise/aspectwise/cmri/Packet$Type;"⟩ : MethodName) (head1 (Jvm.Cond.code (⟨"com/example/aspectwise/aspectwise/cmri/Packet", "type", "()Lcom/example/aspectwise/aspectwise/cmri/Packet$Type;"⟩ : MethodName) prog_13_method_6_code 1 (some (.object "com/example/aspectwise/aspectwise/cmri/Packet$Type")) :: ws) ({ frames := 0, cells := 0, slots := 0, locals := 0 } : Room)) (fun a U => a = #[(.ref a1)] ∧ Z.Warmed39 U.vm ∧ U.heap = h0) (fun _ _ _ _ _ => True) (fun _ U o U' => ∃ v L, o = .returned v ∧ Q_typ Z w_POLL a1 a2 h0 n0 v U'.heap L ∧ FrameEnd U o U' L ({ frames := 0, cells := 0, slots := 0, locals := 0 } : Room).cells ({ frames := 0, cells := 0, slots := 0, locals := 0 } : Room).slots) := by
  refine MetFree.of_bodySF (plainFor_of_name pn_0) hisR ?_
  intro p e s m args below meth c s₁ Bd hml0 hP hK
  obtain ⟨rfl, hZ, hh⟩ := hP
  have hx := Bd.exec
  have hby := Bd.bytes
  have hml : c.maxLocals = 1 := hml0
  have hown : s.vm.findClass "com/example/aspectwise/aspectwise/cmri/Packet" = some m.cls := findClass_of_methodNamed Bd.named
  have hnm := (name_of_methodNamed Bd.named Bd.method).1
  have X0 : Stand p l e ({ frames := 0, cells := 0, slots := 0, locals := 0 } : Room) s m #[(.ref a1)] below meth c s₁ [] 0 0 := Stand.of_body Bd
  have e0 : s₁.heap = h0 := by rw [← hh, Bd.state]; rfl
  have N0 := Fr.nil n0
  obtain ⟨S_w_POLL, E_w_POLL, F_w_POLL_letter⟩ := id G
  have k0 : Way p e below (s₁.setTop (entryFrame m #[(.ref a1)] 1)) s₁ (mkF m 0 #[rv a1] []) := fun t k => castTop (by first | (simp [entryFrame, mkF, argsToLocals, Value.category]; done) | rfl) k
  generalize s₁.setTop (entryFrame m #[(.ref a1)] 1) = S0 at k0 ⊢
  have k1 : Way p e below S0 s₁ (mkF m 1 #[rv a1] [(.ref a1)]) := by
    intro t k
    refine k0 t ?_
    refine XS.aloadN X0.here hx rfl (hb hby d_prog_13_method_6_code_0) rfl rfl ?_
    show Steps p.tables e below (s₁.setTop (mkF m 1 #[rv a1] [(.ref a1)])) _
    exact k
  obtain ⟨T2, X2, e2, st2⟩ := getF X0 hx hZ hown (host := "") (Or.inl (hw _ (List.mem_of_getElem? (i := 18) rfl))) Via.refl e0 a_0 (g := (mkF m 1 #[rv a1] [(.ref a1)])) rfl rfl (hb hby d_prog_13_method_6_code_1)
  have k3 : Way p e below S0 T2 (mkF m 4 #[rv a1] [(.ref a2)]) := fun t k => k1 t (st2 _ k)
  obtain ⟨fs, hr, hrun, hended, hW, hsame⟩ := X2.leave (v := some (.ref a2)) (fun h => by rw [Bd.returns] at h; cases h)
  refine ⟨_, _, k3 _ (retOut X2 hx Bd.returns rfl (Or.inr (Or.inr (Or.inr (Or.inr ⟨rfl, rfl, rfl⟩)))) (hb hby d_prog_13_method_6_code_4) hr), hrun, hended, _, _, rfl, ?_, ⟨_, rfl⟩, hW, hsame.mono (by decide) (by decide)⟩
  show Q_typ Z w_POLL a1 a2 h0 n0 _ T2.heap _
  rw [e2]
  exact ⟨rfl, N0, rfl⟩
def Q_osInit (Z : State) (w_POLL : Addr) (a1 : Addr) (h0 : Heap) (n0 : Nat) (v : Option Value) (h : Heap) (L : List Loc) : Prop := (v = none) ∧ (Fr n0 L) ∧ (h = h0)
set_option maxRecDepth 65536 in
set_option maxHeartbeats 40000000 in
theorem osInit (l : Launch) (Z : State) (a0 : Array Value) (hw : ∀ d ∈ tables_1, d.before a0 Z = true) (ws : List Jvm.Cond) (w_POLL : Addr) (G : Gst Z w_POLL) (a1 : Addr) (h0 : Heap) (n0 : Nat) (O0 : Old Z n0 h0) :
    MetFree l (⟨"java/io/OutputStream", "<init>", "()V"⟩ : MethodName) (head1 (Jvm.Cond.code (⟨"java/io/OutputStream", "<init>", "()V"⟩ : MethodName) jdk_2038_method_1_code 1 none :: ws) ({ frames := 1, cells := 0, slots := 0, locals := 12 } : Room)) (fun a U => a = #[(.ref a1)] ∧ Z.Warmed39 U.vm ∧ U.heap = h0) (fun _ _ _ _ _ => True) (fun _ U o U' => ∃ v L, o = .returned v ∧ Q_osInit Z w_POLL a1 h0 n0 v U'.heap L ∧ FrameEnd U o U' L ({ frames := 1, cells := 0, slots := 0, locals := 12 } : Room).cells ({ frames := 1, cells := 0, slots := 0, locals := 12 } : Room).slots) := by
  refine MetFree.of_bodySF (plainFor_of_name pn_1) hisR ?_
  intro p e s m args below meth c s₁ Bd hml0 hP hK
  obtain ⟨rfl, hZ, hh⟩ := hP
  have hx := Bd.exec
  have hby := Bd.bytes
  have hml : c.maxLocals = 1 := hml0
  have hown : s.vm.findClass "java/io/OutputStream" = some m.cls := findClass_of_methodNamed Bd.named
  have hnm := (name_of_methodNamed Bd.named Bd.method).1
  have X0 : Stand p l e ({ frames := 1, cells := 0, slots := 0, locals := 12 } : Room) s m #[(.ref a1)] below meth c s₁ [] 0 0 := Stand.of_body Bd
  have e0 : s₁.heap = h0 := by rw [← hh, Bd.state]; rfl
  have N0 := Fr.nil n0
  obtain ⟨S_w_POLL, E_w_POLL, F_w_POLL_letter⟩ := id G
  have k0 : Way p e below (s₁.setTop (entryFrame m #[(.ref a1)] 1)) s₁ (mkF m 0 #[rv a1] []) := fun t k => castTop (by first | (simp [entryFrame, mkF, argsToLocals, Value.category]; done) | rfl) k
  generalize s₁.setTop (entryFrame m #[(.ref a1)] 1) = S0 at k0 ⊢
  have k1 : Way p e below S0 s₁ (mkF m 1 #[rv a1] [(.ref a1)]) := by
    intro t k
    refine k0 t ?_
    refine XS.aloadN X0.here hx rfl (hb hby d_jdk_2038_method_1_code_0) rfl rfl ?_
    show Steps p.tables e below (s₁.setTop (mkF m 1 #[rv a1] [(.ref a1)])) _
    exact k
  obtain ⟨T2, X2, e2, st2⟩ := initO X0 hx hZ hown (hw _ (List.mem_of_getElem? (i := 64) rfl)) (hw _ (List.mem_of_getElem? (i := 14) rfl)) (hw _ (List.mem_of_getElem? (i := 15) rfl)) e0 (g := (mkF m 1 #[rv a1] [(.ref a1)])) rfl (by rw [hml]; rfl) rfl (hb hby d_jdk_2038_method_1_code_1) (by decide) (W := 0) (by show 2 * 0 + _ ≤ _; exact Nat.le_of_eq rfl) (by decide)
  have k3 : Way p e below S0 T2 (mkF m 4 #[rv a1] []) := fun t k => k1 t (st2 _ k)
  obtain ⟨fs, hr, hrun, hended, hW, hsame⟩ := X2.leave (v := none) (fun _ => rfl)
  refine ⟨_, _, k3 _ (X2.returnOut hx Bd.returns (hb hby d_jdk_2038_method_1_code_4) hr), hrun, hended, _, _, rfl, ?_, ⟨_, rfl⟩, hW, hsame.mono (by decide) (by decide)⟩
  show Q_osInit Z w_POLL a1 h0 n0 _ T2.heap _
  rw [e2]
  exact ⟨rfl, N0, rfl⟩
def Q_boInit (Z : State) (w_POLL : Addr) (a1 : Addr) (h0 : Heap) (n0 : Nat) (v : Option Value) (h : Heap) (L : List Loc) : Prop := ∃ b1 : Addr, ∃ kb : ClassId, (v = none) ∧ (Fr n0 L) ∧ (Keep h0 h [a1]) ∧ (h0.size ≤ b1) ∧ (Exa Z h a1 "java/io/ByteArrayOutputStream") ∧ (Fld Z h a1 "java/io/ByteArrayOutputStream" "buf" "[B" (.ref b1)) ∧ (Fld Z h a1 "java/io/ByteArrayOutputStream" "count" "I" (.int (0 : Int32))) ∧ (Exa Z h b1 "[B") ∧ (Arv Z h b1 kb .byte (6 : Int32) [(.int (0 : Int32)), (.int (0 : Int32)), (.int (0 : Int32)), (.int (0 : Int32)), (.int (0 : Int32)), (.int (0 : Int32))] (.int (0 : Int32))) ∧ (Unt h a1)
set_option maxRecDepth 65536 in
set_option maxHeartbeats 40000000 in
theorem boInit (l : Launch) (Z : State) (a0 : Array Value) (hw : ∀ d ∈ tables_1, d.before a0 Z = true) (ws : List Jvm.Cond) (w_POLL : Addr) (G : Gst Z w_POLL) (a1 : Addr) (h0 : Heap) (n0 : Nat) (O0 : Old Z n0 h0) (a_0 : Exa Z h0 a1 "java/io/ByteArrayOutputStream") (a_1 : Fld Z h0 a1 "java/io/ByteArrayOutputStream" "buf" "[B" .null) (a_2 : Fld Z h0 a1 "java/io/ByteArrayOutputStream" "count" "I" (.int (0 : Int32))) (a_3 : Unt h0 a1) (ga1 : n0 ≤ a1) :
    MetFree l (⟨"java/io/ByteArrayOutputStream", "<init>", "(I)V"⟩ : MethodName) (head1 (Jvm.Cond.code (⟨"java/io/ByteArrayOutputStream", "<init>", "(I)V"⟩ : MethodName) jdk_2005_method_2_code 2 none :: ws) ({ frames := 2, cells := 1, slots := 6, locals := 24 } : Room)) (fun a U => a = #[(.ref a1), (.int (6 : Int32))] ∧ Z.Warmed39 U.vm ∧ U.heap = h0) (fun _ _ _ _ _ => True) (fun _ U o U' => ∃ v L, o = .returned v ∧ Q_boInit Z w_POLL a1 h0 n0 v U'.heap L ∧ FrameEnd U o U' L ({ frames := 2, cells := 1, slots := 6, locals := 24 } : Room).cells ({ frames := 2, cells := 1, slots := 6, locals := 24 } : Room).slots) := by
  refine MetFree.of_bodySF (plainFor_of_name pn_2) hisR ?_
  intro p e s m args below meth c s₁ Bd hml0 hP hK
  obtain ⟨rfl, hZ, hh⟩ := hP
  have hx := Bd.exec
  have hby := Bd.bytes
  have hml : c.maxLocals = 2 := hml0
  have hown : s.vm.findClass "java/io/ByteArrayOutputStream" = some m.cls := findClass_of_methodNamed Bd.named
  have hnm := (name_of_methodNamed Bd.named Bd.method).1
  have X0 : Stand p l e ({ frames := 2, cells := 1, slots := 6, locals := 24 } : Room) s m #[(.ref a1), (.int (6 : Int32))] below meth c s₁ [] 0 0 := Stand.of_body Bd
  have e0 : s₁.heap = h0 := by rw [← hh, Bd.state]; rfl
  have N0 := Fr.nil n0
  obtain ⟨S_w_POLL, E_w_POLL, F_w_POLL_letter⟩ := id G
  have k0 : Way p e below (s₁.setTop (entryFrame m #[(.ref a1), (.int (6 : Int32))] 2)) s₁ (mkF m 0 #[rv a1, iv (6 : Int32)] []) := fun t k => castTop (by first | (simp [entryFrame, mkF, argsToLocals, Value.category]; done) | rfl) k
  generalize s₁.setTop (entryFrame m #[(.ref a1), (.int (6 : Int32))] 2) = S0 at k0 ⊢
  have k1 : Way p e below S0 s₁ (mkF m 1 #[rv a1, iv (6 : Int32)] [(.ref a1)]) := by
    intro t k
    refine k0 t ?_
    refine XS.aloadN X0.here hx rfl (hb hby d_jdk_2005_method_2_code_0) rfl rfl ?_
    show Steps p.tables e below (s₁.setTop (mkF m 1 #[rv a1, iv (6 : Int32)] [(.ref a1)])) _
    exact k
  obtain ⟨_, _, ⟨T2, L2, kk2, nn2⟩, -, X2, ⟨Lc2, hQ2, l2, y2, z2⟩, st2⟩ := X0.specialBack hx (y := (⟨"java/io/OutputStream", "<init>", "()V"⟩ : MethodName)) rfl hown (mvT hZ (hw _ (List.mem_of_getElem? (i := 58) rfl))) (mvT hZ (hw _ (List.mem_of_getElem? (i := 59) rfl))) (mvT hZ (hw _ (List.mem_of_getElem? (i := 63) rfl))) (by decide) (backOf (W := 0) (osInit l Z a0 hw [] w_POLL G a1 h0 n0 O0 ) hZ (hw _ (List.mem_of_getElem? (i := 63) rfl)) (hw _ (List.mem_of_getElem? (i := 62) rfl)) (by decide) (by decide)) (g := (mkF m 1 #[rv a1, iv (6 : Int32)] [(.ref a1)])) rfl (by rw [hml]; rfl) (Steps.refl _) (a := a1) (argsL := []) (rest := []) (lenOf pd_1 rfl) rfl (by show 2 * 0 + _ ≤ _; exact Nat.le_of_eq rfl) (hb hby d_jdk_2005_method_2_code_1) (fun _ _ => ⟨rfl, e0, (by decide : 0 + 0 ≤ _), (by decide : 0 + 0 ≤ _)⟩)
  dsimp only [Pt.U, Pt.locs, Pt.cells, Pt.slots] at X2 l2 y2 z2 st2 hQ2
  subst l2 y2 z2
  obtain ⟨rfl, Nq2, e2⟩ := hQ2
  have N2 := Fr.app N0 Nq2
  have k3 : Way p e below S0 T2 (mkF m 4 #[rv a1, iv (6 : Int32)] []) := fun t k => k1 t (st2.trans k)
  have k4 : Way p e below S0 T2 (mkF m 37 #[rv a1, iv (6 : Int32)] [(.int (6 : Int32)), (.ref a1)]) := by
    intro t k
    refine k3 t ?_
    refine XS.iloadN X2.here hx rfl (hb hby d_jdk_2005_method_2_code_4) rfl ?_
    show Steps p.tables e below (T2.setTop (mkF m 5 #[rv a1, iv (6 : Int32)] [(.int (6 : Int32))])) _
    refine XS.ifYes X2.here hx rfl (pc0 := 5) (pc' := 35) rfl (hb hby d_jdk_2005_method_2_code_5) rfl ((if0 _ _).trans (flt ((by decide) : ¬ ((6 : Int32) < (0 : Int32)))).2.1) (by decide) (by decide) ?_
    show Steps p.tables e below (T2.setTop (mkF m 35 #[rv a1, iv (6 : Int32)] [])) _
    refine XS.aloadN X2.here hx rfl (hb hby d_jdk_2005_method_2_code_35) rfl rfl ?_
    show Steps p.tables e below (T2.setTop (mkF m 36 #[rv a1, iv (6 : Int32)] [(.ref a1)])) _
    refine XS.iloadN X2.here hx rfl (hb hby d_jdk_2005_method_2_code_36) rfl ?_
    show Steps p.tables e below (T2.setTop (mkF m 37 #[rv a1, iv (6 : Int32)] [(.int (6 : Int32)), (.ref a1)])) _
    exact k
  obtain ⟨T5, h5, c5, X5, e5, E5, A5, B5, st5⟩ := newPE X2 hx hZ (hw _ (List.mem_of_getElem? (i := 9) rfl)) e2 (g := (mkF m 37 #[rv a1, iv (6 : Int32)] [(.int (6 : Int32)), (.ref a1)])) rfl (hb hby d_jdk_2005_method_2_code_37) rfl (by decide) (cap := 6) (by decide) (by decide) (by decide) (by decide) (ad := "[B") (by decide)
  obtain ⟨b5, g5⟩ : ∃ z, z = h0.size := ⟨_, rfl⟩
  rw [← g5] at A5 B5 st5
  have O5 := O0.ext E5
  have K5 : Keep h0 h5 [a1] := (Keep.refl h0 [a1]).ext E5
  have v5 : Arv Z h5 b5 c5 .byte (6 : Int32) [(.int (0 : Int32)), (.int (0 : Int32)), (.int (0 : Int32)), (.int (0 : Int32)), (.int (0 : Int32)), (.int (0 : Int32))] (.int (0 : Int32)) := (Arv.new A5 (by decide)).pad (pad_rep [] (.int (0 : Int32)) 6)
  have k6 : Way p e below S0 T5 (mkF m 39 #[rv a1, iv (6 : Int32)] [(.ref b5), (.ref a1)]) := fun t k => k4 t (st5 _ k)
  have f7 : Fld Z h5 a1 "java/io/ByteArrayOutputStream" "buf" "[B" .null := (a_1.ext E5)
  have f8 : Exa Z h5 a1 "java/io/ByteArrayOutputStream" := (a_0.ext E5)
  obtain ⟨T9, h9, X9, e9, W9, st9⟩ := putF X5 hx hZ hown (host := "") (Or.inl (hw _ (List.mem_of_getElem? (i := 65) rfl))) Via.refl e5 f7 f8 (Or.inl (hw _ (List.mem_of_getElem? (i := 66) rfl))) (hw _ (List.mem_of_getElem? (i := 53) rfl)) (ty := (.array .byte)) (by decide) rfl rfl (g := (mkF m 39 #[rv a1, iv (6 : Int32)] [(.ref b5), (.ref a1)])) rfl rfl (hb hby d_jdk_2005_method_2_code_39)
  have O9 := O5.wr W9 ga1
  have N9 := Fr.snoc X9 N2 ga1
  have K9 : Keep h0 h9 [a1] := K5.wr W9 (Or.inl (List.mem_of_getElem? (i := 0) rfl))
  have fw9 : Fld Z h9 a1 "java/io/ByteArrayOutputStream" "buf" "[B" (.ref b5) := f7.same W9
  have k10 : Way p e below S0 T9 (mkF m 42 #[rv a1, iv (6 : Int32)] []) := fun t k => k6 t (st9 _ k)
  obtain ⟨fs, hr, hrun, hended, hW, hsame⟩ := X9.leave (v := none) (fun _ => rfl)
  have gz11 : h0.size ≤ b5 := Nat.le_trans (Keep.refl h0 [a1]).1 (Nat.le_of_eq g5.symm)
  have f12 : Exa Z h9 a1 "java/io/ByteArrayOutputStream" := (f8.wr W9)
  have f13 : Fld Z h9 a1 "java/io/ByteArrayOutputStream" "count" "I" (.int (0 : Int32)) := ((a_2.ext E5).other W9 (Or.inr (slot_ne (Or.inl (hw _ (List.mem_of_getElem? (i := 73) rfl))) (Or.inl (hw _ (List.mem_of_getElem? (i := 66) rfl))) (by decide) (t := .int) (t' := (.array .byte)) (by decide) (by decide))))
  have f14 : Exa Z h9 b5 "[B" := (B5.wr W9)
  have f15 : Arv Z h9 b5 c5 .byte (6 : Int32) [(.int (0 : Int32)), (.int (0 : Int32)), (.int (0 : Int32)), (.int (0 : Int32)), (.int (0 : Int32)), (.int (0 : Int32))] (.int (0 : Int32)) := (v5.other W9 (Ne.symm (Nat.ne_of_lt (Nat.lt_of_lt_of_le a_0.lt (Nat.le_of_eq g5.symm)))))
  have f16 : Unt h9 a1 := ((a_3.ext E5).wr W9)
  refine ⟨_, _, k10 _ (X9.returnOut hx Bd.returns (hb hby d_jdk_2005_method_2_code_42) hr), hrun, hended, _, _, rfl, ?_, ⟨_, rfl⟩, hW, hsame.mono (by decide) (by decide)⟩
  show Q_boInit Z w_POLL a1 h0 n0 _ T9.heap _
  rw [e9]
  exact ⟨b5, c5, rfl, N9, K9, gz11, f12, fw9, f13, f14, f15, f16⟩
def Q_ens0 (Z : State) (w_POLL : Addr) (a1 : Addr) (b1 : Addr) (kb : ClassId) (q0 : Int32) (q1 : Int32) (q2 : Int32) (q3 : Int32) (q4 : Int32) (q5 : Int32) (h0 : Heap) (n0 : Nat) (v : Option Value) (h : Heap) (L : List Loc) : Prop := (v = none) ∧ (Fr n0 L) ∧ (h = h0) ∧ (L = [])
set_option maxRecDepth 65536 in
set_option maxHeartbeats 40000000 in
theorem ens0 (l : Launch) (Z : State) (a0 : Array Value) (hw : ∀ d ∈ tables_1, d.before a0 Z = true) (ws : List Jvm.Cond) (w_POLL : Addr) (G : Gst Z w_POLL) (a1 : Addr) (b1 : Addr) (kb : ClassId) (q0 : Int32) (q1 : Int32) (q2 : Int32) (q3 : Int32) (q4 : Int32) (q5 : Int32) (h0 : Heap) (n0 : Nat) (O0 : Old Z n0 h0) (a_0 : Fld Z h0 a1 "java/io/ByteArrayOutputStream" "buf" "[B" (.ref b1)) (a_1 : Arv Z h0 b1 kb .byte (6 : Int32) [(.int q0), (.int q1), (.int q2), (.int q3), (.int q4), (.int q5)] (.int (0 : Int32))) :
    MetFree l (⟨"java/io/ByteArrayOutputStream", "ensureCapacity", "(I)V"⟩ : MethodName) (head1 (Jvm.Cond.code (⟨"java/io/ByteArrayOutputStream", "ensureCapacity", "(I)V"⟩ : MethodName) jdk_2005_method_3_code 4 none :: ws) ({ frames := 0, cells := 0, slots := 0, locals := 0 } : Room)) (fun a U => a = #[(.ref a1), (.int (1 : Int32))] ∧ Z.Warmed39 U.vm ∧ U.heap = h0) (fun _ _ _ _ _ => True) (fun _ U o U' => ∃ v L, o = .returned v ∧ Q_ens0 Z w_POLL a1 b1 kb q0 q1 q2 q3 q4 q5 h0 n0 v U'.heap L ∧ FrameEnd U o U' L ({ frames := 0, cells := 0, slots := 0, locals := 0 } : Room).cells ({ frames := 0, cells := 0, slots := 0, locals := 0 } : Room).slots) := by
  refine MetFree.of_bodySF (plainFor_of_name pn_2) hisR ?_
  intro p e s m args below meth c s₁ Bd hml0 hP hK
  obtain ⟨rfl, hZ, hh⟩ := hP
  have hx := Bd.exec
  have hby := Bd.bytes
  have hml : c.maxLocals = 4 := hml0
  have hown : s.vm.findClass "java/io/ByteArrayOutputStream" = some m.cls := findClass_of_methodNamed Bd.named
  have hnm := (name_of_methodNamed Bd.named Bd.method).1
  have X0 : Stand p l e ({ frames := 0, cells := 0, slots := 0, locals := 0 } : Room) s m #[(.ref a1), (.int (1 : Int32))] below meth c s₁ [] 0 0 := Stand.of_body Bd
  have e0 : s₁.heap = h0 := by rw [← hh, Bd.state]; rfl
  have N0 := Fr.nil n0
  obtain ⟨S_w_POLL, E_w_POLL, F_w_POLL_letter⟩ := id G
  have k0 : Way p e below (s₁.setTop (entryFrame m #[(.ref a1), (.int (1 : Int32))] 4)) s₁ (mkF m 0 #[rv a1, iv (1 : Int32), .unset, .unset] []) := fun t k => castTop (by first | (simp [entryFrame, mkF, argsToLocals, Value.category]; done) | rfl) k
  generalize s₁.setTop (entryFrame m #[(.ref a1), (.int (1 : Int32))] 4) = S0 at k0 ⊢
  have k1 : Way p e below S0 s₁ (mkF m 1 #[rv a1, iv (1 : Int32), .unset, .unset] [(.ref a1)]) := by
    intro t k
    refine k0 t ?_
    refine XS.aloadN X0.here hx rfl (hb hby d_jdk_2005_method_3_code_0) rfl rfl ?_
    show Steps p.tables e below (s₁.setTop (mkF m 1 #[rv a1, iv (1 : Int32), .unset, .unset] [(.ref a1)])) _
    exact k
  obtain ⟨T2, X2, e2, st2⟩ := getF X0 hx hZ hown (host := "") (Or.inl (hw _ (List.mem_of_getElem? (i := 65) rfl))) Via.refl e0 a_0 (g := (mkF m 1 #[rv a1, iv (1 : Int32), .unset, .unset] [(.ref a1)])) rfl rfl (hb hby d_jdk_2005_method_3_code_1)
  have k3 : Way p e below S0 T2 (mkF m 4 #[rv a1, iv (1 : Int32), .unset, .unset] [(.ref b1)]) := fun t k => k1 t (st2 _ k)
  obtain ⟨cl4, Ar4, -, S4, M4, -, -⟩ := id (a_1)
  have k5 : Way p e below S0 T2 (mkF m 5 #[rv a1, iv (1 : Int32), .unset, .unset] [(.int (6 : Int32))]) := fun t k => k3 t (X2.arraylength hx (by rw [e2]; exact Ar4.1) (State.isArrayOf_alike hZ.alike Ar4.2.1) (g := (mkF m 4 #[rv a1, iv (1 : Int32), .unset, .unset] [(.ref b1)])) rfl rfl (hb hby d_jdk_2005_method_3_code_4) _ (by rw [len_of S4 M4]; exact k))
  have k6 : Way p e below S0 T2 (mkF m 31 #[rv a1, iv (1 : Int32), iv (6 : Int32), iv (-5 : Int32)] []) := by
    intro t k
    refine k5 t ?_
    refine XS.istoreN X2.here hx rfl (hb hby d_jdk_2005_method_3_code_5) rfl (l' := #[rv a1, iv (1 : Int32), iv (6 : Int32), .unset]) rfl ?_
    show Steps p.tables e below (T2.setTop (mkF m 6 #[rv a1, iv (1 : Int32), iv (6 : Int32), .unset] [])) _
    refine XS.iloadN X2.here hx rfl (hb hby d_jdk_2005_method_3_code_6) rfl ?_
    show Steps p.tables e below (T2.setTop (mkF m 7 #[rv a1, iv (1 : Int32), iv (6 : Int32), .unset] [(.int (1 : Int32))])) _
    refine XS.iloadN X2.here hx rfl (hb hby d_jdk_2005_method_3_code_7) rfl ?_
    show Steps p.tables e below (T2.setTop (mkF m 8 #[rv a1, iv (1 : Int32), iv (6 : Int32), .unset] [(.int (6 : Int32)), (.int (1 : Int32))])) _
    refine XS.isub X2.here hx rfl (hb hby d_jdk_2005_method_3_code_8) rfl ?_
    show Steps p.tables e below (T2.setTop (mkF m 9 #[rv a1, iv (1 : Int32), iv (6 : Int32), .unset] [(.int (-5 : Int32))])) _
    refine XS.istoreN X2.here hx rfl (hb hby d_jdk_2005_method_3_code_9) rfl (l' := #[rv a1, iv (1 : Int32), iv (6 : Int32), iv (-5 : Int32)]) rfl ?_
    show Steps p.tables e below (T2.setTop (mkF m 10 #[rv a1, iv (1 : Int32), iv (6 : Int32), iv (-5 : Int32)] [])) _
    refine XS.iloadN X2.here hx rfl (hb hby d_jdk_2005_method_3_code_10) rfl ?_
    show Steps p.tables e below (T2.setTop (mkF m 11 #[rv a1, iv (1 : Int32), iv (6 : Int32), iv (-5 : Int32)] [(.int (-5 : Int32))])) _
    refine XS.ifYes X2.here hx rfl (pc0 := 11) (pc' := 31) rfl (hb hby d_jdk_2005_method_3_code_11) rfl ((if0 _ _).trans (flt ((by decide) : ¬ ((0 : Int32) < (-5 : Int32)))).2.2.2) (by decide) (by decide) ?_
    show Steps p.tables e below (T2.setTop (mkF m 31 #[rv a1, iv (1 : Int32), iv (6 : Int32), iv (-5 : Int32)] [])) _
    exact k
  obtain ⟨fs, hr, hrun, hended, hW, hsame⟩ := X2.leave (v := none) (fun _ => rfl)
  refine ⟨_, _, k6 _ (X2.returnOut hx Bd.returns (hb hby d_jdk_2005_method_3_code_31) hr), hrun, hended, _, _, rfl, ?_, ⟨_, rfl⟩, hW, hsame.mono (by decide) (by decide)⟩
  show Q_ens0 Z w_POLL a1 b1 kb q0 q1 q2 q3 q4 q5 h0 n0 _ T2.heap _
  rw [e2]
  exact ⟨rfl, N0, rfl, rfl⟩
def Q_ens1 (Z : State) (w_POLL : Addr) (a1 : Addr) (b1 : Addr) (kb : ClassId) (q0 : Int32) (q1 : Int32) (q2 : Int32) (q3 : Int32) (q4 : Int32) (q5 : Int32) (h0 : Heap) (n0 : Nat) (v : Option Value) (h : Heap) (L : List Loc) : Prop := (v = none) ∧ (Fr n0 L) ∧ (h = h0) ∧ (L = [])
set_option maxRecDepth 65536 in
set_option maxHeartbeats 40000000 in
theorem ens1 (l : Launch) (Z : State) (a0 : Array Value) (hw : ∀ d ∈ tables_1, d.before a0 Z = true) (ws : List Jvm.Cond) (w_POLL : Addr) (G : Gst Z w_POLL) (a1 : Addr) (b1 : Addr) (kb : ClassId) (q0 : Int32) (q1 : Int32) (q2 : Int32) (q3 : Int32) (q4 : Int32) (q5 : Int32) (h0 : Heap) (n0 : Nat) (O0 : Old Z n0 h0) (a_0 : Fld Z h0 a1 "java/io/ByteArrayOutputStream" "buf" "[B" (.ref b1)) (a_1 : Arv Z h0 b1 kb .byte (6 : Int32) [(.int q0), (.int q1), (.int q2), (.int q3), (.int q4), (.int q5)] (.int (0 : Int32))) :
    MetFree l (⟨"java/io/ByteArrayOutputStream", "ensureCapacity", "(I)V"⟩ : MethodName) (head1 (Jvm.Cond.code (⟨"java/io/ByteArrayOutputStream", "ensureCapacity", "(I)V"⟩ : MethodName) jdk_2005_method_3_code 4 none :: ws) ({ frames := 0, cells := 0, slots := 0, locals := 0 } : Room)) (fun a U => a = #[(.ref a1), (.int (2 : Int32))] ∧ Z.Warmed39 U.vm ∧ U.heap = h0) (fun _ _ _ _ _ => True) (fun _ U o U' => ∃ v L, o = .returned v ∧ Q_ens1 Z w_POLL a1 b1 kb q0 q1 q2 q3 q4 q5 h0 n0 v U'.heap L ∧ FrameEnd U o U' L ({ frames := 0, cells := 0, slots := 0, locals := 0 } : Room).cells ({ frames := 0, cells := 0, slots := 0, locals := 0 } : Room).slots) := by
  refine MetFree.of_bodySF (plainFor_of_name pn_2) hisR ?_
  intro p e s m args below meth c s₁ Bd hml0 hP hK
  obtain ⟨rfl, hZ, hh⟩ := hP
  have hx := Bd.exec
  have hby := Bd.bytes
  have hml : c.maxLocals = 4 := hml0
  have hown : s.vm.findClass "java/io/ByteArrayOutputStream" = some m.cls := findClass_of_methodNamed Bd.named
  have hnm := (name_of_methodNamed Bd.named Bd.method).1
  have X0 : Stand p l e ({ frames := 0, cells := 0, slots := 0, locals := 0 } : Room) s m #[(.ref a1), (.int (2 : Int32))] below meth c s₁ [] 0 0 := Stand.of_body Bd
  have e0 : s₁.heap = h0 := by rw [← hh, Bd.state]; rfl
  have N0 := Fr.nil n0
  obtain ⟨S_w_POLL, E_w_POLL, F_w_POLL_letter⟩ := id G
  have k0 : Way p e below (s₁.setTop (entryFrame m #[(.ref a1), (.int (2 : Int32))] 4)) s₁ (mkF m 0 #[rv a1, iv (2 : Int32), .unset, .unset] []) := fun t k => castTop (by first | (simp [entryFrame, mkF, argsToLocals, Value.category]; done) | rfl) k
  generalize s₁.setTop (entryFrame m #[(.ref a1), (.int (2 : Int32))] 4) = S0 at k0 ⊢
  have k1 : Way p e below S0 s₁ (mkF m 1 #[rv a1, iv (2 : Int32), .unset, .unset] [(.ref a1)]) := by
    intro t k
    refine k0 t ?_
    refine XS.aloadN X0.here hx rfl (hb hby d_jdk_2005_method_3_code_0) rfl rfl ?_
    show Steps p.tables e below (s₁.setTop (mkF m 1 #[rv a1, iv (2 : Int32), .unset, .unset] [(.ref a1)])) _
    exact k
  obtain ⟨T2, X2, e2, st2⟩ := getF X0 hx hZ hown (host := "") (Or.inl (hw _ (List.mem_of_getElem? (i := 65) rfl))) Via.refl e0 a_0 (g := (mkF m 1 #[rv a1, iv (2 : Int32), .unset, .unset] [(.ref a1)])) rfl rfl (hb hby d_jdk_2005_method_3_code_1)
  have k3 : Way p e below S0 T2 (mkF m 4 #[rv a1, iv (2 : Int32), .unset, .unset] [(.ref b1)]) := fun t k => k1 t (st2 _ k)
  obtain ⟨cl4, Ar4, -, S4, M4, -, -⟩ := id (a_1)
  have k5 : Way p e below S0 T2 (mkF m 5 #[rv a1, iv (2 : Int32), .unset, .unset] [(.int (6 : Int32))]) := fun t k => k3 t (X2.arraylength hx (by rw [e2]; exact Ar4.1) (State.isArrayOf_alike hZ.alike Ar4.2.1) (g := (mkF m 4 #[rv a1, iv (2 : Int32), .unset, .unset] [(.ref b1)])) rfl rfl (hb hby d_jdk_2005_method_3_code_4) _ (by rw [len_of S4 M4]; exact k))
  have k6 : Way p e below S0 T2 (mkF m 31 #[rv a1, iv (2 : Int32), iv (6 : Int32), iv (-4 : Int32)] []) := by
    intro t k
    refine k5 t ?_
    refine XS.istoreN X2.here hx rfl (hb hby d_jdk_2005_method_3_code_5) rfl (l' := #[rv a1, iv (2 : Int32), iv (6 : Int32), .unset]) rfl ?_
    show Steps p.tables e below (T2.setTop (mkF m 6 #[rv a1, iv (2 : Int32), iv (6 : Int32), .unset] [])) _
    refine XS.iloadN X2.here hx rfl (hb hby d_jdk_2005_method_3_code_6) rfl ?_
    show Steps p.tables e below (T2.setTop (mkF m 7 #[rv a1, iv (2 : Int32), iv (6 : Int32), .unset] [(.int (2 : Int32))])) _
    refine XS.iloadN X2.here hx rfl (hb hby d_jdk_2005_method_3_code_7) rfl ?_
    show Steps p.tables e below (T2.setTop (mkF m 8 #[rv a1, iv (2 : Int32), iv (6 : Int32), .unset] [(.int (6 : Int32)), (.int (2 : Int32))])) _
    refine XS.isub X2.here hx rfl (hb hby d_jdk_2005_method_3_code_8) rfl ?_
    show Steps p.tables e below (T2.setTop (mkF m 9 #[rv a1, iv (2 : Int32), iv (6 : Int32), .unset] [(.int (-4 : Int32))])) _
    refine XS.istoreN X2.here hx rfl (hb hby d_jdk_2005_method_3_code_9) rfl (l' := #[rv a1, iv (2 : Int32), iv (6 : Int32), iv (-4 : Int32)]) rfl ?_
    show Steps p.tables e below (T2.setTop (mkF m 10 #[rv a1, iv (2 : Int32), iv (6 : Int32), iv (-4 : Int32)] [])) _
    refine XS.iloadN X2.here hx rfl (hb hby d_jdk_2005_method_3_code_10) rfl ?_
    show Steps p.tables e below (T2.setTop (mkF m 11 #[rv a1, iv (2 : Int32), iv (6 : Int32), iv (-4 : Int32)] [(.int (-4 : Int32))])) _
    refine XS.ifYes X2.here hx rfl (pc0 := 11) (pc' := 31) rfl (hb hby d_jdk_2005_method_3_code_11) rfl ((if0 _ _).trans (flt ((by decide) : ¬ ((0 : Int32) < (-4 : Int32)))).2.2.2) (by decide) (by decide) ?_
    show Steps p.tables e below (T2.setTop (mkF m 31 #[rv a1, iv (2 : Int32), iv (6 : Int32), iv (-4 : Int32)] [])) _
    exact k
  obtain ⟨fs, hr, hrun, hended, hW, hsame⟩ := X2.leave (v := none) (fun _ => rfl)
  refine ⟨_, _, k6 _ (X2.returnOut hx Bd.returns (hb hby d_jdk_2005_method_3_code_31) hr), hrun, hended, _, _, rfl, ?_, ⟨_, rfl⟩, hW, hsame.mono (by decide) (by decide)⟩
  show Q_ens1 Z w_POLL a1 b1 kb q0 q1 q2 q3 q4 q5 h0 n0 _ T2.heap _
  rw [e2]
  exact ⟨rfl, N0, rfl, rfl⟩
def Q_ens2 (Z : State) (w_POLL : Addr) (a1 : Addr) (b1 : Addr) (kb : ClassId) (q0 : Int32) (q1 : Int32) (q2 : Int32) (q3 : Int32) (q4 : Int32) (q5 : Int32) (h0 : Heap) (n0 : Nat) (v : Option Value) (h : Heap) (L : List Loc) : Prop := (v = none) ∧ (Fr n0 L) ∧ (h = h0) ∧ (L = [])
set_option maxRecDepth 65536 in
set_option maxHeartbeats 40000000 in
theorem ens2 (l : Launch) (Z : State) (a0 : Array Value) (hw : ∀ d ∈ tables_1, d.before a0 Z = true) (ws : List Jvm.Cond) (w_POLL : Addr) (G : Gst Z w_POLL) (a1 : Addr) (b1 : Addr) (kb : ClassId) (q0 : Int32) (q1 : Int32) (q2 : Int32) (q3 : Int32) (q4 : Int32) (q5 : Int32) (h0 : Heap) (n0 : Nat) (O0 : Old Z n0 h0) (a_0 : Fld Z h0 a1 "java/io/ByteArrayOutputStream" "buf" "[B" (.ref b1)) (a_1 : Arv Z h0 b1 kb .byte (6 : Int32) [(.int q0), (.int q1), (.int q2), (.int q3), (.int q4), (.int q5)] (.int (0 : Int32))) :
    MetFree l (⟨"java/io/ByteArrayOutputStream", "ensureCapacity", "(I)V"⟩ : MethodName) (head1 (Jvm.Cond.code (⟨"java/io/ByteArrayOutputStream", "ensureCapacity", "(I)V"⟩ : MethodName) jdk_2005_method_3_code 4 none :: ws) ({ frames := 0, cells := 0, slots := 0, locals := 0 } : Room)) (fun a U => a = #[(.ref a1), (.int (3 : Int32))] ∧ Z.Warmed39 U.vm ∧ U.heap = h0) (fun _ _ _ _ _ => True) (fun _ U o U' => ∃ v L, o = .returned v ∧ Q_ens2 Z w_POLL a1 b1 kb q0 q1 q2 q3 q4 q5 h0 n0 v U'.heap L ∧ FrameEnd U o U' L ({ frames := 0, cells := 0, slots := 0, locals := 0 } : Room).cells ({ frames := 0, cells := 0, slots := 0, locals := 0 } : Room).slots) := by
  refine MetFree.of_bodySF (plainFor_of_name pn_2) hisR ?_
  intro p e s m args below meth c s₁ Bd hml0 hP hK
  obtain ⟨rfl, hZ, hh⟩ := hP
  have hx := Bd.exec
  have hby := Bd.bytes
  have hml : c.maxLocals = 4 := hml0
  have hown : s.vm.findClass "java/io/ByteArrayOutputStream" = some m.cls := findClass_of_methodNamed Bd.named
  have hnm := (name_of_methodNamed Bd.named Bd.method).1
  have X0 : Stand p l e ({ frames := 0, cells := 0, slots := 0, locals := 0 } : Room) s m #[(.ref a1), (.int (3 : Int32))] below meth c s₁ [] 0 0 := Stand.of_body Bd
  have e0 : s₁.heap = h0 := by rw [← hh, Bd.state]; rfl
  have N0 := Fr.nil n0
  obtain ⟨S_w_POLL, E_w_POLL, F_w_POLL_letter⟩ := id G
  have k0 : Way p e below (s₁.setTop (entryFrame m #[(.ref a1), (.int (3 : Int32))] 4)) s₁ (mkF m 0 #[rv a1, iv (3 : Int32), .unset, .unset] []) := fun t k => castTop (by first | (simp [entryFrame, mkF, argsToLocals, Value.category]; done) | rfl) k
  generalize s₁.setTop (entryFrame m #[(.ref a1), (.int (3 : Int32))] 4) = S0 at k0 ⊢
  have k1 : Way p e below S0 s₁ (mkF m 1 #[rv a1, iv (3 : Int32), .unset, .unset] [(.ref a1)]) := by
    intro t k
    refine k0 t ?_
    refine XS.aloadN X0.here hx rfl (hb hby d_jdk_2005_method_3_code_0) rfl rfl ?_
    show Steps p.tables e below (s₁.setTop (mkF m 1 #[rv a1, iv (3 : Int32), .unset, .unset] [(.ref a1)])) _
    exact k
  obtain ⟨T2, X2, e2, st2⟩ := getF X0 hx hZ hown (host := "") (Or.inl (hw _ (List.mem_of_getElem? (i := 65) rfl))) Via.refl e0 a_0 (g := (mkF m 1 #[rv a1, iv (3 : Int32), .unset, .unset] [(.ref a1)])) rfl rfl (hb hby d_jdk_2005_method_3_code_1)
  have k3 : Way p e below S0 T2 (mkF m 4 #[rv a1, iv (3 : Int32), .unset, .unset] [(.ref b1)]) := fun t k => k1 t (st2 _ k)
  obtain ⟨cl4, Ar4, -, S4, M4, -, -⟩ := id (a_1)
  have k5 : Way p e below S0 T2 (mkF m 5 #[rv a1, iv (3 : Int32), .unset, .unset] [(.int (6 : Int32))]) := fun t k => k3 t (X2.arraylength hx (by rw [e2]; exact Ar4.1) (State.isArrayOf_alike hZ.alike Ar4.2.1) (g := (mkF m 4 #[rv a1, iv (3 : Int32), .unset, .unset] [(.ref b1)])) rfl rfl (hb hby d_jdk_2005_method_3_code_4) _ (by rw [len_of S4 M4]; exact k))
  have k6 : Way p e below S0 T2 (mkF m 31 #[rv a1, iv (3 : Int32), iv (6 : Int32), iv (-3 : Int32)] []) := by
    intro t k
    refine k5 t ?_
    refine XS.istoreN X2.here hx rfl (hb hby d_jdk_2005_method_3_code_5) rfl (l' := #[rv a1, iv (3 : Int32), iv (6 : Int32), .unset]) rfl ?_
    show Steps p.tables e below (T2.setTop (mkF m 6 #[rv a1, iv (3 : Int32), iv (6 : Int32), .unset] [])) _
    refine XS.iloadN X2.here hx rfl (hb hby d_jdk_2005_method_3_code_6) rfl ?_
    show Steps p.tables e below (T2.setTop (mkF m 7 #[rv a1, iv (3 : Int32), iv (6 : Int32), .unset] [(.int (3 : Int32))])) _
    refine XS.iloadN X2.here hx rfl (hb hby d_jdk_2005_method_3_code_7) rfl ?_
    show Steps p.tables e below (T2.setTop (mkF m 8 #[rv a1, iv (3 : Int32), iv (6 : Int32), .unset] [(.int (6 : Int32)), (.int (3 : Int32))])) _
    refine XS.isub X2.here hx rfl (hb hby d_jdk_2005_method_3_code_8) rfl ?_
    show Steps p.tables e below (T2.setTop (mkF m 9 #[rv a1, iv (3 : Int32), iv (6 : Int32), .unset] [(.int (-3 : Int32))])) _
    refine XS.istoreN X2.here hx rfl (hb hby d_jdk_2005_method_3_code_9) rfl (l' := #[rv a1, iv (3 : Int32), iv (6 : Int32), iv (-3 : Int32)]) rfl ?_
    show Steps p.tables e below (T2.setTop (mkF m 10 #[rv a1, iv (3 : Int32), iv (6 : Int32), iv (-3 : Int32)] [])) _
    refine XS.iloadN X2.here hx rfl (hb hby d_jdk_2005_method_3_code_10) rfl ?_
    show Steps p.tables e below (T2.setTop (mkF m 11 #[rv a1, iv (3 : Int32), iv (6 : Int32), iv (-3 : Int32)] [(.int (-3 : Int32))])) _
    refine XS.ifYes X2.here hx rfl (pc0 := 11) (pc' := 31) rfl (hb hby d_jdk_2005_method_3_code_11) rfl ((if0 _ _).trans (flt ((by decide) : ¬ ((0 : Int32) < (-3 : Int32)))).2.2.2) (by decide) (by decide) ?_
    show Steps p.tables e below (T2.setTop (mkF m 31 #[rv a1, iv (3 : Int32), iv (6 : Int32), iv (-3 : Int32)] [])) _
    exact k
  obtain ⟨fs, hr, hrun, hended, hW, hsame⟩ := X2.leave (v := none) (fun _ => rfl)
  refine ⟨_, _, k6 _ (X2.returnOut hx Bd.returns (hb hby d_jdk_2005_method_3_code_31) hr), hrun, hended, _, _, rfl, ?_, ⟨_, rfl⟩, hW, hsame.mono (by decide) (by decide)⟩
  show Q_ens2 Z w_POLL a1 b1 kb q0 q1 q2 q3 q4 q5 h0 n0 _ T2.heap _
  rw [e2]
  exact ⟨rfl, N0, rfl, rfl⟩
def Q_ens3 (Z : State) (w_POLL : Addr) (a1 : Addr) (b1 : Addr) (kb : ClassId) (q0 : Int32) (q1 : Int32) (q2 : Int32) (q3 : Int32) (q4 : Int32) (q5 : Int32) (h0 : Heap) (n0 : Nat) (v : Option Value) (h : Heap) (L : List Loc) : Prop := (v = none) ∧ (Fr n0 L) ∧ (h = h0) ∧ (L = [])
set_option maxRecDepth 65536 in
set_option maxHeartbeats 40000000 in
theorem ens3 (l : Launch) (Z : State) (a0 : Array Value) (hw : ∀ d ∈ tables_1, d.before a0 Z = true) (ws : List Jvm.Cond) (w_POLL : Addr) (G : Gst Z w_POLL) (a1 : Addr) (b1 : Addr) (kb : ClassId) (q0 : Int32) (q1 : Int32) (q2 : Int32) (q3 : Int32) (q4 : Int32) (q5 : Int32) (h0 : Heap) (n0 : Nat) (O0 : Old Z n0 h0) (a_0 : Fld Z h0 a1 "java/io/ByteArrayOutputStream" "buf" "[B" (.ref b1)) (a_1 : Arv Z h0 b1 kb .byte (6 : Int32) [(.int q0), (.int q1), (.int q2), (.int q3), (.int q4), (.int q5)] (.int (0 : Int32))) :
    MetFree l (⟨"java/io/ByteArrayOutputStream", "ensureCapacity", "(I)V"⟩ : MethodName) (head1 (Jvm.Cond.code (⟨"java/io/ByteArrayOutputStream", "ensureCapacity", "(I)V"⟩ : MethodName) jdk_2005_method_3_code 4 none :: ws) ({ frames := 0, cells := 0, slots := 0, locals := 0 } : Room)) (fun a U => a = #[(.ref a1), (.int (4 : Int32))] ∧ Z.Warmed39 U.vm ∧ U.heap = h0) (fun _ _ _ _ _ => True) (fun _ U o U' => ∃ v L, o = .returned v ∧ Q_ens3 Z w_POLL a1 b1 kb q0 q1 q2 q3 q4 q5 h0 n0 v U'.heap L ∧ FrameEnd U o U' L ({ frames := 0, cells := 0, slots := 0, locals := 0 } : Room).cells ({ frames := 0, cells := 0, slots := 0, locals := 0 } : Room).slots) := by
  refine MetFree.of_bodySF (plainFor_of_name pn_2) hisR ?_
  intro p e s m args below meth c s₁ Bd hml0 hP hK
  obtain ⟨rfl, hZ, hh⟩ := hP
  have hx := Bd.exec
  have hby := Bd.bytes
  have hml : c.maxLocals = 4 := hml0
  have hown : s.vm.findClass "java/io/ByteArrayOutputStream" = some m.cls := findClass_of_methodNamed Bd.named
  have hnm := (name_of_methodNamed Bd.named Bd.method).1
  have X0 : Stand p l e ({ frames := 0, cells := 0, slots := 0, locals := 0 } : Room) s m #[(.ref a1), (.int (4 : Int32))] below meth c s₁ [] 0 0 := Stand.of_body Bd
  have e0 : s₁.heap = h0 := by rw [← hh, Bd.state]; rfl
  have N0 := Fr.nil n0
  obtain ⟨S_w_POLL, E_w_POLL, F_w_POLL_letter⟩ := id G
  have k0 : Way p e below (s₁.setTop (entryFrame m #[(.ref a1), (.int (4 : Int32))] 4)) s₁ (mkF m 0 #[rv a1, iv (4 : Int32), .unset, .unset] []) := fun t k => castTop (by first | (simp [entryFrame, mkF, argsToLocals, Value.category]; done) | rfl) k
  generalize s₁.setTop (entryFrame m #[(.ref a1), (.int (4 : Int32))] 4) = S0 at k0 ⊢
  have k1 : Way p e below S0 s₁ (mkF m 1 #[rv a1, iv (4 : Int32), .unset, .unset] [(.ref a1)]) := by
    intro t k
    refine k0 t ?_
    refine XS.aloadN X0.here hx rfl (hb hby d_jdk_2005_method_3_code_0) rfl rfl ?_
    show Steps p.tables e below (s₁.setTop (mkF m 1 #[rv a1, iv (4 : Int32), .unset, .unset] [(.ref a1)])) _
    exact k
  obtain ⟨T2, X2, e2, st2⟩ := getF X0 hx hZ hown (host := "") (Or.inl (hw _ (List.mem_of_getElem? (i := 65) rfl))) Via.refl e0 a_0 (g := (mkF m 1 #[rv a1, iv (4 : Int32), .unset, .unset] [(.ref a1)])) rfl rfl (hb hby d_jdk_2005_method_3_code_1)
  have k3 : Way p e below S0 T2 (mkF m 4 #[rv a1, iv (4 : Int32), .unset, .unset] [(.ref b1)]) := fun t k => k1 t (st2 _ k)
  obtain ⟨cl4, Ar4, -, S4, M4, -, -⟩ := id (a_1)
  have k5 : Way p e below S0 T2 (mkF m 5 #[rv a1, iv (4 : Int32), .unset, .unset] [(.int (6 : Int32))]) := fun t k => k3 t (X2.arraylength hx (by rw [e2]; exact Ar4.1) (State.isArrayOf_alike hZ.alike Ar4.2.1) (g := (mkF m 4 #[rv a1, iv (4 : Int32), .unset, .unset] [(.ref b1)])) rfl rfl (hb hby d_jdk_2005_method_3_code_4) _ (by rw [len_of S4 M4]; exact k))
  have k6 : Way p e below S0 T2 (mkF m 31 #[rv a1, iv (4 : Int32), iv (6 : Int32), iv (-2 : Int32)] []) := by
    intro t k
    refine k5 t ?_
    refine XS.istoreN X2.here hx rfl (hb hby d_jdk_2005_method_3_code_5) rfl (l' := #[rv a1, iv (4 : Int32), iv (6 : Int32), .unset]) rfl ?_
    show Steps p.tables e below (T2.setTop (mkF m 6 #[rv a1, iv (4 : Int32), iv (6 : Int32), .unset] [])) _
    refine XS.iloadN X2.here hx rfl (hb hby d_jdk_2005_method_3_code_6) rfl ?_
    show Steps p.tables e below (T2.setTop (mkF m 7 #[rv a1, iv (4 : Int32), iv (6 : Int32), .unset] [(.int (4 : Int32))])) _
    refine XS.iloadN X2.here hx rfl (hb hby d_jdk_2005_method_3_code_7) rfl ?_
    show Steps p.tables e below (T2.setTop (mkF m 8 #[rv a1, iv (4 : Int32), iv (6 : Int32), .unset] [(.int (6 : Int32)), (.int (4 : Int32))])) _
    refine XS.isub X2.here hx rfl (hb hby d_jdk_2005_method_3_code_8) rfl ?_
    show Steps p.tables e below (T2.setTop (mkF m 9 #[rv a1, iv (4 : Int32), iv (6 : Int32), .unset] [(.int (-2 : Int32))])) _
    refine XS.istoreN X2.here hx rfl (hb hby d_jdk_2005_method_3_code_9) rfl (l' := #[rv a1, iv (4 : Int32), iv (6 : Int32), iv (-2 : Int32)]) rfl ?_
    show Steps p.tables e below (T2.setTop (mkF m 10 #[rv a1, iv (4 : Int32), iv (6 : Int32), iv (-2 : Int32)] [])) _
    refine XS.iloadN X2.here hx rfl (hb hby d_jdk_2005_method_3_code_10) rfl ?_
    show Steps p.tables e below (T2.setTop (mkF m 11 #[rv a1, iv (4 : Int32), iv (6 : Int32), iv (-2 : Int32)] [(.int (-2 : Int32))])) _
    refine XS.ifYes X2.here hx rfl (pc0 := 11) (pc' := 31) rfl (hb hby d_jdk_2005_method_3_code_11) rfl ((if0 _ _).trans (flt ((by decide) : ¬ ((0 : Int32) < (-2 : Int32)))).2.2.2) (by decide) (by decide) ?_
    show Steps p.tables e below (T2.setTop (mkF m 31 #[rv a1, iv (4 : Int32), iv (6 : Int32), iv (-2 : Int32)] [])) _
    exact k
  obtain ⟨fs, hr, hrun, hended, hW, hsame⟩ := X2.leave (v := none) (fun _ => rfl)
  refine ⟨_, _, k6 _ (X2.returnOut hx Bd.returns (hb hby d_jdk_2005_method_3_code_31) hr), hrun, hended, _, _, rfl, ?_, ⟨_, rfl⟩, hW, hsame.mono (by decide) (by decide)⟩
  show Q_ens3 Z w_POLL a1 b1 kb q0 q1 q2 q3 q4 q5 h0 n0 _ T2.heap _
  rw [e2]
  exact ⟨rfl, N0, rfl, rfl⟩
def Q_ens4 (Z : State) (w_POLL : Addr) (a1 : Addr) (b1 : Addr) (kb : ClassId) (q0 : Int32) (q1 : Int32) (q2 : Int32) (q3 : Int32) (q4 : Int32) (q5 : Int32) (h0 : Heap) (n0 : Nat) (v : Option Value) (h : Heap) (L : List Loc) : Prop := (v = none) ∧ (Fr n0 L) ∧ (h = h0) ∧ (L = [])
set_option maxRecDepth 65536 in
set_option maxHeartbeats 40000000 in
theorem ens4 (l : Launch) (Z : State) (a0 : Array Value) (hw : ∀ d ∈ tables_1, d.before a0 Z = true) (ws : List Jvm.Cond) (w_POLL : Addr) (G : Gst Z w_POLL) (a1 : Addr) (b1 : Addr) (kb : ClassId) (q0 : Int32) (q1 : Int32) (q2 : Int32) (q3 : Int32) (q4 : Int32) (q5 : Int32) (h0 : Heap) (n0 : Nat) (O0 : Old Z n0 h0) (a_0 : Fld Z h0 a1 "java/io/ByteArrayOutputStream" "buf" "[B" (.ref b1)) (a_1 : Arv Z h0 b1 kb .byte (6 : Int32) [(.int q0), (.int q1), (.int q2), (.int q3), (.int q4), (.int q5)] (.int (0 : Int32))) :
    MetFree l (⟨"java/io/ByteArrayOutputStream", "ensureCapacity", "(I)V"⟩ : MethodName) (head1 (Jvm.Cond.code (⟨"java/io/ByteArrayOutputStream", "ensureCapacity", "(I)V"⟩ : MethodName) jdk_2005_method_3_code 4 none :: ws) ({ frames := 0, cells := 0, slots := 0, locals := 0 } : Room)) (fun a U => a = #[(.ref a1), (.int (5 : Int32))] ∧ Z.Warmed39 U.vm ∧ U.heap = h0) (fun _ _ _ _ _ => True) (fun _ U o U' => ∃ v L, o = .returned v ∧ Q_ens4 Z w_POLL a1 b1 kb q0 q1 q2 q3 q4 q5 h0 n0 v U'.heap L ∧ FrameEnd U o U' L ({ frames := 0, cells := 0, slots := 0, locals := 0 } : Room).cells ({ frames := 0, cells := 0, slots := 0, locals := 0 } : Room).slots) := by
  refine MetFree.of_bodySF (plainFor_of_name pn_2) hisR ?_
  intro p e s m args below meth c s₁ Bd hml0 hP hK
  obtain ⟨rfl, hZ, hh⟩ := hP
  have hx := Bd.exec
  have hby := Bd.bytes
  have hml : c.maxLocals = 4 := hml0
  have hown : s.vm.findClass "java/io/ByteArrayOutputStream" = some m.cls := findClass_of_methodNamed Bd.named
  have hnm := (name_of_methodNamed Bd.named Bd.method).1
  have X0 : Stand p l e ({ frames := 0, cells := 0, slots := 0, locals := 0 } : Room) s m #[(.ref a1), (.int (5 : Int32))] below meth c s₁ [] 0 0 := Stand.of_body Bd
  have e0 : s₁.heap = h0 := by rw [← hh, Bd.state]; rfl
  have N0 := Fr.nil n0
  obtain ⟨S_w_POLL, E_w_POLL, F_w_POLL_letter⟩ := id G
  have k0 : Way p e below (s₁.setTop (entryFrame m #[(.ref a1), (.int (5 : Int32))] 4)) s₁ (mkF m 0 #[rv a1, iv (5 : Int32), .unset, .unset] []) := fun t k => castTop (by first | (simp [entryFrame, mkF, argsToLocals, Value.category]; done) | rfl) k
  generalize s₁.setTop (entryFrame m #[(.ref a1), (.int (5 : Int32))] 4) = S0 at k0 ⊢
  have k1 : Way p e below S0 s₁ (mkF m 1 #[rv a1, iv (5 : Int32), .unset, .unset] [(.ref a1)]) := by
    intro t k
    refine k0 t ?_
    refine XS.aloadN X0.here hx rfl (hb hby d_jdk_2005_method_3_code_0) rfl rfl ?_
    show Steps p.tables e below (s₁.setTop (mkF m 1 #[rv a1, iv (5 : Int32), .unset, .unset] [(.ref a1)])) _
    exact k
  obtain ⟨T2, X2, e2, st2⟩ := getF X0 hx hZ hown (host := "") (Or.inl (hw _ (List.mem_of_getElem? (i := 65) rfl))) Via.refl e0 a_0 (g := (mkF m 1 #[rv a1, iv (5 : Int32), .unset, .unset] [(.ref a1)])) rfl rfl (hb hby d_jdk_2005_method_3_code_1)
  have k3 : Way p e below S0 T2 (mkF m 4 #[rv a1, iv (5 : Int32), .unset, .unset] [(.ref b1)]) := fun t k => k1 t (st2 _ k)
  obtain ⟨cl4, Ar4, -, S4, M4, -, -⟩ := id (a_1)
  have k5 : Way p e below S0 T2 (mkF m 5 #[rv a1, iv (5 : Int32), .unset, .unset] [(.int (6 : Int32))]) := fun t k => k3 t (X2.arraylength hx (by rw [e2]; exact Ar4.1) (State.isArrayOf_alike hZ.alike Ar4.2.1) (g := (mkF m 4 #[rv a1, iv (5 : Int32), .unset, .unset] [(.ref b1)])) rfl rfl (hb hby d_jdk_2005_method_3_code_4) _ (by rw [len_of S4 M4]; exact k))
  have k6 : Way p e below S0 T2 (mkF m 31 #[rv a1, iv (5 : Int32), iv (6 : Int32), iv (-1 : Int32)] []) := by
    intro t k
    refine k5 t ?_
    refine XS.istoreN X2.here hx rfl (hb hby d_jdk_2005_method_3_code_5) rfl (l' := #[rv a1, iv (5 : Int32), iv (6 : Int32), .unset]) rfl ?_
    show Steps p.tables e below (T2.setTop (mkF m 6 #[rv a1, iv (5 : Int32), iv (6 : Int32), .unset] [])) _
    refine XS.iloadN X2.here hx rfl (hb hby d_jdk_2005_method_3_code_6) rfl ?_
    show Steps p.tables e below (T2.setTop (mkF m 7 #[rv a1, iv (5 : Int32), iv (6 : Int32), .unset] [(.int (5 : Int32))])) _
    refine XS.iloadN X2.here hx rfl (hb hby d_jdk_2005_method_3_code_7) rfl ?_
    show Steps p.tables e below (T2.setTop (mkF m 8 #[rv a1, iv (5 : Int32), iv (6 : Int32), .unset] [(.int (6 : Int32)), (.int (5 : Int32))])) _
    refine XS.isub X2.here hx rfl (hb hby d_jdk_2005_method_3_code_8) rfl ?_
    show Steps p.tables e below (T2.setTop (mkF m 9 #[rv a1, iv (5 : Int32), iv (6 : Int32), .unset] [(.int (-1 : Int32))])) _
    refine XS.istoreN X2.here hx rfl (hb hby d_jdk_2005_method_3_code_9) rfl (l' := #[rv a1, iv (5 : Int32), iv (6 : Int32), iv (-1 : Int32)]) rfl ?_
    show Steps p.tables e below (T2.setTop (mkF m 10 #[rv a1, iv (5 : Int32), iv (6 : Int32), iv (-1 : Int32)] [])) _
    refine XS.iloadN X2.here hx rfl (hb hby d_jdk_2005_method_3_code_10) rfl ?_
    show Steps p.tables e below (T2.setTop (mkF m 11 #[rv a1, iv (5 : Int32), iv (6 : Int32), iv (-1 : Int32)] [(.int (-1 : Int32))])) _
    refine XS.ifYes X2.here hx rfl (pc0 := 11) (pc' := 31) rfl (hb hby d_jdk_2005_method_3_code_11) rfl ((if0 _ _).trans (flt ((by decide) : ¬ ((0 : Int32) < (-1 : Int32)))).2.2.2) (by decide) (by decide) ?_
    show Steps p.tables e below (T2.setTop (mkF m 31 #[rv a1, iv (5 : Int32), iv (6 : Int32), iv (-1 : Int32)] [])) _
    exact k
  obtain ⟨fs, hr, hrun, hended, hW, hsame⟩ := X2.leave (v := none) (fun _ => rfl)
  refine ⟨_, _, k6 _ (X2.returnOut hx Bd.returns (hb hby d_jdk_2005_method_3_code_31) hr), hrun, hended, _, _, rfl, ?_, ⟨_, rfl⟩, hW, hsame.mono (by decide) (by decide)⟩
  show Q_ens4 Z w_POLL a1 b1 kb q0 q1 q2 q3 q4 q5 h0 n0 _ T2.heap _
  rw [e2]
  exact ⟨rfl, N0, rfl, rfl⟩
def Q_ens5 (Z : State) (w_POLL : Addr) (a1 : Addr) (b1 : Addr) (kb : ClassId) (q0 : Int32) (q1 : Int32) (q2 : Int32) (q3 : Int32) (q4 : Int32) (q5 : Int32) (h0 : Heap) (n0 : Nat) (v : Option Value) (h : Heap) (L : List Loc) : Prop := (v = none) ∧ (Fr n0 L) ∧ (h = h0) ∧ (L = [])
set_option maxRecDepth 65536 in
set_option maxHeartbeats 40000000 in
theorem ens5 (l : Launch) (Z : State) (a0 : Array Value) (hw : ∀ d ∈ tables_1, d.before a0 Z = true) (ws : List Jvm.Cond) (w_POLL : Addr) (G : Gst Z w_POLL) (a1 : Addr) (b1 : Addr) (kb : ClassId) (q0 : Int32) (q1 : Int32) (q2 : Int32) (q3 : Int32) (q4 : Int32) (q5 : Int32) (h0 : Heap) (n0 : Nat) (O0 : Old Z n0 h0) (a_0 : Fld Z h0 a1 "java/io/ByteArrayOutputStream" "buf" "[B" (.ref b1)) (a_1 : Arv Z h0 b1 kb .byte (6 : Int32) [(.int q0), (.int q1), (.int q2), (.int q3), (.int q4), (.int q5)] (.int (0 : Int32))) :
    MetFree l (⟨"java/io/ByteArrayOutputStream", "ensureCapacity", "(I)V"⟩ : MethodName) (head1 (Jvm.Cond.code (⟨"java/io/ByteArrayOutputStream", "ensureCapacity", "(I)V"⟩ : MethodName) jdk_2005_method_3_code 4 none :: ws) ({ frames := 0, cells := 0, slots := 0, locals := 0 } : Room)) (fun a U => a = #[(.ref a1), (.int (6 : Int32))] ∧ Z.Warmed39 U.vm ∧ U.heap = h0) (fun _ _ _ _ _ => True) (fun _ U o U' => ∃ v L, o = .returned v ∧ Q_ens5 Z w_POLL a1 b1 kb q0 q1 q2 q3 q4 q5 h0 n0 v U'.heap L ∧ FrameEnd U o U' L ({ frames := 0, cells := 0, slots := 0, locals := 0 } : Room).cells ({ frames := 0, cells := 0, slots := 0, locals := 0 } : Room).slots) := by
  refine MetFree.of_bodySF (plainFor_of_name pn_2) hisR ?_
  intro p e s m args below meth c s₁ Bd hml0 hP hK
  obtain ⟨rfl, hZ, hh⟩ := hP
  have hx := Bd.exec
  have hby := Bd.bytes
  have hml : c.maxLocals = 4 := hml0
  have hown : s.vm.findClass "java/io/ByteArrayOutputStream" = some m.cls := findClass_of_methodNamed Bd.named
  have hnm := (name_of_methodNamed Bd.named Bd.method).1
  have X0 : Stand p l e ({ frames := 0, cells := 0, slots := 0, locals := 0 } : Room) s m #[(.ref a1), (.int (6 : Int32))] below meth c s₁ [] 0 0 := Stand.of_body Bd
  have e0 : s₁.heap = h0 := by rw [← hh, Bd.state]; rfl
  have N0 := Fr.nil n0
  obtain ⟨S_w_POLL, E_w_POLL, F_w_POLL_letter⟩ := id G
  have k0 : Way p e below (s₁.setTop (entryFrame m #[(.ref a1), (.int (6 : Int32))] 4)) s₁ (mkF m 0 #[rv a1, iv (6 : Int32), .unset, .unset] []) := fun t k => castTop (by first | (simp [entryFrame, mkF, argsToLocals, Value.category]; done) | rfl) k
  generalize s₁.setTop (entryFrame m #[(.ref a1), (.int (6 : Int32))] 4) = S0 at k0 ⊢
  have k1 : Way p e below S0 s₁ (mkF m 1 #[rv a1, iv (6 : Int32), .unset, .unset] [(.ref a1)]) := by
    intro t k
    refine k0 t ?_
    refine XS.aloadN X0.here hx rfl (hb hby d_jdk_2005_method_3_code_0) rfl rfl ?_
    show Steps p.tables e below (s₁.setTop (mkF m 1 #[rv a1, iv (6 : Int32), .unset, .unset] [(.ref a1)])) _
    exact k
  obtain ⟨T2, X2, e2, st2⟩ := getF X0 hx hZ hown (host := "") (Or.inl (hw _ (List.mem_of_getElem? (i := 65) rfl))) Via.refl e0 a_0 (g := (mkF m 1 #[rv a1, iv (6 : Int32), .unset, .unset] [(.ref a1)])) rfl rfl (hb hby d_jdk_2005_method_3_code_1)
  have k3 : Way p e below S0 T2 (mkF m 4 #[rv a1, iv (6 : Int32), .unset, .unset] [(.ref b1)]) := fun t k => k1 t (st2 _ k)
  obtain ⟨cl4, Ar4, -, S4, M4, -, -⟩ := id (a_1)
  have k5 : Way p e below S0 T2 (mkF m 5 #[rv a1, iv (6 : Int32), .unset, .unset] [(.int (6 : Int32))]) := fun t k => k3 t (X2.arraylength hx (by rw [e2]; exact Ar4.1) (State.isArrayOf_alike hZ.alike Ar4.2.1) (g := (mkF m 4 #[rv a1, iv (6 : Int32), .unset, .unset] [(.ref b1)])) rfl rfl (hb hby d_jdk_2005_method_3_code_4) _ (by rw [len_of S4 M4]; exact k))
  have k6 : Way p e below S0 T2 (mkF m 31 #[rv a1, iv (6 : Int32), iv (6 : Int32), iv (0 : Int32)] []) := by
    intro t k
    refine k5 t ?_
    refine XS.istoreN X2.here hx rfl (hb hby d_jdk_2005_method_3_code_5) rfl (l' := #[rv a1, iv (6 : Int32), iv (6 : Int32), .unset]) rfl ?_
    show Steps p.tables e below (T2.setTop (mkF m 6 #[rv a1, iv (6 : Int32), iv (6 : Int32), .unset] [])) _
    refine XS.iloadN X2.here hx rfl (hb hby d_jdk_2005_method_3_code_6) rfl ?_
    show Steps p.tables e below (T2.setTop (mkF m 7 #[rv a1, iv (6 : Int32), iv (6 : Int32), .unset] [(.int (6 : Int32))])) _
    refine XS.iloadN X2.here hx rfl (hb hby d_jdk_2005_method_3_code_7) rfl ?_
    show Steps p.tables e below (T2.setTop (mkF m 8 #[rv a1, iv (6 : Int32), iv (6 : Int32), .unset] [(.int (6 : Int32)), (.int (6 : Int32))])) _
    refine XS.isub X2.here hx rfl (hb hby d_jdk_2005_method_3_code_8) rfl ?_
    show Steps p.tables e below (T2.setTop (mkF m 9 #[rv a1, iv (6 : Int32), iv (6 : Int32), .unset] [(.int (0 : Int32))])) _
    refine XS.istoreN X2.here hx rfl (hb hby d_jdk_2005_method_3_code_9) rfl (l' := #[rv a1, iv (6 : Int32), iv (6 : Int32), iv (0 : Int32)]) rfl ?_
    show Steps p.tables e below (T2.setTop (mkF m 10 #[rv a1, iv (6 : Int32), iv (6 : Int32), iv (0 : Int32)] [])) _
    refine XS.iloadN X2.here hx rfl (hb hby d_jdk_2005_method_3_code_10) rfl ?_
    show Steps p.tables e below (T2.setTop (mkF m 11 #[rv a1, iv (6 : Int32), iv (6 : Int32), iv (0 : Int32)] [(.int (0 : Int32))])) _
    refine XS.ifYes X2.here hx rfl (pc0 := 11) (pc' := 31) rfl (hb hby d_jdk_2005_method_3_code_11) rfl ((if0 _ _).trans (flt ((by decide) : ¬ ((0 : Int32) < (0 : Int32)))).2.2.2) (by decide) (by decide) ?_
    show Steps p.tables e below (T2.setTop (mkF m 31 #[rv a1, iv (6 : Int32), iv (6 : Int32), iv (0 : Int32)] [])) _
    exact k
  obtain ⟨fs, hr, hrun, hended, hW, hsame⟩ := X2.leave (v := none) (fun _ => rfl)
  refine ⟨_, _, k6 _ (X2.returnOut hx Bd.returns (hb hby d_jdk_2005_method_3_code_31) hr), hrun, hended, _, _, rfl, ?_, ⟨_, rfl⟩, hW, hsame.mono (by decide) (by decide)⟩
  show Q_ens5 Z w_POLL a1 b1 kb q0 q1 q2 q3 q4 q5 h0 n0 _ T2.heap _
  rw [e2]
  exact ⟨rfl, N0, rfl, rfl⟩
def Q_wr0 (Z : State) (w_POLL : Addr) (a1 : Addr) (p2 : Int32) (b1 : Addr) (kb : ClassId) (q0 : Int32) (q1 : Int32) (q2 : Int32) (q3 : Int32) (q4 : Int32) (q5 : Int32) (h0 : Heap) (n0 : Nat) (v : Option Value) (h : Heap) (L : List Loc) : Prop := (v = none) ∧ (Fr n0 L) ∧ (Keep h0 h [a1, b1]) ∧ (Exa Z h a1 "java/io/ByteArrayOutputStream") ∧ (Fld Z h a1 "java/io/ByteArrayOutputStream" "buf" "[B" (.ref b1)) ∧ (Fld Z h a1 "java/io/ByteArrayOutputStream" "count" "I" (.int (1 : Int32))) ∧ (Arv Z h b1 kb .byte (6 : Int32) [(.int ((p2.toInt8.toInt32).toInt8.toInt32)), (.int q1), (.int q2), (.int q3), (.int q4), (.int q5)] (.int (0 : Int32))) ∧ (Unt h a1)
set_option maxRecDepth 65536 in
set_option maxHeartbeats 40000000 in
theorem wr0 (l : Launch) (Z : State) (a0 : Array Value) (hw : ∀ d ∈ tables_1, d.before a0 Z = true) (ws : List Jvm.Cond) (w_POLL : Addr) (G : Gst Z w_POLL) (a1 : Addr) (p2 : Int32) (b1 : Addr) (kb : ClassId) (q0 : Int32) (q1 : Int32) (q2 : Int32) (q3 : Int32) (q4 : Int32) (q5 : Int32) (h0 : Heap) (n0 : Nat) (O0 : Old Z n0 h0) (a_0 : Exa Z h0 a1 "java/io/ByteArrayOutputStream") (a_1 : Fld Z h0 a1 "java/io/ByteArrayOutputStream" "buf" "[B" (.ref b1)) (a_2 : Fld Z h0 a1 "java/io/ByteArrayOutputStream" "count" "I" (.int (0 : Int32))) (a_3 : Arv Z h0 b1 kb .byte (6 : Int32) [(.int q0), (.int q1), (.int q2), (.int q3), (.int q4), (.int q5)] (.int (0 : Int32))) (a_4 : Unt h0 a1) (ga1 : n0 ≤ a1) (gb1 : n0 ≤ b1) (hne : a1 ≠ b1) :
    MetFree l (⟨"java/io/ByteArrayOutputStream", "write", "(I)V"⟩ : MethodName) (head1 (Jvm.Cond.codeSync (⟨"java/io/ByteArrayOutputStream", "write", "(I)V"⟩ : MethodName) jdk_2005_method_4_code 2 none :: Jvm.Cond.instanceMethod (⟨"java/io/ByteArrayOutputStream", "write", "(I)V"⟩ : MethodName) :: ws) ({ frames := 1, cells := 0, slots := 0, locals := 17 } : Room)) (fun a U => a = #[(.ref a1), (.int p2)] ∧ Z.Warmed39 U.vm ∧ U.heap = h0 ∧ ∃ cell : Cell, h0[a1]? = some cell ∧ cell.enterable U.cur) (fun _ _ _ _ _ => True) (fun _ U o U' => ∃ v L, o = .returned v ∧ Q_wr0 Z w_POLL a1 p2 b1 kb q0 q1 q2 q3 q4 q5 h0 n0 v U'.heap L ∧ FrameEnd U o U' L ({ frames := 1, cells := 0, slots := 0, locals := 17 } : Room).cells ({ frames := 1, cells := 0, slots := 0, locals := 17 } : Room).slots) := by
  refine MetFree.of_bodySync (plainFor_of_name pn_2) (hisS (List.mem_cons_self ..)) (fun _ s _ ⟨h1, _, h2, cl, h3, h4⟩ => ⟨a1, cl, by rw [h1]; rfl, by rw [h2]; exact h3, h4⟩) ?_
  intro p e s0 m args below meth c a' cell s₁ Bd hml0 hP _
  obtain ⟨rfl, hZ0, hh0, -⟩ := hP
  cases Bd.receiver
  have hx := Bd.exec
  have hby : c.code = jdk_2005_method_4_code := Bd.bytes
  have hml : c.maxLocals = 2 := hml0
  have X0 : Stand p l e ({ frames := 1, cells := 0, slots := 0, locals := 17 } : Room) (s0.setCell a1 (cell.withEntry s0.cur)) m #[(.ref a1), (.int p2)] below meth c s₁ [] 0 0 := Stand.of_bodySync Bd
  have hZ : Z.Warmed39 (s0.setCell a1 (cell.withEntry s0.cur)).vm := hZ0
  have hown : (s0.setCell a1 (cell.withEntry s0.cur)).vm.findClass "java/io/ByteArrayOutputStream" = some m.cls := (findClass_of_methodNamed Bd.named :)
  have h1e : s₁.heap = h0.setIfInBounds a1 (cell.withEntry s0.cur) := by rw [Bd.state, ← hh0]; rfl
  have hc0 : h0[a1]? = some cell := by rw [← hh0]; exact Bd.object
  have M0 : Mon h0 s₁.heap := by rw [h1e]; exact mon_set hc0 _
  have O1 : Old Z n0 s₁.heap := by rw [h1e]; exact own_oldset O0 ga1
  have N0 := Fr.nil n0
  have e0 : s₁.heap = s₁.heap := rfl
  have k0 : Way p e below (s₁.setTop (mkL a1 m 0 #[rv a1, iv p2] [])) s₁ (mkL a1 m 0 #[rv a1, iv p2] []) := fun t k => k
  show ∃ s₂ o, Steps p.tables e below (s₁.setTop (mkL a1 m 0 #[rv a1, iv p2] [])) s₂ ∧ _
  generalize s₁.setTop (mkL a1 m 0 #[rv a1, iv p2] []) = S0 at k0 ⊢
  have k1 : Way p e below S0 s₁ (mkL a1 m 2 #[rv a1, iv p2] [(.ref a1), (.ref a1)]) := by
    intro t k
    refine k0 t ?_
    refine XS.aloadN X0.here hx rfl (hb hby d_jdk_2005_method_4_code_0) rfl rfl ?_
    show Steps p.tables e below (s₁.setTop (mkL a1 m 1 #[rv a1, iv p2] [(.ref a1)])) _
    refine XS.aloadN X0.here hx rfl (hb hby d_jdk_2005_method_4_code_1) rfl rfl ?_
    show Steps p.tables e below (s₁.setTop (mkL a1 m 2 #[rv a1, iv p2] [(.ref a1), (.ref a1)])) _
    exact k
  obtain ⟨T2, X2, e2, st2⟩ := getF X0 hx hZ hown (host := "") (Or.inl (hw _ (List.mem_of_getElem? (i := 72) rfl))) Via.refl rfl (a_2.mon M0) (g := (mkL a1 m 2 #[rv a1, iv p2] [(.ref a1), (.ref a1)])) rfl rfl (hb hby d_jdk_2005_method_4_code_2)
  have k3 : Way p e below S0 T2 (mkL a1 m 5 #[rv a1, iv p2] [(.int (0 : Int32)), (.ref a1)]) := fun t k => k1 t (st2 _ k)
  have k4 : Way p e below S0 T2 (mkL a1 m 7 #[rv a1, iv p2] [(.int (1 : Int32)), (.ref a1)]) := by
    intro t k
    refine k3 t ?_
    refine XS.iconst X2.here hx rfl (hb hby d_jdk_2005_method_4_code_5) ?_
    show Steps p.tables e below (T2.setTop (mkL a1 m 6 #[rv a1, iv p2] [(.int (1 : Int32)), (.int (0 : Int32)), (.ref a1)])) _
    refine XS.iadd X2.here hx rfl (hb hby d_jdk_2005_method_4_code_6) rfl ?_
    show Steps p.tables e below (T2.setTop (mkL a1 m 7 #[rv a1, iv p2] [(.int (1 : Int32)), (.ref a1)])) _
    exact k
  obtain ⟨cq5, qv5, qv5'⟩ := (a_0.mon M0).cell
  obtain ⟨_, _, ⟨T5, L5, kk5, nn5⟩, -, X5, ⟨Lc5, hQ5, l5, y5, z5⟩, st5⟩ := X2.privateBack hx (y := (⟨"java/io/ByteArrayOutputStream", "ensureCapacity", "(I)V"⟩ : MethodName)) hown (mvT hZ (hw _ (List.mem_of_getElem? (i := 74) rfl))) (mvT hZ (hw _ (List.mem_of_getElem? (i := 75) rfl))) (mvT hZ (hw _ (List.mem_of_getElem? (i := 77) rfl))) (Cond.privateMethod_at (mvP hZ (hw _ (List.mem_of_getElem? (i := 76) rfl)) (args := #[]))) (mvT hZ (hw _ (List.mem_of_getElem? (i := 78) rfl))) (by decide) (backOf (W := 2) (ens0 l Z a0 hw [] w_POLL G a1 b1 kb q0 q1 q2 q3 q4 q5 s₁.heap n0 O1 ((a_1.mon M0) : Fld Z s₁.heap a1 "java/io/ByteArrayOutputStream" "buf" "[B" (.ref b1)) ((own_arvmon a_3 M0) : Arv Z s₁.heap b1 kb .byte (6 : Int32) [(.int q0), (.int q1), (.int q2), (.int q3), (.int q4), (.int q5)] (.int (0 : Int32)))) hZ (hw _ (List.mem_of_getElem? (i := 78) rfl)) (hw _ (List.mem_of_getElem? (i := 54) rfl)) (by decide) (by decide)) (g := (mkL a1 m 7 #[rv a1, iv p2] [(.int (1 : Int32)), (.ref a1)])) rfl (by rw [hml]; rfl) (Steps.refl _) (a := a1) (by rw [e2]; exact qv5) qv5' (argsL := [(.int (1 : Int32))]) (rest := []) (lenOf pd_2 rfl) rfl (by show 2 * 1 + _ ≤ _; exact Nat.le_of_eq rfl) (hb hby d_jdk_2005_method_4_code_7) (fun _ _ => ⟨rfl, e2, (by decide : 0 + 0 ≤ _), (by decide : 0 + 0 ≤ _)⟩)
  dsimp only [Pt.U, Pt.locs, Pt.cells, Pt.slots] at X5 l5 y5 z5 st5 hQ5
  subst l5 y5 z5
  obtain ⟨rfl, Nq5, e5, po5_0⟩ := hQ5
  have N5 := Fr.app N0 Nq5
  subst po5_0
  have k6 : Way p e below S0 T5 (mkL a1 m 10 #[rv a1, iv p2] []) := fun t k => k4 t (st5.trans k)
  have k7 : Way p e below S0 T5 (mkL a1 m 11 #[rv a1, iv p2] [(.ref a1)]) := by
    intro t k
    refine k6 t ?_
    refine XS.aloadN X5.here hx rfl (hb hby d_jdk_2005_method_4_code_10) rfl rfl ?_
    show Steps p.tables e below (T5.setTop (mkL a1 m 11 #[rv a1, iv p2] [(.ref a1)])) _
    exact k
  obtain ⟨T8, X8, e8, st8⟩ := getF X5 hx hZ hown (host := "") (Or.inl (hw _ (List.mem_of_getElem? (i := 65) rfl))) Via.refl e5 (a_1.mon M0) (g := (mkL a1 m 11 #[rv a1, iv p2] [(.ref a1)])) rfl rfl (hb hby d_jdk_2005_method_4_code_11)
  have k9 : Way p e below S0 T8 (mkL a1 m 14 #[rv a1, iv p2] [(.ref b1)]) := fun t k => k7 t (st8 _ k)
  have k10 : Way p e below S0 T8 (mkL a1 m 15 #[rv a1, iv p2] [(.ref a1), (.ref b1)]) := by
    intro t k
    refine k9 t ?_
    refine XS.aloadN X8.here hx rfl (hb hby d_jdk_2005_method_4_code_14) rfl rfl ?_
    show Steps p.tables e below (T8.setTop (mkL a1 m 15 #[rv a1, iv p2] [(.ref a1), (.ref b1)])) _
    exact k
  obtain ⟨T11, X11, e11, st11⟩ := getF X8 hx hZ hown (host := "") (Or.inl (hw _ (List.mem_of_getElem? (i := 72) rfl))) Via.refl e8 (a_2.mon M0) (g := (mkL a1 m 15 #[rv a1, iv p2] [(.ref a1), (.ref b1)])) rfl rfl (hb hby d_jdk_2005_method_4_code_15)
  have k12 : Way p e below S0 T11 (mkL a1 m 18 #[rv a1, iv p2] [(.int (0 : Int32)), (.ref b1)]) := fun t k => k10 t (st11 _ k)
  have k13 : Way p e below S0 T11 (mkL a1 m 20 #[rv a1, iv p2] [(.int (p2.toInt8.toInt32)), (.int (0 : Int32)), (.ref b1)]) := by
    intro t k
    refine k12 t ?_
    refine XS.iloadN X11.here hx rfl (hb hby d_jdk_2005_method_4_code_18) rfl ?_
    show Steps p.tables e below (T11.setTop (mkL a1 m 19 #[rv a1, iv p2] [(.int p2), (.int (0 : Int32)), (.ref b1)])) _
    refine XS.i2b X11.here hx rfl (hb hby d_jdk_2005_method_4_code_19) rfl ?_
    show Steps p.tables e below (T11.setTop (mkL a1 m 20 #[rv a1, iv p2] [(.int (p2.toInt8.toInt32)), (.int (0 : Int32)), (.ref b1)])) _
    exact k
  obtain ⟨cl14, Ar14, qc14, S14, M14, U14, G14⟩ := id ((own_arvmon a_3 M0))
  have hin14 : ¬ ((0 : Int32) < 0 ∨ cl14.slots.size ≤ ((0 : Int32)).toNatClampNeg) := inb_of S14 ⟨by decide, by decide⟩
  obtain ⟨T14, h14, X14, e14, W14, st14⟩ := stB X11 hx hZ e11 Ar14 (j := (0 : Int32)) hin14 (g := (mkL a1 m 20 #[rv a1, iv p2] [(.int (p2.toInt8.toInt32)), (.int (0 : Int32)), (.ref b1)])) rfl rfl (hb hby d_jdk_2005_method_4_code_20)
  have O14 := O1.wr W14 gb1
  have N14 := Fr.snoc X14 N5 gb1
  have va14 : Arv Z h14 b1 kb .byte (6 : Int32) [(.int ((p2.toInt8.toInt32).toInt8.toInt32)), (.int q1), (.int q2), (.int q3), (.int q4), (.int q5)] (.int (0 : Int32)) := Arv.set Ar14 qc14 S14 M14 U14 G14 (fits_nar_byte _) W14 0 rfl (Nat.le_of_ble_eq_true rfl)
  have k15 : Way p e below S0 T14 (mkL a1 m 21 #[rv a1, iv p2] []) := fun t k => k13 t (st14 _ k)
  have k16 : Way p e below S0 T14 (mkL a1 m 23 #[rv a1, iv p2] [(.ref a1), (.ref a1)]) := by
    intro t k
    refine k15 t ?_
    refine XS.aloadN X14.here hx rfl (hb hby d_jdk_2005_method_4_code_21) rfl rfl ?_
    show Steps p.tables e below (T14.setTop (mkL a1 m 22 #[rv a1, iv p2] [(.ref a1)])) _
    refine XS.dup X14.here hx rfl (hb hby d_jdk_2005_method_4_code_22) rfl rfl ?_
    show Steps p.tables e below (T14.setTop (mkL a1 m 23 #[rv a1, iv p2] [(.ref a1), (.ref a1)])) _
    exact k
  have f17 : Fld Z h14 a1 "java/io/ByteArrayOutputStream" "count" "I" (.int (0 : Int32)) := ((a_2.mon M0).other W14 (Or.inl hne))
  obtain ⟨T18, X18, e18, st18⟩ := getF X14 hx hZ hown (host := "") (Or.inl (hw _ (List.mem_of_getElem? (i := 72) rfl))) Via.refl e14 f17 (g := (mkL a1 m 23 #[rv a1, iv p2] [(.ref a1), (.ref a1)])) rfl rfl (hb hby d_jdk_2005_method_4_code_23)
  have k19 : Way p e below S0 T18 (mkL a1 m 26 #[rv a1, iv p2] [(.int (0 : Int32)), (.ref a1)]) := fun t k => k16 t (st18 _ k)
  have k20 : Way p e below S0 T18 (mkL a1 m 28 #[rv a1, iv p2] [(.int (1 : Int32)), (.ref a1)]) := by
    intro t k
    refine k19 t ?_
    refine XS.iconst X18.here hx rfl (hb hby d_jdk_2005_method_4_code_26) ?_
    show Steps p.tables e below (T18.setTop (mkL a1 m 27 #[rv a1, iv p2] [(.int (1 : Int32)), (.int (0 : Int32)), (.ref a1)])) _
    refine XS.iadd X18.here hx rfl (hb hby d_jdk_2005_method_4_code_27) rfl ?_
    show Steps p.tables e below (T18.setTop (mkL a1 m 28 #[rv a1, iv p2] [(.int (1 : Int32)), (.ref a1)])) _
    exact k
  have f21 : Exa Z h14 a1 "java/io/ByteArrayOutputStream" := ((a_0.mon M0).wr W14)
  obtain ⟨T22, h22, X22, e22, W22, st22⟩ := putF X18 hx hZ hown (host := "") (Or.inl (hw _ (List.mem_of_getElem? (i := 72) rfl))) Via.refl e18 f17 f21 (Or.inl (hw _ (List.mem_of_getElem? (i := 73) rfl))) (hw _ (List.mem_of_getElem? (i := 53) rfl)) (ty := .int) (by decide) rfl rfl (g := (mkL a1 m 28 #[rv a1, iv p2] [(.int (1 : Int32)), (.ref a1)])) rfl rfl (hb hby d_jdk_2005_method_4_code_28)
  have O22 := O14.wr W22 ga1
  have N22 := Fr.snoc X22 N14 ga1
  have fw22 : Fld Z h22 a1 "java/io/ByteArrayOutputStream" "count" "I" (.int (1 : Int32)) := f17.same W22
  have k23 : Way p e below S0 T22 (mkL a1 m 31 #[rv a1, iv p2] []) := fun t k => k20 t (st22 _ k)
  obtain ⟨V, hr, hrun, hended, M1, hW, hsame⟩ := leaveS X22 Bd.object Bd.enterable Bd.synchronized (v := none) (fun _ => rfl)
  rw [e22] at M1
  have f24 : Exa Z h22 a1 "java/io/ByteArrayOutputStream" := (f21.wr W22)
  have f25 : Fld Z h22 a1 "java/io/ByteArrayOutputStream" "buf" "[B" (.ref b1) := (((a_1.mon M0).other W14 (Or.inl hne)).other W22 (Or.inr (slot_ne (Or.inl (hw _ (List.mem_of_getElem? (i := 66) rfl))) (Or.inl (hw _ (List.mem_of_getElem? (i := 73) rfl))) (by decide) (t := (.array .byte)) (t' := .int) (by decide) (by decide))))
  have f26 : Arv Z h22 b1 kb .byte (6 : Int32) [(.int ((p2.toInt8.toInt32).toInt8.toInt32)), (.int q1), (.int q2), (.int q3), (.int q4), (.int q5)] (.int (0 : Int32)) := (va14.other W22 (Ne.symm hne))
  refine ⟨V, _, k23 _ (retS0 X22 hx Bd.returns (hb hby d_jdk_2005_method_4_code_31) hr), hrun, hended, _, _, rfl, ?_, ⟨_, rfl⟩, hW, hsame.mono (by decide) (by decide)⟩
  show Q_wr0 Z w_POLL a1 p2 b1 kb q0 q1 q2 q3 q4 q5 h0 n0 _ V.heap _
  exact ⟨rfl, N22, own_keepY hh0 hsame (fun y hy => by simp at hy; rcases hy with rfl | rfl <;> simp), (f24.mon M1), (f25.mon M1), (fw22.mon M1), (own_arvmon f26 M1), (own_untY hh0 a_4 hsame)⟩
def Q_wr1 (Z : State) (w_POLL : Addr) (a1 : Addr) (p2 : Int32) (b1 : Addr) (kb : ClassId) (q0 : Int32) (q1 : Int32) (q2 : Int32) (q3 : Int32) (q4 : Int32) (q5 : Int32) (h0 : Heap) (n0 : Nat) (v : Option Value) (h : Heap) (L : List Loc) : Prop := (v = none) ∧ (Fr n0 L) ∧ (Keep h0 h [a1, b1]) ∧ (Exa Z h a1 "java/io/ByteArrayOutputStream") ∧ (Fld Z h a1 "java/io/ByteArrayOutputStream" "buf" "[B" (.ref b1)) ∧ (Fld Z h a1 "java/io/ByteArrayOutputStream" "count" "I" (.int (2 : Int32))) ∧ (Arv Z h b1 kb .byte (6 : Int32) [(.int q0), (.int ((p2.toInt8.toInt32).toInt8.toInt32)), (.int q2), (.int q3), (.int q4), (.int q5)] (.int (0 : Int32))) ∧ (Unt h a1)
set_option maxRecDepth 65536 in
set_option maxHeartbeats 40000000 in
theorem wr1 (l : Launch) (Z : State) (a0 : Array Value) (hw : ∀ d ∈ tables_1, d.before a0 Z = true) (ws : List Jvm.Cond) (w_POLL : Addr) (G : Gst Z w_POLL) (a1 : Addr) (p2 : Int32) (b1 : Addr) (kb : ClassId) (q0 : Int32) (q1 : Int32) (q2 : Int32) (q3 : Int32) (q4 : Int32) (q5 : Int32) (h0 : Heap) (n0 : Nat) (O0 : Old Z n0 h0) (a_0 : Exa Z h0 a1 "java/io/ByteArrayOutputStream") (a_1 : Fld Z h0 a1 "java/io/ByteArrayOutputStream" "buf" "[B" (.ref b1)) (a_2 : Fld Z h0 a1 "java/io/ByteArrayOutputStream" "count" "I" (.int (1 : Int32))) (a_3 : Arv Z h0 b1 kb .byte (6 : Int32) [(.int q0), (.int q1), (.int q2), (.int q3), (.int q4), (.int q5)] (.int (0 : Int32))) (a_4 : Unt h0 a1) (ga1 : n0 ≤ a1) (gb1 : n0 ≤ b1) (hne : a1 ≠ b1) :
    MetFree l (⟨"java/io/ByteArrayOutputStream", "write", "(I)V"⟩ : MethodName) (head1 (Jvm.Cond.codeSync (⟨"java/io/ByteArrayOutputStream", "write", "(I)V"⟩ : MethodName) jdk_2005_method_4_code 2 none :: Jvm.Cond.instanceMethod (⟨"java/io/ByteArrayOutputStream", "write", "(I)V"⟩ : MethodName) :: ws) ({ frames := 1, cells := 0, slots := 0, locals := 17 } : Room)) (fun a U => a = #[(.ref a1), (.int p2)] ∧ Z.Warmed39 U.vm ∧ U.heap = h0 ∧ ∃ cell : Cell, h0[a1]? = some cell ∧ cell.enterable U.cur) (fun _ _ _ _ _ => True) (fun _ U o U' => ∃ v L, o = .returned v ∧ Q_wr1 Z w_POLL a1 p2 b1 kb q0 q1 q2 q3 q4 q5 h0 n0 v U'.heap L ∧ FrameEnd U o U' L ({ frames := 1, cells := 0, slots := 0, locals := 17 } : Room).cells ({ frames := 1, cells := 0, slots := 0, locals := 17 } : Room).slots) := by
  refine MetFree.of_bodySync (plainFor_of_name pn_2) (hisS (List.mem_cons_self ..)) (fun _ s _ ⟨h1, _, h2, cl, h3, h4⟩ => ⟨a1, cl, by rw [h1]; rfl, by rw [h2]; exact h3, h4⟩) ?_
  intro p e s0 m args below meth c a' cell s₁ Bd hml0 hP _
  obtain ⟨rfl, hZ0, hh0, -⟩ := hP
  cases Bd.receiver
  have hx := Bd.exec
  have hby : c.code = jdk_2005_method_4_code := Bd.bytes
  have hml : c.maxLocals = 2 := hml0
  have X0 : Stand p l e ({ frames := 1, cells := 0, slots := 0, locals := 17 } : Room) (s0.setCell a1 (cell.withEntry s0.cur)) m #[(.ref a1), (.int p2)] below meth c s₁ [] 0 0 := Stand.of_bodySync Bd
  have hZ : Z.Warmed39 (s0.setCell a1 (cell.withEntry s0.cur)).vm := hZ0
  have hown : (s0.setCell a1 (cell.withEntry s0.cur)).vm.findClass "java/io/ByteArrayOutputStream" = some m.cls := (findClass_of_methodNamed Bd.named :)
  have h1e : s₁.heap = h0.setIfInBounds a1 (cell.withEntry s0.cur) := by rw [Bd.state, ← hh0]; rfl
  have hc0 : h0[a1]? = some cell := by rw [← hh0]; exact Bd.object
  have M0 : Mon h0 s₁.heap := by rw [h1e]; exact mon_set hc0 _
  have O1 : Old Z n0 s₁.heap := by rw [h1e]; exact own_oldset O0 ga1
  have N0 := Fr.nil n0
  have e0 : s₁.heap = s₁.heap := rfl
  have k0 : Way p e below (s₁.setTop (mkL a1 m 0 #[rv a1, iv p2] [])) s₁ (mkL a1 m 0 #[rv a1, iv p2] []) := fun t k => k
  show ∃ s₂ o, Steps p.tables e below (s₁.setTop (mkL a1 m 0 #[rv a1, iv p2] [])) s₂ ∧ _
  generalize s₁.setTop (mkL a1 m 0 #[rv a1, iv p2] []) = S0 at k0 ⊢
  have k1 : Way p e below S0 s₁ (mkL a1 m 2 #[rv a1, iv p2] [(.ref a1), (.ref a1)]) := by
    intro t k
    refine k0 t ?_
    refine XS.aloadN X0.here hx rfl (hb hby d_jdk_2005_method_4_code_0) rfl rfl ?_
    show Steps p.tables e below (s₁.setTop (mkL a1 m 1 #[rv a1, iv p2] [(.ref a1)])) _
    refine XS.aloadN X0.here hx rfl (hb hby d_jdk_2005_method_4_code_1) rfl rfl ?_
    show Steps p.tables e below (s₁.setTop (mkL a1 m 2 #[rv a1, iv p2] [(.ref a1), (.ref a1)])) _
    exact k
  obtain ⟨T2, X2, e2, st2⟩ := getF X0 hx hZ hown (host := "") (Or.inl (hw _ (List.mem_of_getElem? (i := 72) rfl))) Via.refl rfl (a_2.mon M0) (g := (mkL a1 m 2 #[rv a1, iv p2] [(.ref a1), (.ref a1)])) rfl rfl (hb hby d_jdk_2005_method_4_code_2)
  have k3 : Way p e below S0 T2 (mkL a1 m 5 #[rv a1, iv p2] [(.int (1 : Int32)), (.ref a1)]) := fun t k => k1 t (st2 _ k)
  have k4 : Way p e below S0 T2 (mkL a1 m 7 #[rv a1, iv p2] [(.int (2 : Int32)), (.ref a1)]) := by
    intro t k
    refine k3 t ?_
    refine XS.iconst X2.here hx rfl (hb hby d_jdk_2005_method_4_code_5) ?_
    show Steps p.tables e below (T2.setTop (mkL a1 m 6 #[rv a1, iv p2] [(.int (1 : Int32)), (.int (1 : Int32)), (.ref a1)])) _
    refine XS.iadd X2.here hx rfl (hb hby d_jdk_2005_method_4_code_6) rfl ?_
    show Steps p.tables e below (T2.setTop (mkL a1 m 7 #[rv a1, iv p2] [(.int (2 : Int32)), (.ref a1)])) _
    exact k
  obtain ⟨cq5, qv5, qv5'⟩ := (a_0.mon M0).cell
  obtain ⟨_, _, ⟨T5, L5, kk5, nn5⟩, -, X5, ⟨Lc5, hQ5, l5, y5, z5⟩, st5⟩ := X2.privateBack hx (y := (⟨"java/io/ByteArrayOutputStream", "ensureCapacity", "(I)V"⟩ : MethodName)) hown (mvT hZ (hw _ (List.mem_of_getElem? (i := 74) rfl))) (mvT hZ (hw _ (List.mem_of_getElem? (i := 75) rfl))) (mvT hZ (hw _ (List.mem_of_getElem? (i := 77) rfl))) (Cond.privateMethod_at (mvP hZ (hw _ (List.mem_of_getElem? (i := 76) rfl)) (args := #[]))) (mvT hZ (hw _ (List.mem_of_getElem? (i := 78) rfl))) (by decide) (backOf (W := 2) (ens1 l Z a0 hw [] w_POLL G a1 b1 kb q0 q1 q2 q3 q4 q5 s₁.heap n0 O1 ((a_1.mon M0) : Fld Z s₁.heap a1 "java/io/ByteArrayOutputStream" "buf" "[B" (.ref b1)) ((own_arvmon a_3 M0) : Arv Z s₁.heap b1 kb .byte (6 : Int32) [(.int q0), (.int q1), (.int q2), (.int q3), (.int q4), (.int q5)] (.int (0 : Int32)))) hZ (hw _ (List.mem_of_getElem? (i := 78) rfl)) (hw _ (List.mem_of_getElem? (i := 54) rfl)) (by decide) (by decide)) (g := (mkL a1 m 7 #[rv a1, iv p2] [(.int (2 : Int32)), (.ref a1)])) rfl (by rw [hml]; rfl) (Steps.refl _) (a := a1) (by rw [e2]; exact qv5) qv5' (argsL := [(.int (2 : Int32))]) (rest := []) (lenOf pd_2 rfl) rfl (by show 2 * 1 + _ ≤ _; exact Nat.le_of_eq rfl) (hb hby d_jdk_2005_method_4_code_7) (fun _ _ => ⟨rfl, e2, (by decide : 0 + 0 ≤ _), (by decide : 0 + 0 ≤ _)⟩)
  dsimp only [Pt.U, Pt.locs, Pt.cells, Pt.slots] at X5 l5 y5 z5 st5 hQ5
  subst l5 y5 z5
  obtain ⟨rfl, Nq5, e5, po5_0⟩ := hQ5
  have N5 := Fr.app N0 Nq5
  subst po5_0
  have k6 : Way p e below S0 T5 (mkL a1 m 10 #[rv a1, iv p2] []) := fun t k => k4 t (st5.trans k)
  have k7 : Way p e below S0 T5 (mkL a1 m 11 #[rv a1, iv p2] [(.ref a1)]) := by
    intro t k
    refine k6 t ?_
    refine XS.aloadN X5.here hx rfl (hb hby d_jdk_2005_method_4_code_10) rfl rfl ?_
    show Steps p.tables e below (T5.setTop (mkL a1 m 11 #[rv a1, iv p2] [(.ref a1)])) _
    exact k
  obtain ⟨T8, X8, e8, st8⟩ := getF X5 hx hZ hown (host := "") (Or.inl (hw _ (List.mem_of_getElem? (i := 65) rfl))) Via.refl e5 (a_1.mon M0) (g := (mkL a1 m 11 #[rv a1, iv p2] [(.ref a1)])) rfl rfl (hb hby d_jdk_2005_method_4_code_11)
  have k9 : Way p e below S0 T8 (mkL a1 m 14 #[rv a1, iv p2] [(.ref b1)]) := fun t k => k7 t (st8 _ k)
  have k10 : Way p e below S0 T8 (mkL a1 m 15 #[rv a1, iv p2] [(.ref a1), (.ref b1)]) := by
    intro t k
    refine k9 t ?_
    refine XS.aloadN X8.here hx rfl (hb hby d_jdk_2005_method_4_code_14) rfl rfl ?_
    show Steps p.tables e below (T8.setTop (mkL a1 m 15 #[rv a1, iv p2] [(.ref a1), (.ref b1)])) _
    exact k
  obtain ⟨T11, X11, e11, st11⟩ := getF X8 hx hZ hown (host := "") (Or.inl (hw _ (List.mem_of_getElem? (i := 72) rfl))) Via.refl e8 (a_2.mon M0) (g := (mkL a1 m 15 #[rv a1, iv p2] [(.ref a1), (.ref b1)])) rfl rfl (hb hby d_jdk_2005_method_4_code_15)
  have k12 : Way p e below S0 T11 (mkL a1 m 18 #[rv a1, iv p2] [(.int (1 : Int32)), (.ref b1)]) := fun t k => k10 t (st11 _ k)
  have k13 : Way p e below S0 T11 (mkL a1 m 20 #[rv a1, iv p2] [(.int (p2.toInt8.toInt32)), (.int (1 : Int32)), (.ref b1)]) := by
    intro t k
    refine k12 t ?_
    refine XS.iloadN X11.here hx rfl (hb hby d_jdk_2005_method_4_code_18) rfl ?_
    show Steps p.tables e below (T11.setTop (mkL a1 m 19 #[rv a1, iv p2] [(.int p2), (.int (1 : Int32)), (.ref b1)])) _
    refine XS.i2b X11.here hx rfl (hb hby d_jdk_2005_method_4_code_19) rfl ?_
    show Steps p.tables e below (T11.setTop (mkL a1 m 20 #[rv a1, iv p2] [(.int (p2.toInt8.toInt32)), (.int (1 : Int32)), (.ref b1)])) _
    exact k
  obtain ⟨cl14, Ar14, qc14, S14, M14, U14, G14⟩ := id ((own_arvmon a_3 M0))
  have hin14 : ¬ ((1 : Int32) < 0 ∨ cl14.slots.size ≤ ((1 : Int32)).toNatClampNeg) := inb_of S14 ⟨by decide, by decide⟩
  obtain ⟨T14, h14, X14, e14, W14, st14⟩ := stB X11 hx hZ e11 Ar14 (j := (1 : Int32)) hin14 (g := (mkL a1 m 20 #[rv a1, iv p2] [(.int (p2.toInt8.toInt32)), (.int (1 : Int32)), (.ref b1)])) rfl rfl (hb hby d_jdk_2005_method_4_code_20)
  have O14 := O1.wr W14 gb1
  have N14 := Fr.snoc X14 N5 gb1
  have va14 : Arv Z h14 b1 kb .byte (6 : Int32) [(.int q0), (.int ((p2.toInt8.toInt32).toInt8.toInt32)), (.int q2), (.int q3), (.int q4), (.int q5)] (.int (0 : Int32)) := Arv.set Ar14 qc14 S14 M14 U14 G14 (fits_nar_byte _) W14 1 rfl (Nat.le_of_ble_eq_true rfl)
  have k15 : Way p e below S0 T14 (mkL a1 m 21 #[rv a1, iv p2] []) := fun t k => k13 t (st14 _ k)
  have k16 : Way p e below S0 T14 (mkL a1 m 23 #[rv a1, iv p2] [(.ref a1), (.ref a1)]) := by
    intro t k
    refine k15 t ?_
    refine XS.aloadN X14.here hx rfl (hb hby d_jdk_2005_method_4_code_21) rfl rfl ?_
    show Steps p.tables e below (T14.setTop (mkL a1 m 22 #[rv a1, iv p2] [(.ref a1)])) _
    refine XS.dup X14.here hx rfl (hb hby d_jdk_2005_method_4_code_22) rfl rfl ?_
    show Steps p.tables e below (T14.setTop (mkL a1 m 23 #[rv a1, iv p2] [(.ref a1), (.ref a1)])) _
    exact k
  have f17 : Fld Z h14 a1 "java/io/ByteArrayOutputStream" "count" "I" (.int (1 : Int32)) := ((a_2.mon M0).other W14 (Or.inl hne))
  obtain ⟨T18, X18, e18, st18⟩ := getF X14 hx hZ hown (host := "") (Or.inl (hw _ (List.mem_of_getElem? (i := 72) rfl))) Via.refl e14 f17 (g := (mkL a1 m 23 #[rv a1, iv p2] [(.ref a1), (.ref a1)])) rfl rfl (hb hby d_jdk_2005_method_4_code_23)
  have k19 : Way p e below S0 T18 (mkL a1 m 26 #[rv a1, iv p2] [(.int (1 : Int32)), (.ref a1)]) := fun t k => k16 t (st18 _ k)
  have k20 : Way p e below S0 T18 (mkL a1 m 28 #[rv a1, iv p2] [(.int (2 : Int32)), (.ref a1)]) := by
    intro t k
    refine k19 t ?_
    refine XS.iconst X18.here hx rfl (hb hby d_jdk_2005_method_4_code_26) ?_
    show Steps p.tables e below (T18.setTop (mkL a1 m 27 #[rv a1, iv p2] [(.int (1 : Int32)), (.int (1 : Int32)), (.ref a1)])) _
    refine XS.iadd X18.here hx rfl (hb hby d_jdk_2005_method_4_code_27) rfl ?_
    show Steps p.tables e below (T18.setTop (mkL a1 m 28 #[rv a1, iv p2] [(.int (2 : Int32)), (.ref a1)])) _
    exact k
  have f21 : Exa Z h14 a1 "java/io/ByteArrayOutputStream" := ((a_0.mon M0).wr W14)
  obtain ⟨T22, h22, X22, e22, W22, st22⟩ := putF X18 hx hZ hown (host := "") (Or.inl (hw _ (List.mem_of_getElem? (i := 72) rfl))) Via.refl e18 f17 f21 (Or.inl (hw _ (List.mem_of_getElem? (i := 73) rfl))) (hw _ (List.mem_of_getElem? (i := 53) rfl)) (ty := .int) (by decide) rfl rfl (g := (mkL a1 m 28 #[rv a1, iv p2] [(.int (2 : Int32)), (.ref a1)])) rfl rfl (hb hby d_jdk_2005_method_4_code_28)
  have O22 := O14.wr W22 ga1
  have N22 := Fr.snoc X22 N14 ga1
  have fw22 : Fld Z h22 a1 "java/io/ByteArrayOutputStream" "count" "I" (.int (2 : Int32)) := f17.same W22
  have k23 : Way p e below S0 T22 (mkL a1 m 31 #[rv a1, iv p2] []) := fun t k => k20 t (st22 _ k)
  obtain ⟨V, hr, hrun, hended, M1, hW, hsame⟩ := leaveS X22 Bd.object Bd.enterable Bd.synchronized (v := none) (fun _ => rfl)
  rw [e22] at M1
  have f24 : Exa Z h22 a1 "java/io/ByteArrayOutputStream" := (f21.wr W22)
  have f25 : Fld Z h22 a1 "java/io/ByteArrayOutputStream" "buf" "[B" (.ref b1) := (((a_1.mon M0).other W14 (Or.inl hne)).other W22 (Or.inr (slot_ne (Or.inl (hw _ (List.mem_of_getElem? (i := 66) rfl))) (Or.inl (hw _ (List.mem_of_getElem? (i := 73) rfl))) (by decide) (t := (.array .byte)) (t' := .int) (by decide) (by decide))))
  have f26 : Arv Z h22 b1 kb .byte (6 : Int32) [(.int q0), (.int ((p2.toInt8.toInt32).toInt8.toInt32)), (.int q2), (.int q3), (.int q4), (.int q5)] (.int (0 : Int32)) := (va14.other W22 (Ne.symm hne))
  refine ⟨V, _, k23 _ (retS0 X22 hx Bd.returns (hb hby d_jdk_2005_method_4_code_31) hr), hrun, hended, _, _, rfl, ?_, ⟨_, rfl⟩, hW, hsame.mono (by decide) (by decide)⟩
  show Q_wr1 Z w_POLL a1 p2 b1 kb q0 q1 q2 q3 q4 q5 h0 n0 _ V.heap _
  exact ⟨rfl, N22, own_keepY hh0 hsame (fun y hy => by simp at hy; rcases hy with rfl | rfl <;> simp), (f24.mon M1), (f25.mon M1), (fw22.mon M1), (own_arvmon f26 M1), (own_untY hh0 a_4 hsame)⟩
def Q_wr2 (Z : State) (w_POLL : Addr) (a1 : Addr) (p2 : Int32) (b1 : Addr) (kb : ClassId) (q0 : Int32) (q1 : Int32) (q2 : Int32) (q3 : Int32) (q4 : Int32) (q5 : Int32) (h0 : Heap) (n0 : Nat) (v : Option Value) (h : Heap) (L : List Loc) : Prop := (v = none) ∧ (Fr n0 L) ∧ (Keep h0 h [a1, b1]) ∧ (Exa Z h a1 "java/io/ByteArrayOutputStream") ∧ (Fld Z h a1 "java/io/ByteArrayOutputStream" "buf" "[B" (.ref b1)) ∧ (Fld Z h a1 "java/io/ByteArrayOutputStream" "count" "I" (.int (3 : Int32))) ∧ (Arv Z h b1 kb .byte (6 : Int32) [(.int q0), (.int q1), (.int ((p2.toInt8.toInt32).toInt8.toInt32)), (.int q3), (.int q4), (.int q5)] (.int (0 : Int32))) ∧ (Unt h a1)
set_option maxRecDepth 65536 in
set_option maxHeartbeats 40000000 in
theorem wr2 (l : Launch) (Z : State) (a0 : Array Value) (hw : ∀ d ∈ tables_1, d.before a0 Z = true) (ws : List Jvm.Cond) (w_POLL : Addr) (G : Gst Z w_POLL) (a1 : Addr) (p2 : Int32) (b1 : Addr) (kb : ClassId) (q0 : Int32) (q1 : Int32) (q2 : Int32) (q3 : Int32) (q4 : Int32) (q5 : Int32) (h0 : Heap) (n0 : Nat) (O0 : Old Z n0 h0) (a_0 : Exa Z h0 a1 "java/io/ByteArrayOutputStream") (a_1 : Fld Z h0 a1 "java/io/ByteArrayOutputStream" "buf" "[B" (.ref b1)) (a_2 : Fld Z h0 a1 "java/io/ByteArrayOutputStream" "count" "I" (.int (2 : Int32))) (a_3 : Arv Z h0 b1 kb .byte (6 : Int32) [(.int q0), (.int q1), (.int q2), (.int q3), (.int q4), (.int q5)] (.int (0 : Int32))) (a_4 : Unt h0 a1) (ga1 : n0 ≤ a1) (gb1 : n0 ≤ b1) (hne : a1 ≠ b1) :
    MetFree l (⟨"java/io/ByteArrayOutputStream", "write", "(I)V"⟩ : MethodName) (head1 (Jvm.Cond.codeSync (⟨"java/io/ByteArrayOutputStream", "write", "(I)V"⟩ : MethodName) jdk_2005_method_4_code 2 none :: Jvm.Cond.instanceMethod (⟨"java/io/ByteArrayOutputStream", "write", "(I)V"⟩ : MethodName) :: ws) ({ frames := 1, cells := 0, slots := 0, locals := 17 } : Room)) (fun a U => a = #[(.ref a1), (.int p2)] ∧ Z.Warmed39 U.vm ∧ U.heap = h0 ∧ ∃ cell : Cell, h0[a1]? = some cell ∧ cell.enterable U.cur) (fun _ _ _ _ _ => True) (fun _ U o U' => ∃ v L, o = .returned v ∧ Q_wr2 Z w_POLL a1 p2 b1 kb q0 q1 q2 q3 q4 q5 h0 n0 v U'.heap L ∧ FrameEnd U o U' L ({ frames := 1, cells := 0, slots := 0, locals := 17 } : Room).cells ({ frames := 1, cells := 0, slots := 0, locals := 17 } : Room).slots) := by
  refine MetFree.of_bodySync (plainFor_of_name pn_2) (hisS (List.mem_cons_self ..)) (fun _ s _ ⟨h1, _, h2, cl, h3, h4⟩ => ⟨a1, cl, by rw [h1]; rfl, by rw [h2]; exact h3, h4⟩) ?_
  intro p e s0 m args below meth c a' cell s₁ Bd hml0 hP _
  obtain ⟨rfl, hZ0, hh0, -⟩ := hP
  cases Bd.receiver
  have hx := Bd.exec
  have hby : c.code = jdk_2005_method_4_code := Bd.bytes
  have hml : c.maxLocals = 2 := hml0
  have X0 : Stand p l e ({ frames := 1, cells := 0, slots := 0, locals := 17 } : Room) (s0.setCell a1 (cell.withEntry s0.cur)) m #[(.ref a1), (.int p2)] below meth c s₁ [] 0 0 := Stand.of_bodySync Bd
  have hZ : Z.Warmed39 (s0.setCell a1 (cell.withEntry s0.cur)).vm := hZ0
  have hown : (s0.setCell a1 (cell.withEntry s0.cur)).vm.findClass "java/io/ByteArrayOutputStream" = some m.cls := (findClass_of_methodNamed Bd.named :)
  have h1e : s₁.heap = h0.setIfInBounds a1 (cell.withEntry s0.cur) := by rw [Bd.state, ← hh0]; rfl
  have hc0 : h0[a1]? = some cell := by rw [← hh0]; exact Bd.object
  have M0 : Mon h0 s₁.heap := by rw [h1e]; exact mon_set hc0 _
  have O1 : Old Z n0 s₁.heap := by rw [h1e]; exact own_oldset O0 ga1
  have N0 := Fr.nil n0
  have e0 : s₁.heap = s₁.heap := rfl
  have k0 : Way p e below (s₁.setTop (mkL a1 m 0 #[rv a1, iv p2] [])) s₁ (mkL a1 m 0 #[rv a1, iv p2] []) := fun t k => k
  show ∃ s₂ o, Steps p.tables e below (s₁.setTop (mkL a1 m 0 #[rv a1, iv p2] [])) s₂ ∧ _
  generalize s₁.setTop (mkL a1 m 0 #[rv a1, iv p2] []) = S0 at k0 ⊢
  have k1 : Way p e below S0 s₁ (mkL a1 m 2 #[rv a1, iv p2] [(.ref a1), (.ref a1)]) := by
    intro t k
    refine k0 t ?_
    refine XS.aloadN X0.here hx rfl (hb hby d_jdk_2005_method_4_code_0) rfl rfl ?_
    show Steps p.tables e below (s₁.setTop (mkL a1 m 1 #[rv a1, iv p2] [(.ref a1)])) _
    refine XS.aloadN X0.here hx rfl (hb hby d_jdk_2005_method_4_code_1) rfl rfl ?_
    show Steps p.tables e below (s₁.setTop (mkL a1 m 2 #[rv a1, iv p2] [(.ref a1), (.ref a1)])) _
    exact k
  obtain ⟨T2, X2, e2, st2⟩ := getF X0 hx hZ hown (host := "") (Or.inl (hw _ (List.mem_of_getElem? (i := 72) rfl))) Via.refl rfl (a_2.mon M0) (g := (mkL a1 m 2 #[rv a1, iv p2] [(.ref a1), (.ref a1)])) rfl rfl (hb hby d_jdk_2005_method_4_code_2)
  have k3 : Way p e below S0 T2 (mkL a1 m 5 #[rv a1, iv p2] [(.int (2 : Int32)), (.ref a1)]) := fun t k => k1 t (st2 _ k)
  have k4 : Way p e below S0 T2 (mkL a1 m 7 #[rv a1, iv p2] [(.int (3 : Int32)), (.ref a1)]) := by
    intro t k
    refine k3 t ?_
    refine XS.iconst X2.here hx rfl (hb hby d_jdk_2005_method_4_code_5) ?_
    show Steps p.tables e below (T2.setTop (mkL a1 m 6 #[rv a1, iv p2] [(.int (1 : Int32)), (.int (2 : Int32)), (.ref a1)])) _
    refine XS.iadd X2.here hx rfl (hb hby d_jdk_2005_method_4_code_6) rfl ?_
    show Steps p.tables e below (T2.setTop (mkL a1 m 7 #[rv a1, iv p2] [(.int (3 : Int32)), (.ref a1)])) _
    exact k
  obtain ⟨cq5, qv5, qv5'⟩ := (a_0.mon M0).cell
  obtain ⟨_, _, ⟨T5, L5, kk5, nn5⟩, -, X5, ⟨Lc5, hQ5, l5, y5, z5⟩, st5⟩ := X2.privateBack hx (y := (⟨"java/io/ByteArrayOutputStream", "ensureCapacity", "(I)V"⟩ : MethodName)) hown (mvT hZ (hw _ (List.mem_of_getElem? (i := 74) rfl))) (mvT hZ (hw _ (List.mem_of_getElem? (i := 75) rfl))) (mvT hZ (hw _ (List.mem_of_getElem? (i := 77) rfl))) (Cond.privateMethod_at (mvP hZ (hw _ (List.mem_of_getElem? (i := 76) rfl)) (args := #[]))) (mvT hZ (hw _ (List.mem_of_getElem? (i := 78) rfl))) (by decide) (backOf (W := 2) (ens2 l Z a0 hw [] w_POLL G a1 b1 kb q0 q1 q2 q3 q4 q5 s₁.heap n0 O1 ((a_1.mon M0) : Fld Z s₁.heap a1 "java/io/ByteArrayOutputStream" "buf" "[B" (.ref b1)) ((own_arvmon a_3 M0) : Arv Z s₁.heap b1 kb .byte (6 : Int32) [(.int q0), (.int q1), (.int q2), (.int q3), (.int q4), (.int q5)] (.int (0 : Int32)))) hZ (hw _ (List.mem_of_getElem? (i := 78) rfl)) (hw _ (List.mem_of_getElem? (i := 54) rfl)) (by decide) (by decide)) (g := (mkL a1 m 7 #[rv a1, iv p2] [(.int (3 : Int32)), (.ref a1)])) rfl (by rw [hml]; rfl) (Steps.refl _) (a := a1) (by rw [e2]; exact qv5) qv5' (argsL := [(.int (3 : Int32))]) (rest := []) (lenOf pd_2 rfl) rfl (by show 2 * 1 + _ ≤ _; exact Nat.le_of_eq rfl) (hb hby d_jdk_2005_method_4_code_7) (fun _ _ => ⟨rfl, e2, (by decide : 0 + 0 ≤ _), (by decide : 0 + 0 ≤ _)⟩)
  dsimp only [Pt.U, Pt.locs, Pt.cells, Pt.slots] at X5 l5 y5 z5 st5 hQ5
  subst l5 y5 z5
  obtain ⟨rfl, Nq5, e5, po5_0⟩ := hQ5
  have N5 := Fr.app N0 Nq5
  subst po5_0
  have k6 : Way p e below S0 T5 (mkL a1 m 10 #[rv a1, iv p2] []) := fun t k => k4 t (st5.trans k)
  have k7 : Way p e below S0 T5 (mkL a1 m 11 #[rv a1, iv p2] [(.ref a1)]) := by
    intro t k
    refine k6 t ?_
    refine XS.aloadN X5.here hx rfl (hb hby d_jdk_2005_method_4_code_10) rfl rfl ?_
    show Steps p.tables e below (T5.setTop (mkL a1 m 11 #[rv a1, iv p2] [(.ref a1)])) _
    exact k
  obtain ⟨T8, X8, e8, st8⟩ := getF X5 hx hZ hown (host := "") (Or.inl (hw _ (List.mem_of_getElem? (i := 65) rfl))) Via.refl e5 (a_1.mon M0) (g := (mkL a1 m 11 #[rv a1, iv p2] [(.ref a1)])) rfl rfl (hb hby d_jdk_2005_method_4_code_11)
  have k9 : Way p e below S0 T8 (mkL a1 m 14 #[rv a1, iv p2] [(.ref b1)]) := fun t k => k7 t (st8 _ k)
  have k10 : Way p e below S0 T8 (mkL a1 m 15 #[rv a1, iv p2] [(.ref a1), (.ref b1)]) := by
    intro t k
    refine k9 t ?_
    refine XS.aloadN X8.here hx rfl (hb hby d_jdk_2005_method_4_code_14) rfl rfl ?_
    show Steps p.tables e below (T8.setTop (mkL a1 m 15 #[rv a1, iv p2] [(.ref a1), (.ref b1)])) _
    exact k
  obtain ⟨T11, X11, e11, st11⟩ := getF X8 hx hZ hown (host := "") (Or.inl (hw _ (List.mem_of_getElem? (i := 72) rfl))) Via.refl e8 (a_2.mon M0) (g := (mkL a1 m 15 #[rv a1, iv p2] [(.ref a1), (.ref b1)])) rfl rfl (hb hby d_jdk_2005_method_4_code_15)
  have k12 : Way p e below S0 T11 (mkL a1 m 18 #[rv a1, iv p2] [(.int (2 : Int32)), (.ref b1)]) := fun t k => k10 t (st11 _ k)
  have k13 : Way p e below S0 T11 (mkL a1 m 20 #[rv a1, iv p2] [(.int (p2.toInt8.toInt32)), (.int (2 : Int32)), (.ref b1)]) := by
    intro t k
    refine k12 t ?_
    refine XS.iloadN X11.here hx rfl (hb hby d_jdk_2005_method_4_code_18) rfl ?_
    show Steps p.tables e below (T11.setTop (mkL a1 m 19 #[rv a1, iv p2] [(.int p2), (.int (2 : Int32)), (.ref b1)])) _
    refine XS.i2b X11.here hx rfl (hb hby d_jdk_2005_method_4_code_19) rfl ?_
    show Steps p.tables e below (T11.setTop (mkL a1 m 20 #[rv a1, iv p2] [(.int (p2.toInt8.toInt32)), (.int (2 : Int32)), (.ref b1)])) _
    exact k
  obtain ⟨cl14, Ar14, qc14, S14, M14, U14, G14⟩ := id ((own_arvmon a_3 M0))
  have hin14 : ¬ ((2 : Int32) < 0 ∨ cl14.slots.size ≤ ((2 : Int32)).toNatClampNeg) := inb_of S14 ⟨by decide, by decide⟩
  obtain ⟨T14, h14, X14, e14, W14, st14⟩ := stB X11 hx hZ e11 Ar14 (j := (2 : Int32)) hin14 (g := (mkL a1 m 20 #[rv a1, iv p2] [(.int (p2.toInt8.toInt32)), (.int (2 : Int32)), (.ref b1)])) rfl rfl (hb hby d_jdk_2005_method_4_code_20)
  have O14 := O1.wr W14 gb1
  have N14 := Fr.snoc X14 N5 gb1
  have va14 : Arv Z h14 b1 kb .byte (6 : Int32) [(.int q0), (.int q1), (.int ((p2.toInt8.toInt32).toInt8.toInt32)), (.int q3), (.int q4), (.int q5)] (.int (0 : Int32)) := Arv.set Ar14 qc14 S14 M14 U14 G14 (fits_nar_byte _) W14 2 rfl (Nat.le_of_ble_eq_true rfl)
  have k15 : Way p e below S0 T14 (mkL a1 m 21 #[rv a1, iv p2] []) := fun t k => k13 t (st14 _ k)
  have k16 : Way p e below S0 T14 (mkL a1 m 23 #[rv a1, iv p2] [(.ref a1), (.ref a1)]) := by
    intro t k
    refine k15 t ?_
    refine XS.aloadN X14.here hx rfl (hb hby d_jdk_2005_method_4_code_21) rfl rfl ?_
    show Steps p.tables e below (T14.setTop (mkL a1 m 22 #[rv a1, iv p2] [(.ref a1)])) _
    refine XS.dup X14.here hx rfl (hb hby d_jdk_2005_method_4_code_22) rfl rfl ?_
    show Steps p.tables e below (T14.setTop (mkL a1 m 23 #[rv a1, iv p2] [(.ref a1), (.ref a1)])) _
    exact k
  have f17 : Fld Z h14 a1 "java/io/ByteArrayOutputStream" "count" "I" (.int (2 : Int32)) := ((a_2.mon M0).other W14 (Or.inl hne))
  obtain ⟨T18, X18, e18, st18⟩ := getF X14 hx hZ hown (host := "") (Or.inl (hw _ (List.mem_of_getElem? (i := 72) rfl))) Via.refl e14 f17 (g := (mkL a1 m 23 #[rv a1, iv p2] [(.ref a1), (.ref a1)])) rfl rfl (hb hby d_jdk_2005_method_4_code_23)
  have k19 : Way p e below S0 T18 (mkL a1 m 26 #[rv a1, iv p2] [(.int (2 : Int32)), (.ref a1)]) := fun t k => k16 t (st18 _ k)
  have k20 : Way p e below S0 T18 (mkL a1 m 28 #[rv a1, iv p2] [(.int (3 : Int32)), (.ref a1)]) := by
    intro t k
    refine k19 t ?_
    refine XS.iconst X18.here hx rfl (hb hby d_jdk_2005_method_4_code_26) ?_
    show Steps p.tables e below (T18.setTop (mkL a1 m 27 #[rv a1, iv p2] [(.int (1 : Int32)), (.int (2 : Int32)), (.ref a1)])) _
    refine XS.iadd X18.here hx rfl (hb hby d_jdk_2005_method_4_code_27) rfl ?_
    show Steps p.tables e below (T18.setTop (mkL a1 m 28 #[rv a1, iv p2] [(.int (3 : Int32)), (.ref a1)])) _
    exact k
  have f21 : Exa Z h14 a1 "java/io/ByteArrayOutputStream" := ((a_0.mon M0).wr W14)
  obtain ⟨T22, h22, X22, e22, W22, st22⟩ := putF X18 hx hZ hown (host := "") (Or.inl (hw _ (List.mem_of_getElem? (i := 72) rfl))) Via.refl e18 f17 f21 (Or.inl (hw _ (List.mem_of_getElem? (i := 73) rfl))) (hw _ (List.mem_of_getElem? (i := 53) rfl)) (ty := .int) (by decide) rfl rfl (g := (mkL a1 m 28 #[rv a1, iv p2] [(.int (3 : Int32)), (.ref a1)])) rfl rfl (hb hby d_jdk_2005_method_4_code_28)
  have O22 := O14.wr W22 ga1
  have N22 := Fr.snoc X22 N14 ga1
  have fw22 : Fld Z h22 a1 "java/io/ByteArrayOutputStream" "count" "I" (.int (3 : Int32)) := f17.same W22
  have k23 : Way p e below S0 T22 (mkL a1 m 31 #[rv a1, iv p2] []) := fun t k => k20 t (st22 _ k)
  obtain ⟨V, hr, hrun, hended, M1, hW, hsame⟩ := leaveS X22 Bd.object Bd.enterable Bd.synchronized (v := none) (fun _ => rfl)
  rw [e22] at M1
  have f24 : Exa Z h22 a1 "java/io/ByteArrayOutputStream" := (f21.wr W22)
  have f25 : Fld Z h22 a1 "java/io/ByteArrayOutputStream" "buf" "[B" (.ref b1) := (((a_1.mon M0).other W14 (Or.inl hne)).other W22 (Or.inr (slot_ne (Or.inl (hw _ (List.mem_of_getElem? (i := 66) rfl))) (Or.inl (hw _ (List.mem_of_getElem? (i := 73) rfl))) (by decide) (t := (.array .byte)) (t' := .int) (by decide) (by decide))))
  have f26 : Arv Z h22 b1 kb .byte (6 : Int32) [(.int q0), (.int q1), (.int ((p2.toInt8.toInt32).toInt8.toInt32)), (.int q3), (.int q4), (.int q5)] (.int (0 : Int32)) := (va14.other W22 (Ne.symm hne))
  refine ⟨V, _, k23 _ (retS0 X22 hx Bd.returns (hb hby d_jdk_2005_method_4_code_31) hr), hrun, hended, _, _, rfl, ?_, ⟨_, rfl⟩, hW, hsame.mono (by decide) (by decide)⟩
  show Q_wr2 Z w_POLL a1 p2 b1 kb q0 q1 q2 q3 q4 q5 h0 n0 _ V.heap _
  exact ⟨rfl, N22, own_keepY hh0 hsame (fun y hy => by simp at hy; rcases hy with rfl | rfl <;> simp), (f24.mon M1), (f25.mon M1), (fw22.mon M1), (own_arvmon f26 M1), (own_untY hh0 a_4 hsame)⟩
def Q_wr3 (Z : State) (w_POLL : Addr) (a1 : Addr) (p2 : Int32) (b1 : Addr) (kb : ClassId) (q0 : Int32) (q1 : Int32) (q2 : Int32) (q3 : Int32) (q4 : Int32) (q5 : Int32) (h0 : Heap) (n0 : Nat) (v : Option Value) (h : Heap) (L : List Loc) : Prop := (v = none) ∧ (Fr n0 L) ∧ (Keep h0 h [a1, b1]) ∧ (Exa Z h a1 "java/io/ByteArrayOutputStream") ∧ (Fld Z h a1 "java/io/ByteArrayOutputStream" "buf" "[B" (.ref b1)) ∧ (Fld Z h a1 "java/io/ByteArrayOutputStream" "count" "I" (.int (4 : Int32))) ∧ (Arv Z h b1 kb .byte (6 : Int32) [(.int q0), (.int q1), (.int q2), (.int ((p2.toInt8.toInt32).toInt8.toInt32)), (.int q4), (.int q5)] (.int (0 : Int32))) ∧ (Unt h a1)
set_option maxRecDepth 65536 in
set_option maxHeartbeats 40000000 in
theorem wr3 (l : Launch) (Z : State) (a0 : Array Value) (hw : ∀ d ∈ tables_1, d.before a0 Z = true) (ws : List Jvm.Cond) (w_POLL : Addr) (G : Gst Z w_POLL) (a1 : Addr) (p2 : Int32) (b1 : Addr) (kb : ClassId) (q0 : Int32) (q1 : Int32) (q2 : Int32) (q3 : Int32) (q4 : Int32) (q5 : Int32) (h0 : Heap) (n0 : Nat) (O0 : Old Z n0 h0) (a_0 : Exa Z h0 a1 "java/io/ByteArrayOutputStream") (a_1 : Fld Z h0 a1 "java/io/ByteArrayOutputStream" "buf" "[B" (.ref b1)) (a_2 : Fld Z h0 a1 "java/io/ByteArrayOutputStream" "count" "I" (.int (3 : Int32))) (a_3 : Arv Z h0 b1 kb .byte (6 : Int32) [(.int q0), (.int q1), (.int q2), (.int q3), (.int q4), (.int q5)] (.int (0 : Int32))) (a_4 : Unt h0 a1) (ga1 : n0 ≤ a1) (gb1 : n0 ≤ b1) (hne : a1 ≠ b1) :
    MetFree l (⟨"java/io/ByteArrayOutputStream", "write", "(I)V"⟩ : MethodName) (head1 (Jvm.Cond.codeSync (⟨"java/io/ByteArrayOutputStream", "write", "(I)V"⟩ : MethodName) jdk_2005_method_4_code 2 none :: Jvm.Cond.instanceMethod (⟨"java/io/ByteArrayOutputStream", "write", "(I)V"⟩ : MethodName) :: ws) ({ frames := 1, cells := 0, slots := 0, locals := 17 } : Room)) (fun a U => a = #[(.ref a1), (.int p2)] ∧ Z.Warmed39 U.vm ∧ U.heap = h0 ∧ ∃ cell : Cell, h0[a1]? = some cell ∧ cell.enterable U.cur) (fun _ _ _ _ _ => True) (fun _ U o U' => ∃ v L, o = .returned v ∧ Q_wr3 Z w_POLL a1 p2 b1 kb q0 q1 q2 q3 q4 q5 h0 n0 v U'.heap L ∧ FrameEnd U o U' L ({ frames := 1, cells := 0, slots := 0, locals := 17 } : Room).cells ({ frames := 1, cells := 0, slots := 0, locals := 17 } : Room).slots) := by
  refine MetFree.of_bodySync (plainFor_of_name pn_2) (hisS (List.mem_cons_self ..)) (fun _ s _ ⟨h1, _, h2, cl, h3, h4⟩ => ⟨a1, cl, by rw [h1]; rfl, by rw [h2]; exact h3, h4⟩) ?_
  intro p e s0 m args below meth c a' cell s₁ Bd hml0 hP _
  obtain ⟨rfl, hZ0, hh0, -⟩ := hP
  cases Bd.receiver
  have hx := Bd.exec
  have hby : c.code = jdk_2005_method_4_code := Bd.bytes
  have hml : c.maxLocals = 2 := hml0
  have X0 : Stand p l e ({ frames := 1, cells := 0, slots := 0, locals := 17 } : Room) (s0.setCell a1 (cell.withEntry s0.cur)) m #[(.ref a1), (.int p2)] below meth c s₁ [] 0 0 := Stand.of_bodySync Bd
  have hZ : Z.Warmed39 (s0.setCell a1 (cell.withEntry s0.cur)).vm := hZ0
  have hown : (s0.setCell a1 (cell.withEntry s0.cur)).vm.findClass "java/io/ByteArrayOutputStream" = some m.cls := (findClass_of_methodNamed Bd.named :)
  have h1e : s₁.heap = h0.setIfInBounds a1 (cell.withEntry s0.cur) := by rw [Bd.state, ← hh0]; rfl
  have hc0 : h0[a1]? = some cell := by rw [← hh0]; exact Bd.object
  have M0 : Mon h0 s₁.heap := by rw [h1e]; exact mon_set hc0 _
  have O1 : Old Z n0 s₁.heap := by rw [h1e]; exact own_oldset O0 ga1
  have N0 := Fr.nil n0
  have e0 : s₁.heap = s₁.heap := rfl
  have k0 : Way p e below (s₁.setTop (mkL a1 m 0 #[rv a1, iv p2] [])) s₁ (mkL a1 m 0 #[rv a1, iv p2] []) := fun t k => k
  show ∃ s₂ o, Steps p.tables e below (s₁.setTop (mkL a1 m 0 #[rv a1, iv p2] [])) s₂ ∧ _
  generalize s₁.setTop (mkL a1 m 0 #[rv a1, iv p2] []) = S0 at k0 ⊢
  have k1 : Way p e below S0 s₁ (mkL a1 m 2 #[rv a1, iv p2] [(.ref a1), (.ref a1)]) := by
    intro t k
    refine k0 t ?_
    refine XS.aloadN X0.here hx rfl (hb hby d_jdk_2005_method_4_code_0) rfl rfl ?_
    show Steps p.tables e below (s₁.setTop (mkL a1 m 1 #[rv a1, iv p2] [(.ref a1)])) _
    refine XS.aloadN X0.here hx rfl (hb hby d_jdk_2005_method_4_code_1) rfl rfl ?_
    show Steps p.tables e below (s₁.setTop (mkL a1 m 2 #[rv a1, iv p2] [(.ref a1), (.ref a1)])) _
    exact k
  obtain ⟨T2, X2, e2, st2⟩ := getF X0 hx hZ hown (host := "") (Or.inl (hw _ (List.mem_of_getElem? (i := 72) rfl))) Via.refl rfl (a_2.mon M0) (g := (mkL a1 m 2 #[rv a1, iv p2] [(.ref a1), (.ref a1)])) rfl rfl (hb hby d_jdk_2005_method_4_code_2)
  have k3 : Way p e below S0 T2 (mkL a1 m 5 #[rv a1, iv p2] [(.int (3 : Int32)), (.ref a1)]) := fun t k => k1 t (st2 _ k)
  have k4 : Way p e below S0 T2 (mkL a1 m 7 #[rv a1, iv p2] [(.int (4 : Int32)), (.ref a1)]) := by
    intro t k
    refine k3 t ?_
    refine XS.iconst X2.here hx rfl (hb hby d_jdk_2005_method_4_code_5) ?_
    show Steps p.tables e below (T2.setTop (mkL a1 m 6 #[rv a1, iv p2] [(.int (1 : Int32)), (.int (3 : Int32)), (.ref a1)])) _
    refine XS.iadd X2.here hx rfl (hb hby d_jdk_2005_method_4_code_6) rfl ?_
    show Steps p.tables e below (T2.setTop (mkL a1 m 7 #[rv a1, iv p2] [(.int (4 : Int32)), (.ref a1)])) _
    exact k
  obtain ⟨cq5, qv5, qv5'⟩ := (a_0.mon M0).cell
  obtain ⟨_, _, ⟨T5, L5, kk5, nn5⟩, -, X5, ⟨Lc5, hQ5, l5, y5, z5⟩, st5⟩ := X2.privateBack hx (y := (⟨"java/io/ByteArrayOutputStream", "ensureCapacity", "(I)V"⟩ : MethodName)) hown (mvT hZ (hw _ (List.mem_of_getElem? (i := 74) rfl))) (mvT hZ (hw _ (List.mem_of_getElem? (i := 75) rfl))) (mvT hZ (hw _ (List.mem_of_getElem? (i := 77) rfl))) (Cond.privateMethod_at (mvP hZ (hw _ (List.mem_of_getElem? (i := 76) rfl)) (args := #[]))) (mvT hZ (hw _ (List.mem_of_getElem? (i := 78) rfl))) (by decide) (backOf (W := 2) (ens3 l Z a0 hw [] w_POLL G a1 b1 kb q0 q1 q2 q3 q4 q5 s₁.heap n0 O1 ((a_1.mon M0) : Fld Z s₁.heap a1 "java/io/ByteArrayOutputStream" "buf" "[B" (.ref b1)) ((own_arvmon a_3 M0) : Arv Z s₁.heap b1 kb .byte (6 : Int32) [(.int q0), (.int q1), (.int q2), (.int q3), (.int q4), (.int q5)] (.int (0 : Int32)))) hZ (hw _ (List.mem_of_getElem? (i := 78) rfl)) (hw _ (List.mem_of_getElem? (i := 54) rfl)) (by decide) (by decide)) (g := (mkL a1 m 7 #[rv a1, iv p2] [(.int (4 : Int32)), (.ref a1)])) rfl (by rw [hml]; rfl) (Steps.refl _) (a := a1) (by rw [e2]; exact qv5) qv5' (argsL := [(.int (4 : Int32))]) (rest := []) (lenOf pd_2 rfl) rfl (by show 2 * 1 + _ ≤ _; exact Nat.le_of_eq rfl) (hb hby d_jdk_2005_method_4_code_7) (fun _ _ => ⟨rfl, e2, (by decide : 0 + 0 ≤ _), (by decide : 0 + 0 ≤ _)⟩)
  dsimp only [Pt.U, Pt.locs, Pt.cells, Pt.slots] at X5 l5 y5 z5 st5 hQ5
  subst l5 y5 z5
  obtain ⟨rfl, Nq5, e5, po5_0⟩ := hQ5
  have N5 := Fr.app N0 Nq5
  subst po5_0
  have k6 : Way p e below S0 T5 (mkL a1 m 10 #[rv a1, iv p2] []) := fun t k => k4 t (st5.trans k)
  have k7 : Way p e below S0 T5 (mkL a1 m 11 #[rv a1, iv p2] [(.ref a1)]) := by
    intro t k
    refine k6 t ?_
    refine XS.aloadN X5.here hx rfl (hb hby d_jdk_2005_method_4_code_10) rfl rfl ?_
    show Steps p.tables e below (T5.setTop (mkL a1 m 11 #[rv a1, iv p2] [(.ref a1)])) _
    exact k
  obtain ⟨T8, X8, e8, st8⟩ := getF X5 hx hZ hown (host := "") (Or.inl (hw _ (List.mem_of_getElem? (i := 65) rfl))) Via.refl e5 (a_1.mon M0) (g := (mkL a1 m 11 #[rv a1, iv p2] [(.ref a1)])) rfl rfl (hb hby d_jdk_2005_method_4_code_11)
  have k9 : Way p e below S0 T8 (mkL a1 m 14 #[rv a1, iv p2] [(.ref b1)]) := fun t k => k7 t (st8 _ k)
  have k10 : Way p e below S0 T8 (mkL a1 m 15 #[rv a1, iv p2] [(.ref a1), (.ref b1)]) := by
    intro t k
    refine k9 t ?_
    refine XS.aloadN X8.here hx rfl (hb hby d_jdk_2005_method_4_code_14) rfl rfl ?_
    show Steps p.tables e below (T8.setTop (mkL a1 m 15 #[rv a1, iv p2] [(.ref a1), (.ref b1)])) _
    exact k
  obtain ⟨T11, X11, e11, st11⟩ := getF X8 hx hZ hown (host := "") (Or.inl (hw _ (List.mem_of_getElem? (i := 72) rfl))) Via.refl e8 (a_2.mon M0) (g := (mkL a1 m 15 #[rv a1, iv p2] [(.ref a1), (.ref b1)])) rfl rfl (hb hby d_jdk_2005_method_4_code_15)
  have k12 : Way p e below S0 T11 (mkL a1 m 18 #[rv a1, iv p2] [(.int (3 : Int32)), (.ref b1)]) := fun t k => k10 t (st11 _ k)
  have k13 : Way p e below S0 T11 (mkL a1 m 20 #[rv a1, iv p2] [(.int (p2.toInt8.toInt32)), (.int (3 : Int32)), (.ref b1)]) := by
    intro t k
    refine k12 t ?_
    refine XS.iloadN X11.here hx rfl (hb hby d_jdk_2005_method_4_code_18) rfl ?_
    show Steps p.tables e below (T11.setTop (mkL a1 m 19 #[rv a1, iv p2] [(.int p2), (.int (3 : Int32)), (.ref b1)])) _
    refine XS.i2b X11.here hx rfl (hb hby d_jdk_2005_method_4_code_19) rfl ?_
    show Steps p.tables e below (T11.setTop (mkL a1 m 20 #[rv a1, iv p2] [(.int (p2.toInt8.toInt32)), (.int (3 : Int32)), (.ref b1)])) _
    exact k
  obtain ⟨cl14, Ar14, qc14, S14, M14, U14, G14⟩ := id ((own_arvmon a_3 M0))
  have hin14 : ¬ ((3 : Int32) < 0 ∨ cl14.slots.size ≤ ((3 : Int32)).toNatClampNeg) := inb_of S14 ⟨by decide, by decide⟩
  obtain ⟨T14, h14, X14, e14, W14, st14⟩ := stB X11 hx hZ e11 Ar14 (j := (3 : Int32)) hin14 (g := (mkL a1 m 20 #[rv a1, iv p2] [(.int (p2.toInt8.toInt32)), (.int (3 : Int32)), (.ref b1)])) rfl rfl (hb hby d_jdk_2005_method_4_code_20)
  have O14 := O1.wr W14 gb1
  have N14 := Fr.snoc X14 N5 gb1
  have va14 : Arv Z h14 b1 kb .byte (6 : Int32) [(.int q0), (.int q1), (.int q2), (.int ((p2.toInt8.toInt32).toInt8.toInt32)), (.int q4), (.int q5)] (.int (0 : Int32)) := Arv.set Ar14 qc14 S14 M14 U14 G14 (fits_nar_byte _) W14 3 rfl (Nat.le_of_ble_eq_true rfl)
  have k15 : Way p e below S0 T14 (mkL a1 m 21 #[rv a1, iv p2] []) := fun t k => k13 t (st14 _ k)
  have k16 : Way p e below S0 T14 (mkL a1 m 23 #[rv a1, iv p2] [(.ref a1), (.ref a1)]) := by
    intro t k
    refine k15 t ?_
    refine XS.aloadN X14.here hx rfl (hb hby d_jdk_2005_method_4_code_21) rfl rfl ?_
    show Steps p.tables e below (T14.setTop (mkL a1 m 22 #[rv a1, iv p2] [(.ref a1)])) _
    refine XS.dup X14.here hx rfl (hb hby d_jdk_2005_method_4_code_22) rfl rfl ?_
    show Steps p.tables e below (T14.setTop (mkL a1 m 23 #[rv a1, iv p2] [(.ref a1), (.ref a1)])) _
    exact k
  have f17 : Fld Z h14 a1 "java/io/ByteArrayOutputStream" "count" "I" (.int (3 : Int32)) := ((a_2.mon M0).other W14 (Or.inl hne))
  obtain ⟨T18, X18, e18, st18⟩ := getF X14 hx hZ hown (host := "") (Or.inl (hw _ (List.mem_of_getElem? (i := 72) rfl))) Via.refl e14 f17 (g := (mkL a1 m 23 #[rv a1, iv p2] [(.ref a1), (.ref a1)])) rfl rfl (hb hby d_jdk_2005_method_4_code_23)
  have k19 : Way p e below S0 T18 (mkL a1 m 26 #[rv a1, iv p2] [(.int (3 : Int32)), (.ref a1)]) := fun t k => k16 t (st18 _ k)
  have k20 : Way p e below S0 T18 (mkL a1 m 28 #[rv a1, iv p2] [(.int (4 : Int32)), (.ref a1)]) := by
    intro t k
    refine k19 t ?_
    refine XS.iconst X18.here hx rfl (hb hby d_jdk_2005_method_4_code_26) ?_
    show Steps p.tables e below (T18.setTop (mkL a1 m 27 #[rv a1, iv p2] [(.int (1 : Int32)), (.int (3 : Int32)), (.ref a1)])) _
    refine XS.iadd X18.here hx rfl (hb hby d_jdk_2005_method_4_code_27) rfl ?_
    show Steps p.tables e below (T18.setTop (mkL a1 m 28 #[rv a1, iv p2] [(.int (4 : Int32)), (.ref a1)])) _
    exact k
  have f21 : Exa Z h14 a1 "java/io/ByteArrayOutputStream" := ((a_0.mon M0).wr W14)
  obtain ⟨T22, h22, X22, e22, W22, st22⟩ := putF X18 hx hZ hown (host := "") (Or.inl (hw _ (List.mem_of_getElem? (i := 72) rfl))) Via.refl e18 f17 f21 (Or.inl (hw _ (List.mem_of_getElem? (i := 73) rfl))) (hw _ (List.mem_of_getElem? (i := 53) rfl)) (ty := .int) (by decide) rfl rfl (g := (mkL a1 m 28 #[rv a1, iv p2] [(.int (4 : Int32)), (.ref a1)])) rfl rfl (hb hby d_jdk_2005_method_4_code_28)
  have O22 := O14.wr W22 ga1
  have N22 := Fr.snoc X22 N14 ga1
  have fw22 : Fld Z h22 a1 "java/io/ByteArrayOutputStream" "count" "I" (.int (4 : Int32)) := f17.same W22
  have k23 : Way p e below S0 T22 (mkL a1 m 31 #[rv a1, iv p2] []) := fun t k => k20 t (st22 _ k)
  obtain ⟨V, hr, hrun, hended, M1, hW, hsame⟩ := leaveS X22 Bd.object Bd.enterable Bd.synchronized (v := none) (fun _ => rfl)
  rw [e22] at M1
  have f24 : Exa Z h22 a1 "java/io/ByteArrayOutputStream" := (f21.wr W22)
  have f25 : Fld Z h22 a1 "java/io/ByteArrayOutputStream" "buf" "[B" (.ref b1) := (((a_1.mon M0).other W14 (Or.inl hne)).other W22 (Or.inr (slot_ne (Or.inl (hw _ (List.mem_of_getElem? (i := 66) rfl))) (Or.inl (hw _ (List.mem_of_getElem? (i := 73) rfl))) (by decide) (t := (.array .byte)) (t' := .int) (by decide) (by decide))))
  have f26 : Arv Z h22 b1 kb .byte (6 : Int32) [(.int q0), (.int q1), (.int q2), (.int ((p2.toInt8.toInt32).toInt8.toInt32)), (.int q4), (.int q5)] (.int (0 : Int32)) := (va14.other W22 (Ne.symm hne))
  refine ⟨V, _, k23 _ (retS0 X22 hx Bd.returns (hb hby d_jdk_2005_method_4_code_31) hr), hrun, hended, _, _, rfl, ?_, ⟨_, rfl⟩, hW, hsame.mono (by decide) (by decide)⟩
  show Q_wr3 Z w_POLL a1 p2 b1 kb q0 q1 q2 q3 q4 q5 h0 n0 _ V.heap _
  exact ⟨rfl, N22, own_keepY hh0 hsame (fun y hy => by simp at hy; rcases hy with rfl | rfl <;> simp), (f24.mon M1), (f25.mon M1), (fw22.mon M1), (own_arvmon f26 M1), (own_untY hh0 a_4 hsame)⟩
def Q_wr4 (Z : State) (w_POLL : Addr) (a1 : Addr) (p2 : Int32) (b1 : Addr) (kb : ClassId) (q0 : Int32) (q1 : Int32) (q2 : Int32) (q3 : Int32) (q4 : Int32) (q5 : Int32) (h0 : Heap) (n0 : Nat) (v : Option Value) (h : Heap) (L : List Loc) : Prop := (v = none) ∧ (Fr n0 L) ∧ (Keep h0 h [a1, b1]) ∧ (Exa Z h a1 "java/io/ByteArrayOutputStream") ∧ (Fld Z h a1 "java/io/ByteArrayOutputStream" "buf" "[B" (.ref b1)) ∧ (Fld Z h a1 "java/io/ByteArrayOutputStream" "count" "I" (.int (5 : Int32))) ∧ (Arv Z h b1 kb .byte (6 : Int32) [(.int q0), (.int q1), (.int q2), (.int q3), (.int ((p2.toInt8.toInt32).toInt8.toInt32)), (.int q5)] (.int (0 : Int32))) ∧ (Unt h a1)
set_option maxRecDepth 65536 in
set_option maxHeartbeats 40000000 in
theorem wr4 (l : Launch) (Z : State) (a0 : Array Value) (hw : ∀ d ∈ tables_1, d.before a0 Z = true) (ws : List Jvm.Cond) (w_POLL : Addr) (G : Gst Z w_POLL) (a1 : Addr) (p2 : Int32) (b1 : Addr) (kb : ClassId) (q0 : Int32) (q1 : Int32) (q2 : Int32) (q3 : Int32) (q4 : Int32) (q5 : Int32) (h0 : Heap) (n0 : Nat) (O0 : Old Z n0 h0) (a_0 : Exa Z h0 a1 "java/io/ByteArrayOutputStream") (a_1 : Fld Z h0 a1 "java/io/ByteArrayOutputStream" "buf" "[B" (.ref b1)) (a_2 : Fld Z h0 a1 "java/io/ByteArrayOutputStream" "count" "I" (.int (4 : Int32))) (a_3 : Arv Z h0 b1 kb .byte (6 : Int32) [(.int q0), (.int q1), (.int q2), (.int q3), (.int q4), (.int q5)] (.int (0 : Int32))) (a_4 : Unt h0 a1) (ga1 : n0 ≤ a1) (gb1 : n0 ≤ b1) (hne : a1 ≠ b1) :
    MetFree l (⟨"java/io/ByteArrayOutputStream", "write", "(I)V"⟩ : MethodName) (head1 (Jvm.Cond.codeSync (⟨"java/io/ByteArrayOutputStream", "write", "(I)V"⟩ : MethodName) jdk_2005_method_4_code 2 none :: Jvm.Cond.instanceMethod (⟨"java/io/ByteArrayOutputStream", "write", "(I)V"⟩ : MethodName) :: ws) ({ frames := 1, cells := 0, slots := 0, locals := 17 } : Room)) (fun a U => a = #[(.ref a1), (.int p2)] ∧ Z.Warmed39 U.vm ∧ U.heap = h0 ∧ ∃ cell : Cell, h0[a1]? = some cell ∧ cell.enterable U.cur) (fun _ _ _ _ _ => True) (fun _ U o U' => ∃ v L, o = .returned v ∧ Q_wr4 Z w_POLL a1 p2 b1 kb q0 q1 q2 q3 q4 q5 h0 n0 v U'.heap L ∧ FrameEnd U o U' L ({ frames := 1, cells := 0, slots := 0, locals := 17 } : Room).cells ({ frames := 1, cells := 0, slots := 0, locals := 17 } : Room).slots) := by
  refine MetFree.of_bodySync (plainFor_of_name pn_2) (hisS (List.mem_cons_self ..)) (fun _ s _ ⟨h1, _, h2, cl, h3, h4⟩ => ⟨a1, cl, by rw [h1]; rfl, by rw [h2]; exact h3, h4⟩) ?_
  intro p e s0 m args below meth c a' cell s₁ Bd hml0 hP _
  obtain ⟨rfl, hZ0, hh0, -⟩ := hP
  cases Bd.receiver
  have hx := Bd.exec
  have hby : c.code = jdk_2005_method_4_code := Bd.bytes
  have hml : c.maxLocals = 2 := hml0
  have X0 : Stand p l e ({ frames := 1, cells := 0, slots := 0, locals := 17 } : Room) (s0.setCell a1 (cell.withEntry s0.cur)) m #[(.ref a1), (.int p2)] below meth c s₁ [] 0 0 := Stand.of_bodySync Bd
  have hZ : Z.Warmed39 (s0.setCell a1 (cell.withEntry s0.cur)).vm := hZ0
  have hown : (s0.setCell a1 (cell.withEntry s0.cur)).vm.findClass "java/io/ByteArrayOutputStream" = some m.cls := (findClass_of_methodNamed Bd.named :)
  have h1e : s₁.heap = h0.setIfInBounds a1 (cell.withEntry s0.cur) := by rw [Bd.state, ← hh0]; rfl
  have hc0 : h0[a1]? = some cell := by rw [← hh0]; exact Bd.object
  have M0 : Mon h0 s₁.heap := by rw [h1e]; exact mon_set hc0 _
  have O1 : Old Z n0 s₁.heap := by rw [h1e]; exact own_oldset O0 ga1
  have N0 := Fr.nil n0
  have e0 : s₁.heap = s₁.heap := rfl
  have k0 : Way p e below (s₁.setTop (mkL a1 m 0 #[rv a1, iv p2] [])) s₁ (mkL a1 m 0 #[rv a1, iv p2] []) := fun t k => k
  show ∃ s₂ o, Steps p.tables e below (s₁.setTop (mkL a1 m 0 #[rv a1, iv p2] [])) s₂ ∧ _
  generalize s₁.setTop (mkL a1 m 0 #[rv a1, iv p2] []) = S0 at k0 ⊢
  have k1 : Way p e below S0 s₁ (mkL a1 m 2 #[rv a1, iv p2] [(.ref a1), (.ref a1)]) := by
    intro t k
    refine k0 t ?_
    refine XS.aloadN X0.here hx rfl (hb hby d_jdk_2005_method_4_code_0) rfl rfl ?_
    show Steps p.tables e below (s₁.setTop (mkL a1 m 1 #[rv a1, iv p2] [(.ref a1)])) _
    refine XS.aloadN X0.here hx rfl (hb hby d_jdk_2005_method_4_code_1) rfl rfl ?_
    show Steps p.tables e below (s₁.setTop (mkL a1 m 2 #[rv a1, iv p2] [(.ref a1), (.ref a1)])) _
    exact k
  obtain ⟨T2, X2, e2, st2⟩ := getF X0 hx hZ hown (host := "") (Or.inl (hw _ (List.mem_of_getElem? (i := 72) rfl))) Via.refl rfl (a_2.mon M0) (g := (mkL a1 m 2 #[rv a1, iv p2] [(.ref a1), (.ref a1)])) rfl rfl (hb hby d_jdk_2005_method_4_code_2)
  have k3 : Way p e below S0 T2 (mkL a1 m 5 #[rv a1, iv p2] [(.int (4 : Int32)), (.ref a1)]) := fun t k => k1 t (st2 _ k)
  have k4 : Way p e below S0 T2 (mkL a1 m 7 #[rv a1, iv p2] [(.int (5 : Int32)), (.ref a1)]) := by
    intro t k
    refine k3 t ?_
    refine XS.iconst X2.here hx rfl (hb hby d_jdk_2005_method_4_code_5) ?_
    show Steps p.tables e below (T2.setTop (mkL a1 m 6 #[rv a1, iv p2] [(.int (1 : Int32)), (.int (4 : Int32)), (.ref a1)])) _
    refine XS.iadd X2.here hx rfl (hb hby d_jdk_2005_method_4_code_6) rfl ?_
    show Steps p.tables e below (T2.setTop (mkL a1 m 7 #[rv a1, iv p2] [(.int (5 : Int32)), (.ref a1)])) _
    exact k
  obtain ⟨cq5, qv5, qv5'⟩ := (a_0.mon M0).cell
  obtain ⟨_, _, ⟨T5, L5, kk5, nn5⟩, -, X5, ⟨Lc5, hQ5, l5, y5, z5⟩, st5⟩ := X2.privateBack hx (y := (⟨"java/io/ByteArrayOutputStream", "ensureCapacity", "(I)V"⟩ : MethodName)) hown (mvT hZ (hw _ (List.mem_of_getElem? (i := 74) rfl))) (mvT hZ (hw _ (List.mem_of_getElem? (i := 75) rfl))) (mvT hZ (hw _ (List.mem_of_getElem? (i := 77) rfl))) (Cond.privateMethod_at (mvP hZ (hw _ (List.mem_of_getElem? (i := 76) rfl)) (args := #[]))) (mvT hZ (hw _ (List.mem_of_getElem? (i := 78) rfl))) (by decide) (backOf (W := 2) (ens4 l Z a0 hw [] w_POLL G a1 b1 kb q0 q1 q2 q3 q4 q5 s₁.heap n0 O1 ((a_1.mon M0) : Fld Z s₁.heap a1 "java/io/ByteArrayOutputStream" "buf" "[B" (.ref b1)) ((own_arvmon a_3 M0) : Arv Z s₁.heap b1 kb .byte (6 : Int32) [(.int q0), (.int q1), (.int q2), (.int q3), (.int q4), (.int q5)] (.int (0 : Int32)))) hZ (hw _ (List.mem_of_getElem? (i := 78) rfl)) (hw _ (List.mem_of_getElem? (i := 54) rfl)) (by decide) (by decide)) (g := (mkL a1 m 7 #[rv a1, iv p2] [(.int (5 : Int32)), (.ref a1)])) rfl (by rw [hml]; rfl) (Steps.refl _) (a := a1) (by rw [e2]; exact qv5) qv5' (argsL := [(.int (5 : Int32))]) (rest := []) (lenOf pd_2 rfl) rfl (by show 2 * 1 + _ ≤ _; exact Nat.le_of_eq rfl) (hb hby d_jdk_2005_method_4_code_7) (fun _ _ => ⟨rfl, e2, (by decide : 0 + 0 ≤ _), (by decide : 0 + 0 ≤ _)⟩)
  dsimp only [Pt.U, Pt.locs, Pt.cells, Pt.slots] at X5 l5 y5 z5 st5 hQ5
  subst l5 y5 z5
  obtain ⟨rfl, Nq5, e5, po5_0⟩ := hQ5
  have N5 := Fr.app N0 Nq5
  subst po5_0
  have k6 : Way p e below S0 T5 (mkL a1 m 10 #[rv a1, iv p2] []) := fun t k => k4 t (st5.trans k)
  have k7 : Way p e below S0 T5 (mkL a1 m 11 #[rv a1, iv p2] [(.ref a1)]) := by
    intro t k
    refine k6 t ?_
    refine XS.aloadN X5.here hx rfl (hb hby d_jdk_2005_method_4_code_10) rfl rfl ?_
    show Steps p.tables e below (T5.setTop (mkL a1 m 11 #[rv a1, iv p2] [(.ref a1)])) _
    exact k
  obtain ⟨T8, X8, e8, st8⟩ := getF X5 hx hZ hown (host := "") (Or.inl (hw _ (List.mem_of_getElem? (i := 65) rfl))) Via.refl e5 (a_1.mon M0) (g := (mkL a1 m 11 #[rv a1, iv p2] [(.ref a1)])) rfl rfl (hb hby d_jdk_2005_method_4_code_11)
  have k9 : Way p e below S0 T8 (mkL a1 m 14 #[rv a1, iv p2] [(.ref b1)]) := fun t k => k7 t (st8 _ k)
  have k10 : Way p e below S0 T8 (mkL a1 m 15 #[rv a1, iv p2] [(.ref a1), (.ref b1)]) := by
    intro t k
    refine k9 t ?_
    refine XS.aloadN X8.here hx rfl (hb hby d_jdk_2005_method_4_code_14) rfl rfl ?_
    show Steps p.tables e below (T8.setTop (mkL a1 m 15 #[rv a1, iv p2] [(.ref a1), (.ref b1)])) _
    exact k
  obtain ⟨T11, X11, e11, st11⟩ := getF X8 hx hZ hown (host := "") (Or.inl (hw _ (List.mem_of_getElem? (i := 72) rfl))) Via.refl e8 (a_2.mon M0) (g := (mkL a1 m 15 #[rv a1, iv p2] [(.ref a1), (.ref b1)])) rfl rfl (hb hby d_jdk_2005_method_4_code_15)
  have k12 : Way p e below S0 T11 (mkL a1 m 18 #[rv a1, iv p2] [(.int (4 : Int32)), (.ref b1)]) := fun t k => k10 t (st11 _ k)
  have k13 : Way p e below S0 T11 (mkL a1 m 20 #[rv a1, iv p2] [(.int (p2.toInt8.toInt32)), (.int (4 : Int32)), (.ref b1)]) := by
    intro t k
    refine k12 t ?_
    refine XS.iloadN X11.here hx rfl (hb hby d_jdk_2005_method_4_code_18) rfl ?_
    show Steps p.tables e below (T11.setTop (mkL a1 m 19 #[rv a1, iv p2] [(.int p2), (.int (4 : Int32)), (.ref b1)])) _
    refine XS.i2b X11.here hx rfl (hb hby d_jdk_2005_method_4_code_19) rfl ?_
    show Steps p.tables e below (T11.setTop (mkL a1 m 20 #[rv a1, iv p2] [(.int (p2.toInt8.toInt32)), (.int (4 : Int32)), (.ref b1)])) _
    exact k
  obtain ⟨cl14, Ar14, qc14, S14, M14, U14, G14⟩ := id ((own_arvmon a_3 M0))
  have hin14 : ¬ ((4 : Int32) < 0 ∨ cl14.slots.size ≤ ((4 : Int32)).toNatClampNeg) := inb_of S14 ⟨by decide, by decide⟩
  obtain ⟨T14, h14, X14, e14, W14, st14⟩ := stB X11 hx hZ e11 Ar14 (j := (4 : Int32)) hin14 (g := (mkL a1 m 20 #[rv a1, iv p2] [(.int (p2.toInt8.toInt32)), (.int (4 : Int32)), (.ref b1)])) rfl rfl (hb hby d_jdk_2005_method_4_code_20)
  have O14 := O1.wr W14 gb1
  have N14 := Fr.snoc X14 N5 gb1
  have va14 : Arv Z h14 b1 kb .byte (6 : Int32) [(.int q0), (.int q1), (.int q2), (.int q3), (.int ((p2.toInt8.toInt32).toInt8.toInt32)), (.int q5)] (.int (0 : Int32)) := Arv.set Ar14 qc14 S14 M14 U14 G14 (fits_nar_byte _) W14 4 rfl (Nat.le_of_ble_eq_true rfl)
  have k15 : Way p e below S0 T14 (mkL a1 m 21 #[rv a1, iv p2] []) := fun t k => k13 t (st14 _ k)
  have k16 : Way p e below S0 T14 (mkL a1 m 23 #[rv a1, iv p2] [(.ref a1), (.ref a1)]) := by
    intro t k
    refine k15 t ?_
    refine XS.aloadN X14.here hx rfl (hb hby d_jdk_2005_method_4_code_21) rfl rfl ?_
    show Steps p.tables e below (T14.setTop (mkL a1 m 22 #[rv a1, iv p2] [(.ref a1)])) _
    refine XS.dup X14.here hx rfl (hb hby d_jdk_2005_method_4_code_22) rfl rfl ?_
    show Steps p.tables e below (T14.setTop (mkL a1 m 23 #[rv a1, iv p2] [(.ref a1), (.ref a1)])) _
    exact k
  have f17 : Fld Z h14 a1 "java/io/ByteArrayOutputStream" "count" "I" (.int (4 : Int32)) := ((a_2.mon M0).other W14 (Or.inl hne))
  obtain ⟨T18, X18, e18, st18⟩ := getF X14 hx hZ hown (host := "") (Or.inl (hw _ (List.mem_of_getElem? (i := 72) rfl))) Via.refl e14 f17 (g := (mkL a1 m 23 #[rv a1, iv p2] [(.ref a1), (.ref a1)])) rfl rfl (hb hby d_jdk_2005_method_4_code_23)
  have k19 : Way p e below S0 T18 (mkL a1 m 26 #[rv a1, iv p2] [(.int (4 : Int32)), (.ref a1)]) := fun t k => k16 t (st18 _ k)
  have k20 : Way p e below S0 T18 (mkL a1 m 28 #[rv a1, iv p2] [(.int (5 : Int32)), (.ref a1)]) := by
    intro t k
    refine k19 t ?_
    refine XS.iconst X18.here hx rfl (hb hby d_jdk_2005_method_4_code_26) ?_
    show Steps p.tables e below (T18.setTop (mkL a1 m 27 #[rv a1, iv p2] [(.int (1 : Int32)), (.int (4 : Int32)), (.ref a1)])) _
    refine XS.iadd X18.here hx rfl (hb hby d_jdk_2005_method_4_code_27) rfl ?_
    show Steps p.tables e below (T18.setTop (mkL a1 m 28 #[rv a1, iv p2] [(.int (5 : Int32)), (.ref a1)])) _
    exact k
  have f21 : Exa Z h14 a1 "java/io/ByteArrayOutputStream" := ((a_0.mon M0).wr W14)
  obtain ⟨T22, h22, X22, e22, W22, st22⟩ := putF X18 hx hZ hown (host := "") (Or.inl (hw _ (List.mem_of_getElem? (i := 72) rfl))) Via.refl e18 f17 f21 (Or.inl (hw _ (List.mem_of_getElem? (i := 73) rfl))) (hw _ (List.mem_of_getElem? (i := 53) rfl)) (ty := .int) (by decide) rfl rfl (g := (mkL a1 m 28 #[rv a1, iv p2] [(.int (5 : Int32)), (.ref a1)])) rfl rfl (hb hby d_jdk_2005_method_4_code_28)
  have O22 := O14.wr W22 ga1
  have N22 := Fr.snoc X22 N14 ga1
  have fw22 : Fld Z h22 a1 "java/io/ByteArrayOutputStream" "count" "I" (.int (5 : Int32)) := f17.same W22
  have k23 : Way p e below S0 T22 (mkL a1 m 31 #[rv a1, iv p2] []) := fun t k => k20 t (st22 _ k)
  obtain ⟨V, hr, hrun, hended, M1, hW, hsame⟩ := leaveS X22 Bd.object Bd.enterable Bd.synchronized (v := none) (fun _ => rfl)
  rw [e22] at M1
  have f24 : Exa Z h22 a1 "java/io/ByteArrayOutputStream" := (f21.wr W22)
  have f25 : Fld Z h22 a1 "java/io/ByteArrayOutputStream" "buf" "[B" (.ref b1) := (((a_1.mon M0).other W14 (Or.inl hne)).other W22 (Or.inr (slot_ne (Or.inl (hw _ (List.mem_of_getElem? (i := 66) rfl))) (Or.inl (hw _ (List.mem_of_getElem? (i := 73) rfl))) (by decide) (t := (.array .byte)) (t' := .int) (by decide) (by decide))))
  have f26 : Arv Z h22 b1 kb .byte (6 : Int32) [(.int q0), (.int q1), (.int q2), (.int q3), (.int ((p2.toInt8.toInt32).toInt8.toInt32)), (.int q5)] (.int (0 : Int32)) := (va14.other W22 (Ne.symm hne))
  refine ⟨V, _, k23 _ (retS0 X22 hx Bd.returns (hb hby d_jdk_2005_method_4_code_31) hr), hrun, hended, _, _, rfl, ?_, ⟨_, rfl⟩, hW, hsame.mono (by decide) (by decide)⟩
  show Q_wr4 Z w_POLL a1 p2 b1 kb q0 q1 q2 q3 q4 q5 h0 n0 _ V.heap _
  exact ⟨rfl, N22, own_keepY hh0 hsame (fun y hy => by simp at hy; rcases hy with rfl | rfl <;> simp), (f24.mon M1), (f25.mon M1), (fw22.mon M1), (own_arvmon f26 M1), (own_untY hh0 a_4 hsame)⟩
def Q_wr5 (Z : State) (w_POLL : Addr) (a1 : Addr) (p2 : Int32) (b1 : Addr) (kb : ClassId) (q0 : Int32) (q1 : Int32) (q2 : Int32) (q3 : Int32) (q4 : Int32) (q5 : Int32) (h0 : Heap) (n0 : Nat) (v : Option Value) (h : Heap) (L : List Loc) : Prop := (v = none) ∧ (Fr n0 L) ∧ (Keep h0 h [a1, b1]) ∧ (Exa Z h a1 "java/io/ByteArrayOutputStream") ∧ (Fld Z h a1 "java/io/ByteArrayOutputStream" "buf" "[B" (.ref b1)) ∧ (Fld Z h a1 "java/io/ByteArrayOutputStream" "count" "I" (.int (6 : Int32))) ∧ (Arv Z h b1 kb .byte (6 : Int32) [(.int q0), (.int q1), (.int q2), (.int q3), (.int q4), (.int ((p2.toInt8.toInt32).toInt8.toInt32))] (.int (0 : Int32))) ∧ (Unt h a1)
set_option maxRecDepth 65536 in
set_option maxHeartbeats 40000000 in
theorem wr5 (l : Launch) (Z : State) (a0 : Array Value) (hw : ∀ d ∈ tables_1, d.before a0 Z = true) (ws : List Jvm.Cond) (w_POLL : Addr) (G : Gst Z w_POLL) (a1 : Addr) (p2 : Int32) (b1 : Addr) (kb : ClassId) (q0 : Int32) (q1 : Int32) (q2 : Int32) (q3 : Int32) (q4 : Int32) (q5 : Int32) (h0 : Heap) (n0 : Nat) (O0 : Old Z n0 h0) (a_0 : Exa Z h0 a1 "java/io/ByteArrayOutputStream") (a_1 : Fld Z h0 a1 "java/io/ByteArrayOutputStream" "buf" "[B" (.ref b1)) (a_2 : Fld Z h0 a1 "java/io/ByteArrayOutputStream" "count" "I" (.int (5 : Int32))) (a_3 : Arv Z h0 b1 kb .byte (6 : Int32) [(.int q0), (.int q1), (.int q2), (.int q3), (.int q4), (.int q5)] (.int (0 : Int32))) (a_4 : Unt h0 a1) (ga1 : n0 ≤ a1) (gb1 : n0 ≤ b1) (hne : a1 ≠ b1) :
    MetFree l (⟨"java/io/ByteArrayOutputStream", "write", "(I)V"⟩ : MethodName) (head1 (Jvm.Cond.codeSync (⟨"java/io/ByteArrayOutputStream", "write", "(I)V"⟩ : MethodName) jdk_2005_method_4_code 2 none :: Jvm.Cond.instanceMethod (⟨"java/io/ByteArrayOutputStream", "write", "(I)V"⟩ : MethodName) :: ws) ({ frames := 1, cells := 0, slots := 0, locals := 17 } : Room)) (fun a U => a = #[(.ref a1), (.int p2)] ∧ Z.Warmed39 U.vm ∧ U.heap = h0 ∧ ∃ cell : Cell, h0[a1]? = some cell ∧ cell.enterable U.cur) (fun _ _ _ _ _ => True) (fun _ U o U' => ∃ v L, o = .returned v ∧ Q_wr5 Z w_POLL a1 p2 b1 kb q0 q1 q2 q3 q4 q5 h0 n0 v U'.heap L ∧ FrameEnd U o U' L ({ frames := 1, cells := 0, slots := 0, locals := 17 } : Room).cells ({ frames := 1, cells := 0, slots := 0, locals := 17 } : Room).slots) := by
  refine MetFree.of_bodySync (plainFor_of_name pn_2) (hisS (List.mem_cons_self ..)) (fun _ s _ ⟨h1, _, h2, cl, h3, h4⟩ => ⟨a1, cl, by rw [h1]; rfl, by rw [h2]; exact h3, h4⟩) ?_
  intro p e s0 m args below meth c a' cell s₁ Bd hml0 hP _
  obtain ⟨rfl, hZ0, hh0, -⟩ := hP
  cases Bd.receiver
  have hx := Bd.exec
  have hby : c.code = jdk_2005_method_4_code := Bd.bytes
  have hml : c.maxLocals = 2 := hml0
  have X0 : Stand p l e ({ frames := 1, cells := 0, slots := 0, locals := 17 } : Room) (s0.setCell a1 (cell.withEntry s0.cur)) m #[(.ref a1), (.int p2)] below meth c s₁ [] 0 0 := Stand.of_bodySync Bd
  have hZ : Z.Warmed39 (s0.setCell a1 (cell.withEntry s0.cur)).vm := hZ0
  have hown : (s0.setCell a1 (cell.withEntry s0.cur)).vm.findClass "java/io/ByteArrayOutputStream" = some m.cls := (findClass_of_methodNamed Bd.named :)
  have h1e : s₁.heap = h0.setIfInBounds a1 (cell.withEntry s0.cur) := by rw [Bd.state, ← hh0]; rfl
  have hc0 : h0[a1]? = some cell := by rw [← hh0]; exact Bd.object
  have M0 : Mon h0 s₁.heap := by rw [h1e]; exact mon_set hc0 _
  have O1 : Old Z n0 s₁.heap := by rw [h1e]; exact own_oldset O0 ga1
  have N0 := Fr.nil n0
  have e0 : s₁.heap = s₁.heap := rfl
  have k0 : Way p e below (s₁.setTop (mkL a1 m 0 #[rv a1, iv p2] [])) s₁ (mkL a1 m 0 #[rv a1, iv p2] []) := fun t k => k
  show ∃ s₂ o, Steps p.tables e below (s₁.setTop (mkL a1 m 0 #[rv a1, iv p2] [])) s₂ ∧ _
  generalize s₁.setTop (mkL a1 m 0 #[rv a1, iv p2] []) = S0 at k0 ⊢
  have k1 : Way p e below S0 s₁ (mkL a1 m 2 #[rv a1, iv p2] [(.ref a1), (.ref a1)]) := by
    intro t k
    refine k0 t ?_
    refine XS.aloadN X0.here hx rfl (hb hby d_jdk_2005_method_4_code_0) rfl rfl ?_
    show Steps p.tables e below (s₁.setTop (mkL a1 m 1 #[rv a1, iv p2] [(.ref a1)])) _
    refine XS.aloadN X0.here hx rfl (hb hby d_jdk_2005_method_4_code_1) rfl rfl ?_
    show Steps p.tables e below (s₁.setTop (mkL a1 m 2 #[rv a1, iv p2] [(.ref a1), (.ref a1)])) _
    exact k
  obtain ⟨T2, X2, e2, st2⟩ := getF X0 hx hZ hown (host := "") (Or.inl (hw _ (List.mem_of_getElem? (i := 72) rfl))) Via.refl rfl (a_2.mon M0) (g := (mkL a1 m 2 #[rv a1, iv p2] [(.ref a1), (.ref a1)])) rfl rfl (hb hby d_jdk_2005_method_4_code_2)
  have k3 : Way p e below S0 T2 (mkL a1 m 5 #[rv a1, iv p2] [(.int (5 : Int32)), (.ref a1)]) := fun t k => k1 t (st2 _ k)
  have k4 : Way p e below S0 T2 (mkL a1 m 7 #[rv a1, iv p2] [(.int (6 : Int32)), (.ref a1)]) := by
    intro t k
    refine k3 t ?_
    refine XS.iconst X2.here hx rfl (hb hby d_jdk_2005_method_4_code_5) ?_
    show Steps p.tables e below (T2.setTop (mkL a1 m 6 #[rv a1, iv p2] [(.int (1 : Int32)), (.int (5 : Int32)), (.ref a1)])) _
    refine XS.iadd X2.here hx rfl (hb hby d_jdk_2005_method_4_code_6) rfl ?_
    show Steps p.tables e below (T2.setTop (mkL a1 m 7 #[rv a1, iv p2] [(.int (6 : Int32)), (.ref a1)])) _
    exact k
  obtain ⟨cq5, qv5, qv5'⟩ := (a_0.mon M0).cell
  obtain ⟨_, _, ⟨T5, L5, kk5, nn5⟩, -, X5, ⟨Lc5, hQ5, l5, y5, z5⟩, st5⟩ := X2.privateBack hx (y := (⟨"java/io/ByteArrayOutputStream", "ensureCapacity", "(I)V"⟩ : MethodName)) hown (mvT hZ (hw _ (List.mem_of_getElem? (i := 74) rfl))) (mvT hZ (hw _ (List.mem_of_getElem? (i := 75) rfl))) (mvT hZ (hw _ (List.mem_of_getElem? (i := 77) rfl))) (Cond.privateMethod_at (mvP hZ (hw _ (List.mem_of_getElem? (i := 76) rfl)) (args := #[]))) (mvT hZ (hw _ (List.mem_of_getElem? (i := 78) rfl))) (by decide) (backOf (W := 2) (ens5 l Z a0 hw [] w_POLL G a1 b1 kb q0 q1 q2 q3 q4 q5 s₁.heap n0 O1 ((a_1.mon M0) : Fld Z s₁.heap a1 "java/io/ByteArrayOutputStream" "buf" "[B" (.ref b1)) ((own_arvmon a_3 M0) : Arv Z s₁.heap b1 kb .byte (6 : Int32) [(.int q0), (.int q1), (.int q2), (.int q3), (.int q4), (.int q5)] (.int (0 : Int32)))) hZ (hw _ (List.mem_of_getElem? (i := 78) rfl)) (hw _ (List.mem_of_getElem? (i := 54) rfl)) (by decide) (by decide)) (g := (mkL a1 m 7 #[rv a1, iv p2] [(.int (6 : Int32)), (.ref a1)])) rfl (by rw [hml]; rfl) (Steps.refl _) (a := a1) (by rw [e2]; exact qv5) qv5' (argsL := [(.int (6 : Int32))]) (rest := []) (lenOf pd_2 rfl) rfl (by show 2 * 1 + _ ≤ _; exact Nat.le_of_eq rfl) (hb hby d_jdk_2005_method_4_code_7) (fun _ _ => ⟨rfl, e2, (by decide : 0 + 0 ≤ _), (by decide : 0 + 0 ≤ _)⟩)
  dsimp only [Pt.U, Pt.locs, Pt.cells, Pt.slots] at X5 l5 y5 z5 st5 hQ5
  subst l5 y5 z5
  obtain ⟨rfl, Nq5, e5, po5_0⟩ := hQ5
  have N5 := Fr.app N0 Nq5
  subst po5_0
  have k6 : Way p e below S0 T5 (mkL a1 m 10 #[rv a1, iv p2] []) := fun t k => k4 t (st5.trans k)
  have k7 : Way p e below S0 T5 (mkL a1 m 11 #[rv a1, iv p2] [(.ref a1)]) := by
    intro t k
    refine k6 t ?_
    refine XS.aloadN X5.here hx rfl (hb hby d_jdk_2005_method_4_code_10) rfl rfl ?_
    show Steps p.tables e below (T5.setTop (mkL a1 m 11 #[rv a1, iv p2] [(.ref a1)])) _
    exact k
  obtain ⟨T8, X8, e8, st8⟩ := getF X5 hx hZ hown (host := "") (Or.inl (hw _ (List.mem_of_getElem? (i := 65) rfl))) Via.refl e5 (a_1.mon M0) (g := (mkL a1 m 11 #[rv a1, iv p2] [(.ref a1)])) rfl rfl (hb hby d_jdk_2005_method_4_code_11)
  have k9 : Way p e below S0 T8 (mkL a1 m 14 #[rv a1, iv p2] [(.ref b1)]) := fun t k => k7 t (st8 _ k)
  have k10 : Way p e below S0 T8 (mkL a1 m 15 #[rv a1, iv p2] [(.ref a1), (.ref b1)]) := by
    intro t k
    refine k9 t ?_
    refine XS.aloadN X8.here hx rfl (hb hby d_jdk_2005_method_4_code_14) rfl rfl ?_
    show Steps p.tables e below (T8.setTop (mkL a1 m 15 #[rv a1, iv p2] [(.ref a1), (.ref b1)])) _
    exact k
  obtain ⟨T11, X11, e11, st11⟩ := getF X8 hx hZ hown (host := "") (Or.inl (hw _ (List.mem_of_getElem? (i := 72) rfl))) Via.refl e8 (a_2.mon M0) (g := (mkL a1 m 15 #[rv a1, iv p2] [(.ref a1), (.ref b1)])) rfl rfl (hb hby d_jdk_2005_method_4_code_15)
  have k12 : Way p e below S0 T11 (mkL a1 m 18 #[rv a1, iv p2] [(.int (5 : Int32)), (.ref b1)]) := fun t k => k10 t (st11 _ k)
  have k13 : Way p e below S0 T11 (mkL a1 m 20 #[rv a1, iv p2] [(.int (p2.toInt8.toInt32)), (.int (5 : Int32)), (.ref b1)]) := by
    intro t k
    refine k12 t ?_
    refine XS.iloadN X11.here hx rfl (hb hby d_jdk_2005_method_4_code_18) rfl ?_
    show Steps p.tables e below (T11.setTop (mkL a1 m 19 #[rv a1, iv p2] [(.int p2), (.int (5 : Int32)), (.ref b1)])) _
    refine XS.i2b X11.here hx rfl (hb hby d_jdk_2005_method_4_code_19) rfl ?_
    show Steps p.tables e below (T11.setTop (mkL a1 m 20 #[rv a1, iv p2] [(.int (p2.toInt8.toInt32)), (.int (5 : Int32)), (.ref b1)])) _
    exact k
  obtain ⟨cl14, Ar14, qc14, S14, M14, U14, G14⟩ := id ((own_arvmon a_3 M0))
  have hin14 : ¬ ((5 : Int32) < 0 ∨ cl14.slots.size ≤ ((5 : Int32)).toNatClampNeg) := inb_of S14 ⟨by decide, by decide⟩
  obtain ⟨T14, h14, X14, e14, W14, st14⟩ := stB X11 hx hZ e11 Ar14 (j := (5 : Int32)) hin14 (g := (mkL a1 m 20 #[rv a1, iv p2] [(.int (p2.toInt8.toInt32)), (.int (5 : Int32)), (.ref b1)])) rfl rfl (hb hby d_jdk_2005_method_4_code_20)
  have O14 := O1.wr W14 gb1
  have N14 := Fr.snoc X14 N5 gb1
  have va14 : Arv Z h14 b1 kb .byte (6 : Int32) [(.int q0), (.int q1), (.int q2), (.int q3), (.int q4), (.int ((p2.toInt8.toInt32).toInt8.toInt32))] (.int (0 : Int32)) := Arv.set Ar14 qc14 S14 M14 U14 G14 (fits_nar_byte _) W14 5 rfl (Nat.le_of_ble_eq_true rfl)
  have k15 : Way p e below S0 T14 (mkL a1 m 21 #[rv a1, iv p2] []) := fun t k => k13 t (st14 _ k)
  have k16 : Way p e below S0 T14 (mkL a1 m 23 #[rv a1, iv p2] [(.ref a1), (.ref a1)]) := by
    intro t k
    refine k15 t ?_
    refine XS.aloadN X14.here hx rfl (hb hby d_jdk_2005_method_4_code_21) rfl rfl ?_
    show Steps p.tables e below (T14.setTop (mkL a1 m 22 #[rv a1, iv p2] [(.ref a1)])) _
    refine XS.dup X14.here hx rfl (hb hby d_jdk_2005_method_4_code_22) rfl rfl ?_
    show Steps p.tables e below (T14.setTop (mkL a1 m 23 #[rv a1, iv p2] [(.ref a1), (.ref a1)])) _
    exact k
  have f17 : Fld Z h14 a1 "java/io/ByteArrayOutputStream" "count" "I" (.int (5 : Int32)) := ((a_2.mon M0).other W14 (Or.inl hne))
  obtain ⟨T18, X18, e18, st18⟩ := getF X14 hx hZ hown (host := "") (Or.inl (hw _ (List.mem_of_getElem? (i := 72) rfl))) Via.refl e14 f17 (g := (mkL a1 m 23 #[rv a1, iv p2] [(.ref a1), (.ref a1)])) rfl rfl (hb hby d_jdk_2005_method_4_code_23)
  have k19 : Way p e below S0 T18 (mkL a1 m 26 #[rv a1, iv p2] [(.int (5 : Int32)), (.ref a1)]) := fun t k => k16 t (st18 _ k)
  have k20 : Way p e below S0 T18 (mkL a1 m 28 #[rv a1, iv p2] [(.int (6 : Int32)), (.ref a1)]) := by
    intro t k
    refine k19 t ?_
    refine XS.iconst X18.here hx rfl (hb hby d_jdk_2005_method_4_code_26) ?_
    show Steps p.tables e below (T18.setTop (mkL a1 m 27 #[rv a1, iv p2] [(.int (1 : Int32)), (.int (5 : Int32)), (.ref a1)])) _
    refine XS.iadd X18.here hx rfl (hb hby d_jdk_2005_method_4_code_27) rfl ?_
    show Steps p.tables e below (T18.setTop (mkL a1 m 28 #[rv a1, iv p2] [(.int (6 : Int32)), (.ref a1)])) _
    exact k
  have f21 : Exa Z h14 a1 "java/io/ByteArrayOutputStream" := ((a_0.mon M0).wr W14)
  obtain ⟨T22, h22, X22, e22, W22, st22⟩ := putF X18 hx hZ hown (host := "") (Or.inl (hw _ (List.mem_of_getElem? (i := 72) rfl))) Via.refl e18 f17 f21 (Or.inl (hw _ (List.mem_of_getElem? (i := 73) rfl))) (hw _ (List.mem_of_getElem? (i := 53) rfl)) (ty := .int) (by decide) rfl rfl (g := (mkL a1 m 28 #[rv a1, iv p2] [(.int (6 : Int32)), (.ref a1)])) rfl rfl (hb hby d_jdk_2005_method_4_code_28)
  have O22 := O14.wr W22 ga1
  have N22 := Fr.snoc X22 N14 ga1
  have fw22 : Fld Z h22 a1 "java/io/ByteArrayOutputStream" "count" "I" (.int (6 : Int32)) := f17.same W22
  have k23 : Way p e below S0 T22 (mkL a1 m 31 #[rv a1, iv p2] []) := fun t k => k20 t (st22 _ k)
  obtain ⟨V, hr, hrun, hended, M1, hW, hsame⟩ := leaveS X22 Bd.object Bd.enterable Bd.synchronized (v := none) (fun _ => rfl)
  rw [e22] at M1
  have f24 : Exa Z h22 a1 "java/io/ByteArrayOutputStream" := (f21.wr W22)
  have f25 : Fld Z h22 a1 "java/io/ByteArrayOutputStream" "buf" "[B" (.ref b1) := (((a_1.mon M0).other W14 (Or.inl hne)).other W22 (Or.inr (slot_ne (Or.inl (hw _ (List.mem_of_getElem? (i := 66) rfl))) (Or.inl (hw _ (List.mem_of_getElem? (i := 73) rfl))) (by decide) (t := (.array .byte)) (t' := .int) (by decide) (by decide))))
  have f26 : Arv Z h22 b1 kb .byte (6 : Int32) [(.int q0), (.int q1), (.int q2), (.int q3), (.int q4), (.int ((p2.toInt8.toInt32).toInt8.toInt32))] (.int (0 : Int32)) := (va14.other W22 (Ne.symm hne))
  refine ⟨V, _, k23 _ (retS0 X22 hx Bd.returns (hb hby d_jdk_2005_method_4_code_31) hr), hrun, hended, _, _, rfl, ?_, ⟨_, rfl⟩, hW, hsame.mono (by decide) (by decide)⟩
  show Q_wr5 Z w_POLL a1 p2 b1 kb q0 q1 q2 q3 q4 q5 h0 n0 _ V.heap _
  exact ⟨rfl, N22, own_keepY hh0 hsame (fun y hy => by simp at hy; rcases hy with rfl | rfl <;> simp), (f24.mon M1), (f25.mon M1), (fw22.mon M1), (own_arvmon f26 M1), (own_untY hh0 a_4 hsame)⟩
def Q_copyOf (Z : State) (w_POLL : Addr) (a1 : Addr) (kb : ClassId) (q0 : Int32) (q1 : Int32) (q2 : Int32) (q3 : Int32) (q4 : Int32) (q5 : Int32) (h0 : Heap) (n0 : Nat) (v : Option Value) (h : Heap) (L : List Loc) : Prop := ∃ d1 : Addr, (v = some (.ref d1)) ∧ (Fr n0 L) ∧ (Keep h0 h []) ∧ (h0.size ≤ d1) ∧ (Exa Z h d1 "[B") ∧ (Arv Z h d1 kb .byte (6 : Int32) [(.int q0), (.int q1), (.int q2), (.int q3), (.int q4), (.int q5)] (.int (0 : Int32))) ∧ (L = [])
set_option maxRecDepth 65536 in
set_option maxHeartbeats 40000000 in
theorem copyOf (l : Launch) (Z : State) (a0 : Array Value) (hw : ∀ d ∈ tables_1, d.before a0 Z = true) (ws : List Jvm.Cond) (w_POLL : Addr) (G : Gst Z w_POLL) (a1 : Addr) (kb : ClassId) (q0 : Int32) (q1 : Int32) (q2 : Int32) (q3 : Int32) (q4 : Int32) (q5 : Int32) (h0 : Heap) (n0 : Nat) (O0 : Old Z n0 h0) (a_0 : Exa Z h0 a1 "[B") (a_1 : Arv Z h0 a1 kb .byte (6 : Int32) [(.int q0), (.int q1), (.int q2), (.int q3), (.int q4), (.int q5)] (.int (0 : Int32))) :
    MetFree l (⟨"java/util/Arrays", "copyOf", "([BI)[B"⟩ : MethodName) (head1 (Jvm.Cond.code (⟨"java/util/Arrays", "copyOf", "([BI)[B"⟩ : MethodName) jdk_65_method_121_code 3 (some (.array .byte)) :: ws) ({ frames := 1, cells := 1, slots := 6, locals := 14 } : Room)) (fun a U => a = #[(.ref a1), (.int (6 : Int32))] ∧ Z.Warmed39 U.vm ∧ U.heap = h0) (fun _ _ _ _ _ => True) (fun _ U o U' => ∃ v L, o = .returned v ∧ Q_copyOf Z w_POLL a1 kb q0 q1 q2 q3 q4 q5 h0 n0 v U'.heap L ∧ FrameEnd U o U' L ({ frames := 1, cells := 1, slots := 6, locals := 14 } : Room).cells ({ frames := 1, cells := 1, slots := 6, locals := 14 } : Room).slots) := by
  refine MetFree.of_bodySF (plainFor_of_name pn_3) hisR ?_
  intro p e s m args below meth c s₁ Bd hml0 hP hK
  obtain ⟨rfl, hZ, hh⟩ := hP
  have hx := Bd.exec
  have hby := Bd.bytes
  have hml : c.maxLocals = 3 := hml0
  have hown : s.vm.findClass "java/util/Arrays" = some m.cls := findClass_of_methodNamed Bd.named
  have hnm := (name_of_methodNamed Bd.named Bd.method).1
  have X0 : Stand p l e ({ frames := 1, cells := 1, slots := 6, locals := 14 } : Room) s m #[(.ref a1), (.int (6 : Int32))] below meth c s₁ [] 0 0 := Stand.of_body Bd
  have e0 : s₁.heap = h0 := by rw [← hh, Bd.state]; rfl
  have N0 := Fr.nil n0
  obtain ⟨S_w_POLL, E_w_POLL, F_w_POLL_letter⟩ := id G
  have k0 : Way p e below (s₁.setTop (entryFrame m #[(.ref a1), (.int (6 : Int32))] 3)) s₁ (mkF m 0 #[rv a1, iv (6 : Int32), .unset] []) := fun t k => castTop (by first | (simp [entryFrame, mkF, argsToLocals, Value.category]; done) | rfl) k
  generalize s₁.setTop (entryFrame m #[(.ref a1), (.int (6 : Int32))] 3) = S0 at k0 ⊢
  have k1 : Way p e below S0 s₁ (mkF m 2 #[rv a1, iv (6 : Int32), .unset] [(.ref a1), (.int (6 : Int32))]) := by
    intro t k
    refine k0 t ?_
    refine XS.iloadN X0.here hx rfl (hb hby d_jdk_65_method_121_code_0) rfl ?_
    show Steps p.tables e below (s₁.setTop (mkF m 1 #[rv a1, iv (6 : Int32), .unset] [(.int (6 : Int32))])) _
    refine XS.aloadN X0.here hx rfl (hb hby d_jdk_65_method_121_code_1) rfl rfl ?_
    show Steps p.tables e below (s₁.setTop (mkF m 2 #[rv a1, iv (6 : Int32), .unset] [(.ref a1), (.int (6 : Int32))])) _
    exact k
  obtain ⟨cl2, Ar2, -, S2, M2, -, -⟩ := id (a_1)
  have k3 : Way p e below S0 s₁ (mkF m 3 #[rv a1, iv (6 : Int32), .unset] [(.int (6 : Int32)), (.int (6 : Int32))]) := fun t k => k1 t (X0.arraylength hx (by rw [e0]; exact Ar2.1) (State.isArrayOf_alike hZ.alike Ar2.2.1) (g := (mkF m 2 #[rv a1, iv (6 : Int32), .unset] [(.ref a1), (.int (6 : Int32))])) rfl rfl (hb hby d_jdk_65_method_121_code_2) _ (by rw [len_of S2 M2]; exact k))
  have k4 : Way p e below S0 s₁ (mkF m 7 #[rv a1, iv (6 : Int32), .unset] [(.ref a1)]) := by
    intro t k
    refine k3 t ?_
    refine XS.icmpNo X0.here hx rfl (hb hby d_jdk_65_method_121_code_3) rfl (teq ((by decide) : (6 : Int32) = (6 : Int32))).2 ?_
    show Steps p.tables e below (s₁.setTop (mkF m 6 #[rv a1, iv (6 : Int32), .unset] [])) _
    refine XS.aloadN X0.here hx rfl (hb hby d_jdk_65_method_121_code_6) rfl rfl ?_
    show Steps p.tables e below (s₁.setTop (mkF m 7 #[rv a1, iv (6 : Int32), .unset] [(.ref a1)])) _
    exact k
  obtain ⟨T5, h5, X5, e5, E5, A5, B5, st5⟩ := cloneH X0 hx hZ hown (hw _ (List.mem_of_getElem? (i := 90) rfl)) (hw _ (List.mem_of_getElem? (i := 21) rfl)) (hw _ (List.mem_of_getElem? (i := 25) rfl)) (hw _ (List.mem_of_getElem? (i := 23) rfl)) (hw _ (List.mem_of_getElem? (i := 24) rfl)) (hw _ (List.mem_of_getElem? (i := 26) rfl)) e0 (Arv.arh a_1) a_0 (g := (mkF m 7 #[rv a1, iv (6 : Int32), .unset] [(.ref a1)])) rfl (by rw [hml]; rfl) rfl (hb hby d_jdk_65_method_121_code_7) (by decide) (W := 0) (cap := 6) (by show 2 * 0 + _ ≤ _; exact Nat.le_of_eq rfl) (by decide) (by decide) (by decide) (by decide)
  obtain ⟨b5, g5⟩ : ∃ z, z = h0.size := ⟨_, rfl⟩
  rw [← g5] at A5 B5 st5
  have O5 := O0.ext E5
  have K5 : Keep h0 h5 [] := (Keep.refl h0 []).ext E5
  have v5 : Arv Z h5 b5 kb .byte (6 : Int32) [(.int q0), (.int q1), (.int q2), (.int q3), (.int q4), (.int q5)] (.int (0 : Int32)) := A5
  have k6 : Way p e below S0 T5 (mkF m 10 #[rv a1, iv (6 : Int32), .unset] [(.ref b5)]) := fun t k => k4 t (st5 _ k)
  obtain ⟨T7, X7, e7, st7⟩ := castY X5 hx hZ hown (hw _ (List.mem_of_getElem? (i := 91) rfl)) e5 (Ins.self B5) (g := (mkF m 10 #[rv a1, iv (6 : Int32), .unset] [(.ref b5)])) rfl rfl (hb hby d_jdk_65_method_121_code_10)
  have k8 : Way p e below S0 T7 (mkF m 13 #[rv a1, iv (6 : Int32), .unset] [(.ref b5)]) := fun t k => k6 t (st7 _ k)
  obtain ⟨fs, hr, hrun, hended, hW, hsame⟩ := X7.leave (v := some (.ref b5)) (fun h => by rw [Bd.returns] at h; cases h)
  have gz9 : h0.size ≤ b5 := Nat.le_trans (Keep.refl h0 []).1 (Nat.le_of_eq g5.symm)
  refine ⟨_, _, k8 _ (retOut X7 hx Bd.returns rfl (Or.inr (Or.inr (Or.inr (Or.inr ⟨rfl, rfl, rfl⟩)))) (hb hby d_jdk_65_method_121_code_13) hr), hrun, hended, _, _, rfl, ?_, ⟨_, rfl⟩, hW, hsame.mono (by decide) (by decide)⟩
  show Q_copyOf Z w_POLL a1 kb q0 q1 q2 q3 q4 q5 h0 n0 _ T7.heap _
  rw [e7]
  exact ⟨b5, rfl, N0, K5, gz9, B5, v5, rfl⟩
def Q_tba (Z : State) (w_POLL : Addr) (a1 : Addr) (b1 : Addr) (kb : ClassId) (q0 : Int32) (q1 : Int32) (q2 : Int32) (q3 : Int32) (q4 : Int32) (q5 : Int32) (h0 : Heap) (n0 : Nat) (v : Option Value) (h : Heap) (L : List Loc) : Prop := ∃ d1 : Addr, (v = some (.ref d1)) ∧ (Fr n0 L) ∧ (Keep h0 h []) ∧ (h0.size ≤ d1) ∧ (Arv Z h d1 kb .byte (6 : Int32) [(.int q0), (.int q1), (.int q2), (.int q3), (.int q4), (.int q5)] (.int (0 : Int32)))
set_option maxRecDepth 65536 in
set_option maxHeartbeats 40000000 in
theorem tba (l : Launch) (Z : State) (a0 : Array Value) (hw : ∀ d ∈ tables_1, d.before a0 Z = true) (ws : List Jvm.Cond) (w_POLL : Addr) (G : Gst Z w_POLL) (a1 : Addr) (b1 : Addr) (kb : ClassId) (q0 : Int32) (q1 : Int32) (q2 : Int32) (q3 : Int32) (q4 : Int32) (q5 : Int32) (h0 : Heap) (n0 : Nat) (O0 : Old Z n0 h0) (a_0 : Exa Z h0 a1 "java/io/ByteArrayOutputStream") (a_1 : Fld Z h0 a1 "java/io/ByteArrayOutputStream" "buf" "[B" (.ref b1)) (a_2 : Fld Z h0 a1 "java/io/ByteArrayOutputStream" "count" "I" (.int (6 : Int32))) (a_3 : Exa Z h0 b1 "[B") (a_4 : Arv Z h0 b1 kb .byte (6 : Int32) [(.int q0), (.int q1), (.int q2), (.int q3), (.int q4), (.int q5)] (.int (0 : Int32))) (a_5 : Unt h0 a1) (ga1 : n0 ≤ a1) :
    MetFree l (⟨"java/io/ByteArrayOutputStream", "toByteArray", "()[B"⟩ : MethodName) (head1 (Jvm.Cond.codeSync (⟨"java/io/ByteArrayOutputStream", "toByteArray", "()[B"⟩ : MethodName) jdk_2005_method_9_code 1 (some (.array .byte)) :: Jvm.Cond.instanceMethod (⟨"java/io/ByteArrayOutputStream", "toByteArray", "()[B"⟩ : MethodName) :: ws) ({ frames := 2, cells := 1, slots := 6, locals := 30 } : Room)) (fun a U => a = #[(.ref a1)] ∧ Z.Warmed39 U.vm ∧ U.heap = h0 ∧ ∃ cell : Cell, h0[a1]? = some cell ∧ cell.enterable U.cur) (fun _ _ _ _ _ => True) (fun _ U o U' => ∃ v L, o = .returned v ∧ Q_tba Z w_POLL a1 b1 kb q0 q1 q2 q3 q4 q5 h0 n0 v U'.heap L ∧ FrameEnd U o U' L ({ frames := 2, cells := 1, slots := 6, locals := 30 } : Room).cells ({ frames := 2, cells := 1, slots := 6, locals := 30 } : Room).slots) := by
  refine MetFree.of_bodySync (plainFor_of_name pn_2) (hisS (List.mem_cons_self ..)) (fun _ s _ ⟨h1, _, h2, cl, h3, h4⟩ => ⟨a1, cl, by rw [h1]; rfl, by rw [h2]; exact h3, h4⟩) ?_
  intro p e s0 m args below meth c a' cell s₁ Bd hml0 hP _
  obtain ⟨rfl, hZ0, hh0, -⟩ := hP
  cases Bd.receiver
  have hx := Bd.exec
  have hby : c.code = jdk_2005_method_9_code := Bd.bytes
  have hml : c.maxLocals = 1 := hml0
  have X0 : Stand p l e ({ frames := 2, cells := 1, slots := 6, locals := 30 } : Room) (s0.setCell a1 (cell.withEntry s0.cur)) m #[(.ref a1)] below meth c s₁ [] 0 0 := Stand.of_bodySync Bd
  have hZ : Z.Warmed39 (s0.setCell a1 (cell.withEntry s0.cur)).vm := hZ0
  have hown : (s0.setCell a1 (cell.withEntry s0.cur)).vm.findClass "java/io/ByteArrayOutputStream" = some m.cls := (findClass_of_methodNamed Bd.named :)
  have h1e : s₁.heap = h0.setIfInBounds a1 (cell.withEntry s0.cur) := by rw [Bd.state, ← hh0]; rfl
  have hc0 : h0[a1]? = some cell := by rw [← hh0]; exact Bd.object
  have M0 : Mon h0 s₁.heap := by rw [h1e]; exact mon_set hc0 _
  have O1 : Old Z n0 s₁.heap := by rw [h1e]; exact own_oldset O0 ga1
  have N0 := Fr.nil n0
  have e0 : s₁.heap = s₁.heap := rfl
  have k0 : Way p e below (s₁.setTop (mkL a1 m 0 #[rv a1] [])) s₁ (mkL a1 m 0 #[rv a1] []) := fun t k => k
  show ∃ s₂ o, Steps p.tables e below (s₁.setTop (mkL a1 m 0 #[rv a1] [])) s₂ ∧ _
  generalize s₁.setTop (mkL a1 m 0 #[rv a1] []) = S0 at k0 ⊢
  have k1 : Way p e below S0 s₁ (mkL a1 m 1 #[rv a1] [(.ref a1)]) := by
    intro t k
    refine k0 t ?_
    refine XS.aloadN X0.here hx rfl (hb hby d_jdk_2005_method_9_code_0) rfl rfl ?_
    show Steps p.tables e below (s₁.setTop (mkL a1 m 1 #[rv a1] [(.ref a1)])) _
    exact k
  obtain ⟨T2, X2, e2, st2⟩ := getF X0 hx hZ hown (host := "") (Or.inl (hw _ (List.mem_of_getElem? (i := 65) rfl))) Via.refl rfl (a_1.mon M0) (g := (mkL a1 m 1 #[rv a1] [(.ref a1)])) rfl rfl (hb hby d_jdk_2005_method_9_code_1)
  have k3 : Way p e below S0 T2 (mkL a1 m 4 #[rv a1] [(.ref b1)]) := fun t k => k1 t (st2 _ k)
  have k4 : Way p e below S0 T2 (mkL a1 m 5 #[rv a1] [(.ref a1), (.ref b1)]) := by
    intro t k
    refine k3 t ?_
    refine XS.aloadN X2.here hx rfl (hb hby d_jdk_2005_method_9_code_4) rfl rfl ?_
    show Steps p.tables e below (T2.setTop (mkL a1 m 5 #[rv a1] [(.ref a1), (.ref b1)])) _
    exact k
  obtain ⟨T5, X5, e5, st5⟩ := getF X2 hx hZ hown (host := "") (Or.inl (hw _ (List.mem_of_getElem? (i := 72) rfl))) Via.refl e2 (a_2.mon M0) (g := (mkL a1 m 5 #[rv a1] [(.ref a1), (.ref b1)])) rfl rfl (hb hby d_jdk_2005_method_9_code_5)
  have k6 : Way p e below S0 T5 (mkL a1 m 8 #[rv a1] [(.int (6 : Int32)), (.ref b1)]) := fun t k => k4 t (st5 _ k)
  obtain ⟨_, _, ⟨T7, L7, kk7, nn7⟩, -, X7, ⟨Lc7, hQ7, l7, y7, z7⟩, st7⟩ := Jvm.LawKit.callS X5 hx (y := (⟨"java/util/Arrays", "copyOf", "([BI)[B"⟩ : MethodName)) hown (mvT hZ (hw _ (List.mem_of_getElem? (i := 86) rfl))) (mvT hZ (hw _ (List.mem_of_getElem? (i := 87) rfl))) (mvT hZ (hw _ (List.mem_of_getElem? (i := 88) rfl))) (mvT hZ (hw _ (List.mem_of_getElem? (i := 89) rfl))) (by decide) (backOf (W := 2) (copyOf l Z a0 hw [] w_POLL G b1 kb q0 q1 q2 q3 q4 q5 s₁.heap n0 O1 ((a_3.mon M0) : Exa Z s₁.heap b1 "[B") ((own_arvmon a_4 M0) : Arv Z s₁.heap b1 kb .byte (6 : Int32) [(.int q0), (.int q1), (.int q2), (.int q3), (.int q4), (.int q5)] (.int (0 : Int32)))) hZ (hw _ (List.mem_of_getElem? (i := 89) rfl)) (hw _ (List.mem_of_getElem? (i := 88) rfl)) (by decide) (by decide)) (g := (mkL a1 m 8 #[rv a1] [(.int (6 : Int32)), (.ref b1)])) rfl (by rw [hml]; rfl) (argsL := [(.ref b1), (.int (6 : Int32))]) (rest := []) (lenOf pd_3 rfl) rfl (by show 2 * 1 + _ ≤ _; exact Nat.le_of_eq rfl) (hb hby d_jdk_2005_method_9_code_8) (fun _ _ => ⟨rfl, e5, (by decide : 0 + 1 ≤ _), (by decide : 0 + 6 ≤ _)⟩)
  dsimp only [Pt.U, Pt.locs, Pt.cells, Pt.slots] at X7 l7 y7 z7 st7 hQ7
  subst l7 y7 z7
  obtain ⟨d1_7, rfl, Nq7, Kq7, po7_0, po7_1, po7_2, po7_3⟩ := hQ7
  have N7 := Fr.app N0 Nq7
  have O7 := O1.keep Kq7 all0
  subst po7_3
  have k8 : Way p e below S0 T7 (mkL a1 m 11 #[rv a1] [(.ref d1_7)]) := fun t k => k6 t (st7 _ k)
  obtain ⟨V, hr, hrun, hended, M1, hW, hsame⟩ := leaveS X7 Bd.object Bd.enterable Bd.synchronized (v := some (.ref d1_7)) (fun h => by rw [Bd.returns] at h; cases h)
  refine ⟨V, _, k8 _ (retS X7 hx Bd.returns rfl (Or.inr (Or.inr (Or.inr (Or.inr ⟨rfl, rfl, rfl⟩)))) (hb hby d_jdk_2005_method_9_code_11) hr), hrun, hended, _, _, rfl, ?_, ⟨_, rfl⟩, hW, hsame.mono (by decide) (by decide)⟩
  show Q_tba Z w_POLL a1 b1 kb q0 q1 q2 q3 q4 q5 h0 n0 _ V.heap _
  exact ⟨d1_7, rfl, N7, own_keepY hh0 hsame (fun y hy => by simp at hy), (by have u := po7_0; rw [h1e] at u; simpa using u), (own_arvmon po7_2 M1)⟩
def Q_frm (Z : State) (w_POLL : Addr) (a1 : Addr) (p2 : Int32) (a2 : Addr) (kc : ClassId) (h0 : Heap) (n0 : Nat) (v : Option Value) (h : Heap) (L : List Loc) : Prop := ∃ d1 : Addr, ∃ kb : ClassId, (v = some (.ref d1)) ∧ (Fr n0 L) ∧ (Keep h0 h []) ∧ (h0.size ≤ d1) ∧ (Arv Z h d1 kb .byte (6 : Int32) [(.int (((255 : Int32).toInt8.toInt32).toInt8.toInt32)), (.int (((255 : Int32).toInt8.toInt32).toInt8.toInt32)), (.int (((2 : Int32).toInt8.toInt32).toInt8.toInt32)), (.int (((p2 + (65 : Int32)).toInt8.toInt32).toInt8.toInt32)), (.int (((80 : Int32).toInt8.toInt32).toInt8.toInt32)), (.int (((3 : Int32).toInt8.toInt32).toInt8.toInt32))] (.int (0 : Int32)))
set_option maxRecDepth 65536 in
set_option maxHeartbeats 40000000 in
theorem frm (l : Launch) (Z : State) (a0 : Array Value) (hw : ∀ d ∈ tables_1, d.before a0 Z = true) (ws : List Jvm.Cond) (w_POLL : Addr) (G : Gst Z w_POLL) (a1 : Addr) (p2 : Int32) (a2 : Addr) (kc : ClassId) (h0 : Heap) (n0 : Nat) (O0 : Old Z n0 h0) (a_0 : Fld Z h0 a1 "com/example/aspectwise/aspectwise/cmri/Packet" "data" "[B" (.ref a2)) (a_1 : Arv Z h0 a2 kc .byte (0 : Int32) [] (.int (0 : Int32))) (a_2 : Fld Z h0 a1 "com/example/aspectwise/aspectwise/cmri/Packet" "address" "I" (.int p2)) (a_3 : Fld Z h0 a1 "com/example/aspectwise/aspectwise/cmri/Packet" "type" "Lcom/example/aspectwise/aspectwise/cmri/Packet$Type;" (.ref w_POLL)) :
    MetFree l (⟨"com/example/aspectwise/aspectwise/cmri/Packet", "frame", "()[B"⟩ : MethodName) (head1 (Jvm.Cond.code (⟨"com/example/aspectwise/aspectwise/cmri/Packet", "frame", "()[B"⟩ : MethodName) prog_13_method_8_code 7 (some (.array .byte)) :: ws) ({ frames := 3, cells := 3, slots := 14, locals := 42 } : Room)) (fun a U => a = #[(.ref a1)] ∧ Z.Warmed39 U.vm ∧ U.heap = h0) (fun _ _ _ _ _ => True) (fun _ U o U' => ∃ v L, o = .returned v ∧ Q_frm Z w_POLL a1 p2 a2 kc h0 n0 v U'.heap L ∧ FrameEnd U o U' L ({ frames := 3, cells := 3, slots := 14, locals := 42 } : Room).cells ({ frames := 3, cells := 3, slots := 14, locals := 42 } : Room).slots) := by
  refine MetFree.of_bodySF (plainFor_of_name pn_0) hisR ?_
  intro p e s m args below meth c s₁ Bd hml0 hP hK
  obtain ⟨rfl, hZ, hh⟩ := hP
  have hx := Bd.exec
  have hby := Bd.bytes
  have hml : c.maxLocals = 7 := hml0
  have hown : s.vm.findClass "com/example/aspectwise/aspectwise/cmri/Packet" = some m.cls := findClass_of_methodNamed Bd.named
  have hnm := (name_of_methodNamed Bd.named Bd.method).1
  have X0 : Stand p l e ({ frames := 3, cells := 3, slots := 14, locals := 42 } : Room) s m #[(.ref a1)] below meth c s₁ [] 0 0 := Stand.of_body Bd
  have e0 : s₁.heap = h0 := by rw [← hh, Bd.state]; rfl
  have N0 := Fr.nil n0
  obtain ⟨S_w_POLL, E_w_POLL, F_w_POLL_letter⟩ := id G
  have k0 : Way p e below (s₁.setTop (entryFrame m #[(.ref a1)] 7)) s₁ (mkF m 0 #[rv a1, .unset, .unset, .unset, .unset, .unset, .unset] []) := fun t k => castTop (by first | (simp [entryFrame, mkF, argsToLocals, Value.category]; done) | rfl) k
  generalize s₁.setTop (entryFrame m #[(.ref a1)] 7) = S0 at k0 ⊢
  obtain ⟨T1, h1, X1, e1, E1, A1, D1, U1, st1⟩ := newO X0 hx hZ hown (hw _ (List.mem_of_getElem? (i := 52) rfl)) (hw _ (List.mem_of_getElem? (i := 53) rfl)) (hw _ (List.mem_of_getElem? (i := 54) rfl)) e0 (g := (mkF m 0 #[rv a1, .unset, .unset, .unset, .unset, .unset, .unset] [])) rfl (hb hby d_prog_13_method_8_code_0) (by decide) (by decide)
  obtain ⟨b1, g1⟩ : ∃ z, z = h0.size := ⟨_, rfl⟩
  rw [← g1] at A1 D1 U1 st1
  have O1 := O0.ext E1
  have K1 : Keep h0 h1 [] := (Keep.refl h0 []).ext E1
  have i1_buf : Fld Z h1 b1 "java/io/ByteArrayOutputStream" "buf" "[B" .null := D1 (Or.inl (hw _ (List.mem_of_getElem? (i := 66) rfl))) (ty := (.array .byte)) (by decide)
  have i1_count : Fld Z h1 b1 "java/io/ByteArrayOutputStream" "count" "I" (.int (0 : Int32)) := D1 (Or.inl (hw _ (List.mem_of_getElem? (i := 73) rfl))) (ty := .int) (by decide)
  have k2 : Way p e below S0 T1 (mkF m 3 #[rv a1, .unset, .unset, .unset, .unset, .unset, .unset] [(.ref b1)]) := fun t k => k0 t (st1 _ k)
  have k3 : Way p e below S0 T1 (mkF m 6 #[rv a1, .unset, .unset, .unset, .unset, .unset, .unset] [(.ref a1), (.int (2 : Int32)), (.ref b1), (.ref b1)]) := by
    intro t k
    refine k2 t ?_
    refine XS.dup X1.here hx rfl (hb hby d_prog_13_method_8_code_3) rfl rfl ?_
    show Steps p.tables e below (T1.setTop (mkF m 4 #[rv a1, .unset, .unset, .unset, .unset, .unset, .unset] [(.ref b1), (.ref b1)])) _
    refine XS.iconst X1.here hx rfl (hb hby d_prog_13_method_8_code_4) ?_
    show Steps p.tables e below (T1.setTop (mkF m 5 #[rv a1, .unset, .unset, .unset, .unset, .unset, .unset] [(.int (2 : Int32)), (.ref b1), (.ref b1)])) _
    refine XS.aloadN X1.here hx rfl (hb hby d_prog_13_method_8_code_5) rfl rfl ?_
    show Steps p.tables e below (T1.setTop (mkF m 6 #[rv a1, .unset, .unset, .unset, .unset, .unset, .unset] [(.ref a1), (.int (2 : Int32)), (.ref b1), (.ref b1)])) _
    exact k
  have f4 : Fld Z h1 a1 "com/example/aspectwise/aspectwise/cmri/Packet" "data" "[B" (.ref a2) := (a_0.ext E1)
  obtain ⟨T5, X5, e5, st5⟩ := getF X1 hx hZ hown (host := "") (Or.inl (hw _ (List.mem_of_getElem? (i := 29) rfl))) Via.refl e1 f4 (g := (mkF m 6 #[rv a1, .unset, .unset, .unset, .unset, .unset, .unset] [(.ref a1), (.int (2 : Int32)), (.ref b1), (.ref b1)])) rfl rfl (hb hby d_prog_13_method_8_code_6)
  have k6 : Way p e below S0 T5 (mkF m 9 #[rv a1, .unset, .unset, .unset, .unset, .unset, .unset] [(.ref a2), (.int (2 : Int32)), (.ref b1), (.ref b1)]) := fun t k => k3 t (st5 _ k)
  have f7 : Arv Z h1 a2 kc .byte (0 : Int32) [] (.int (0 : Int32)) := (a_1.ext E1)
  obtain ⟨cl8, Ar8, -, S8, M8, -, -⟩ := id (f7)
  have k9 : Way p e below S0 T5 (mkF m 10 #[rv a1, .unset, .unset, .unset, .unset, .unset, .unset] [(.int (0 : Int32)), (.int (2 : Int32)), (.ref b1), (.ref b1)]) := fun t k => k6 t (X5.arraylength hx (by rw [e5]; exact Ar8.1) (State.isArrayOf_alike hZ.alike Ar8.2.1) (g := (mkF m 9 #[rv a1, .unset, .unset, .unset, .unset, .unset, .unset] [(.ref a2), (.int (2 : Int32)), (.ref b1), (.ref b1)])) rfl rfl (hb hby d_prog_13_method_8_code_9) _ (by rw [len_of S8 M8]; exact k))
  have k10 : Way p e below S0 T5 (mkF m 14 #[rv a1, .unset, .unset, .unset, .unset, .unset, .unset] [(.int (6 : Int32)), (.ref b1), (.ref b1)]) := by
    intro t k
    refine k9 t ?_
    refine XS.imul X5.here hx rfl (hb hby d_prog_13_method_8_code_10) rfl ?_
    show Steps p.tables e below (T5.setTop (mkF m 11 #[rv a1, .unset, .unset, .unset, .unset, .unset, .unset] [(.int (0 : Int32)), (.ref b1), (.ref b1)])) _
    refine XS.bipush X5.here hx rfl (hb hby d_prog_13_method_8_code_11) ?_
    show Steps p.tables e below (T5.setTop (mkF m 13 #[rv a1, .unset, .unset, .unset, .unset, .unset, .unset] [(.int (6 : Int32)), (.int (0 : Int32)), (.ref b1), (.ref b1)])) _
    refine XS.iadd X5.here hx rfl (hb hby d_prog_13_method_8_code_13) rfl ?_
    show Steps p.tables e below (T5.setTop (mkF m 14 #[rv a1, .unset, .unset, .unset, .unset, .unset, .unset] [(.int (6 : Int32)), (.ref b1), (.ref b1)])) _
    exact k
  have ge11 : n0 ≤ b1 := Nat.le_trans (own_old O0) (Nat.le_of_eq g1.symm)
  obtain ⟨_, _, ⟨T12, L12, kk12, nn12⟩, -, X12, ⟨Lc12, hQ12, l12, y12, z12⟩, st12⟩ := X5.specialBack hx (y := (⟨"java/io/ByteArrayOutputStream", "<init>", "(I)V"⟩ : MethodName)) rfl hown (mvT hZ (hw _ (List.mem_of_getElem? (i := 55) rfl))) (mvT hZ (hw _ (List.mem_of_getElem? (i := 56) rfl))) (mvT hZ (hw _ (List.mem_of_getElem? (i := 57) rfl))) (by decide) (backOf (W := 1) (boInit l Z a0 hw [] w_POLL G b1 h1 n0 O1 (A1 : Exa Z h1 b1 "java/io/ByteArrayOutputStream") (i1_buf : Fld Z h1 b1 "java/io/ByteArrayOutputStream" "buf" "[B" .null) (i1_count : Fld Z h1 b1 "java/io/ByteArrayOutputStream" "count" "I" (.int (0 : Int32))) (U1 : Unt h1 b1) (ge11 : n0 ≤ b1)) hZ (hw _ (List.mem_of_getElem? (i := 57) rfl)) (hw _ (List.mem_of_getElem? (i := 54) rfl)) (by decide) (by decide)) (g := (mkF m 14 #[rv a1, .unset, .unset, .unset, .unset, .unset, .unset] [(.int (6 : Int32)), (.ref b1), (.ref b1)])) rfl (by rw [hml]; rfl) (Steps.refl _) (a := b1) (argsL := [(.int (6 : Int32))]) (rest := [(.ref b1)]) (lenOf pd_2 rfl) rfl (by show 2 * 0 + _ ≤ _; exact Nat.le_of_eq rfl) (hb hby d_prog_13_method_8_code_14) (fun _ _ => ⟨rfl, e5, (by decide : 1 + 1 ≤ _), (by decide : 2 + 6 ≤ _)⟩)
  dsimp only [Pt.U, Pt.locs, Pt.cells, Pt.slots] at X12 l12 y12 z12 st12 hQ12
  subst l12 y12 z12
  obtain ⟨b1_12, kb_12, rfl, Nq12, Kq12, po12_0, po12_1, po12_2, po12_3, po12_4, po12_5, po12_6⟩ := hQ12
  have N12 := Fr.app N0 Nq12
  have O12 := O1.keep Kq12 (allS ge11 all0)
  have gz13 : h0.size ≤ b1 := Nat.le_trans (Keep.refl h0 []).1 (Nat.le_of_eq g1.symm)
  have K12 : Keep h0 T12.heap [] := K1.trans Kq12 (allS (Or.inr gz13) all0)
  have k14 : Way p e below S0 T12 (mkF m 17 #[rv a1, .unset, .unset, .unset, .unset, .unset, .unset] [(.ref b1)]) := fun t k => k10 t (st12.trans k)
  have k15 : Way p e below S0 T12 (mkF m 22 #[rv a1, rv b1, .unset, .unset, .unset, .unset, .unset] [(.int (255 : Int32)), (.ref b1)]) := by
    intro t k
    refine k14 t ?_
    refine XS.astoreN X12.here hx rfl (hb hby d_prog_13_method_8_code_17) rfl rfl (l' := #[rv a1, rv b1, .unset, .unset, .unset, .unset, .unset]) rfl ?_
    show Steps p.tables e below (T12.setTop (mkF m 18 #[rv a1, rv b1, .unset, .unset, .unset, .unset, .unset] [])) _
    refine XS.aloadN X12.here hx rfl (hb hby d_prog_13_method_8_code_18) rfl rfl ?_
    show Steps p.tables e below (T12.setTop (mkF m 19 #[rv a1, rv b1, .unset, .unset, .unset, .unset, .unset] [(.ref b1)])) _
    refine XS.sipush X12.here hx rfl (hb hby d_prog_13_method_8_code_19) ?_
    show Steps p.tables e below (T12.setTop (mkF m 22 #[rv a1, rv b1, .unset, .unset, .unset, .unset, .unset] [(.int (255 : Int32)), (.ref b1)])) _
    exact k
  have ge16 : n0 ≤ b1_12 := Nat.le_trans (own_old O1) po12_0
  obtain ⟨cq17, kq17, qq17a, qq17b, qq17c⟩ := isOf hZ rfl po12_1
  obtain ⟨_, _, ⟨T17, L17, kk17, nn17⟩, -, X17, ⟨Lc17, hQ17, l17, y17, z17⟩, st17⟩ := X12.virtualBack hx (y := (⟨"java/io/ByteArrayOutputStream", "write", "(I)V"⟩ : MethodName)) (z := (⟨"java/io/ByteArrayOutputStream", "write", "(I)V"⟩ : MethodName)) hown (mvT hZ (hw _ (List.mem_of_getElem? (i := 67) rfl))) (mvT hZ (hw _ (List.mem_of_getElem? (i := 68) rfl))) (notFace_of_selects (args := #[]) (mvT hZ (hw _ (List.mem_of_getElem? (i := 70) rfl)))) (mvT hZ (hw _ (List.mem_of_getElem? (i := 70) rfl))) (mvT hZ (hw _ (List.mem_of_getElem? (i := 69) rfl))) (by decide) (own_backY (W := 0) (wr0 l Z a0 hw [] w_POLL G b1 (255 : Int32) b1_12 kb_12 (0 : Int32) (0 : Int32) (0 : Int32) (0 : Int32) (0 : Int32) (0 : Int32) T12.heap n0 O12 (po12_1 : Exa Z T12.heap b1 "java/io/ByteArrayOutputStream") (po12_2 : Fld Z T12.heap b1 "java/io/ByteArrayOutputStream" "buf" "[B" (.ref b1_12)) (po12_3 : Fld Z T12.heap b1 "java/io/ByteArrayOutputStream" "count" "I" (.int (0 : Int32))) (po12_5 : Arv Z T12.heap b1_12 kb_12 .byte (6 : Int32) [(.int (0 : Int32)), (.int (0 : Int32)), (.int (0 : Int32)), (.int (0 : Int32)), (.int (0 : Int32)), (.int (0 : Int32))] (.int (0 : Int32))) (po12_6 : Unt T12.heap b1) (ge11 : n0 ≤ b1) (ge16 : n0 ≤ b1_12) ((Nat.ne_of_lt (Nat.lt_of_lt_of_le A1.lt po12_0)) : b1 ≠ b1_12)) hZ (hw _ (List.mem_of_getElem? (i := 71) rfl)) (hw _ (List.mem_of_getElem? (i := 69) rfl)) (hw _ (List.mem_of_getElem? (i := 54) rfl)) po12_6 (by decide) (by decide)) qq17a qq17c (g := (mkF m 22 #[rv a1, rv b1, .unset, .unset, .unset, .unset, .unset] [(.int (255 : Int32)), (.ref b1)])) rfl (by rw [hml]; rfl) (Steps.refl _) (argsL := [(.int (255 : Int32))]) (rest := []) (lenOf pd_2 rfl) rfl (by show 2 * 0 + _ ≤ _; exact Nat.le_of_eq rfl) (hb hby d_prog_13_method_8_code_22) (fun _ _ => ⟨rfl, rfl, (by decide : 2 + 0 ≤ _), (by decide : 8 + 0 ≤ _)⟩)
  dsimp only [Pt.U, Pt.locs, Pt.cells, Pt.slots] at X17 l17 y17 z17 st17 hQ17
  subst l17 y17 z17
  obtain ⟨rfl, Nq17, Kq17, po17_0, po17_1, po17_2, po17_3, po17_4⟩ := hQ17
  have N17 := Fr.app N12 Nq17
  have O17 := O12.keep Kq17 (allS ge11 (allS ge16 all0))
  have gz18 : h0.size ≤ b1_12 := Nat.le_trans K1.1 po12_0
  have K17 : Keep h0 T17.heap [] := K12.trans Kq17 (allS (Or.inr gz13) (allS (Or.inr gz18) all0))
  have k19 : Way p e below S0 T17 (mkF m 25 #[rv a1, rv b1, .unset, .unset, .unset, .unset, .unset] []) := fun t k => k15 t (st17.trans k)
  have k20 : Way p e below S0 T17 (mkF m 29 #[rv a1, rv b1, .unset, .unset, .unset, .unset, .unset] [(.int (255 : Int32)), (.ref b1)]) := by
    intro t k
    refine k19 t ?_
    refine XS.aloadN X17.here hx rfl (hb hby d_prog_13_method_8_code_25) rfl rfl ?_
    show Steps p.tables e below (T17.setTop (mkF m 26 #[rv a1, rv b1, .unset, .unset, .unset, .unset, .unset] [(.ref b1)])) _
    refine XS.sipush X17.here hx rfl (hb hby d_prog_13_method_8_code_26) ?_
    show Steps p.tables e below (T17.setTop (mkF m 29 #[rv a1, rv b1, .unset, .unset, .unset, .unset, .unset] [(.int (255 : Int32)), (.ref b1)])) _
    exact k
  obtain ⟨cq21, kq21, qq21a, qq21b, qq21c⟩ := isOf hZ rfl po17_0
  obtain ⟨_, _, ⟨T21, L21, kk21, nn21⟩, -, X21, ⟨Lc21, hQ21, l21, y21, z21⟩, st21⟩ := X17.virtualBack hx (y := (⟨"java/io/ByteArrayOutputStream", "write", "(I)V"⟩ : MethodName)) (z := (⟨"java/io/ByteArrayOutputStream", "write", "(I)V"⟩ : MethodName)) hown (mvT hZ (hw _ (List.mem_of_getElem? (i := 67) rfl))) (mvT hZ (hw _ (List.mem_of_getElem? (i := 68) rfl))) (notFace_of_selects (args := #[]) (mvT hZ (hw _ (List.mem_of_getElem? (i := 70) rfl)))) (mvT hZ (hw _ (List.mem_of_getElem? (i := 70) rfl))) (mvT hZ (hw _ (List.mem_of_getElem? (i := 69) rfl))) (by decide) (own_backY (W := 0) (wr1 l Z a0 hw [] w_POLL G b1 (255 : Int32) b1_12 kb_12 (((255 : Int32).toInt8.toInt32).toInt8.toInt32) (0 : Int32) (0 : Int32) (0 : Int32) (0 : Int32) (0 : Int32) T17.heap n0 O17 (po17_0 : Exa Z T17.heap b1 "java/io/ByteArrayOutputStream") (po17_1 : Fld Z T17.heap b1 "java/io/ByteArrayOutputStream" "buf" "[B" (.ref b1_12)) (po17_2 : Fld Z T17.heap b1 "java/io/ByteArrayOutputStream" "count" "I" (.int (1 : Int32))) (po17_3 : Arv Z T17.heap b1_12 kb_12 .byte (6 : Int32) [(.int (((255 : Int32).toInt8.toInt32).toInt8.toInt32)), (.int (0 : Int32)), (.int (0 : Int32)), (.int (0 : Int32)), (.int (0 : Int32)), (.int (0 : Int32))] (.int (0 : Int32))) (po17_4 : Unt T17.heap b1) (ge11 : n0 ≤ b1) (ge16 : n0 ≤ b1_12) ((Nat.ne_of_lt (Nat.lt_of_lt_of_le A1.lt po12_0)) : b1 ≠ b1_12)) hZ (hw _ (List.mem_of_getElem? (i := 71) rfl)) (hw _ (List.mem_of_getElem? (i := 69) rfl)) (hw _ (List.mem_of_getElem? (i := 54) rfl)) po17_4 (by decide) (by decide)) qq21a qq21c (g := (mkF m 29 #[rv a1, rv b1, .unset, .unset, .unset, .unset, .unset] [(.int (255 : Int32)), (.ref b1)])) rfl (by rw [hml]; rfl) (Steps.refl _) (argsL := [(.int (255 : Int32))]) (rest := []) (lenOf pd_2 rfl) rfl (by show 2 * 0 + _ ≤ _; exact Nat.le_of_eq rfl) (hb hby d_prog_13_method_8_code_29) (fun _ _ => ⟨rfl, rfl, (by decide : 2 + 0 ≤ _), (by decide : 8 + 0 ≤ _)⟩)
  dsimp only [Pt.U, Pt.locs, Pt.cells, Pt.slots] at X21 l21 y21 z21 st21 hQ21
  subst l21 y21 z21
  obtain ⟨rfl, Nq21, Kq21, po21_0, po21_1, po21_2, po21_3, po21_4⟩ := hQ21
  have N21 := Fr.app N17 Nq21
  have O21 := O17.keep Kq21 (allS ge11 (allS ge16 all0))
  have K21 : Keep h0 T21.heap [] := K17.trans Kq21 (allS (Or.inr gz13) (allS (Or.inr gz18) all0))
  have k22 : Way p e below S0 T21 (mkF m 32 #[rv a1, rv b1, .unset, .unset, .unset, .unset, .unset] []) := fun t k => k20 t (st21.trans k)
  have k23 : Way p e below S0 T21 (mkF m 34 #[rv a1, rv b1, .unset, .unset, .unset, .unset, .unset] [(.int (2 : Int32)), (.ref b1)]) := by
    intro t k
    refine k22 t ?_
    refine XS.aloadN X21.here hx rfl (hb hby d_prog_13_method_8_code_32) rfl rfl ?_
    show Steps p.tables e below (T21.setTop (mkF m 33 #[rv a1, rv b1, .unset, .unset, .unset, .unset, .unset] [(.ref b1)])) _
    refine XS.iconst X21.here hx rfl (hb hby d_prog_13_method_8_code_33) ?_
    show Steps p.tables e below (T21.setTop (mkF m 34 #[rv a1, rv b1, .unset, .unset, .unset, .unset, .unset] [(.int (2 : Int32)), (.ref b1)])) _
    exact k
  obtain ⟨cq24, kq24, qq24a, qq24b, qq24c⟩ := isOf hZ rfl po21_0
  obtain ⟨_, _, ⟨T24, L24, kk24, nn24⟩, -, X24, ⟨Lc24, hQ24, l24, y24, z24⟩, st24⟩ := X21.virtualBack hx (y := (⟨"java/io/ByteArrayOutputStream", "write", "(I)V"⟩ : MethodName)) (z := (⟨"java/io/ByteArrayOutputStream", "write", "(I)V"⟩ : MethodName)) hown (mvT hZ (hw _ (List.mem_of_getElem? (i := 67) rfl))) (mvT hZ (hw _ (List.mem_of_getElem? (i := 68) rfl))) (notFace_of_selects (args := #[]) (mvT hZ (hw _ (List.mem_of_getElem? (i := 70) rfl)))) (mvT hZ (hw _ (List.mem_of_getElem? (i := 70) rfl))) (mvT hZ (hw _ (List.mem_of_getElem? (i := 69) rfl))) (by decide) (own_backY (W := 0) (wr2 l Z a0 hw [] w_POLL G b1 (2 : Int32) b1_12 kb_12 (((255 : Int32).toInt8.toInt32).toInt8.toInt32) (((255 : Int32).toInt8.toInt32).toInt8.toInt32) (0 : Int32) (0 : Int32) (0 : Int32) (0 : Int32) T21.heap n0 O21 (po21_0 : Exa Z T21.heap b1 "java/io/ByteArrayOutputStream") (po21_1 : Fld Z T21.heap b1 "java/io/ByteArrayOutputStream" "buf" "[B" (.ref b1_12)) (po21_2 : Fld Z T21.heap b1 "java/io/ByteArrayOutputStream" "count" "I" (.int (2 : Int32))) (po21_3 : Arv Z T21.heap b1_12 kb_12 .byte (6 : Int32) [(.int (((255 : Int32).toInt8.toInt32).toInt8.toInt32)), (.int (((255 : Int32).toInt8.toInt32).toInt8.toInt32)), (.int (0 : Int32)), (.int (0 : Int32)), (.int (0 : Int32)), (.int (0 : Int32))] (.int (0 : Int32))) (po21_4 : Unt T21.heap b1) (ge11 : n0 ≤ b1) (ge16 : n0 ≤ b1_12) ((Nat.ne_of_lt (Nat.lt_of_lt_of_le A1.lt po12_0)) : b1 ≠ b1_12)) hZ (hw _ (List.mem_of_getElem? (i := 71) rfl)) (hw _ (List.mem_of_getElem? (i := 69) rfl)) (hw _ (List.mem_of_getElem? (i := 54) rfl)) po21_4 (by decide) (by decide)) qq24a qq24c (g := (mkF m 34 #[rv a1, rv b1, .unset, .unset, .unset, .unset, .unset] [(.int (2 : Int32)), (.ref b1)])) rfl (by rw [hml]; rfl) (Steps.refl _) (argsL := [(.int (2 : Int32))]) (rest := []) (lenOf pd_2 rfl) rfl (by show 2 * 0 + _ ≤ _; exact Nat.le_of_eq rfl) (hb hby d_prog_13_method_8_code_34) (fun _ _ => ⟨rfl, rfl, (by decide : 2 + 0 ≤ _), (by decide : 8 + 0 ≤ _)⟩)
  dsimp only [Pt.U, Pt.locs, Pt.cells, Pt.slots] at X24 l24 y24 z24 st24 hQ24
  subst l24 y24 z24
  obtain ⟨rfl, Nq24, Kq24, po24_0, po24_1, po24_2, po24_3, po24_4⟩ := hQ24
  have N24 := Fr.app N21 Nq24
  have O24 := O21.keep Kq24 (allS ge11 (allS ge16 all0))
  have K24 : Keep h0 T24.heap [] := K21.trans Kq24 (allS (Or.inr gz13) (allS (Or.inr gz18) all0))
  have k25 : Way p e below S0 T24 (mkF m 37 #[rv a1, rv b1, .unset, .unset, .unset, .unset, .unset] []) := fun t k => k23 t (st24.trans k)
  have k26 : Way p e below S0 T24 (mkF m 39 #[rv a1, rv b1, .unset, .unset, .unset, .unset, .unset] [(.ref a1), (.ref b1)]) := by
    intro t k
    refine k25 t ?_
    refine XS.aloadN X24.here hx rfl (hb hby d_prog_13_method_8_code_37) rfl rfl ?_
    show Steps p.tables e below (T24.setTop (mkF m 38 #[rv a1, rv b1, .unset, .unset, .unset, .unset, .unset] [(.ref b1)])) _
    refine XS.aloadN X24.here hx rfl (hb hby d_prog_13_method_8_code_38) rfl rfl ?_
    show Steps p.tables e below (T24.setTop (mkF m 39 #[rv a1, rv b1, .unset, .unset, .unset, .unset, .unset] [(.ref a1), (.ref b1)])) _
    exact k
  have f27 : Fld Z T24.heap a1 "com/example/aspectwise/aspectwise/cmri/Packet" "address" "I" (.int p2) := (((((a_2.ext E1).keep Kq12 (ninS (Nat.ne_of_lt (Nat.lt_of_lt_of_le a_2.lt (Nat.le_of_eq g1.symm))) nin0)).keep Kq17 (ninS (Nat.ne_of_lt (Nat.lt_of_lt_of_le a_2.lt (Nat.le_of_eq g1.symm))) (ninS (Nat.ne_of_lt (Nat.lt_of_lt_of_le f4.lt po12_0)) nin0))).keep Kq21 (ninS (Nat.ne_of_lt (Nat.lt_of_lt_of_le a_2.lt (Nat.le_of_eq g1.symm))) (ninS (Nat.ne_of_lt (Nat.lt_of_lt_of_le f4.lt po12_0)) nin0))).keep Kq24 (ninS (Nat.ne_of_lt (Nat.lt_of_lt_of_le a_2.lt (Nat.le_of_eq g1.symm))) (ninS (Nat.ne_of_lt (Nat.lt_of_lt_of_le f4.lt po12_0)) nin0)))
  obtain ⟨T28, X28, e28, st28⟩ := getF X24 hx hZ hown (host := "") (Or.inl (hw _ (List.mem_of_getElem? (i := 16) rfl))) Via.refl rfl f27 (g := (mkF m 39 #[rv a1, rv b1, .unset, .unset, .unset, .unset, .unset] [(.ref a1), (.ref b1)])) rfl rfl (hb hby d_prog_13_method_8_code_39)
  have k29 : Way p e below S0 T28 (mkF m 42 #[rv a1, rv b1, .unset, .unset, .unset, .unset, .unset] [(.int p2), (.ref b1)]) := fun t k => k26 t (st28 _ k)
  have k30 : Way p e below S0 T28 (mkF m 45 #[rv a1, rv b1, .unset, .unset, .unset, .unset, .unset] [(.int (p2 + (65 : Int32))), (.ref b1)]) := by
    intro t k
    refine k29 t ?_
    refine XS.bipush X28.here hx rfl (hb hby d_prog_13_method_8_code_42) ?_
    show Steps p.tables e below (T28.setTop (mkF m 44 #[rv a1, rv b1, .unset, .unset, .unset, .unset, .unset] [(.int (65 : Int32)), (.int p2), (.ref b1)])) _
    refine XS.iadd X28.here hx rfl (hb hby d_prog_13_method_8_code_44) rfl ?_
    show Steps p.tables e below (T28.setTop (mkF m 45 #[rv a1, rv b1, .unset, .unset, .unset, .unset, .unset] [(.int (p2 + (65 : Int32))), (.ref b1)])) _
    exact k
  obtain ⟨cq31, kq31, qq31a, qq31b, qq31c⟩ := isOf hZ e28 po24_0
  obtain ⟨_, _, ⟨T31, L31, kk31, nn31⟩, -, X31, ⟨Lc31, hQ31, l31, y31, z31⟩, st31⟩ := X28.virtualBack hx (y := (⟨"java/io/ByteArrayOutputStream", "write", "(I)V"⟩ : MethodName)) (z := (⟨"java/io/ByteArrayOutputStream", "write", "(I)V"⟩ : MethodName)) hown (mvT hZ (hw _ (List.mem_of_getElem? (i := 67) rfl))) (mvT hZ (hw _ (List.mem_of_getElem? (i := 68) rfl))) (notFace_of_selects (args := #[]) (mvT hZ (hw _ (List.mem_of_getElem? (i := 70) rfl)))) (mvT hZ (hw _ (List.mem_of_getElem? (i := 70) rfl))) (mvT hZ (hw _ (List.mem_of_getElem? (i := 69) rfl))) (by decide) (own_backY (W := 0) (wr3 l Z a0 hw [] w_POLL G b1 (p2 + (65 : Int32)) b1_12 kb_12 (((255 : Int32).toInt8.toInt32).toInt8.toInt32) (((255 : Int32).toInt8.toInt32).toInt8.toInt32) (((2 : Int32).toInt8.toInt32).toInt8.toInt32) (0 : Int32) (0 : Int32) (0 : Int32) T24.heap n0 O24 (po24_0 : Exa Z T24.heap b1 "java/io/ByteArrayOutputStream") (po24_1 : Fld Z T24.heap b1 "java/io/ByteArrayOutputStream" "buf" "[B" (.ref b1_12)) (po24_2 : Fld Z T24.heap b1 "java/io/ByteArrayOutputStream" "count" "I" (.int (3 : Int32))) (po24_3 : Arv Z T24.heap b1_12 kb_12 .byte (6 : Int32) [(.int (((255 : Int32).toInt8.toInt32).toInt8.toInt32)), (.int (((255 : Int32).toInt8.toInt32).toInt8.toInt32)), (.int (((2 : Int32).toInt8.toInt32).toInt8.toInt32)), (.int (0 : Int32)), (.int (0 : Int32)), (.int (0 : Int32))] (.int (0 : Int32))) (po24_4 : Unt T24.heap b1) (ge11 : n0 ≤ b1) (ge16 : n0 ≤ b1_12) ((Nat.ne_of_lt (Nat.lt_of_lt_of_le A1.lt po12_0)) : b1 ≠ b1_12)) hZ (hw _ (List.mem_of_getElem? (i := 71) rfl)) (hw _ (List.mem_of_getElem? (i := 69) rfl)) (hw _ (List.mem_of_getElem? (i := 54) rfl)) po24_4 (by decide) (by decide)) qq31a qq31c (g := (mkF m 45 #[rv a1, rv b1, .unset, .unset, .unset, .unset, .unset] [(.int (p2 + (65 : Int32))), (.ref b1)])) rfl (by rw [hml]; rfl) (Steps.refl _) (argsL := [(.int (p2 + (65 : Int32)))]) (rest := []) (lenOf pd_2 rfl) rfl (by show 2 * 0 + _ ≤ _; exact Nat.le_of_eq rfl) (hb hby d_prog_13_method_8_code_45) (fun _ _ => ⟨rfl, e28, (by decide : 2 + 0 ≤ _), (by decide : 8 + 0 ≤ _)⟩)
  dsimp only [Pt.U, Pt.locs, Pt.cells, Pt.slots] at X31 l31 y31 z31 st31 hQ31
  subst l31 y31 z31
  obtain ⟨rfl, Nq31, Kq31, po31_0, po31_1, po31_2, po31_3, po31_4⟩ := hQ31
  have N31 := Fr.app N24 Nq31
  have O31 := O24.keep Kq31 (allS ge11 (allS ge16 all0))
  have K31 : Keep h0 T31.heap [] := K24.trans Kq31 (allS (Or.inr gz13) (allS (Or.inr gz18) all0))
  have k32 : Way p e below S0 T31 (mkF m 48 #[rv a1, rv b1, .unset, .unset, .unset, .unset, .unset] []) := fun t k => k30 t (st31.trans k)
  have k33 : Way p e below S0 T31 (mkF m 50 #[rv a1, rv b1, .unset, .unset, .unset, .unset, .unset] [(.ref a1), (.ref b1)]) := by
    intro t k
    refine k32 t ?_
    refine XS.aloadN X31.here hx rfl (hb hby d_prog_13_method_8_code_48) rfl rfl ?_
    show Steps p.tables e below (T31.setTop (mkF m 49 #[rv a1, rv b1, .unset, .unset, .unset, .unset, .unset] [(.ref b1)])) _
    refine XS.aloadN X31.here hx rfl (hb hby d_prog_13_method_8_code_49) rfl rfl ?_
    show Steps p.tables e below (T31.setTop (mkF m 50 #[rv a1, rv b1, .unset, .unset, .unset, .unset, .unset] [(.ref a1), (.ref b1)])) _
    exact k
  have f34 : Fld Z T31.heap a1 "com/example/aspectwise/aspectwise/cmri/Packet" "type" "Lcom/example/aspectwise/aspectwise/cmri/Packet$Type;" (.ref w_POLL) := ((((((a_3.ext E1).keep Kq12 (ninS (Nat.ne_of_lt (Nat.lt_of_lt_of_le a_3.lt (Nat.le_of_eq g1.symm))) nin0)).keep Kq17 (ninS (Nat.ne_of_lt (Nat.lt_of_lt_of_le a_3.lt (Nat.le_of_eq g1.symm))) (ninS (Nat.ne_of_lt (Nat.lt_of_lt_of_le f4.lt po12_0)) nin0))).keep Kq21 (ninS (Nat.ne_of_lt (Nat.lt_of_lt_of_le a_3.lt (Nat.le_of_eq g1.symm))) (ninS (Nat.ne_of_lt (Nat.lt_of_lt_of_le f4.lt po12_0)) nin0))).keep Kq24 (ninS (Nat.ne_of_lt (Nat.lt_of_lt_of_le a_3.lt (Nat.le_of_eq g1.symm))) (ninS (Nat.ne_of_lt (Nat.lt_of_lt_of_le f4.lt po12_0)) nin0))).keep Kq31 (ninS (Nat.ne_of_lt (Nat.lt_of_lt_of_le a_3.lt (Nat.le_of_eq g1.symm))) (ninS (Nat.ne_of_lt (Nat.lt_of_lt_of_le f4.lt po12_0)) nin0)))
  obtain ⟨T35, X35, e35, st35⟩ := getF X31 hx hZ hown (host := "") (Or.inl (hw _ (List.mem_of_getElem? (i := 18) rfl))) Via.refl rfl f34 (g := (mkF m 50 #[rv a1, rv b1, .unset, .unset, .unset, .unset, .unset] [(.ref a1), (.ref b1)])) rfl rfl (hb hby d_prog_13_method_8_code_50)
  have k36 : Way p e below S0 T35 (mkF m 53 #[rv a1, rv b1, .unset, .unset, .unset, .unset, .unset] [(.ref w_POLL), (.ref b1)]) := fun t k => k33 t (st35 _ k)
  have st37 := own_getFR X35 hx hZ hown (hw _ (List.mem_of_getElem? (i := 79) rfl)) e35 (F_w_POLL_letter.ext O31.2) (g := (mkF m 53 #[rv a1, rv b1, .unset, .unset, .unset, .unset, .unset] [(.ref w_POLL), (.ref b1)])) rfl rfl (hb hby d_prog_13_method_8_code_53)
  have k38 : Way p e below S0 T35 (mkF m 56 #[rv a1, rv b1, .unset, .unset, .unset, .unset, .unset] [(.int (80 : Int32)), (.ref b1)]) := fun t k => k36 t (st37 _ k)
  obtain ⟨cq39, kq39, qq39a, qq39b, qq39c⟩ := isOf hZ e35 po31_0
  obtain ⟨_, _, ⟨T39, L39, kk39, nn39⟩, -, X39, ⟨Lc39, hQ39, l39, y39, z39⟩, st39⟩ := X35.virtualBack hx (y := (⟨"java/io/ByteArrayOutputStream", "write", "(I)V"⟩ : MethodName)) (z := (⟨"java/io/ByteArrayOutputStream", "write", "(I)V"⟩ : MethodName)) hown (mvT hZ (hw _ (List.mem_of_getElem? (i := 67) rfl))) (mvT hZ (hw _ (List.mem_of_getElem? (i := 68) rfl))) (notFace_of_selects (args := #[]) (mvT hZ (hw _ (List.mem_of_getElem? (i := 70) rfl)))) (mvT hZ (hw _ (List.mem_of_getElem? (i := 70) rfl))) (mvT hZ (hw _ (List.mem_of_getElem? (i := 69) rfl))) (by decide) (own_backY (W := 0) (wr4 l Z a0 hw [] w_POLL G b1 (80 : Int32) b1_12 kb_12 (((255 : Int32).toInt8.toInt32).toInt8.toInt32) (((255 : Int32).toInt8.toInt32).toInt8.toInt32) (((2 : Int32).toInt8.toInt32).toInt8.toInt32) (((p2 + (65 : Int32)).toInt8.toInt32).toInt8.toInt32) (0 : Int32) (0 : Int32) T31.heap n0 O31 (po31_0 : Exa Z T31.heap b1 "java/io/ByteArrayOutputStream") (po31_1 : Fld Z T31.heap b1 "java/io/ByteArrayOutputStream" "buf" "[B" (.ref b1_12)) (po31_2 : Fld Z T31.heap b1 "java/io/ByteArrayOutputStream" "count" "I" (.int (4 : Int32))) (po31_3 : Arv Z T31.heap b1_12 kb_12 .byte (6 : Int32) [(.int (((255 : Int32).toInt8.toInt32).toInt8.toInt32)), (.int (((255 : Int32).toInt8.toInt32).toInt8.toInt32)), (.int (((2 : Int32).toInt8.toInt32).toInt8.toInt32)), (.int (((p2 + (65 : Int32)).toInt8.toInt32).toInt8.toInt32)), (.int (0 : Int32)), (.int (0 : Int32))] (.int (0 : Int32))) (po31_4 : Unt T31.heap b1) (ge11 : n0 ≤ b1) (ge16 : n0 ≤ b1_12) ((Nat.ne_of_lt (Nat.lt_of_lt_of_le A1.lt po12_0)) : b1 ≠ b1_12)) hZ (hw _ (List.mem_of_getElem? (i := 71) rfl)) (hw _ (List.mem_of_getElem? (i := 69) rfl)) (hw _ (List.mem_of_getElem? (i := 54) rfl)) po31_4 (by decide) (by decide)) qq39a qq39c (g := (mkF m 56 #[rv a1, rv b1, .unset, .unset, .unset, .unset, .unset] [(.int (80 : Int32)), (.ref b1)])) rfl (by rw [hml]; rfl) (Steps.refl _) (argsL := [(.int (80 : Int32))]) (rest := []) (lenOf pd_2 rfl) rfl (by show 2 * 0 + _ ≤ _; exact Nat.le_of_eq rfl) (hb hby d_prog_13_method_8_code_56) (fun _ _ => ⟨rfl, e35, (by decide : 2 + 0 ≤ _), (by decide : 8 + 0 ≤ _)⟩)
  dsimp only [Pt.U, Pt.locs, Pt.cells, Pt.slots] at X39 l39 y39 z39 st39 hQ39
  subst l39 y39 z39
  obtain ⟨rfl, Nq39, Kq39, po39_0, po39_1, po39_2, po39_3, po39_4⟩ := hQ39
  have N39 := Fr.app N31 Nq39
  have O39 := O31.keep Kq39 (allS ge11 (allS ge16 all0))
  have K39 : Keep h0 T39.heap [] := K31.trans Kq39 (allS (Or.inr gz13) (allS (Or.inr gz18) all0))
  have k40 : Way p e below S0 T39 (mkF m 59 #[rv a1, rv b1, .unset, .unset, .unset, .unset, .unset] []) := fun t k => k38 t (st39.trans k)
  have k41 : Way p e below S0 T39 (mkF m 60 #[rv a1, rv b1, .unset, .unset, .unset, .unset, .unset] [(.ref a1)]) := by
    intro t k
    refine k40 t ?_
    refine XS.aloadN X39.here hx rfl (hb hby d_prog_13_method_8_code_59) rfl rfl ?_
    show Steps p.tables e below (T39.setTop (mkF m 60 #[rv a1, rv b1, .unset, .unset, .unset, .unset, .unset] [(.ref a1)])) _
    exact k
  have f42 : Fld Z T39.heap a1 "com/example/aspectwise/aspectwise/cmri/Packet" "data" "[B" (.ref a2) := ((((((f4.keep Kq12 (ninS (Nat.ne_of_lt (Nat.lt_of_lt_of_le a_0.lt (Nat.le_of_eq g1.symm))) nin0)).keep Kq17 (ninS (Nat.ne_of_lt (Nat.lt_of_lt_of_le a_0.lt (Nat.le_of_eq g1.symm))) (ninS (Nat.ne_of_lt (Nat.lt_of_lt_of_le f4.lt po12_0)) nin0))).keep Kq21 (ninS (Nat.ne_of_lt (Nat.lt_of_lt_of_le a_0.lt (Nat.le_of_eq g1.symm))) (ninS (Nat.ne_of_lt (Nat.lt_of_lt_of_le f4.lt po12_0)) nin0))).keep Kq24 (ninS (Nat.ne_of_lt (Nat.lt_of_lt_of_le a_0.lt (Nat.le_of_eq g1.symm))) (ninS (Nat.ne_of_lt (Nat.lt_of_lt_of_le f4.lt po12_0)) nin0))).keep Kq31 (ninS (Nat.ne_of_lt (Nat.lt_of_lt_of_le a_0.lt (Nat.le_of_eq g1.symm))) (ninS (Nat.ne_of_lt (Nat.lt_of_lt_of_le f4.lt po12_0)) nin0))).keep Kq39 (ninS (Nat.ne_of_lt (Nat.lt_of_lt_of_le a_0.lt (Nat.le_of_eq g1.symm))) (ninS (Nat.ne_of_lt (Nat.lt_of_lt_of_le f4.lt po12_0)) nin0)))
  obtain ⟨T43, X43, e43, st43⟩ := getF X39 hx hZ hown (host := "") (Or.inl (hw _ (List.mem_of_getElem? (i := 29) rfl))) Via.refl rfl f42 (g := (mkF m 60 #[rv a1, rv b1, .unset, .unset, .unset, .unset, .unset] [(.ref a1)])) rfl rfl (hb hby d_prog_13_method_8_code_60)
  have k44 : Way p e below S0 T43 (mkF m 63 #[rv a1, rv b1, .unset, .unset, .unset, .unset, .unset] [(.ref a2)]) := fun t k => k41 t (st43 _ k)
  have k45 : Way p e below S0 T43 (mkF m 65 #[rv a1, rv b1, rv a2, .unset, .unset, .unset, .unset] [(.ref a2)]) := by
    intro t k
    refine k44 t ?_
    refine XS.astoreN X43.here hx rfl (hb hby d_prog_13_method_8_code_63) rfl rfl (l' := #[rv a1, rv b1, rv a2, .unset, .unset, .unset, .unset]) rfl ?_
    show Steps p.tables e below (T43.setTop (mkF m 64 #[rv a1, rv b1, rv a2, .unset, .unset, .unset, .unset] [])) _
    refine XS.aloadN X43.here hx rfl (hb hby d_prog_13_method_8_code_64) rfl rfl ?_
    show Steps p.tables e below (T43.setTop (mkF m 65 #[rv a1, rv b1, rv a2, .unset, .unset, .unset, .unset] [(.ref a2)])) _
    exact k
  have f46 : Arv Z T39.heap a2 kc .byte (0 : Int32) [] (.int (0 : Int32)) := ((((((f7.keep Kq12 (ninS (Nat.ne_of_lt (Nat.lt_of_lt_of_le a_1.lt (Nat.le_of_eq g1.symm))) nin0)).keep Kq17 (ninS (Nat.ne_of_lt (Nat.lt_of_lt_of_le a_1.lt (Nat.le_of_eq g1.symm))) (ninS (Nat.ne_of_lt (Nat.lt_of_lt_of_le f7.lt po12_0)) nin0))).keep Kq21 (ninS (Nat.ne_of_lt (Nat.lt_of_lt_of_le a_1.lt (Nat.le_of_eq g1.symm))) (ninS (Nat.ne_of_lt (Nat.lt_of_lt_of_le f7.lt po12_0)) nin0))).keep Kq24 (ninS (Nat.ne_of_lt (Nat.lt_of_lt_of_le a_1.lt (Nat.le_of_eq g1.symm))) (ninS (Nat.ne_of_lt (Nat.lt_of_lt_of_le f7.lt po12_0)) nin0))).keep Kq31 (ninS (Nat.ne_of_lt (Nat.lt_of_lt_of_le a_1.lt (Nat.le_of_eq g1.symm))) (ninS (Nat.ne_of_lt (Nat.lt_of_lt_of_le f7.lt po12_0)) nin0))).keep Kq39 (ninS (Nat.ne_of_lt (Nat.lt_of_lt_of_le a_1.lt (Nat.le_of_eq g1.symm))) (ninS (Nat.ne_of_lt (Nat.lt_of_lt_of_le f7.lt po12_0)) nin0)))
  obtain ⟨cl47, Ar47, -, S47, M47, -, -⟩ := id (f46)
  have k48 : Way p e below S0 T43 (mkF m 66 #[rv a1, rv b1, rv a2, .unset, .unset, .unset, .unset] [(.int (0 : Int32))]) := fun t k => k45 t (X43.arraylength hx (by rw [e43]; exact Ar47.1) (State.isArrayOf_alike hZ.alike Ar47.2.1) (g := (mkF m 65 #[rv a1, rv b1, rv a2, .unset, .unset, .unset, .unset] [(.ref a2)])) rfl rfl (hb hby d_prog_13_method_8_code_65) _ (by rw [len_of S47 M47]; exact k))
  have k49 : Way p e below S0 T43 (mkF m 129 #[rv a1, rv b1, rv a2, iv (0 : Int32), iv (0 : Int32), .unset, .unset] [(.int (3 : Int32)), (.ref b1)]) := by
    intro t k
    refine k48 t ?_
    refine XS.istoreN X43.here hx rfl (hb hby d_prog_13_method_8_code_66) rfl (l' := #[rv a1, rv b1, rv a2, iv (0 : Int32), .unset, .unset, .unset]) rfl ?_
    show Steps p.tables e below (T43.setTop (mkF m 67 #[rv a1, rv b1, rv a2, iv (0 : Int32), .unset, .unset, .unset] [])) _
    refine XS.iconst X43.here hx rfl (hb hby d_prog_13_method_8_code_67) ?_
    show Steps p.tables e below (T43.setTop (mkF m 68 #[rv a1, rv b1, rv a2, iv (0 : Int32), .unset, .unset, .unset] [(.int (0 : Int32))])) _
    refine XS.istore X43.here hx rfl (hb hby d_prog_13_method_8_code_68) rfl (l' := #[rv a1, rv b1, rv a2, iv (0 : Int32), iv (0 : Int32), .unset, .unset]) rfl ?_
    show Steps p.tables e below (T43.setTop (mkF m 70 #[rv a1, rv b1, rv a2, iv (0 : Int32), iv (0 : Int32), .unset, .unset] [])) _
    refine XS.iload X43.here hx rfl (hb hby d_prog_13_method_8_code_70) rfl ?_
    show Steps p.tables e below (T43.setTop (mkF m 72 #[rv a1, rv b1, rv a2, iv (0 : Int32), iv (0 : Int32), .unset, .unset] [(.int (0 : Int32))])) _
    refine XS.iloadN X43.here hx rfl (hb hby d_prog_13_method_8_code_72) rfl ?_
    show Steps p.tables e below (T43.setTop (mkF m 73 #[rv a1, rv b1, rv a2, iv (0 : Int32), iv (0 : Int32), .unset, .unset] [(.int (0 : Int32)), (.int (0 : Int32))])) _
    refine XS.icmpYes X43.here hx rfl (pc0 := 73) (pc' := 127) rfl (hb hby d_prog_13_method_8_code_73) rfl (flt ((by decide) : ¬ ((0 : Int32) < (0 : Int32)))).2.1 (by decide) (by decide) ?_
    show Steps p.tables e below (T43.setTop (mkF m 127 #[rv a1, rv b1, rv a2, iv (0 : Int32), iv (0 : Int32), .unset, .unset] [])) _
    refine XS.aloadN X43.here hx rfl (hb hby d_prog_13_method_8_code_127) rfl rfl ?_
    show Steps p.tables e below (T43.setTop (mkF m 128 #[rv a1, rv b1, rv a2, iv (0 : Int32), iv (0 : Int32), .unset, .unset] [(.ref b1)])) _
    refine XS.iconst X43.here hx rfl (hb hby d_prog_13_method_8_code_128) ?_
    show Steps p.tables e below (T43.setTop (mkF m 129 #[rv a1, rv b1, rv a2, iv (0 : Int32), iv (0 : Int32), .unset, .unset] [(.int (3 : Int32)), (.ref b1)])) _
    exact k
  obtain ⟨cq50, kq50, qq50a, qq50b, qq50c⟩ := isOf hZ e43 po39_0
  obtain ⟨_, _, ⟨T50, L50, kk50, nn50⟩, -, X50, ⟨Lc50, hQ50, l50, y50, z50⟩, st50⟩ := X43.virtualBack hx (y := (⟨"java/io/ByteArrayOutputStream", "write", "(I)V"⟩ : MethodName)) (z := (⟨"java/io/ByteArrayOutputStream", "write", "(I)V"⟩ : MethodName)) hown (mvT hZ (hw _ (List.mem_of_getElem? (i := 67) rfl))) (mvT hZ (hw _ (List.mem_of_getElem? (i := 68) rfl))) (notFace_of_selects (args := #[]) (mvT hZ (hw _ (List.mem_of_getElem? (i := 70) rfl)))) (mvT hZ (hw _ (List.mem_of_getElem? (i := 70) rfl))) (mvT hZ (hw _ (List.mem_of_getElem? (i := 69) rfl))) (by decide) (own_backY (W := 0) (wr5 l Z a0 hw [] w_POLL G b1 (3 : Int32) b1_12 kb_12 (((255 : Int32).toInt8.toInt32).toInt8.toInt32) (((255 : Int32).toInt8.toInt32).toInt8.toInt32) (((2 : Int32).toInt8.toInt32).toInt8.toInt32) (((p2 + (65 : Int32)).toInt8.toInt32).toInt8.toInt32) (((80 : Int32).toInt8.toInt32).toInt8.toInt32) (0 : Int32) T39.heap n0 O39 (po39_0 : Exa Z T39.heap b1 "java/io/ByteArrayOutputStream") (po39_1 : Fld Z T39.heap b1 "java/io/ByteArrayOutputStream" "buf" "[B" (.ref b1_12)) (po39_2 : Fld Z T39.heap b1 "java/io/ByteArrayOutputStream" "count" "I" (.int (5 : Int32))) (po39_3 : Arv Z T39.heap b1_12 kb_12 .byte (6 : Int32) [(.int (((255 : Int32).toInt8.toInt32).toInt8.toInt32)), (.int (((255 : Int32).toInt8.toInt32).toInt8.toInt32)), (.int (((2 : Int32).toInt8.toInt32).toInt8.toInt32)), (.int (((p2 + (65 : Int32)).toInt8.toInt32).toInt8.toInt32)), (.int (((80 : Int32).toInt8.toInt32).toInt8.toInt32)), (.int (0 : Int32))] (.int (0 : Int32))) (po39_4 : Unt T39.heap b1) (ge11 : n0 ≤ b1) (ge16 : n0 ≤ b1_12) ((Nat.ne_of_lt (Nat.lt_of_lt_of_le A1.lt po12_0)) : b1 ≠ b1_12)) hZ (hw _ (List.mem_of_getElem? (i := 71) rfl)) (hw _ (List.mem_of_getElem? (i := 69) rfl)) (hw _ (List.mem_of_getElem? (i := 54) rfl)) po39_4 (by decide) (by decide)) qq50a qq50c (g := (mkF m 129 #[rv a1, rv b1, rv a2, iv (0 : Int32), iv (0 : Int32), .unset, .unset] [(.int (3 : Int32)), (.ref b1)])) rfl (by rw [hml]; rfl) (Steps.refl _) (argsL := [(.int (3 : Int32))]) (rest := []) (lenOf pd_2 rfl) rfl (by show 2 * 0 + _ ≤ _; exact Nat.le_of_eq rfl) (hb hby d_prog_13_method_8_code_129) (fun _ _ => ⟨rfl, e43, (by decide : 2 + 0 ≤ _), (by decide : 8 + 0 ≤ _)⟩)
  dsimp only [Pt.U, Pt.locs, Pt.cells, Pt.slots] at X50 l50 y50 z50 st50 hQ50
  subst l50 y50 z50
  obtain ⟨rfl, Nq50, Kq50, po50_0, po50_1, po50_2, po50_3, po50_4⟩ := hQ50
  have N50 := Fr.app N39 Nq50
  have O50 := O39.keep Kq50 (allS ge11 (allS ge16 all0))
  have K50 : Keep h0 T50.heap [] := K39.trans Kq50 (allS (Or.inr gz13) (allS (Or.inr gz18) all0))
  have k51 : Way p e below S0 T50 (mkF m 132 #[rv a1, rv b1, rv a2, iv (0 : Int32), iv (0 : Int32), .unset, .unset] []) := fun t k => k49 t (st50.trans k)
  have k52 : Way p e below S0 T50 (mkF m 133 #[rv a1, rv b1, rv a2, iv (0 : Int32), iv (0 : Int32), .unset, .unset] [(.ref b1)]) := by
    intro t k
    refine k51 t ?_
    refine XS.aloadN X50.here hx rfl (hb hby d_prog_13_method_8_code_132) rfl rfl ?_
    show Steps p.tables e below (T50.setTop (mkF m 133 #[rv a1, rv b1, rv a2, iv (0 : Int32), iv (0 : Int32), .unset, .unset] [(.ref b1)])) _
    exact k
  have f53 : Exa Z T50.heap b1_12 "[B" := ((((((po12_4.keep Kq17).keep Kq21).keep Kq24).keep Kq31).keep Kq39).keep Kq50)
  obtain ⟨cq54, kq54, qq54a, qq54b, qq54c⟩ := isOf hZ rfl po50_0
  obtain ⟨_, _, ⟨T54, L54, kk54, nn54⟩, -, X54, ⟨Lc54, hQ54, l54, y54, z54⟩, st54⟩ := X50.virtualBack hx (y := (⟨"java/io/ByteArrayOutputStream", "toByteArray", "()[B"⟩ : MethodName)) (z := (⟨"java/io/ByteArrayOutputStream", "toByteArray", "()[B"⟩ : MethodName)) hown (mvT hZ (hw _ (List.mem_of_getElem? (i := 81) rfl))) (mvT hZ (hw _ (List.mem_of_getElem? (i := 82) rfl))) (notFace_of_selects (args := #[]) (mvT hZ (hw _ (List.mem_of_getElem? (i := 84) rfl)))) (mvT hZ (hw _ (List.mem_of_getElem? (i := 84) rfl))) (mvT hZ (hw _ (List.mem_of_getElem? (i := 83) rfl))) (by decide) (own_backY (W := 0) (tba l Z a0 hw [] w_POLL G b1 b1_12 kb_12 (((255 : Int32).toInt8.toInt32).toInt8.toInt32) (((255 : Int32).toInt8.toInt32).toInt8.toInt32) (((2 : Int32).toInt8.toInt32).toInt8.toInt32) (((p2 + (65 : Int32)).toInt8.toInt32).toInt8.toInt32) (((80 : Int32).toInt8.toInt32).toInt8.toInt32) (((3 : Int32).toInt8.toInt32).toInt8.toInt32) T50.heap n0 O50 (po50_0 : Exa Z T50.heap b1 "java/io/ByteArrayOutputStream") (po50_1 : Fld Z T50.heap b1 "java/io/ByteArrayOutputStream" "buf" "[B" (.ref b1_12)) (po50_2 : Fld Z T50.heap b1 "java/io/ByteArrayOutputStream" "count" "I" (.int (6 : Int32))) (f53 : Exa Z T50.heap b1_12 "[B") (po50_3 : Arv Z T50.heap b1_12 kb_12 .byte (6 : Int32) [(.int (((255 : Int32).toInt8.toInt32).toInt8.toInt32)), (.int (((255 : Int32).toInt8.toInt32).toInt8.toInt32)), (.int (((2 : Int32).toInt8.toInt32).toInt8.toInt32)), (.int (((p2 + (65 : Int32)).toInt8.toInt32).toInt8.toInt32)), (.int (((80 : Int32).toInt8.toInt32).toInt8.toInt32)), (.int (((3 : Int32).toInt8.toInt32).toInt8.toInt32))] (.int (0 : Int32))) (po50_4 : Unt T50.heap b1) (ge11 : n0 ≤ b1)) hZ (hw _ (List.mem_of_getElem? (i := 85) rfl)) (hw _ (List.mem_of_getElem? (i := 83) rfl)) (hw _ (List.mem_of_getElem? (i := 54) rfl)) po50_4 (by decide) (by decide)) qq54a qq54c (g := (mkF m 133 #[rv a1, rv b1, rv a2, iv (0 : Int32), iv (0 : Int32), .unset, .unset] [(.ref b1)])) rfl (by rw [hml]; rfl) (Steps.refl _) (argsL := []) (rest := []) (lenOf pd_4 rfl) rfl (by show 2 * 0 + _ ≤ _; exact Nat.le_of_eq rfl) (hb hby d_prog_13_method_8_code_133) (fun _ _ => ⟨rfl, rfl, (by decide : 2 + 1 ≤ _), (by decide : 8 + 6 ≤ _)⟩)
  dsimp only [Pt.U, Pt.locs, Pt.cells, Pt.slots] at X54 l54 y54 z54 st54 hQ54
  subst l54 y54 z54
  obtain ⟨d1_54, rfl, Nq54, Kq54, po54_0, po54_1⟩ := hQ54
  have N54 := Fr.app N50 Nq54
  have O54 := O50.keep Kq54 all0
  have K54 : Keep h0 T54.heap [] := K50.trans Kq54 all0
  have k55 : Way p e below S0 T54 (mkF m 136 #[rv a1, rv b1, rv a2, iv (0 : Int32), iv (0 : Int32), .unset, .unset] [(.ref d1_54)]) := fun t k => k52 t (st54.trans k)
  obtain ⟨fs, hr, hrun, hended, hW, hsame⟩ := X54.leave (v := some (.ref d1_54)) (fun h => by rw [Bd.returns] at h; cases h)
  have gz56 : h0.size ≤ d1_54 := Nat.le_trans K50.1 po54_0
  refine ⟨_, _, k55 _ (retOut X54 hx Bd.returns rfl (Or.inr (Or.inr (Or.inr (Or.inr ⟨rfl, rfl, rfl⟩)))) (hb hby d_prog_13_method_8_code_136) hr), hrun, hended, _, _, rfl, ?_, ⟨_, rfl⟩, hW, hsame.mono (by decide) (by decide)⟩
  show Q_frm Z w_POLL a1 p2 a2 kc h0 n0 _ T54.heap _
  exact ⟨d1_54, kb_12, rfl, N54, K54, gz56, po54_1⟩
def Q_law_met (Z : State) (w_POLL : Addr) (p1 : Int32) (h0 : Heap) (n0 : Nat) (v : Option Value) (h : Heap) (L : List Loc) : Prop := (v = some (.int (1 : Int32))) ∧ (Fr n0 L)
set_option maxRecDepth 65536 in
set_option maxHeartbeats 40000000 in
theorem law_met (l : Launch) (Z : State) (a0 : Array Value) (hw : ∀ d ∈ tables_1, d.before a0 Z = true) (ws : List Jvm.Cond) (w_POLL : Addr) (G : Gst Z w_POLL) (p1 : Int32) (h0 : Heap) (n0 : Nat) (O0 : Old Z n0 h0) :
    MetFree l x (head1 (Jvm.Cond.code x code maxLocals ret :: ws) room_1) (fun a U => a = #[(.int p1)] ∧ Z.Warmed39 U.vm ∧ U.heap = h0) (fun _ _ _ _ _ => True) (fun _ U o U' => ∃ v L, o = .returned v ∧ Q_law_met Z w_POLL p1 h0 n0 v U'.heap L ∧ FrameEnd U o U' L 24 128) := by
  refine MetFree.of_bodySF (plainFor_of_name pn_4) hisR ?_
  intro p e s m args below meth c s₁ Bd hml0 hP hK
  obtain ⟨rfl, hZ, hh⟩ := hP
  have hx := Bd.exec
  have hby := Bd.bytes
  have hml : c.maxLocals = 4 := hml0
  have hown : s.vm.findClass "com/example/aspectwise/aspectwise/cmri/PacketPollPinLaw" = some m.cls := findClass_of_methodNamed Bd.named
  have hnm := (name_of_methodNamed Bd.named Bd.method).1
  have X0 : Stand p l e room_1 s m #[(.int p1)] below meth c s₁ [] 0 0 := Stand.of_body Bd
  have e0 : s₁.heap = h0 := by rw [← hh, Bd.state]; rfl
  have N0 := Fr.nil n0
  obtain ⟨S_w_POLL, E_w_POLL, F_w_POLL_letter⟩ := id G
  have k0 : Way p e below (s₁.setTop (entryFrame m #[(.int p1)] maxLocals)) s₁ (mkF m 0 #[iv p1, .unset, .unset, .unset] []) := fun t k => castTop (by first | (simp [entryFrame, mkF, argsToLocals, Value.category, maxLocals]; done) | rfl) k
  generalize s₁.setTop (entryFrame m #[(.int p1)] maxLocals) = S0 at k0 ⊢
  have k1 : Way p e below S0 s₁ (mkF m 1 #[iv p1, .unset, .unset, .unset] [(.int p1)]) := by
    intro t k
    refine k0 t ?_
    refine XS.iloadN X0.here hx rfl (hb hby at_0) rfl ?_
    show Steps p.tables e below (s₁.setTop (mkF m 1 #[iv p1, .unset, .unset, .unset] [(.int p1)])) _
    exact k
  obtain ⟨_, _, ⟨T2, L2, kk2, nn2⟩, -, X2, ⟨Lc2, hQ2, l2, y2, z2⟩, st2⟩ := Jvm.LawKit.callS X0 hx (y := (⟨"com/example/aspectwise/aspectwise/cmri/Packet", "poll", "(I)Lcom/example/aspectwise/aspectwise/cmri/Packet;"⟩ : MethodName)) hown (mvT hZ (hw _ (List.mem_of_getElem? (i := 0) rfl))) (mvT hZ (hw _ (List.mem_of_getElem? (i := 1) rfl))) (mvT hZ (hw _ (List.mem_of_getElem? (i := 2) rfl))) (mvT hZ (hw _ (List.mem_of_getElem? (i := 3) rfl))) (by decide) (backOf (W := 0) (poll l Z a0 hw [] w_POLL G p1 h0 n0 O0 ) hZ (hw _ (List.mem_of_getElem? (i := 3) rfl)) (hw _ (List.mem_of_getElem? (i := 2) rfl)) (by decide) (by decide)) (g := (mkF m 1 #[iv p1, .unset, .unset, .unset] [(.int p1)])) rfl (by rw [hml]; rfl) (argsL := [(.int p1)]) (rest := []) (lenOf pd_5 rfl) rfl (by show 2 * 0 + _ ≤ _; exact Nat.le_of_eq rfl) (hb hby at_1) (fun _ _ => ⟨rfl, e0, (by decide : 0 + 3 ≤ _), (by decide : 0 + 3 ≤ _)⟩)
  dsimp only [Pt.U, Pt.locs, Pt.cells, Pt.slots] at X2 l2 y2 z2 st2 hQ2
  subst l2 y2 z2
  obtain ⟨b1_2, d1_2, kc_2, rfl, Nq2, Kq2, po2_0, po2_1, po2_2, po2_3, po2_4, po2_5, po2_6, po2_7⟩ := hQ2
  have N2 := Fr.app N0 Nq2
  have O2 := O0.keep Kq2 all0
  have k3 : Way p e below S0 T2 (mkF m 4 #[iv p1, .unset, .unset, .unset] [(.ref b1_2)]) := fun t k => k1 t (st2 _ k)
  have k4 : Way p e below S0 T2 (mkF m 6 #[iv p1, rv b1_2, .unset, .unset] [(.ref b1_2)]) := by
    intro t k
    refine k3 t ?_
    refine XS.astoreN X2.here hx rfl (hb hby at_4) rfl rfl (l' := #[iv p1, rv b1_2, .unset, .unset]) rfl ?_
    show Steps p.tables e below (T2.setTop (mkF m 5 #[iv p1, rv b1_2, .unset, .unset] [])) _
    refine XS.aloadN X2.here hx rfl (hb hby at_5) rfl rfl ?_
    show Steps p.tables e below (T2.setTop (mkF m 6 #[iv p1, rv b1_2, .unset, .unset] [(.ref b1_2)])) _
    exact k
  obtain ⟨cq5, kq5, qq5a, qq5b, qq5c⟩ := isOf hZ rfl po2_2
  obtain ⟨_, _, ⟨T5, L5, kk5, nn5⟩, -, X5, ⟨Lc5, hQ5, l5, y5, z5⟩, st5⟩ := X2.virtualBack hx (y := (⟨"com/example/aspectwise/aspectwise/cmri/Packet", "address", "()I"⟩ : MethodName)) (z := (⟨"com/example/aspectwise/aspectwise/cmri/Packet", "address", "()I"⟩ : MethodName)) hown (mvT hZ (hw _ (List.mem_of_getElem? (i := 31) rfl))) (mvT hZ (hw _ (List.mem_of_getElem? (i := 32) rfl))) (notFace_of_selects (args := #[]) (mvT hZ (hw _ (List.mem_of_getElem? (i := 34) rfl)))) (mvT hZ (hw _ (List.mem_of_getElem? (i := 34) rfl))) (mvT hZ (hw _ (List.mem_of_getElem? (i := 33) rfl))) (by decide) (backOf (W := 0) (adr l Z a0 hw [] w_POLL G b1_2 p1 T2.heap n0 O2 (po2_3 : Fld Z T2.heap b1_2 "com/example/aspectwise/aspectwise/cmri/Packet" "address" "I" (.int p1))) hZ (hw _ (List.mem_of_getElem? (i := 35) rfl)) (hw _ (List.mem_of_getElem? (i := 2) rfl)) (by decide) (by decide)) qq5a qq5c (g := (mkF m 6 #[iv p1, rv b1_2, .unset, .unset] [(.ref b1_2)])) rfl (by rw [hml]; rfl) (Steps.refl _) (argsL := []) (rest := []) (lenOf pd_6 rfl) rfl (by show 2 * 0 + _ ≤ _; exact Nat.le_of_eq rfl) (hb hby at_6) (fun _ _ => ⟨rfl, rfl, (by decide : 3 + 0 ≤ _), (by decide : 3 + 0 ≤ _)⟩)
  dsimp only [Pt.U, Pt.locs, Pt.cells, Pt.slots] at X5 l5 y5 z5 st5 hQ5
  subst l5 y5 z5
  obtain ⟨rfl, Nq5, e5⟩ := hQ5
  have N5 := Fr.app N2 Nq5
  have k6 : Way p e below S0 T5 (mkF m 9 #[iv p1, rv b1_2, .unset, .unset] [(.int p1)]) := fun t k => k4 t (st5.trans k)
  have k7 : Way p e below S0 T5 (mkF m 16 #[iv p1, rv b1_2, .unset, .unset] [(.ref b1_2)]) := by
    intro t k
    refine k6 t ?_
    refine XS.iloadN X5.here hx rfl (hb hby at_9) rfl ?_
    show Steps p.tables e below (T5.setTop (mkF m 10 #[iv p1, rv b1_2, .unset, .unset] [(.int p1), (.int p1)])) _
    refine XS.icmpYes X5.here hx rfl (pc0 := 10) (pc' := 15) rfl (hb hby at_10) rfl (teq (rfl : p1 = p1)).1 (by decide) (by decide) ?_
    show Steps p.tables e below (T5.setTop (mkF m 15 #[iv p1, rv b1_2, .unset, .unset] [])) _
    refine XS.aloadN X5.here hx rfl (hb hby at_15) rfl rfl ?_
    show Steps p.tables e below (T5.setTop (mkF m 16 #[iv p1, rv b1_2, .unset, .unset] [(.ref b1_2)])) _
    exact k
  obtain ⟨cq8, kq8, qq8a, qq8b, qq8c⟩ := isOf hZ e5 po2_2
  obtain ⟨_, _, ⟨T8, L8, kk8, nn8⟩, -, X8, ⟨Lc8, hQ8, l8, y8, z8⟩, st8⟩ := X5.virtualBack hx (y := (⟨"com/example/aspectwise/aspectwise/cmri/Packet", "type", "()Lcom/example/aspectwise/aspectwise/cmri/Packet$Type;"⟩ : MethodName)) (z := (⟨"com/example/aspectwise/aspectwise/cmri/Packet", "type", "()Lcom/example/aspectwise/aspectwise/cmri/Packet$Type;"⟩ : MethodName)) hown (mvT hZ (hw _ (List.mem_of_getElem? (i := 36) rfl))) (mvT hZ (hw _ (List.mem_of_getElem? (i := 37) rfl))) (notFace_of_selects (args := #[]) (mvT hZ (hw _ (List.mem_of_getElem? (i := 39) rfl)))) (mvT hZ (hw _ (List.mem_of_getElem? (i := 39) rfl))) (mvT hZ (hw _ (List.mem_of_getElem? (i := 38) rfl))) (by decide) (backOf (W := 0) (typ l Z a0 hw [] w_POLL G b1_2 w_POLL T2.heap n0 O2 (po2_4 : Fld Z T2.heap b1_2 "com/example/aspectwise/aspectwise/cmri/Packet" "type" "Lcom/example/aspectwise/aspectwise/cmri/Packet$Type;" (.ref w_POLL))) hZ (hw _ (List.mem_of_getElem? (i := 40) rfl)) (hw _ (List.mem_of_getElem? (i := 2) rfl)) (by decide) (by decide)) qq8a qq8c (g := (mkF m 16 #[iv p1, rv b1_2, .unset, .unset] [(.ref b1_2)])) rfl (by rw [hml]; rfl) (Steps.refl _) (argsL := []) (rest := []) (lenOf pd_7 rfl) rfl (by show 2 * 0 + _ ≤ _; exact Nat.le_of_eq rfl) (hb hby at_16) (fun _ _ => ⟨rfl, e5, (by decide : 3 + 0 ≤ _), (by decide : 3 + 0 ≤ _)⟩)
  dsimp only [Pt.U, Pt.locs, Pt.cells, Pt.slots] at X8 l8 y8 z8 st8 hQ8
  subst l8 y8 z8
  obtain ⟨rfl, Nq8, e8⟩ := hQ8
  have N8 := Fr.app N5 Nq8
  have k9 : Way p e below S0 T8 (mkF m 19 #[iv p1, rv b1_2, .unset, .unset] [(.ref w_POLL)]) := fun t k => k7 t (st8.trans k)
  obtain ⟨T10, X10, e10, st10⟩ := getS2 X8 hx hZ hown (host := "") (Or.inl (hw _ (List.mem_of_getElem? (i := 41) rfl))) Via.refl e8 (S_w_POLL.ext O2.2) (g := (mkF m 19 #[iv p1, rv b1_2, .unset, .unset] [(.ref w_POLL)])) rfl (hb hby at_19)
  have k11 : Way p e below S0 T10 (mkF m 22 #[iv p1, rv b1_2, .unset, .unset] [(.ref w_POLL), (.ref w_POLL)]) := fun t k => k9 t (st10 _ k)
  have k12 : Way p e below S0 T10 (mkF m 28 #[iv p1, rv b1_2, .unset, .unset] [(.ref b1_2)]) := by
    intro t k
    refine k11 t ?_
    refine Jvm.RoadKit.acmp (g := (mkF m 22 #[iv p1, rv b1_2, .unset, .unset] [(.ref w_POLL), (.ref w_POLL)])) X10 hx rfl rfl rfl (pc0 := 22) (pc' := 27) (same := true) rfl (hb hby at_22) rfl (decide_eq_true rfl) (by decide) (by decide) ?_
    show Steps p.tables e below (T10.setTop (mkF m 27 #[iv p1, rv b1_2, .unset, .unset] [])) _
    refine XS.aloadN X10.here hx rfl (hb hby at_27) rfl rfl ?_
    show Steps p.tables e below (T10.setTop (mkF m 28 #[iv p1, rv b1_2, .unset, .unset] [(.ref b1_2)])) _
    exact k
  obtain ⟨cq13, kq13, qq13a, qq13b, qq13c⟩ := isOf hZ e10 po2_2
  obtain ⟨_, _, ⟨T13, L13, kk13, nn13⟩, -, X13, ⟨Lc13, hQ13, l13, y13, z13⟩, st13⟩ := X10.virtualBack hx (y := (⟨"com/example/aspectwise/aspectwise/cmri/Packet", "data", "()[B"⟩ : MethodName)) (z := (⟨"com/example/aspectwise/aspectwise/cmri/Packet", "data", "()[B"⟩ : MethodName)) hown (mvT hZ (hw _ (List.mem_of_getElem? (i := 42) rfl))) (mvT hZ (hw _ (List.mem_of_getElem? (i := 43) rfl))) (notFace_of_selects (args := #[]) (mvT hZ (hw _ (List.mem_of_getElem? (i := 45) rfl)))) (mvT hZ (hw _ (List.mem_of_getElem? (i := 45) rfl))) (mvT hZ (hw _ (List.mem_of_getElem? (i := 44) rfl))) (by decide) (backOf (W := 0) (data l Z a0 hw [] w_POLL G b1_2 d1_2 kc_2 T2.heap n0 O2 (po2_5 : Fld Z T2.heap b1_2 "com/example/aspectwise/aspectwise/cmri/Packet" "data" "[B" (.ref d1_2)) (po2_6 : Exa Z T2.heap d1_2 "[B") (po2_7 : Arv Z T2.heap d1_2 kc_2 .byte (0 : Int32) [] (.int (0 : Int32)))) hZ (hw _ (List.mem_of_getElem? (i := 46) rfl)) (hw _ (List.mem_of_getElem? (i := 2) rfl)) (by decide) (by decide)) qq13a qq13c (g := (mkF m 28 #[iv p1, rv b1_2, .unset, .unset] [(.ref b1_2)])) rfl (by rw [hml]; rfl) (Steps.refl _) (argsL := []) (rest := []) (lenOf pd_4 rfl) rfl (by show 2 * 0 + _ ≤ _; exact Nat.le_of_eq rfl) (hb hby at_28) (fun _ _ => ⟨rfl, e10, (by decide : 3 + 1 ≤ _), (by decide : 3 + 0 ≤ _)⟩)
  dsimp only [Pt.U, Pt.locs, Pt.cells, Pt.slots] at X13 l13 y13 z13 st13 hQ13
  subst l13 y13 z13
  obtain ⟨d1_13, rfl, Nq13, Kq13, po13_0, po13_1, po13_2⟩ := hQ13
  have N13 := Fr.app N8 Nq13
  have O13 := O2.keep Kq13 all0
  have k14 : Way p e below S0 T13 (mkF m 31 #[iv p1, rv b1_2, .unset, .unset] [(.ref d1_13)]) := fun t k => k12 t (st13.trans k)
  have k15 : Way p e below S0 T13 (mkF m 33 #[iv p1, rv b1_2, rv d1_13, .unset] [(.ref d1_13)]) := by
    intro t k
    refine k14 t ?_
    refine XS.astoreN X13.here hx rfl (hb hby at_31) rfl rfl (l' := #[iv p1, rv b1_2, rv d1_13, .unset]) rfl ?_
    show Steps p.tables e below (T13.setTop (mkF m 32 #[iv p1, rv b1_2, rv d1_13, .unset] [])) _
    refine XS.aloadN X13.here hx rfl (hb hby at_32) rfl rfl ?_
    show Steps p.tables e below (T13.setTop (mkF m 33 #[iv p1, rv b1_2, rv d1_13, .unset] [(.ref d1_13)])) _
    exact k
  obtain ⟨cl16, Ar16, -, S16, M16, -, -⟩ := id (po13_2)
  have k17 : Way p e below S0 T13 (mkF m 34 #[iv p1, rv b1_2, rv d1_13, .unset] [(.int (0 : Int32))]) := fun t k => k15 t (X13.arraylength hx (Ar16.1) (State.isArrayOf_alike hZ.alike Ar16.2.1) (g := (mkF m 33 #[iv p1, rv b1_2, rv d1_13, .unset] [(.ref d1_13)])) rfl rfl (hb hby at_33) _ (by rw [len_of S16 M16]; exact k))
  have k18 : Way p e below S0 T13 (mkF m 40 #[iv p1, rv b1_2, rv d1_13, .unset] [(.ref b1_2)]) := by
    intro t k
    refine k17 t ?_
    refine XS.ifYes X13.here hx rfl (pc0 := 34) (pc' := 39) rfl (hb hby at_34) rfl ((if0 _ _).trans (teq ((by decide) : (0 : Int32) = (0 : Int32))).1) (by decide) (by decide) ?_
    show Steps p.tables e below (T13.setTop (mkF m 39 #[iv p1, rv b1_2, rv d1_13, .unset] [])) _
    refine XS.aloadN X13.here hx rfl (hb hby at_39) rfl rfl ?_
    show Steps p.tables e below (T13.setTop (mkF m 40 #[iv p1, rv b1_2, rv d1_13, .unset] [(.ref b1_2)])) _
    exact k
  have f19 : Fld Z T13.heap b1_2 "com/example/aspectwise/aspectwise/cmri/Packet" "data" "[B" (.ref d1_2) := (po2_5.keep Kq13 nin0)
  have f20 : Arv Z T13.heap d1_2 kc_2 .byte (0 : Int32) [] (.int (0 : Int32)) := (po2_7.keep Kq13 nin0)
  have f21 : Fld Z T13.heap b1_2 "com/example/aspectwise/aspectwise/cmri/Packet" "address" "I" (.int p1) := (po2_3.keep Kq13 nin0)
  have f22 : Fld Z T13.heap b1_2 "com/example/aspectwise/aspectwise/cmri/Packet" "type" "Lcom/example/aspectwise/aspectwise/cmri/Packet$Type;" (.ref w_POLL) := (po2_4.keep Kq13 nin0)
  have f24 : Exa Z T13.heap b1_2 "com/example/aspectwise/aspectwise/cmri/Packet" := (po2_2.keep Kq13)
  obtain ⟨cq23, kq23, qq23a, qq23b, qq23c⟩ := isOf hZ rfl f24
  obtain ⟨_, _, ⟨T23, L23, kk23, nn23⟩, -, X23, ⟨Lc23, hQ23, l23, y23, z23⟩, st23⟩ := X13.virtualBack hx (y := (⟨"com/example/aspectwise/aspectwise/cmri/Packet", "frame", "()[B"⟩ : MethodName)) (z := (⟨"com/example/aspectwise/aspectwise/cmri/Packet", "frame", "()[B"⟩ : MethodName)) hown (mvT hZ (hw _ (List.mem_of_getElem? (i := 47) rfl))) (mvT hZ (hw _ (List.mem_of_getElem? (i := 48) rfl))) (notFace_of_selects (args := #[]) (mvT hZ (hw _ (List.mem_of_getElem? (i := 50) rfl)))) (mvT hZ (hw _ (List.mem_of_getElem? (i := 50) rfl))) (mvT hZ (hw _ (List.mem_of_getElem? (i := 49) rfl))) (by decide) (backOf (W := 0) (frm l Z a0 hw [] w_POLL G b1_2 p1 d1_2 kc_2 T13.heap n0 O13 (f19 : Fld Z T13.heap b1_2 "com/example/aspectwise/aspectwise/cmri/Packet" "data" "[B" (.ref d1_2)) (f20 : Arv Z T13.heap d1_2 kc_2 .byte (0 : Int32) [] (.int (0 : Int32))) (f21 : Fld Z T13.heap b1_2 "com/example/aspectwise/aspectwise/cmri/Packet" "address" "I" (.int p1)) (f22 : Fld Z T13.heap b1_2 "com/example/aspectwise/aspectwise/cmri/Packet" "type" "Lcom/example/aspectwise/aspectwise/cmri/Packet$Type;" (.ref w_POLL))) hZ (hw _ (List.mem_of_getElem? (i := 51) rfl)) (hw _ (List.mem_of_getElem? (i := 2) rfl)) (by decide) (by decide)) qq23a qq23c (g := (mkF m 40 #[iv p1, rv b1_2, rv d1_13, .unset] [(.ref b1_2)])) rfl (by rw [hml]; rfl) (Steps.refl _) (argsL := []) (rest := []) (lenOf pd_4 rfl) rfl (by show 2 * 0 + _ ≤ _; exact Nat.le_of_eq rfl) (hb hby at_40) (fun _ _ => ⟨rfl, rfl, (by decide : 4 + 3 ≤ _), (by decide : 3 + 14 ≤ _)⟩)
  dsimp only [Pt.U, Pt.locs, Pt.cells, Pt.slots] at X23 l23 y23 z23 st23 hQ23
  subst l23 y23 z23
  obtain ⟨d1_23, kb_23, rfl, Nq23, Kq23, po23_0, po23_1⟩ := hQ23
  have N23 := Fr.app N13 Nq23
  have O23 := O13.keep Kq23 all0
  have k25 : Way p e below S0 T23 (mkF m 43 #[iv p1, rv b1_2, rv d1_13, .unset] [(.ref d1_23)]) := fun t k => k18 t (st23.trans k)
  have k26 : Way p e below S0 T23 (mkF m 45 #[iv p1, rv b1_2, rv d1_13, rv d1_23] [(.ref d1_23)]) := by
    intro t k
    refine k25 t ?_
    refine XS.astoreN X23.here hx rfl (hb hby at_43) rfl rfl (l' := #[iv p1, rv b1_2, rv d1_13, rv d1_23]) rfl ?_
    show Steps p.tables e below (T23.setTop (mkF m 44 #[iv p1, rv b1_2, rv d1_13, rv d1_23] [])) _
    refine XS.aloadN X23.here hx rfl (hb hby at_44) rfl rfl ?_
    show Steps p.tables e below (T23.setTop (mkF m 45 #[iv p1, rv b1_2, rv d1_13, rv d1_23] [(.ref d1_23)])) _
    exact k
  obtain ⟨cl27, Ar27, -, S27, M27, -, -⟩ := id (po23_1)
  have k28 : Way p e below S0 T23 (mkF m 46 #[iv p1, rv b1_2, rv d1_13, rv d1_23] [(.int (6 : Int32))]) := fun t k => k26 t (X23.arraylength hx (Ar27.1) (State.isArrayOf_alike hZ.alike Ar27.2.1) (g := (mkF m 45 #[iv p1, rv b1_2, rv d1_13, rv d1_23] [(.ref d1_23)])) rfl rfl (hb hby at_45) _ (by rw [len_of S27 M27]; exact k))
  have k29 : Way p e below S0 T23 (mkF m 55 #[iv p1, rv b1_2, rv d1_13, rv d1_23] [(.int (0 : Int32)), (.ref d1_23)]) := by
    intro t k
    refine k28 t ?_
    refine XS.bipush X23.here hx rfl (hb hby at_46) ?_
    show Steps p.tables e below (T23.setTop (mkF m 48 #[iv p1, rv b1_2, rv d1_13, rv d1_23] [(.int (6 : Int32)), (.int (6 : Int32))])) _
    refine XS.icmpYes X23.here hx rfl (pc0 := 48) (pc' := 53) rfl (hb hby at_48) rfl (teq ((by decide) : (6 : Int32) = (6 : Int32))).1 (by decide) (by decide) ?_
    show Steps p.tables e below (T23.setTop (mkF m 53 #[iv p1, rv b1_2, rv d1_13, rv d1_23] [])) _
    refine XS.aloadN X23.here hx rfl (hb hby at_53) rfl rfl ?_
    show Steps p.tables e below (T23.setTop (mkF m 54 #[iv p1, rv b1_2, rv d1_13, rv d1_23] [(.ref d1_23)])) _
    refine XS.iconst X23.here hx rfl (hb hby at_54) ?_
    show Steps p.tables e below (T23.setTop (mkF m 55 #[iv p1, rv b1_2, rv d1_13, rv d1_23] [(.int (0 : Int32)), (.ref d1_23)])) _
    exact k
  obtain ⟨cl30, Ar30, qc30, S30, M30, U30, G30⟩ := id (po23_1)
  have hin30 : ¬ ((0 : Int32) < 0 ∨ cl30.slots.size ≤ ((0 : Int32)).toNatClampNeg) := inb_of S30 ⟨by decide, by decide⟩
  have hat30 : cl30.slots[((0 : Int32)).toNatClampNeg]? = some (.int (((255 : Int32).toInt8.toInt32).toInt8.toInt32)) := Has.at U30 hin30 rfl
  have k31 : Way p e below S0 T23 (mkF m 56 #[iv p1, rv b1_2, rv d1_13, rv d1_23] [(.int (((255 : Int32).toInt8.toInt32).toInt8.toInt32))]) := fun t k => k29 t (X23.baloadBytes hx (j := (0 : Int32)) (v := (.int (((255 : Int32).toInt8.toInt32).toInt8.toInt32))) Ar30.1 (State.isArrayOf_alike hZ.alike Ar30.2.1) Ar30.2.2 hin30 hat30 (g := (mkF m 55 #[iv p1, rv b1_2, rv d1_13, rv d1_23] [(.int (0 : Int32)), (.ref d1_23)])) rfl rfl (hb hby at_55) _ k)
  have k32 : Way p e below S0 T23 (mkF m 62 #[iv p1, rv b1_2, rv d1_13, rv d1_23] [(.int (1 : Int32)), (.ref d1_23)]) := by
    intro t k
    refine k31 t ?_
    refine XS.iconst X23.here hx rfl (hb hby at_56) ?_
    show Steps p.tables e below (T23.setTop (mkF m 57 #[iv p1, rv b1_2, rv d1_13, rv d1_23] [(.int (-1 : Int32)), (.int (((255 : Int32).toInt8.toInt32).toInt8.toInt32))])) _
    refine XS.icmpNo X23.here hx rfl (hb hby at_57) rfl (teq ((by decide) : (((255 : Int32).toInt8.toInt32).toInt8.toInt32) = (-1 : Int32))).2 ?_
    show Steps p.tables e below (T23.setTop (mkF m 60 #[iv p1, rv b1_2, rv d1_13, rv d1_23] [])) _
    refine XS.aloadN X23.here hx rfl (hb hby at_60) rfl rfl ?_
    show Steps p.tables e below (T23.setTop (mkF m 61 #[iv p1, rv b1_2, rv d1_13, rv d1_23] [(.ref d1_23)])) _
    refine XS.iconst X23.here hx rfl (hb hby at_61) ?_
    show Steps p.tables e below (T23.setTop (mkF m 62 #[iv p1, rv b1_2, rv d1_13, rv d1_23] [(.int (1 : Int32)), (.ref d1_23)])) _
    exact k
  obtain ⟨cl33, Ar33, qc33, S33, M33, U33, G33⟩ := id (po23_1)
  have hin33 : ¬ ((1 : Int32) < 0 ∨ cl33.slots.size ≤ ((1 : Int32)).toNatClampNeg) := inb_of S33 ⟨by decide, by decide⟩
  have hat33 : cl33.slots[((1 : Int32)).toNatClampNeg]? = some (.int (((255 : Int32).toInt8.toInt32).toInt8.toInt32)) := Has.at U33 hin33 rfl
  have k34 : Way p e below S0 T23 (mkF m 63 #[iv p1, rv b1_2, rv d1_13, rv d1_23] [(.int (((255 : Int32).toInt8.toInt32).toInt8.toInt32))]) := fun t k => k32 t (X23.baloadBytes hx (j := (1 : Int32)) (v := (.int (((255 : Int32).toInt8.toInt32).toInt8.toInt32))) Ar33.1 (State.isArrayOf_alike hZ.alike Ar33.2.1) Ar33.2.2 hin33 hat33 (g := (mkF m 62 #[iv p1, rv b1_2, rv d1_13, rv d1_23] [(.int (1 : Int32)), (.ref d1_23)])) rfl rfl (hb hby at_62) _ k)
  have k35 : Way p e below S0 T23 (mkF m 69 #[iv p1, rv b1_2, rv d1_13, rv d1_23] [(.int (2 : Int32)), (.ref d1_23)]) := by
    intro t k
    refine k34 t ?_
    refine XS.iconst X23.here hx rfl (hb hby at_63) ?_
    show Steps p.tables e below (T23.setTop (mkF m 64 #[iv p1, rv b1_2, rv d1_13, rv d1_23] [(.int (-1 : Int32)), (.int (((255 : Int32).toInt8.toInt32).toInt8.toInt32))])) _
    refine XS.icmpNo X23.here hx rfl (hb hby at_64) rfl (teq ((by decide) : (((255 : Int32).toInt8.toInt32).toInt8.toInt32) = (-1 : Int32))).2 ?_
    show Steps p.tables e below (T23.setTop (mkF m 67 #[iv p1, rv b1_2, rv d1_13, rv d1_23] [])) _
    refine XS.aloadN X23.here hx rfl (hb hby at_67) rfl rfl ?_
    show Steps p.tables e below (T23.setTop (mkF m 68 #[iv p1, rv b1_2, rv d1_13, rv d1_23] [(.ref d1_23)])) _
    refine XS.iconst X23.here hx rfl (hb hby at_68) ?_
    show Steps p.tables e below (T23.setTop (mkF m 69 #[iv p1, rv b1_2, rv d1_13, rv d1_23] [(.int (2 : Int32)), (.ref d1_23)])) _
    exact k
  obtain ⟨cl36, Ar36, qc36, S36, M36, U36, G36⟩ := id (po23_1)
  have hin36 : ¬ ((2 : Int32) < 0 ∨ cl36.slots.size ≤ ((2 : Int32)).toNatClampNeg) := inb_of S36 ⟨by decide, by decide⟩
  have hat36 : cl36.slots[((2 : Int32)).toNatClampNeg]? = some (.int (((2 : Int32).toInt8.toInt32).toInt8.toInt32)) := Has.at U36 hin36 rfl
  have k37 : Way p e below S0 T23 (mkF m 70 #[iv p1, rv b1_2, rv d1_13, rv d1_23] [(.int (((2 : Int32).toInt8.toInt32).toInt8.toInt32))]) := fun t k => k35 t (X23.baloadBytes hx (j := (2 : Int32)) (v := (.int (((2 : Int32).toInt8.toInt32).toInt8.toInt32))) Ar36.1 (State.isArrayOf_alike hZ.alike Ar36.2.1) Ar36.2.2 hin36 hat36 (g := (mkF m 69 #[iv p1, rv b1_2, rv d1_13, rv d1_23] [(.int (2 : Int32)), (.ref d1_23)])) rfl rfl (hb hby at_69) _ k)
  have k38 : Way p e below S0 T23 (mkF m 76 #[iv p1, rv b1_2, rv d1_13, rv d1_23] [(.int (3 : Int32)), (.ref d1_23)]) := by
    intro t k
    refine k37 t ?_
    refine XS.iconst X23.here hx rfl (hb hby at_70) ?_
    show Steps p.tables e below (T23.setTop (mkF m 71 #[iv p1, rv b1_2, rv d1_13, rv d1_23] [(.int (2 : Int32)), (.int (((2 : Int32).toInt8.toInt32).toInt8.toInt32))])) _
    refine XS.icmpNo X23.here hx rfl (hb hby at_71) rfl (teq ((by decide) : (((2 : Int32).toInt8.toInt32).toInt8.toInt32) = (2 : Int32))).2 ?_
    show Steps p.tables e below (T23.setTop (mkF m 74 #[iv p1, rv b1_2, rv d1_13, rv d1_23] [])) _
    refine XS.aloadN X23.here hx rfl (hb hby at_74) rfl rfl ?_
    show Steps p.tables e below (T23.setTop (mkF m 75 #[iv p1, rv b1_2, rv d1_13, rv d1_23] [(.ref d1_23)])) _
    refine XS.iconst X23.here hx rfl (hb hby at_75) ?_
    show Steps p.tables e below (T23.setTop (mkF m 76 #[iv p1, rv b1_2, rv d1_13, rv d1_23] [(.int (3 : Int32)), (.ref d1_23)])) _
    exact k
  obtain ⟨cl39, Ar39, qc39, S39, M39, U39, G39⟩ := id (po23_1)
  have hin39 : ¬ ((3 : Int32) < 0 ∨ cl39.slots.size ≤ ((3 : Int32)).toNatClampNeg) := inb_of S39 ⟨by decide, by decide⟩
  have hat39 : cl39.slots[((3 : Int32)).toNatClampNeg]? = some (.int (((p1 + (65 : Int32)).toInt8.toInt32).toInt8.toInt32)) := Has.at U39 hin39 rfl
  have k40 : Way p e below S0 T23 (mkF m 77 #[iv p1, rv b1_2, rv d1_13, rv d1_23] [(.int (((p1 + (65 : Int32)).toInt8.toInt32).toInt8.toInt32))]) := fun t k => k38 t (X23.baloadBytes hx (j := (3 : Int32)) (v := (.int (((p1 + (65 : Int32)).toInt8.toInt32).toInt8.toInt32))) Ar39.1 (State.isArrayOf_alike hZ.alike Ar39.2.1) Ar39.2.2 hin39 hat39 (g := (mkF m 76 #[iv p1, rv b1_2, rv d1_13, rv d1_23] [(.int (3 : Int32)), (.ref d1_23)])) rfl rfl (hb hby at_76) _ k)
  have k41 : Way p e below S0 T23 (mkF m 87 #[iv p1, rv b1_2, rv d1_13, rv d1_23] [(.int (4 : Int32)), (.ref d1_23)]) := by
    intro t k
    refine k40 t ?_
    refine XS.iloadN X23.here hx rfl (hb hby at_77) rfl ?_
    show Steps p.tables e below (T23.setTop (mkF m 78 #[iv p1, rv b1_2, rv d1_13, rv d1_23] [(.int p1), (.int (((p1 + (65 : Int32)).toInt8.toInt32).toInt8.toInt32))])) _
    refine XS.bipush X23.here hx rfl (hb hby at_78) ?_
    show Steps p.tables e below (T23.setTop (mkF m 80 #[iv p1, rv b1_2, rv d1_13, rv d1_23] [(.int (65 : Int32)), (.int p1), (.int (((p1 + (65 : Int32)).toInt8.toInt32).toInt8.toInt32))])) _
    refine XS.iadd X23.here hx rfl (hb hby at_80) rfl ?_
    show Steps p.tables e below (T23.setTop (mkF m 81 #[iv p1, rv b1_2, rv d1_13, rv d1_23] [(.int (p1 + (65 : Int32))), (.int (((p1 + (65 : Int32)).toInt8.toInt32).toInt8.toInt32))])) _
    refine XS.i2b X23.here hx rfl (hb hby at_81) rfl ?_
    show Steps p.tables e below (T23.setTop (mkF m 82 #[iv p1, rv b1_2, rv d1_13, rv d1_23] [(.int ((p1 + (65 : Int32)).toInt8.toInt32)), (.int (((p1 + (65 : Int32)).toInt8.toInt32).toInt8.toInt32))])) _
    refine XS.icmpNo X23.here hx rfl (hb hby at_82) rfl (teq ((own_i2b _) : (((p1 + (65 : Int32)).toInt8.toInt32).toInt8.toInt32) = ((p1 + (65 : Int32)).toInt8.toInt32))).2 ?_
    show Steps p.tables e below (T23.setTop (mkF m 85 #[iv p1, rv b1_2, rv d1_13, rv d1_23] [])) _
    refine XS.aloadN X23.here hx rfl (hb hby at_85) rfl rfl ?_
    show Steps p.tables e below (T23.setTop (mkF m 86 #[iv p1, rv b1_2, rv d1_13, rv d1_23] [(.ref d1_23)])) _
    refine XS.iconst X23.here hx rfl (hb hby at_86) ?_
    show Steps p.tables e below (T23.setTop (mkF m 87 #[iv p1, rv b1_2, rv d1_13, rv d1_23] [(.int (4 : Int32)), (.ref d1_23)])) _
    exact k
  obtain ⟨cl42, Ar42, qc42, S42, M42, U42, G42⟩ := id (po23_1)
  have hin42 : ¬ ((4 : Int32) < 0 ∨ cl42.slots.size ≤ ((4 : Int32)).toNatClampNeg) := inb_of S42 ⟨by decide, by decide⟩
  have hat42 : cl42.slots[((4 : Int32)).toNatClampNeg]? = some (.int (((80 : Int32).toInt8.toInt32).toInt8.toInt32)) := Has.at U42 hin42 rfl
  have k43 : Way p e below S0 T23 (mkF m 88 #[iv p1, rv b1_2, rv d1_13, rv d1_23] [(.int (((80 : Int32).toInt8.toInt32).toInt8.toInt32))]) := fun t k => k41 t (X23.baloadBytes hx (j := (4 : Int32)) (v := (.int (((80 : Int32).toInt8.toInt32).toInt8.toInt32))) Ar42.1 (State.isArrayOf_alike hZ.alike Ar42.2.1) Ar42.2.2 hin42 hat42 (g := (mkF m 87 #[iv p1, rv b1_2, rv d1_13, rv d1_23] [(.int (4 : Int32)), (.ref d1_23)])) rfl rfl (hb hby at_87) _ k)
  have k44 : Way p e below S0 T23 (mkF m 95 #[iv p1, rv b1_2, rv d1_13, rv d1_23] [(.int (5 : Int32)), (.ref d1_23)]) := by
    intro t k
    refine k43 t ?_
    refine XS.bipush X23.here hx rfl (hb hby at_88) ?_
    show Steps p.tables e below (T23.setTop (mkF m 90 #[iv p1, rv b1_2, rv d1_13, rv d1_23] [(.int (80 : Int32)), (.int (((80 : Int32).toInt8.toInt32).toInt8.toInt32))])) _
    refine XS.icmpNo X23.here hx rfl (hb hby at_90) rfl (teq ((by decide) : (((80 : Int32).toInt8.toInt32).toInt8.toInt32) = (80 : Int32))).2 ?_
    show Steps p.tables e below (T23.setTop (mkF m 93 #[iv p1, rv b1_2, rv d1_13, rv d1_23] [])) _
    refine XS.aloadN X23.here hx rfl (hb hby at_93) rfl rfl ?_
    show Steps p.tables e below (T23.setTop (mkF m 94 #[iv p1, rv b1_2, rv d1_13, rv d1_23] [(.ref d1_23)])) _
    refine XS.iconst X23.here hx rfl (hb hby at_94) ?_
    show Steps p.tables e below (T23.setTop (mkF m 95 #[iv p1, rv b1_2, rv d1_13, rv d1_23] [(.int (5 : Int32)), (.ref d1_23)])) _
    exact k
  obtain ⟨cl45, Ar45, qc45, S45, M45, U45, G45⟩ := id (po23_1)
  have hin45 : ¬ ((5 : Int32) < 0 ∨ cl45.slots.size ≤ ((5 : Int32)).toNatClampNeg) := inb_of S45 ⟨by decide, by decide⟩
  have hat45 : cl45.slots[((5 : Int32)).toNatClampNeg]? = some (.int (((3 : Int32).toInt8.toInt32).toInt8.toInt32)) := Has.at U45 hin45 rfl
  have k46 : Way p e below S0 T23 (mkF m 96 #[iv p1, rv b1_2, rv d1_13, rv d1_23] [(.int (((3 : Int32).toInt8.toInt32).toInt8.toInt32))]) := fun t k => k44 t (X23.baloadBytes hx (j := (5 : Int32)) (v := (.int (((3 : Int32).toInt8.toInt32).toInt8.toInt32))) Ar45.1 (State.isArrayOf_alike hZ.alike Ar45.2.1) Ar45.2.2 hin45 hat45 (g := (mkF m 95 #[iv p1, rv b1_2, rv d1_13, rv d1_23] [(.int (5 : Int32)), (.ref d1_23)])) rfl rfl (hb hby at_95) _ k)
  have k47 : Way p e below S0 T23 (mkF m 105 #[iv p1, rv b1_2, rv d1_13, rv d1_23] [(.int (1 : Int32))]) := by
    intro t k
    refine k46 t ?_
    refine XS.iconst X23.here hx rfl (hb hby at_96) ?_
    show Steps p.tables e below (T23.setTop (mkF m 97 #[iv p1, rv b1_2, rv d1_13, rv d1_23] [(.int (3 : Int32)), (.int (((3 : Int32).toInt8.toInt32).toInt8.toInt32))])) _
    refine XS.icmpNo X23.here hx rfl (hb hby at_97) rfl (teq ((by decide) : (((3 : Int32).toInt8.toInt32).toInt8.toInt32) = (3 : Int32))).2 ?_
    show Steps p.tables e below (T23.setTop (mkF m 100 #[iv p1, rv b1_2, rv d1_13, rv d1_23] [])) _
    refine XS.iconst X23.here hx rfl (hb hby at_100) ?_
    show Steps p.tables e below (T23.setTop (mkF m 101 #[iv p1, rv b1_2, rv d1_13, rv d1_23] [(.int (1 : Int32))])) _
    refine XS.goto X23.here hx rfl (pc0 := 101) (pc' := 105) rfl (hb hby at_101) (by decide) (by decide) ?_
    show Steps p.tables e below (T23.setTop (mkF m 105 #[iv p1, rv b1_2, rv d1_13, rv d1_23] [(.int (1 : Int32))])) _
    exact k
  obtain ⟨fs, hr, hrun, hended, hW, hsame⟩ := X23.leave (v := some (.int (1 : Int32))) (fun h => by rw [Bd.returns] at h; cases h)
  refine ⟨_, _, k47 _ (retN X23 hx (t := .boolean) Bd.returns (by simp) (hb hby at_105) hr), hrun, hended, _, _, rfl, ?_, ⟨_, rfl⟩, hW, hsame.mono (by decide) (by decide)⟩
  show Q_law_met Z w_POLL p1 h0 n0 _ T23.heap _
  exact ⟨rfl, N23⟩
set_option maxRecDepth 65536 in
set_option maxHeartbeats 40000000 in
theorem comes_1 {Post : Tables → Env → Array Value → State → Outcome → State → Prop} (hpost : ∀ tb e args s v u, (limb_1_1.after args s (.returned v) u = true ∧ limb_1_2.after args s (.returned v) u = true ∧ True) → FrameEnd s (.returned v) u (Jvm.fieldLocs frame_1_writes args s ++ Jvm.arrayLocs frame_1_arrays args s ++ Jvm.staticLocs frame_1_statics s) 24 128 → Post tb e args s (.returned v) u) :
    ArmFor flags0 classFile x code maxLocals ret World_1 tables_1 room_1 Calls_1 rest_1 Pre_1 Post := by
  intro l hfl _ _ p e ha hc hk s m args below hf hA hF happ hP
  obtain ⟨hcalls, hrest, hpre⟩ := hP
  obtain ⟨-, -, -, hnamed, -, -, -, hat⟩ := (Spec.applies_iff hf).mp happ
  obtain ⟨hg, hn⟩ := and_e (Cond.before_iff.mp (show (Jvm.Cond.and given_1 narrow_1).before args s = true from hpre))
  obtain ⟨g1a, g1b⟩ := and_e hg
  obtain ⟨g2a, g2b⟩ := and_e hn
  obtain ⟨w0, rfl⟩ : ∃ w0 : Value, args = #[w0] := by
    have hs : args.size = 1 := by simpa [Cond.value, given_1] using g1a
    obtain ⟨L⟩ := args
    match L, hs with
    | [w0], _ => exact ⟨w0, rfl⟩
  have hw := fun d (hd : d ∈ tables_1) => atoms_spec (ws := Jvm.Cond.code x code maxLocals ret :: tables_1) hat d (List.mem_cons_of_mem _ hd)
  have hfit : Fit s := fun {y c} hc i hi => by
    obtain ⟨ha, rfl⟩ := Array.getElem?_eq_some_iff.mp hc
    have q := List.all_eq_true.mp ((Array.all_eq_true_iff_forall_mem.mp hF) _ (Array.getElem_mem ha)) i (List.mem_range.mpr hi)
    simpa [Array.getElem?_eq_getElem hi] using q
  obtain ⟨i0, ei0⟩ := is_v g1b
  obtain rfl : w0 = (.int i0) := Option.some.inj ei0
  obtain ⟨w_POLL, ev_w_POLL⟩ := exa_v g2a
  have S_w_POLL := Sta.start ev_w_POLL (Or.inr ⟨(hw _ (List.mem_of_getElem? (i := 7) rfl)), (hw _ (List.mem_of_getElem? (i := 8) rfl))⟩)
  have E_w_POLL := Exa.start ev_w_POLL g2a
  have F_w_POLL_letter := Fld.start (own_eqF ev_w_POLL g2b)
  have G : Gst s w_POLL := ⟨S_w_POLL, E_w_POLL, F_w_POLL_letter⟩
  obtain ⟨n, o, h1, h2, h3, _, L, rfl, ⟨rfl, N⟩, hq⟩ := law_met l s _ hw tables_1 w_POLL G i0 s.heap s.heap.size (Old.start s)  p e ha hc hk s m _ below hf ((Spec.applies_iff_loose hf).mp happ).1 ⟨rfl, State.Warmed39.refl s, rfl⟩ trivial
  refine ⟨n, _, h1, h2, h3, hpost _ _ _ _ _ _ ⟨Cond.after_iff.mpr rfl, Cond.after_iff.mpr (eq_i res_at (Term.int_eval (1)) rfl), trivial⟩ ⟨hq.1, hq.2.1, (hq.2.2.sift fun y hy => Or.inr (N y hy)).mono (by decide) (by decide)⟩⟩
theorem main_1_1 : Claimed_1_1 := comes_1 fun _ _ _ _ _ _ h hF => ⟨h.1, hF⟩
theorem main_1_2 : Claimed_1_2 := comes_1 fun _ _ _ _ _ _ h hF => ⟨h.2.1, hF⟩
end Jvm.Pilot.@@N@@
namespace Jvm.Pilot.@@N@@
open Jvm Jvm.ClassFile Sem Op Lib Jvm.Free Jvm.Stand Jvm.Pilot.@@N@@.Jvm.D
/-! MADE BY PROGRAM (witnessworld.py) out of the Statement's table words and the real class files: 19 classes; the members and pool entries that the words name. The judged class is class 1, her method 1. -/
namespace start1
open Jvm.ClassFile
def u (s : String) : CpInfo := .utf8 (stringToUtf16 s)
/-- a pool by its gaps: so many unusable entries, then the entry; so many at the end -/
def gap : Nat → List CpInfo → List CpInfo
  | 0, r => r
  | n + 1, r => .unusable :: gap n r
def poolList (es : List (Nat × CpInfo)) (last : Nat) : List CpInfo := es.foldr (fun e r => gap e.1 (e.2 :: r)) (gap last [])
def pool (es : List (Nat × CpInfo)) (last : Nat) : Array CpInfo := ⟨poolList es last⟩
def fileOf (pool : Array CpInfo) (this : Nat) (attrs : Array Attribute := #[]) (ms : Array MethodInfo := #[]) (fl : Nat := 33) (sup : Nat := 0) (ifs : Array Nat := #[]) (fds : Array FieldInfo := #[]) : ClassFile where
  minorVersion := 0
  majorVersion := 65
  constantPool := pool
  accessFlags := fl
  thisClass := this
  superClass := sup
  interfaces := ifs
  fields := fds
  methods := ms
  attributes := attrs
def plain (name : String) (sup : Option ClassId) : Class where
  name := name
  kind := .ordinary
  loader := none
  accessFlags := 33
  super := sup
  interfaces := #[]
  cf := none
  fields := #[]
  methods := #[]
  instanceTypes := #[]
  staticTypes := #[]
  resolved := #[]
  callSites := []
  init := .initialized
  statics := none
  mirror := none

def pool0 : Array CpInfo := pool [(5, u "<init>"), (0, u "()V"), (1, .class_ 10), (1, u "java/lang/Object"), (85, u "clone"), (0, u "()Ljava/lang/Object;")] 26

def k0c0 : Code := { maxStack := 0, maxLocals := 1, code := object_method_1_code, exceptionTable := #[], attributes := #[] }
def k0m0 : Method := { name := "<init>", desc := "()V", sig := { parameters := [], returnType := none }, accessFlags := 1, code := some k0c0 }
def k0m1 : Method := { name := "clone", desc := "()Ljava/lang/Object;", sig := { parameters := [], returnType := some (.object "java/lang/Object") }, accessFlags := 260, code := none }
/-- java/lang/Object -/
def k0 : Class := { plain "java/lang/Object" none with
  accessFlags := 33
  interfaces := #[]
  cf := some (fileOf pool0 8 #[] #[{ accessFlags := 1, nameIndex := 5, descriptorIndex := 6, attributes := #[] }, { accessFlags := 260, nameIndex := 96, descriptorIndex := 97, attributes := #[] }] 33 0 #[] #[])
  fields := #[]
  methods := #[k0m0, k0m1]
  instanceTypes := #[]
  staticTypes := #[]
  resolved := Array.replicate 124 none
  statics := none }

def pool1 : Array CpInfo := pool [(2, .class_ 4), (1, u "java/lang/Object"), (0, u "<init>"), (0, u "()V"), (0, .methodref 8 9), (0, .class_ 10), (0, .nameAndType 11 12), (0, u "com/example/aspectwise/aspectwise/cmri/Packet"), (0, u "poll"), (0, u "(I)Lcom/example/aspectwise/aspectwise/cmri/Packet;"), (0, .methodref 8 14), (0, .nameAndType 15 16), (0, u "address"), (0, u "()I"), (0, .methodref 8 18), (0, .nameAndType 19 20), (0, u "type"), (0, u "()Lcom/example/aspectwise/aspectwise/cmri/Packet$Type;"), (0, .fieldref 22 23), (0, .class_ 24), (0, .nameAndType 25 26), (0, u "com/example/aspectwise/aspectwise/cmri/Packet$Type"), (0, u "POLL"), (0, u "Lcom/example/aspectwise/aspectwise/cmri/Packet$Type;"), (0, .methodref 8 28), (0, .nameAndType 29 30), (0, u "data"), (0, u "()[B"), (0, .methodref 8 32), (0, .nameAndType 33 30), (0, u "frame"), (0, .class_ 35), (0, u "com/example/aspectwise/aspectwise/cmri/PacketPollPinLaw"), (2, u "law"), (0, u "(I)Z")] 7

def k1m0 : Method := { name := "<init>", desc := "()V", sig := { parameters := [], returnType := none }, accessFlags := 1, code := none }
def k1c1 : Code := { maxStack := 3, maxLocals := 4, code := code, exceptionTable := #[], attributes := #[] }
def k1m1 : Method := { name := "law", desc := "(I)Z", sig := { parameters := [.int], returnType := some .boolean }, accessFlags := 9, code := some k1c1 }
/-- com/example/aspectwise/aspectwise/cmri/PacketPollPinLaw -/
def k1 : Class := { plain "com/example/aspectwise/aspectwise/cmri/PacketPollPinLaw" (some 0) with
  accessFlags := 49
  interfaces := #[]
  cf := some (fileOf pool1 34 #[] #[{ accessFlags := 1, nameIndex := 5, descriptorIndex := 6, attributes := #[] }, { accessFlags := 9, nameIndex := 38, descriptorIndex := 39, attributes := #[] }] 49 2 #[] #[])
  fields := #[]
  methods := #[k1m0, k1m1]
  instanceTypes := #[]
  staticTypes := #[]
  resolved := Array.replicate 47 none
  statics := none }

def pool2 : Array CpInfo := pool [(1, .methodref 2 3), (0, .class_ 4), (0, .nameAndType 5 6), (0, u "java/lang/Object"), (0, u "<init>"), (0, u "()V"), (0, .fieldref 8 9), (0, .class_ 10), (0, .nameAndType 11 12), (0, u "com/example/aspectwise/aspectwise/cmri/Packet"), (0, u "address"), (0, u "I"), (0, .fieldref 8 14), (0, .nameAndType 15 16), (0, u "type"), (0, u "Lcom/example/aspectwise/aspectwise/cmri/Packet$Type;"), (0, .methodref 18 19), (0, .class_ 20), (0, .nameAndType 21 22), (0, u "[B"), (0, u "clone"), (0, u "()Ljava/lang/Object;"), (0, .fieldref 8 24), (0, .nameAndType 25 20), (0, u "data"), (1, .class_ 29), (1, u "com/example/aspectwise/aspectwise/cmri/Packet$1"), (12, u "()I"), (8, .class_ 53), (1, u "com/example/aspectwise/aspectwise/cmri/Packet$Type"), (1, .methodref 8 56), (0, .nameAndType 5 57), (0, u "(ILcom/example/aspectwise/aspectwise/cmri/Packet$Type;[B)V"), (0, .fieldref 51 59), (0, .nameAndType 60 16), (0, u "POLL"), (3, .class_ 65), (0, u "java/io/ByteArrayOutputStream"), (0, .methodref 64 67), (0, .nameAndType 5 68), (0, u "(I)V"), (0, .methodref 64 70), (0, .nameAndType 71 68), (0, u "write"), (0, .fieldref 51 73), (0, .nameAndType 74 12), (0, u "letter"), (0, .methodref 64 76), (0, .nameAndType 77 78), (0, u "toByteArray"), (0, u "()[B"), (43, u "MAX_DATA"), (2, u "SYN"), (1, u "STX"), (1, u "ETX"), (1, u "DLE"), (1, u "ADDRESS_OFFSET"), (1, u "SMINI_DEFINITION"), (6, u "poll"), (0, u "(I)Lcom/example/aspectwise/aspectwise/cmri/Packet;"), (2, u "()Lcom/example/aspectwise/aspectwise/cmri/Packet$Type;"), (0, u "frame")] 9

def k2c0 : Code := { maxStack := 2, maxLocals := 4, code := prog_13_method_1_code, exceptionTable := #[], attributes := #[] }
def k2m0 : Method := { name := "<init>", desc := "(ILcom/example/aspectwise/aspectwise/cmri/Packet$Type;[B)V", sig := { parameters := [.int, (.object "com/example/aspectwise/aspectwise/cmri/Packet$Type"), (.array .byte)], returnType := none }, accessFlags := 2, code := some k2c0 }
def k2c1 : Code := { maxStack := 5, maxLocals := 1, code := prog_13_method_3_code, exceptionTable := #[], attributes := #[] }
def k2m1 : Method := { name := "poll", desc := "(I)Lcom/example/aspectwise/aspectwise/cmri/Packet;", sig := { parameters := [.int], returnType := some (.object "com/example/aspectwise/aspectwise/cmri/Packet") }, accessFlags := 8, code := some k2c1 }
def k2c2 : Code := { maxStack := 1, maxLocals := 1, code := prog_13_method_5_code, exceptionTable := #[], attributes := #[] }
def k2m2 : Method := { name := "address", desc := "()I", sig := { parameters := [], returnType := some .int }, accessFlags := 0, code := some k2c2 }
def k2c3 : Code := { maxStack := 1, maxLocals := 1, code := prog_13_method_6_code, exceptionTable := #[], attributes := #[] }
def k2m3 : Method := { name := "type", desc := "()Lcom/example/aspectwise/aspectwise/cmri/Packet$Type;", sig := { parameters := [], returnType := some (.object "com/example/aspectwise/aspectwise/cmri/Packet$Type") }, accessFlags := 0, code := some k2c3 }
def k2c4 : Code := { maxStack := 1, maxLocals := 1, code := prog_13_method_7_code, exceptionTable := #[], attributes := #[] }
def k2m4 : Method := { name := "data", desc := "()[B", sig := { parameters := [], returnType := some (.array .byte) }, accessFlags := 0, code := some k2c4 }
def k2c5 : Code := { maxStack := 4, maxLocals := 7, code := prog_13_method_8_code, exceptionTable := #[], attributes := #[] }
def k2m5 : Method := { name := "frame", desc := "()[B", sig := { parameters := [], returnType := some (.array .byte) }, accessFlags := 0, code := some k2c5 }
/-- com/example/aspectwise/aspectwise/cmri/Packet -/
def k2 : Class := { plain "com/example/aspectwise/aspectwise/cmri/Packet" (some 0) with
  accessFlags := 48
  interfaces := #[]
  cf := some (fileOf pool2 8 #[.nestMembers #[27, 51]] #[{ accessFlags := 2, nameIndex := 5, descriptorIndex := 57, attributes := #[] }, { accessFlags := 8, nameIndex := 142, descriptorIndex := 143, attributes := #[] }, { accessFlags := 0, nameIndex := 11, descriptorIndex := 42, attributes := #[] }, { accessFlags := 0, nameIndex := 15, descriptorIndex := 146, attributes := #[] }, { accessFlags := 0, nameIndex := 25, descriptorIndex := 78, attributes := #[] }, { accessFlags := 0, nameIndex := 147, descriptorIndex := 78, attributes := #[] }] 48 2 #[] #[{ accessFlags := 24, nameIndex := 122, descriptorIndex := 12, attributes := #[] }, { accessFlags := 26, nameIndex := 125, descriptorIndex := 12, attributes := #[] }, { accessFlags := 26, nameIndex := 127, descriptorIndex := 12, attributes := #[] }, { accessFlags := 26, nameIndex := 129, descriptorIndex := 12, attributes := #[] }, { accessFlags := 26, nameIndex := 131, descriptorIndex := 12, attributes := #[] }, { accessFlags := 26, nameIndex := 133, descriptorIndex := 12, attributes := #[] }, { accessFlags := 26, nameIndex := 135, descriptorIndex := 12, attributes := #[] }, { accessFlags := 18, nameIndex := 11, descriptorIndex := 12, attributes := #[] }, { accessFlags := 18, nameIndex := 15, descriptorIndex := 16, attributes := #[] }, { accessFlags := 18, nameIndex := 25, descriptorIndex := 20, attributes := #[] }])
  fields := #[{ name := "MAX_DATA", type := .int, accessFlags := 24, slot := 0, constantValue := 0 }, { name := "SYN", type := .int, accessFlags := 26, slot := 1, constantValue := 0 }, { name := "STX", type := .int, accessFlags := 26, slot := 2, constantValue := 0 }, { name := "ETX", type := .int, accessFlags := 26, slot := 3, constantValue := 0 }, { name := "DLE", type := .int, accessFlags := 26, slot := 4, constantValue := 0 }, { name := "ADDRESS_OFFSET", type := .int, accessFlags := 26, slot := 5, constantValue := 0 }, { name := "SMINI_DEFINITION", type := .int, accessFlags := 26, slot := 6, constantValue := 0 }, { name := "address", type := .int, accessFlags := 18, slot := 0, constantValue := 0 }, { name := "type", type := (.object "com/example/aspectwise/aspectwise/cmri/Packet$Type"), accessFlags := 18, slot := 1, constantValue := 0 }, { name := "data", type := (.array .byte), accessFlags := 18, slot := 2, constantValue := 0 }]
  methods := #[k2m0, k2m1, k2m2, k2m3, k2m4, k2m5]
  instanceTypes := #[.int, (.object "com/example/aspectwise/aspectwise/cmri/Packet$Type"), (.array .byte)]
  staticTypes := #[.int, .int, .int, .int, .int, .int, .int]
  resolved := ⟨List.replicate 72 none ++ some (.field 7 4) :: (List.replicate 84 none)⟩
  statics := none }

def pool3 : Array CpInfo := pool [(1, .class_ 2), (0, u "java/lang/constant/Constable"), (0, .class_ 4), (0, u "java/lang/Object")] 6

/-- java/lang/constant/Constable -/
def k3 : Class := { plain "java/lang/constant/Constable" (some 0) with
  accessFlags := 1537
  interfaces := #[]
  cf := some (fileOf pool3 1 #[] #[] 1537 3 #[] #[])
  fields := #[]
  methods := #[]
  instanceTypes := #[]
  staticTypes := #[]
  resolved := Array.replicate 11 none
  statics := none }

def pool4 : Array CpInfo := pool [(1, .class_ 2), (0, u "java/lang/Comparable"), (0, .class_ 4), (0, u "java/lang/Object")] 7

/-- java/lang/Comparable -/
def k4 : Class := { plain "java/lang/Comparable" (some 0) with
  accessFlags := 1537
  interfaces := #[]
  cf := some (fileOf pool4 1 #[] #[] 1537 3 #[] #[])
  fields := #[]
  methods := #[]
  instanceTypes := #[]
  staticTypes := #[]
  resolved := Array.replicate 12 none
  statics := none }

def pool5 : Array CpInfo := pool [(1, .class_ 2), (0, u "java/io/Serializable"), (0, .class_ 4), (0, u "java/lang/Object")] 2

/-- java/io/Serializable -/
def k5 : Class := { plain "java/io/Serializable" (some 0) with
  accessFlags := 1537
  interfaces := #[]
  cf := some (fileOf pool5 1 #[] #[] 1537 3 #[] #[])
  fields := #[]
  methods := #[]
  instanceTypes := #[]
  staticTypes := #[]
  resolved := Array.replicate 7 none
  statics := none }

def pool6 : Array CpInfo := pool [(2, .class_ 4), (1, u "java/lang/Enum"), (0, u "name"), (0, u "Ljava/lang/String;"), (2, u "ordinal"), (0, u "I"), (1, .class_ 14), (1, u "java/lang/Object"), (4, u "hash"), (86, .class_ 108), (1, u "java/lang/Enum$EnumDesc"), (2, .class_ 112), (0, u "java/lang/constant/Constable"), (0, .class_ 114), (0, u "java/lang/Comparable"), (0, .class_ 116), (0, u "java/io/Serializable")] 87

/-- java/lang/Enum -/
def k6 : Class := { plain "java/lang/Enum" (some 0) with
  accessFlags := 1057
  interfaces := #[3, 4, 5]
  cf := some (fileOf pool6 2 #[.nestMembers #[106]] #[] 1057 12 #[111, 113, 115] #[{ accessFlags := 18, nameIndex := 5, descriptorIndex := 6, attributes := #[] }, { accessFlags := 18, nameIndex := 9, descriptorIndex := 10, attributes := #[] }, { accessFlags := 2, nameIndex := 19, descriptorIndex := 10, attributes := #[] }])
  fields := #[{ name := "name", type := (.object "java/lang/String"), accessFlags := 18, slot := 0, constantValue := 0 }, { name := "ordinal", type := .int, accessFlags := 18, slot := 1, constantValue := 0 }, { name := "hash", type := .int, accessFlags := 2, slot := 2, constantValue := 0 }]
  methods := #[]
  instanceTypes := #[(.object "java/lang/String"), .int, .int]
  staticTypes := #[]
  resolved := Array.replicate 204 none
  statics := none }

def pool7 : Array CpInfo := pool [(1, .class_ 2), (0, u "com/example/aspectwise/aspectwise/cmri/Packet$Type"), (2, u "INIT"), (0, u "Lcom/example/aspectwise/aspectwise/cmri/Packet$Type;"), (2, u "POLL"), (2, u "RECEIVE"), (2, u "TRANSMIT"), (2, u "$VALUES"), (0, u "[Lcom/example/aspectwise/aspectwise/cmri/Packet$Type;"), (6, .class_ 28), (1, u "java/lang/Enum"), (8, u "letter"), (0, u "I"), (55, .class_ 95), (0, u "com/example/aspectwise/aspectwise/cmri/Packet")] 2

/-- com/example/aspectwise/aspectwise/cmri/Packet$Type -/
def k7 : Class := { plain "com/example/aspectwise/aspectwise/cmri/Packet$Type" (some 6) with
  accessFlags := 16432
  interfaces := #[]
  cf := some (fileOf pool7 1 #[.nestHost 94] #[] 16432 26 #[] #[{ accessFlags := 16409, nameIndex := 5, descriptorIndex := 6, attributes := #[] }, { accessFlags := 16409, nameIndex := 9, descriptorIndex := 6, attributes := #[] }, { accessFlags := 16409, nameIndex := 12, descriptorIndex := 6, attributes := #[] }, { accessFlags := 16409, nameIndex := 15, descriptorIndex := 6, attributes := #[] }, { accessFlags := 18, nameIndex := 37, descriptorIndex := 38, attributes := #[] }, { accessFlags := 4122, nameIndex := 18, descriptorIndex := 19, attributes := #[] }])
  fields := #[{ name := "INIT", type := (.object "com/example/aspectwise/aspectwise/cmri/Packet$Type"), accessFlags := 16409, slot := 0, constantValue := 0 }, { name := "POLL", type := (.object "com/example/aspectwise/aspectwise/cmri/Packet$Type"), accessFlags := 16409, slot := 1, constantValue := 0 }, { name := "RECEIVE", type := (.object "com/example/aspectwise/aspectwise/cmri/Packet$Type"), accessFlags := 16409, slot := 2, constantValue := 0 }, { name := "TRANSMIT", type := (.object "com/example/aspectwise/aspectwise/cmri/Packet$Type"), accessFlags := 16409, slot := 3, constantValue := 0 }, { name := "letter", type := .int, accessFlags := 18, slot := 3, constantValue := 0 }, { name := "$VALUES", type := (.array (.object "com/example/aspectwise/aspectwise/cmri/Packet$Type")), accessFlags := 4122, slot := 4, constantValue := 0 }]
  methods := #[]
  instanceTypes := #[(.object "java/lang/String"), .int, .int, .int]
  staticTypes := #[(.object "com/example/aspectwise/aspectwise/cmri/Packet$Type"), (.object "com/example/aspectwise/aspectwise/cmri/Packet$Type"), (.object "com/example/aspectwise/aspectwise/cmri/Packet$Type"), (.object "com/example/aspectwise/aspectwise/cmri/Packet$Type"), (.array (.object "com/example/aspectwise/aspectwise/cmri/Packet$Type"))]
  resolved := Array.replicate 98 none
  statics := some 0 }

def pool8 : Array CpInfo := pool [(1, .class_ 2), (0, u "java/lang/Cloneable"), (0, .class_ 4), (0, u "java/lang/Object")] 2

/-- java/lang/Cloneable -/
def k8 : Class := { plain "java/lang/Cloneable" (some 0) with
  accessFlags := 1537
  interfaces := #[]
  cf := some (fileOf pool8 1 #[] #[] 1537 3 #[] #[])
  fields := #[]
  methods := #[]
  instanceTypes := #[]
  staticTypes := #[]
  resolved := Array.replicate 7 none
  statics := none }

def pool9 : Array CpInfo := pool [(1, .class_ 2), (0, u "java/lang/AutoCloseable"), (0, .class_ 4), (0, u "java/lang/Object")] 7

/-- java/lang/AutoCloseable -/
def k9 : Class := { plain "java/lang/AutoCloseable" (some 0) with
  accessFlags := 1537
  interfaces := #[]
  cf := some (fileOf pool9 1 #[] #[] 1537 3 #[] #[])
  fields := #[]
  methods := #[]
  instanceTypes := #[]
  staticTypes := #[]
  resolved := Array.replicate 12 none
  statics := none }

def pool10 : Array CpInfo := pool [(1, .class_ 2), (0, u "java/io/Closeable"), (0, .class_ 4), (0, u "java/lang/Object"), (0, .class_ 6), (0, u "java/lang/AutoCloseable")] 7

/-- java/io/Closeable -/
def k10 : Class := { plain "java/io/Closeable" (some 0) with
  accessFlags := 1537
  interfaces := #[9]
  cf := some (fileOf pool10 1 #[] #[] 1537 3 #[5] #[])
  fields := #[]
  methods := #[]
  instanceTypes := #[]
  staticTypes := #[]
  resolved := Array.replicate 14 none
  statics := none }

def pool11 : Array CpInfo := pool [(1, .class_ 2), (0, u "java/io/Flushable"), (0, .class_ 4), (0, u "java/lang/Object")] 7

/-- java/io/Flushable -/
def k11 : Class := { plain "java/io/Flushable" (some 0) with
  accessFlags := 1537
  interfaces := #[]
  cf := some (fileOf pool11 1 #[] #[] 1537 3 #[] #[])
  fields := #[]
  methods := #[]
  instanceTypes := #[]
  staticTypes := #[]
  resolved := Array.replicate 12 none
  statics := none }

def pool12 : Array CpInfo := pool [(1, .methodref 2 3), (0, .class_ 4), (0, .nameAndType 5 6), (0, u "java/lang/Object"), (0, u "<init>"), (0, u "()V"), (0, .class_ 8), (0, u "java/io/OutputStream$1"), (2, .class_ 13), (1, u "java/io/OutputStream"), (11, .class_ 26), (0, u "java/io/Closeable"), (0, .class_ 28), (0, u "java/io/Flushable")] 24

def k12c0 : Code := { maxStack := 1, maxLocals := 1, code := jdk_2038_method_1_code, exceptionTable := #[], attributes := #[] }
def k12m0 : Method := { name := "<init>", desc := "()V", sig := { parameters := [], returnType := none }, accessFlags := 1, code := some k12c0 }
/-- java/io/OutputStream -/
def k12 : Class := { plain "java/io/OutputStream" (some 0) with
  accessFlags := 1057
  interfaces := #[10, 11]
  cf := some (fileOf pool12 11 #[.nestMembers #[7]] #[{ accessFlags := 1, nameIndex := 5, descriptorIndex := 6, attributes := #[] }] 1057 2 #[25, 27] #[])
  fields := #[]
  methods := #[k12m0]
  instanceTypes := #[]
  staticTypes := #[]
  resolved := Array.replicate 53 none
  statics := none }

def pool13 : Array CpInfo := pool [(2, .class_ 4), (1, u "java/io/ByteArrayOutputStream"), (0, u "<init>"), (0, u "(I)V"), (0, .methodref 8 9), (0, .class_ 10), (0, .nameAndType 5 11), (0, u "java/io/OutputStream"), (0, u "()V"), (21, .fieldref 2 34), (0, .nameAndType 35 36), (0, u "buf"), (0, u "[B"), (6, .methodref 44 45), (0, .class_ 46), (0, .nameAndType 47 48), (0, u "java/util/Arrays"), (0, u "copyOf"), (0, u "([BI)[B"), (0, .fieldref 2 50), (0, .nameAndType 51 52), (0, u "count"), (0, u "I"), (0, .methodref 2 54), (0, .nameAndType 55 6), (0, u "ensureCapacity"), (13, u "write"), (56, u "toByteArray"), (0, u "()[B")] 17

def k13m0 : Method := { name := "<init>", desc := "()V", sig := { parameters := [], returnType := none }, accessFlags := 1, code := none }
def k13c1 : Code := { maxStack := 4, maxLocals := 2, code := jdk_2005_method_2_code, exceptionTable := #[], attributes := #[] }
def k13m1 : Method := { name := "<init>", desc := "(I)V", sig := { parameters := [.int], returnType := none }, accessFlags := 1, code := some k13c1 }
def k13c2 : Code := { maxStack := 5, maxLocals := 4, code := jdk_2005_method_3_code, exceptionTable := #[], attributes := #[] }
def k13m2 : Method := { name := "ensureCapacity", desc := "(I)V", sig := { parameters := [.int], returnType := none }, accessFlags := 2, code := some k13c2 }
def k13c3 : Code := { maxStack := 3, maxLocals := 2, code := ⟨#[0x2a, 0x2a, 0xb4, 0x00, 0x31, 0x04, 0x60, 0xb6, 0x00, 0x35, 0x2a, 0xb4, 0x00, 0x21, 0x2a, 0xb4, 0x00, 0x31, 0x1b, 0x91, 0x54, 0x2a, 0x59, 0xb4, 0x00, 0x31, 0x04, 0x60, 0xb5, 0x00, 0x31, 0xb1]⟩, exceptionTable := #[], attributes := #[] }
def k13m3 : Method := { name := "write", desc := "(I)V", sig := { parameters := [.int], returnType := none }, accessFlags := 33, code := some k13c3 }
def k13c4 : Code := { maxStack := 2, maxLocals := 1, code := ⟨#[0x2a, 0xb4, 0x00, 0x21, 0x2a, 0xb4, 0x00, 0x31, 0xb8, 0x00, 0x2b, 0xb0]⟩, exceptionTable := #[], attributes := #[] }
def k13m4 : Method := { name := "toByteArray", desc := "()[B", sig := { parameters := [], returnType := some (.array .byte) }, accessFlags := 33, code := some k13c4 }
/-- java/io/ByteArrayOutputStream -/
def k13 : Class := { plain "java/io/ByteArrayOutputStream" (some 12) with
  accessFlags := 33
  interfaces := #[]
  cf := some (fileOf pool13 2 #[] #[{ accessFlags := 1, nameIndex := 5, descriptorIndex := 11, attributes := #[] }, { accessFlags := 1, nameIndex := 5, descriptorIndex := 6, attributes := #[] }, { accessFlags := 2, nameIndex := 55, descriptorIndex := 6, attributes := #[] }, { accessFlags := 33, nameIndex := 69, descriptorIndex := 6, attributes := #[] }, { accessFlags := 33, nameIndex := 126, descriptorIndex := 127, attributes := #[] }] 33 8 #[] #[{ accessFlags := 4, nameIndex := 35, descriptorIndex := 36, attributes := #[] }, { accessFlags := 4, nameIndex := 51, descriptorIndex := 52, attributes := #[] }])
  fields := #[{ name := "buf", type := (.array .byte), accessFlags := 4, slot := 0, constantValue := 0 }, { name := "count", type := .int, accessFlags := 4, slot := 1, constantValue := 0 }]
  methods := #[k13m0, k13m1, k13m2, k13m3, k13m4]
  instanceTypes := #[(.array .byte), .int]
  staticTypes := #[]
  resolved := Array.replicate 145 none
  statics := none }

def pool14 : Array CpInfo := pool [(2, .class_ 4), (1, u "java/lang/Object"), (0, u "<init>"), (0, u "()V"), (7, .class_ 16), (1, u "java/util/Arrays"), (57, .class_ 76), (1, u "java/util/Arrays$NaturalOrder"), (32, u "()Ljava/lang/Object;"), (3, .class_ 115), (1, u "java/util/Arrays$LegacyMergeSort"), (1, u "Z"), (10, .nameAndType 129 109), (0, u "clone"), (172, u "copyOf"), (7, .methodref 311 128), (0, .class_ 312), (0, u "[B"), (62, .class_ 376), (0, u "java/util/Arrays$ArrayList"), (68, u "$assertionsDisabled"), (269, u "MIN_ARRAY_SORT_GRAN"), (0, u "I"), (2, u "INSERTIONSORT_THRESHOLD"), (149, u "([BI)[B"), (105, .class_ 976), (0, u "java/util/Arrays$ArrayItr")] 52

def k14m0 : Method := { name := "<init>", desc := "()V", sig := { parameters := [], returnType := none }, accessFlags := 2, code := none }
def k14c1 : Code := { maxStack := 6, maxLocals := 3, code := jdk_65_method_121_code, exceptionTable := #[], attributes := #[] }
def k14m1 : Method := { name := "copyOf", desc := "([BI)[B", sig := { parameters := [(.array .byte), .int], returnType := some (.array .byte) }, accessFlags := 9, code := some k14c1 }
/-- java/util/Arrays -/
def k14 : Class := { plain "java/util/Arrays" (some 0) with
  accessFlags := 49
  interfaces := #[]
  cf := some (fileOf pool14 14 #[.nestMembers #[975, 375, 113, 74]] #[{ accessFlags := 2, nameIndex := 5, descriptorIndex := 6, attributes := #[] }, { accessFlags := 9, nameIndex := 302, descriptorIndex := 869, attributes := #[] }] 49 2 #[] #[{ accessFlags := 26, nameIndex := 715, descriptorIndex := 716, attributes := #[] }, { accessFlags := 26, nameIndex := 719, descriptorIndex := 716, attributes := #[] }, { accessFlags := 4120, nameIndex := 445, descriptorIndex := 117, attributes := #[] }])
  fields := #[{ name := "MIN_ARRAY_SORT_GRAN", type := .int, accessFlags := 26, slot := 0, constantValue := 0 }, { name := "INSERTIONSORT_THRESHOLD", type := .int, accessFlags := 26, slot := 1, constantValue := 0 }, { name := "$assertionsDisabled", type := .boolean, accessFlags := 4120, slot := 2, constantValue := 0 }]
  methods := #[k14m0, k14m1]
  instanceTypes := #[]
  staticTypes := #[.int, .int, .boolean]
  resolved := Array.replicate 1029 none
  statics := none }

/-- the primitive byte -/
def k15 : Class := { plain "byte" none with kind := .primitive 'B', accessFlags := 0x411 }
/-- [B -/
def k16 : Class := { plain "[B" (some 0) with kind := .array 15 .byte, interfaces := #[8, 5], accessFlags := 1041 }

/-- the primitive int -/
def k17 : Class := { plain "int" none with kind := .primitive 'I', accessFlags := 0x411 }
/-- [I -/
def k18 : Class := { plain "[I" (some 0) with kind := .array 17 .int, interfaces := #[8, 5], accessFlags := 1041 }

def heap : Heap := #[{ cls := 7, slots := #[.null, .ref 1, .null, .null, .null], vm := .statics 7 },
  { cls := 7, slots := #[.null, .int 0, .int 0, .int 80], vm := .none }]
def classes : Array Class := #[k0, k1, k2, k3, k4, k5, k6, k7, k8, k9, k10, k11, k12, k13, k14, k15, k16, k17, k18]
def interned : List (Array UInt16 × Addr) := []
def slotsUsed : Nat := 9
def theMethod : MethodId := ⟨1, 1⟩
def args0 : Array Value := #[.int 5]
def aboutOver (below : List Frame) : State where
  vm := { classes := classes, interned := interned.toArray }
  heap := heap
  slotsUsed := slotsUsed
  threads := #[{ frames := .invoking theMethod args0 :: below }]
def below0 : List Frame := [.native { method := ⟨0, 0⟩, args := #[] }]
def about1 : State := aboutOver below0
def p0 : Program := .bare "" "" ""
def e0 : Env := launch0.env 0 0 0
theorem w_frames : about1.frames = Frame.invoking theMethod args0 :: below0 := rfl
set_option maxRecDepth 65536 in
theorem w_args : argsFit about1.vm theMethod args0 = true := by decide +kernel
set_option maxRecDepth 65536 in
theorem w_heap : heapFits about1 = true := by decide +kernel
set_option maxRecDepth 65536 in
theorem w_runnable : about1.curStatus? = some .runnable := by decide +kernel
set_option maxRecDepth 65536 in
theorem w_alone : about1.alone = true := by decide +kernel
set_option maxRecDepth 65536 in
theorem w_named : about1.methodNamed? x = some theMethod := by decide +kernel
set_option maxRecDepth 65536 in
theorem w_hears : about1.hears theMethod below0 = true := by decide +kernel
set_option maxRecDepth 65536 in
theorem w_ripe : about1.ripe theMethod args0 below0 = true := by decide +kernel
theorem w_running : about1.status = .running := rfl
set_option maxRecDepth 65536 in
theorem w_room : about1.hasRoom e0.platform room_1 = true :=
  launch0.hasRoom_least _ room_1 (by decide +kernel) (by decide +kernel) (by decide +kernel) (by decide +kernel) (by decide +kernel) (by decide +kernel)
theorem allAtoms_all (ts : List Jvm.Cond) (a : Array Jvm.Value) (st : Jvm.State) : (allAtoms ts).before a st = ts.all (fun c => c.before a st) := by
  induction ts with
  | nil => rfl
  | cons c t ih =>
    show (Jvm.Cond.and c (allAtoms t)).before a st = _
    rw [Jvm.Cond.before_and, ih, List.all_cons]
def words1 : List Jvm.Cond := Jvm.Cond.code x code maxLocals ret :: tables_1
/-- a 'code' word, met by the world's own term for the bytes: nothing is compared byte by byte -/
theorem code_word {y : MethodName} {bytes : ByteArray} {mx : Nat} {rt : Option FieldType} {a : Array Value} {s : State} {m : MethodId} {meth : Method} {c : Code} (h1 : s.methodNamed? y = some m) (h2 : s.vm.method? m = some meth) (h3 : meth.code = some c) (h4 : c.code = bytes)
    (h5 : (c.maxLocals == mx && c.exceptionTable.isEmpty && decide (c.maxStack ≤ mostOperands) && decide (meth.sig.returnType = rt) && !meth.locks && decide (parseMethodDescriptor y.desc = some meth.sig)) = true) : (Jvm.Cond.code y bytes mx rt).before a s = true := by
  simp only [Bool.and_eq_true, beq_iff_eq, Bool.not_eq_true', decide_eq_true_eq] at h5
  obtain ⟨⟨⟨⟨⟨g1, g2⟩, g3⟩, g4⟩, g5⟩, g6⟩ := h5
  simp [Cond.before, Cond.holds, Cond.value, h1, h2, h3, h4, g1, g2, g3, g4, g5, g6]
def isCode : Jvm.Cond → Bool
  | .code _ _ _ _ => true
  | _ => false
theorem all_split {L : List Jvm.Cond} {P : Jvm.Cond → Bool} (h1 : L.all (fun c => isCode c || P c) = true) (h2 : ∀ c ∈ L.filter isCode, P c = true) : L.all P = true := by
  refine List.all_eq_true.mpr fun c hc => ?_
  have h := List.all_eq_true.mp h1 c hc
  rcases Bool.eq_false_or_eq_true (isCode c) with hi | hi
  · exact h2 c (List.mem_filter.mpr ⟨hc, hi⟩)
  · simpa [hi] using h
set_option maxRecDepth 65536 in
theorem w_c0 : (Jvm.Cond.code x code maxLocals ret).before args0 about1 = true := code_word (m := ⟨1, 1⟩) (meth := k1m1) (c := k1c1) (by decide +kernel) rfl rfl rfl (by decide +kernel)
set_option maxRecDepth 65536 in
theorem w_c1 : (Jvm.Cond.code ({ cls := "com/example/aspectwise/aspectwise/cmri/Packet", name := "poll", desc := "(I)Lcom/example/aspectwise/aspectwise/cmri/Packet;" } : Jvm.MethodName) prog_13_method_3_code (1 : Nat) (Option.some (Jvm.ClassFile.FieldType.object "com/example/aspectwise/aspectwise/cmri/Packet"))).before args0 about1 = true := code_word (m := ⟨2, 1⟩) (meth := k2m1) (c := k2c1) (by decide +kernel) rfl rfl rfl (by decide +kernel)
set_option maxRecDepth 65536 in
theorem w_c2 : (Jvm.Cond.code ({ cls := "com/example/aspectwise/aspectwise/cmri/Packet", name := "<init>", desc := "(ILcom/example/aspectwise/aspectwise/cmri/Packet$Type;[B)V" } : Jvm.MethodName) prog_13_method_1_code (4 : Nat) (Option.none : Option Jvm.ClassFile.FieldType)).before args0 about1 = true := code_word (m := ⟨2, 0⟩) (meth := k2m0) (c := k2c0) (by decide +kernel) rfl rfl rfl (by decide +kernel)
set_option maxRecDepth 65536 in
theorem w_c3 : (Jvm.Cond.code ({ cls := "java/lang/Object", name := "<init>", desc := "()V" } : Jvm.MethodName) object_method_1_code (1 : Nat) (Option.none : Option Jvm.ClassFile.FieldType)).before args0 about1 = true := code_word (m := ⟨0, 0⟩) (meth := k0m0) (c := k0c0) (by decide +kernel) rfl rfl rfl (by decide +kernel)
set_option maxRecDepth 65536 in
theorem w_c4 : (Jvm.Cond.code ({ cls := "com/example/aspectwise/aspectwise/cmri/Packet", name := "address", desc := "()I" } : Jvm.MethodName) prog_13_method_5_code (1 : Nat) (Option.some Jvm.ClassFile.FieldType.int)).before args0 about1 = true := code_word (m := ⟨2, 2⟩) (meth := k2m2) (c := k2c2) (by decide +kernel) rfl rfl rfl (by decide +kernel)
set_option maxRecDepth 65536 in
theorem w_c5 : (Jvm.Cond.code ({ cls := "com/example/aspectwise/aspectwise/cmri/Packet", name := "type", desc := "()Lcom/example/aspectwise/aspectwise/cmri/Packet$Type;" } : Jvm.MethodName) prog_13_method_6_code (1 : Nat) (Option.some (Jvm.ClassFile.FieldType.object "com/example/aspectwise/aspectwise/cmri/Packet$Type"))).before args0 about1 = true := code_word (m := ⟨2, 3⟩) (meth := k2m3) (c := k2c3) (by decide +kernel) rfl rfl rfl (by decide +kernel)
set_option maxRecDepth 65536 in
theorem w_c6 : (Jvm.Cond.code ({ cls := "com/example/aspectwise/aspectwise/cmri/Packet", name := "data", desc := "()[B" } : Jvm.MethodName) prog_13_method_7_code (1 : Nat) (Option.some (Jvm.ClassFile.FieldType.array Jvm.ClassFile.FieldType.byte))).before args0 about1 = true := code_word (m := ⟨2, 4⟩) (meth := k2m4) (c := k2c4) (by decide +kernel) rfl rfl rfl (by decide +kernel)
set_option maxRecDepth 65536 in
theorem w_c7 : (Jvm.Cond.code ({ cls := "com/example/aspectwise/aspectwise/cmri/Packet", name := "frame", desc := "()[B" } : Jvm.MethodName) prog_13_method_8_code (7 : Nat) (Option.some (Jvm.ClassFile.FieldType.array Jvm.ClassFile.FieldType.byte))).before args0 about1 = true := code_word (m := ⟨2, 5⟩) (meth := k2m5) (c := k2c5) (by decide +kernel) rfl rfl rfl (by decide +kernel)
set_option maxRecDepth 65536 in
theorem w_c8 : (Jvm.Cond.code ({ cls := "java/io/ByteArrayOutputStream", name := "<init>", desc := "(I)V" } : Jvm.MethodName) jdk_2005_method_2_code (2 : Nat) (Option.none : Option Jvm.ClassFile.FieldType)).before args0 about1 = true := code_word (m := ⟨13, 1⟩) (meth := k13m1) (c := k13c1) (by decide +kernel) rfl rfl rfl (by decide +kernel)
set_option maxRecDepth 65536 in
theorem w_c9 : (Jvm.Cond.code ({ cls := "java/io/OutputStream", name := "<init>", desc := "()V" } : Jvm.MethodName) jdk_2038_method_1_code (1 : Nat) (Option.none : Option Jvm.ClassFile.FieldType)).before args0 about1 = true := code_word (m := ⟨12, 0⟩) (meth := k12m0) (c := k12c0) (by decide +kernel) rfl rfl rfl (by decide +kernel)
set_option maxRecDepth 65536 in
theorem w_c10 : (Jvm.Cond.code ({ cls := "java/io/ByteArrayOutputStream", name := "ensureCapacity", desc := "(I)V" } : Jvm.MethodName) jdk_2005_method_3_code (4 : Nat) (Option.none : Option Jvm.ClassFile.FieldType)).before args0 about1 = true := code_word (m := ⟨13, 2⟩) (meth := k13m2) (c := k13c2) (by decide +kernel) rfl rfl rfl (by decide +kernel)
set_option maxRecDepth 65536 in
theorem w_c11 : (Jvm.Cond.code ({ cls := "java/util/Arrays", name := "copyOf", desc := "([BI)[B" } : Jvm.MethodName) jdk_65_method_121_code (3 : Nat) (Option.some (Jvm.ClassFile.FieldType.array Jvm.ClassFile.FieldType.byte))).before args0 about1 = true := code_word (m := ⟨14, 1⟩) (meth := k14m1) (c := k14c1) (by decide +kernel) rfl rfl rfl (by decide +kernel)
def codes1 : List Jvm.Cond := [Jvm.Cond.code x code maxLocals ret, Jvm.Cond.code ({ cls := "com/example/aspectwise/aspectwise/cmri/Packet", name := "poll", desc := "(I)Lcom/example/aspectwise/aspectwise/cmri/Packet;" } : Jvm.MethodName) prog_13_method_3_code (1 : Nat) (Option.some (Jvm.ClassFile.FieldType.object "com/example/aspectwise/aspectwise/cmri/Packet")), Jvm.Cond.code ({ cls := "com/example/aspectwise/aspectwise/cmri/Packet", name := "<init>", desc := "(ILcom/example/aspectwise/aspectwise/cmri/Packet$Type;[B)V" } : Jvm.MethodName) prog_13_method_1_code (4 : Nat) (Option.none : Option Jvm.ClassFile.FieldType), Jvm.Cond.code ({ cls := "java/lang/Object", name := "<init>", desc := "()V" } : Jvm.MethodName) object_method_1_code (1 : Nat) (Option.none : Option Jvm.ClassFile.FieldType), Jvm.Cond.code ({ cls := "com/example/aspectwise/aspectwise/cmri/Packet", name := "address", desc := "()I" } : Jvm.MethodName) prog_13_method_5_code (1 : Nat) (Option.some Jvm.ClassFile.FieldType.int), Jvm.Cond.code ({ cls := "com/example/aspectwise/aspectwise/cmri/Packet", name := "type", desc := "()Lcom/example/aspectwise/aspectwise/cmri/Packet$Type;" } : Jvm.MethodName) prog_13_method_6_code (1 : Nat) (Option.some (Jvm.ClassFile.FieldType.object "com/example/aspectwise/aspectwise/cmri/Packet$Type")), Jvm.Cond.code ({ cls := "com/example/aspectwise/aspectwise/cmri/Packet", name := "data", desc := "()[B" } : Jvm.MethodName) prog_13_method_7_code (1 : Nat) (Option.some (Jvm.ClassFile.FieldType.array Jvm.ClassFile.FieldType.byte)), Jvm.Cond.code ({ cls := "com/example/aspectwise/aspectwise/cmri/Packet", name := "frame", desc := "()[B" } : Jvm.MethodName) prog_13_method_8_code (7 : Nat) (Option.some (Jvm.ClassFile.FieldType.array Jvm.ClassFile.FieldType.byte)), Jvm.Cond.code ({ cls := "java/io/ByteArrayOutputStream", name := "<init>", desc := "(I)V" } : Jvm.MethodName) jdk_2005_method_2_code (2 : Nat) (Option.none : Option Jvm.ClassFile.FieldType), Jvm.Cond.code ({ cls := "java/io/OutputStream", name := "<init>", desc := "()V" } : Jvm.MethodName) jdk_2038_method_1_code (1 : Nat) (Option.none : Option Jvm.ClassFile.FieldType), Jvm.Cond.code ({ cls := "java/io/ByteArrayOutputStream", name := "ensureCapacity", desc := "(I)V" } : Jvm.MethodName) jdk_2005_method_3_code (4 : Nat) (Option.none : Option Jvm.ClassFile.FieldType), Jvm.Cond.code ({ cls := "java/util/Arrays", name := "copyOf", desc := "([BI)[B" } : Jvm.MethodName) jdk_65_method_121_code (3 : Nat) (Option.some (Jvm.ClassFile.FieldType.array Jvm.ClassFile.FieldType.byte))]
set_option maxRecDepth 65536 in
theorem codes_eq : words1.filter isCode = codes1 := rfl
theorem w_codes : ∀ c ∈ words1.filter isCode, c.before args0 about1 = true := by
  rw [codes_eq]
  intro c hc
  simp only [codes1, List.mem_cons, List.not_mem_nil, or_false] at hc
  rcases hc with rfl | rfl | rfl | rfl | rfl | rfl | rfl | rfl | rfl | rfl | rfl | rfl
  · exact w_c0
  · exact w_c1
  · exact w_c2
  · exact w_c3
  · exact w_c4
  · exact w_c5
  · exact w_c6
  · exact w_c7
  · exact w_c8
  · exact w_c9
  · exact w_c10
  · exact w_c11
set_option maxRecDepth 65536 in
theorem w_t1 : (words1.take 24).all (fun c => isCode c || c.before args0 about1) = true := by decide +kernel
set_option maxRecDepth 65536 in
theorem w_t2 : ((words1.drop 24).take 24).all (fun c => isCode c || c.before args0 about1) = true := by decide +kernel
set_option maxRecDepth 65536 in
theorem w_t3 : (((words1.drop 24).drop 24).take 24).all (fun c => isCode c || c.before args0 about1) = true := by decide +kernel
set_option maxRecDepth 65536 in
theorem w_t4 : (((words1.drop 24).drop 24).drop 24).all (fun c => isCode c || c.before args0 about1) = true := by decide +kernel
theorem w_tables : (allAtoms (Jvm.Cond.code x code maxLocals ret :: tables_1)).before args0 about1 = true := by
  rw [allAtoms_all]
  show words1.all (fun c => c.before args0 about1) = true
  refine all_split ?_ w_codes
  rw [← List.take_append_drop 24 words1, List.all_append, w_t1, ← List.take_append_drop 24 (words1.drop 24), List.all_append, w_t2, ← List.take_append_drop 24 ((words1.drop 24).drop 24), List.all_append, w_t3, w_t4]
  rfl
set_option maxRecDepth 65536 in
theorem w_case : (Jvm.Cond.and given_1 narrow_1).before args0 about1 = true := by decide +kernel
theorem w_applies : (headSpec (Jvm.Cond.code x code maxLocals ret :: tables_1) room_1).applies x e0.platform about1 = true :=
  (Spec.applies_iff w_frames).mpr ⟨w_running, w_runnable, w_alone, w_named, w_hears, w_ripe, w_room, w_tables⟩
theorem atStart : AtStart classFile x code maxLocals ret World_1 tables_1 room_1 Calls_1 rest_1 Pre_1 launch0 p0 e0 about1 theMethod args0 below0 :=
  ⟨lists_1, trivial, launch0.admits_env _ _ _, launch0.least_env, fairChoices_fair.cas, fairChoices_fair.clock, w_frames, w_args, w_heap, w_applies, trivial, trivial, w_case⟩
end start1
theorem witness_1 : WitnessClaimed_1 := ⟨start1.p0, start1.e0, start1.about1, start1.theMethod, start1.args0, start1.below0, start1.atStart⟩
end Jvm.Pilot.@@N@@
