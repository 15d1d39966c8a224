import JvmDerived
import JvmDerived.Pilot.@@N@@Statement
import JvmDerived.Pilot.@@N@@Code
set_option linter.unusedVariables false
set_option linter.unusedSimpArgs false
namespace Jvm.Pilot.@@N@@
open Jvm Jvm.ClassFile Sem Op Lib Jvm.Free Jvm.Stand Jvm.LawKit Jvm.RoadKit Bundle Jvm.Pilot.@@N@@.Jvm.D
abbrev Way (p : Program) (e : Env) (below : List Frame) (S0 T : State) (g : JFrame) : Prop := ∀ t, Steps p.tables e below (T.setTop g) t → Steps p.tables e below S0 t
theorem own_old {Z : State} {n0 : Nat} {h : Heap} (O : Old Z n0 h) : n0 ≤ h.size := O.1 ▸ O.2.1
theorem own_ready {Z s U : State} {a0 : Array Value} {own : String} {idx : Nat} {y : MethodName} {cur : ClassId} {r : MethodId} (e : Env) (hZ : Z.Warmed39 s.vm) (hown : s.vm.findClass own = some cur) (hy : y.cls ≠ "java/lang/invoke/MethodHandle" ∧ y.cls ≠ "java/lang/invoke/VarHandle")
    (w : (Jvm.Cond.methodRef own idx y).before a0 Z = true) (hW : s.WarmedH U.vm) (hn : s.methodNamed? y = some r) : namesResolved U.vm cur idx r.cls ∧ U.vm.methodReady cur idx r := by
  have hU : Z.Warmed39 U.vm := wtrans hZ hW
  have hnZ : Z.methodNamed? y = some r := by rw [← hn]; exact (State.methodNamed?_setVm (s := Z) (vm' := s.vm) hZ.alike y).symm
  have h1 := Cond.methodRef_warmed39 hU hnZ hy w
  have hcur : (Z.setVm U.vm).vm.findClass own = some cur := by
    show U.vm.findClass own = some cur
    rw [hW.alike.findClass]; exact hown
  obtain ⟨m, c', f1, f2, f3, f4⟩ := Cond.methodRef_named e hcur h1
  have hnU : (Z.setVm U.vm).methodNamed? y = some r := by rw [← hnZ]; exact State.methodNamed?_setVm (s := Z) hU.alike y
  cases (State.methodFound?_of_named hnU hy).symm.trans f1
  cases (findClass_of_methodNamed hnU).symm.trans f3
  exact ⟨f4, f2⟩
theorem own_specialR {p : Program} {l : Launch} {e : Env} {R : Room} {s : State} {m : MethodId} {args : Array Value} {below : List Frame} {meth : Method} {c : Code} {T : State} {locs : List Loc} {cells slots : Nat} (X : Stand p l e R s m args below meth c T locs cells slots) (hexec : p.tables.exec = Jvm.exec) {index : Nat} {y : MethodName} (hy1 : y.name = "<init>") (hinst : (Jvm.Cond.instanceMethod y).before args s = true)
    {bytes : ByteArray} {maxL : Nat} (hcode : (Jvm.Cond.code y bytes maxL none).before args s = true) (hready : ∀ (U : State) (r : MethodId), s.WarmedH U.vm → s.methodNamed? y = some r → namesResolved U.vm m.cls index r.cls ∧ U.vm.methodReady m.cls index r)
    {W : Nat} {Pre : Pt → Array Value → Prop} {Post : Pt → Array Value → Option Value → Pt → Prop} (hK : Back l R p e below s args y 3 W Pre Post)
    {g : JFrame} (hg : g.method = m) (hsize : g.locals.size = c.maxLocals) {s₀ : State} (hcome : Steps p.tables e below s₀ (T.setTop g)) {a : Addr} {argsL rest : List Value}
    (hlen : ∀ sig, parseMethodDescriptor y.desc = some sig → argsL.length = sig.parameters.length) (hstack : g.stack = argsL.reverse ++ .ref a :: rest) (hW : 2 * g.monitorRoom + (rest.map fun v => v.category).sum ≤ W)
    (hdg : decode c.code g.pc = .ok (.invokespecial index, 3)) (hpre : ∀ vm₁, s.WarmedH vm₁ → Pre ⟨T.setVm vm₁, locs, cells, slots⟩ (.ref a :: argsL).toArray) :
    ∃ (v : Option Value) (vm₁ : Vm) (B : Pt), s.WarmedH vm₁ ∧ Stand p l e R s m args below meth c B.U B.locs B.cells B.slots ∧ Post ⟨T.setVm vm₁, locs, cells, slots⟩ (.ref a :: argsL).toArray v B ∧
      Steps p.tables e below s₀ (B.U.setTop { g with pc := g.pc + 3, stack := v.toList ++ rest }) :=
  SCall.of_ready hexec hy1 hinst hcode hready X hK hg hsize hcome hlen hstack hW hdg hpre
theorem own_lsw {tb : Tables} [Ours tb] {e : Env} {below : List Frame} {T target : State} {m : MethodId} {c : Code} {g : JFrame} (h : At T m c below) (hx : tb.exec = Jvm.exec) (hg : g.method = m) {dflt : Int} {pairs : Array (Int × Int)} {len : Nat} {pc0 pc' : Nat} (hpc : g.pc = pc0) (hd : decode c.code g.pc = .ok (.lookupswitch dflt pairs, len)) {i : Int32} {rest : List Value} (hs : g.stack = .int i :: rest) {off : Int}
    (hoff : lookupswitch.offset pairs.toList dflt i.toInt = off) (ho : 0 ≤ (pc0 : Int) + off) (hp : ((pc0 : Int) + off).toNat = pc') (hsort : (pairs.toList.zip pairs.toList.tail).all (fun q => decide (q.1.1 < q.2.1)) = true)
    (hr : Steps tb e below (T.setTop { g with pc := pc', stack := rest }) target) : Steps tb e below (T.setTop g) target := by
  subst hg hpc hp
  have hq : ∀ (a b a_1 b_1 : Int), ((a, b), a_1, b_1) ∈ pairs.toList.zip pairs.toList.tail → a < a_1 := fun a b a1 b1 hm => of_decide_eq_true (List.all_eq_true.mp hsort _ hm)
  jvm_step h [h.top, hx, hd, hs, hoff, ho, lookupswitch.wp_chain]
  exact ⟨hq, hr⟩
theorem own_eqF {args : Array Value} {s : State} {t : Term} {x : Addr} {C n d : String} {k : Int32} (ht : t.eval args s none [] s = some (.ref x)) (h : (Jvm.Cond.eq (.field t C n d) (.int k)).value args s none s [] = some true) : s.fieldOf? x C n d = some (.int k) :=
  (fld_at ht).symm.trans (Cond.eq_int (Cond.before_iff.mpr h) rfl)
theorem own_mask3 (x : Int32) : (x &&& (3 : Int32)) = (0 : Int32) ∨ (x &&& (3 : Int32)) = (1 : Int32) ∨ (x &&& (3 : Int32)) = (2 : Int32) ∨ (x &&& (3 : Int32)) = (3 : Int32) := by
  have h1 : (x &&& (3 : Int32)).toInt = x.toInt % (2 ^ 2 : Nat) := c_mask x 3 2 (by decide) (by decide)
  have h3 : (x &&& (3 : Int32)).toInt = 0 ∨ (x &&& (3 : Int32)).toInt = 1 ∨ (x &&& (3 : Int32)).toInt = 2 ∨ (x &&& (3 : Int32)).toInt = 3 := by omega
  rcases h3 with h | h | h | h
  · exact Or.inl (Int32.toInt_inj.mp h)
  · exact Or.inr (Or.inl (Int32.toInt_inj.mp h))
  · exact Or.inr (Or.inr (Or.inl (Int32.toInt_inj.mp h)))
  · exact Or.inr (Or.inr (Or.inr ((Int32.toInt_inj.mp h))))
theorem own_mask7 (x : Int32) : (x &&& (7 : Int32)) = (0 : Int32) ∨ (x &&& (7 : Int32)) = (1 : Int32) ∨ (x &&& (7 : Int32)) = (2 : Int32) ∨ (x &&& (7 : Int32)) = (3 : Int32) ∨ (x &&& (7 : Int32)) = (4 : Int32) ∨ (x &&& (7 : Int32)) = (5 : Int32) ∨ (x &&& (7 : Int32)) = (6 : Int32) ∨ (x &&& (7 : Int32)) = (7 : Int32) := by
  have h1 : (x &&& (7 : Int32)).toInt = x.toInt % (2 ^ 3 : Nat) := c_mask x 7 3 (by decide) (by decide)
  have h3 : (x &&& (7 : Int32)).toInt = 0 ∨ (x &&& (7 : Int32)).toInt = 1 ∨ (x &&& (7 : Int32)).toInt = 2 ∨ (x &&& (7 : Int32)).toInt = 3 ∨ (x &&& (7 : Int32)).toInt = 4 ∨ (x &&& (7 : Int32)).toInt = 5 ∨ (x &&& (7 : Int32)).toInt = 6 ∨ (x &&& (7 : Int32)).toInt = 7 := by omega
  rcases h3 with h | h | h | h | h | h | h | h
  · exact Or.inl (Int32.toInt_inj.mp h)
  · exact Or.inr (Or.inl (Int32.toInt_inj.mp h))
  · exact Or.inr (Or.inr (Or.inl (Int32.toInt_inj.mp h)))
  · exact Or.inr (Or.inr (Or.inr (Or.inl (Int32.toInt_inj.mp h))))
  · exact Or.inr (Or.inr (Or.inr (Or.inr (Or.inl (Int32.toInt_inj.mp h)))))
  · exact Or.inr (Or.inr (Or.inr (Or.inr (Or.inr (Or.inl (Int32.toInt_inj.mp h))))))
  · exact Or.inr (Or.inr (Or.inr (Or.inr (Or.inr (Or.inr (Or.inl (Int32.toInt_inj.mp h)))))))
  · exact Or.inr (Or.inr (Or.inr (Or.inr (Or.inr (Or.inr (Or.inr ((Int32.toInt_inj.mp h))))))))
theorem own_rem1 (x : Int32) : ((x &&& (2147483647 : Int32)) % (1 : Int32)) = (0 : Int32) := by
  have h1 : (x &&& (2147483647 : Int32)).toInt = x.toInt % (2 ^ 31 : Nat) := c_mask x 2147483647 31 (by decide) (by decide)
  have h2 := (c_irem (x &&& (2147483647 : Int32)) (1 : Int32) 1 (by decide)).1 (by omega)
  have h3 : ((x &&& (2147483647 : Int32)) % (1 : Int32)).toInt = 0 := by omega
  have h := h3
  · exact (Int32.toInt_inj.mp h)
theorem own_rem2 (x : Int32) : ((x &&& (2147483647 : Int32)) % (2 : Int32)) = (0 : Int32) ∨ ((x &&& (2147483647 : Int32)) % (2 : Int32)) = (1 : Int32) := by
  have h1 : (x &&& (2147483647 : Int32)).toInt = x.toInt % (2 ^ 31 : Nat) := c_mask x 2147483647 31 (by decide) (by decide)
  have h2 := (c_irem (x &&& (2147483647 : Int32)) (2 : Int32) 2 (by decide)).1 (by omega)
  have h3 : ((x &&& (2147483647 : Int32)) % (2 : Int32)).toInt = 0 ∨ ((x &&& (2147483647 : Int32)) % (2 : Int32)).toInt = 1 := by omega
  rcases h3 with h | h
  · exact Or.inl (Int32.toInt_inj.mp h)
  · exact Or.inr ((Int32.toInt_inj.mp h))
theorem own_rem3 (x : Int32) : ((x &&& (2147483647 : Int32)) % (3 : Int32)) = (0 : Int32) ∨ ((x &&& (2147483647 : Int32)) % (3 : Int32)) = (1 : Int32) ∨ ((x &&& (2147483647 : Int32)) % (3 : Int32)) = (2 : Int32) := by
  have h1 : (x &&& (2147483647 : Int32)).toInt = x.toInt % (2 ^ 31 : Nat) := c_mask x 2147483647 31 (by decide) (by decide)
  have h2 := (c_irem (x &&& (2147483647 : Int32)) (3 : Int32) 3 (by decide)).1 (by omega)
  have h3 : ((x &&& (2147483647 : Int32)) % (3 : Int32)).toInt = 0 ∨ ((x &&& (2147483647 : Int32)) % (3 : Int32)).toInt = 1 ∨ ((x &&& (2147483647 : Int32)) % (3 : Int32)).toInt = 2 := by omega
  rcases h3 with h | h | h
  · exact Or.inl (Int32.toInt_inj.mp h)
  · exact Or.inr (Or.inl (Int32.toInt_inj.mp h))
  · exact Or.inr (Or.inr ((Int32.toInt_inj.mp h)))
theorem own_rem4 (x : Int32) : ((x &&& (2147483647 : Int32)) % (4 : Int32)) = (0 : Int32) ∨ ((x &&& (2147483647 : Int32)) % (4 : Int32)) = (1 : Int32) ∨ ((x &&& (2147483647 : Int32)) % (4 : Int32)) = (2 : Int32) ∨ ((x &&& (2147483647 : Int32)) % (4 : Int32)) = (3 : Int32) := by
  have h1 : (x &&& (2147483647 : Int32)).toInt = x.toInt % (2 ^ 31 : Nat) := c_mask x 2147483647 31 (by decide) (by decide)
  have h2 := (c_irem (x &&& (2147483647 : Int32)) (4 : Int32) 4 (by decide)).1 (by omega)
  have h3 : ((x &&& (2147483647 : Int32)) % (4 : Int32)).toInt = 0 ∨ ((x &&& (2147483647 : Int32)) % (4 : Int32)).toInt = 1 ∨ ((x &&& (2147483647 : Int32)) % (4 : Int32)).toInt = 2 ∨ ((x &&& (2147483647 : Int32)) % (4 : Int32)).toInt = 3 := by omega
  rcases h3 with h | h | h | h
  · exact Or.inl (Int32.toInt_inj.mp h)
  · exact Or.inr (Or.inl (Int32.toInt_inj.mp h))
  · exact Or.inr (Or.inr (Or.inl (Int32.toInt_inj.mp h)))
  · exact Or.inr (Or.inr (Or.inr ((Int32.toInt_inj.mp h))))
theorem own_rem5 (x : Int32) : ((x &&& (2147483647 : Int32)) % (5 : Int32)) = (0 : Int32) ∨ ((x &&& (2147483647 : Int32)) % (5 : Int32)) = (1 : Int32) ∨ ((x &&& (2147483647 : Int32)) % (5 : Int32)) = (2 : Int32) ∨ ((x &&& (2147483647 : Int32)) % (5 : Int32)) = (3 : Int32) ∨ ((x &&& (2147483647 : Int32)) % (5 : Int32)) = (4 : Int32) := by
  have h1 : (x &&& (2147483647 : Int32)).toInt = x.toInt % (2 ^ 31 : Nat) := c_mask x 2147483647 31 (by decide) (by decide)
  have h2 := (c_irem (x &&& (2147483647 : Int32)) (5 : Int32) 5 (by decide)).1 (by omega)
  have h3 : ((x &&& (2147483647 : Int32)) % (5 : Int32)).toInt = 0 ∨ ((x &&& (2147483647 : Int32)) % (5 : Int32)).toInt = 1 ∨ ((x &&& (2147483647 : Int32)) % (5 : Int32)).toInt = 2 ∨ ((x &&& (2147483647 : Int32)) % (5 : Int32)).toInt = 3 ∨ ((x &&& (2147483647 : Int32)) % (5 : Int32)).toInt = 4 := by omega
  rcases h3 with h | h | h | h | h
  · exact Or.inl (Int32.toInt_inj.mp h)
  · exact Or.inr (Or.inl (Int32.toInt_inj.mp h))
  · exact Or.inr (Or.inr (Or.inl (Int32.toInt_inj.mp h)))
  · exact Or.inr (Or.inr (Or.inr (Or.inl (Int32.toInt_inj.mp h))))
  · exact Or.inr (Or.inr (Or.inr (Or.inr ((Int32.toInt_inj.mp h)))))
theorem own_rem6 (x : Int32) : ((x &&& (2147483647 : Int32)) % (6 : Int32)) = (0 : Int32) ∨ ((x &&& (2147483647 : Int32)) % (6 : Int32)) = (1 : Int32) ∨ ((x &&& (2147483647 : Int32)) % (6 : Int32)) = (2 : Int32) ∨ ((x &&& (2147483647 : Int32)) % (6 : Int32)) = (3 : Int32) ∨ ((x &&& (2147483647 : Int32)) % (6 : Int32)) = (4 : Int32) ∨ ((x &&& (2147483647 : Int32)) % (6 : Int32)) = (5 : Int32) := by
  have h1 : (x &&& (2147483647 : Int32)).toInt = x.toInt % (2 ^ 31 : Nat) := c_mask x 2147483647 31 (by decide) (by decide)
  have h2 := (c_irem (x &&& (2147483647 : Int32)) (6 : Int32) 6 (by decide)).1 (by omega)
  have h3 : ((x &&& (2147483647 : Int32)) % (6 : Int32)).toInt = 0 ∨ ((x &&& (2147483647 : Int32)) % (6 : Int32)).toInt = 1 ∨ ((x &&& (2147483647 : Int32)) % (6 : Int32)).toInt = 2 ∨ ((x &&& (2147483647 : Int32)) % (6 : Int32)).toInt = 3 ∨ ((x &&& (2147483647 : Int32)) % (6 : Int32)).toInt = 4 ∨ ((x &&& (2147483647 : Int32)) % (6 : Int32)).toInt = 5 := by omega
  rcases h3 with h | h | h | h | h | h
  · exact Or.inl (Int32.toInt_inj.mp h)
  · exact Or.inr (Or.inl (Int32.toInt_inj.mp h))
  · exact Or.inr (Or.inr (Or.inl (Int32.toInt_inj.mp h)))
  · exact Or.inr (Or.inr (Or.inr (Or.inl (Int32.toInt_inj.mp h))))
  · exact Or.inr (Or.inr (Or.inr (Or.inr (Or.inl (Int32.toInt_inj.mp h)))))
  · exact Or.inr (Or.inr (Or.inr (Or.inr (Or.inr ((Int32.toInt_inj.mp h))))))
theorem own_rem7 (x : Int32) : ((x &&& (2147483647 : Int32)) % (7 : Int32)) = (0 : Int32) ∨ ((x &&& (2147483647 : Int32)) % (7 : Int32)) = (1 : Int32) ∨ ((x &&& (2147483647 : Int32)) % (7 : Int32)) = (2 : Int32) ∨ ((x &&& (2147483647 : Int32)) % (7 : Int32)) = (3 : Int32) ∨ ((x &&& (2147483647 : Int32)) % (7 : Int32)) = (4 : Int32) ∨ ((x &&& (2147483647 : Int32)) % (7 : Int32)) = (5 : Int32) ∨ ((x &&& (2147483647 : Int32)) % (7 : Int32)) = (6 : Int32) := by
  have h1 : (x &&& (2147483647 : Int32)).toInt = x.toInt % (2 ^ 31 : Nat) := c_mask x 2147483647 31 (by decide) (by decide)
  have h2 := (c_irem (x &&& (2147483647 : Int32)) (7 : Int32) 7 (by decide)).1 (by omega)
  have h3 : ((x &&& (2147483647 : Int32)) % (7 : Int32)).toInt = 0 ∨ ((x &&& (2147483647 : Int32)) % (7 : Int32)).toInt = 1 ∨ ((x &&& (2147483647 : Int32)) % (7 : Int32)).toInt = 2 ∨ ((x &&& (2147483647 : Int32)) % (7 : Int32)).toInt = 3 ∨ ((x &&& (2147483647 : Int32)) % (7 : Int32)).toInt = 4 ∨ ((x &&& (2147483647 : Int32)) % (7 : Int32)).toInt = 5 ∨ ((x &&& (2147483647 : Int32)) % (7 : Int32)).toInt = 6 := by omega
  rcases h3 with h | h | h | h | h | h | h
  · exact Or.inl (Int32.toInt_inj.mp h)
  · exact Or.inr (Or.inl (Int32.toInt_inj.mp h))
  · exact Or.inr (Or.inr (Or.inl (Int32.toInt_inj.mp h)))
  · exact Or.inr (Or.inr (Or.inr (Or.inl (Int32.toInt_inj.mp h))))
  · exact Or.inr (Or.inr (Or.inr (Or.inr (Or.inl (Int32.toInt_inj.mp h)))))
  · exact Or.inr (Or.inr (Or.inr (Or.inr (Or.inr (Or.inl (Int32.toInt_inj.mp h))))))
  · exact Or.inr (Or.inr (Or.inr (Or.inr (Or.inr (Or.inr ((Int32.toInt_inj.mp h)))))))
def Gst (Z : State) (w_POOL : Addr) (w_NO_RULE : Addr) (w_ONE_RULE : Addr) (w_MANY_RULES : Addr) : Prop := (Sta Z Z.heap "com/example/rulework/bench/Burst" "POOL" "Lcom/example/rulework/bench/Burst;" (.ref w_POOL)) ∧ (Exa Z Z.heap w_POOL "com/example/rulework/bench/Burst") ∧ (Fld Z Z.heap w_POOL "java/lang/Enum" "ordinal" "I" (.int (0 : Int32))) ∧ (Sta Z Z.heap "com/example/rulework/bench/Burst" "NO_RULE" "Lcom/example/rulework/bench/Burst;" (.ref w_NO_RULE)) ∧ (Exa Z Z.heap w_NO_RULE "com/example/rulework/bench/Burst") ∧ (Fld Z Z.heap w_NO_RULE "java/lang/Enum" "ordinal" "I" (.int (1 : Int32))) ∧ (Sta Z Z.heap "com/example/rulework/bench/Burst" "ONE_RULE" "Lcom/example/rulework/bench/Burst;" (.ref w_ONE_RULE)) ∧ (Exa Z Z.heap w_ONE_RULE "com/example/rulework/bench/Burst") ∧ (Fld Z Z.heap w_ONE_RULE "java/lang/Enum" "ordinal" "I" (.int (2 : Int32))) ∧ (Sta Z Z.heap "com/example/rulework/bench/Burst" "MANY_RULES" "Lcom/example/rulework/bench/Burst;" (.ref w_MANY_RULES)) ∧ (Exa Z Z.heap w_MANY_RULES "com/example/rulework/bench/Burst") ∧ (Fld Z Z.heap w_MANY_RULES "java/lang/Enum" "ordinal" "I" (.int (3 : Int32)))
theorem d_jdk_37_method_2_code_0 : decode jdk_37_method_2_code 0 = .ok (.aload_n 0, 1) := by decide +kernel
theorem d_jdk_37_method_2_code_1 : decode jdk_37_method_2_code 1 = .ok (.getfield 7, 3) := by decide +kernel
theorem d_jdk_37_method_2_code_4 : decode jdk_37_method_2_code 4 = .ok (.ireturn, 1) := by decide +kernel
theorem pn_0 : plainName "java/lang/Enum" = true := by first | (simp [plainName, overriddenIn]; done) | decide +kernel
theorem d_prog_1_method_4_code_0 : decode prog_1_method_4_code 0 = .ok (.aload_n 0, 1) := by decide +kernel
theorem d_prog_1_method_4_code_1 : decode prog_1_method_4_code 1 = .ok (.invokevirtual 39, 3) := by decide +kernel
theorem pd_0 : parseMethodDescriptor "()I" = some ⟨[], some .int⟩ := by decide +kernel
theorem d_prog_1_method_4_code_4 : decode prog_1_method_4_code 4 = .ok (.lookupswitch 32 #[(2, 28), (3, 30)], 28) := by decide +kernel
theorem d_prog_1_method_4_code_36 : decode prog_1_method_4_code 36 = .ok (.iconst 0, 1) := by decide +kernel
theorem d_prog_1_method_4_code_37 : decode prog_1_method_4_code 37 = .ok (.ireturn, 1) := by decide +kernel
theorem pn_1 : plainName "com/example/rulework/bench/Burst" = true := by first | (simp [plainName, overriddenIn]; done) | decide +kernel
theorem d_prog_1_method_4_code_32 : decode prog_1_method_4_code 32 = .ok (.iconst 1, 1) := by decide +kernel
theorem d_prog_1_method_4_code_33 : decode prog_1_method_4_code 33 = .ok (.ireturn, 1) := by decide +kernel
theorem d_prog_1_method_4_code_34 : decode prog_1_method_4_code 34 = .ok (.iload_n 1, 1) := by decide +kernel
theorem d_prog_1_method_4_code_35 : decode prog_1_method_4_code 35 = .ok (.ireturn, 1) := by decide +kernel
theorem d_prog_2_method_1_code_0 : decode prog_2_method_1_code 0 = .ok (.aload_n 0, 1) := by decide +kernel
theorem d_prog_2_method_1_code_1 : decode prog_2_method_1_code 1 = .ok (.invokespecial 1, 3) := by decide +kernel
theorem d_prog_2_method_1_code_4 : decode prog_2_method_1_code 4 = .ok (.return_, 1) := by decide +kernel
theorem pn_2 : plainName "com/example/rulework/bench/Burst$SelfConflictingRule" = true := by first | (simp [plainName, overriddenIn]; done) | decide +kernel
theorem d_prog_1_method_5_code_0 : decode prog_1_method_5_code 0 = .ok (.aload_n 0, 1) := by decide +kernel
theorem d_prog_1_method_5_code_1 : decode prog_1_method_5_code 1 = .ok (.iload_n 1, 1) := by decide +kernel
theorem d_prog_1_method_5_code_2 : decode prog_1_method_5_code 2 = .ok (.invokevirtual 43, 3) := by decide +kernel
theorem pd_1 : parseMethodDescriptor "(I)I" = some ⟨[.int], some .int⟩ := by decide +kernel
theorem d_prog_1_method_5_code_5 : decode prog_1_method_5_code 5 = .ok (.anewarray 47, 3) := by decide +kernel
theorem d_prog_1_method_5_code_8 : decode prog_1_method_5_code 8 = .ok (.astore_n 2, 1) := by decide +kernel
theorem d_prog_1_method_5_code_9 : decode prog_1_method_5_code 9 = .ok (.iconst 0, 1) := by decide +kernel
theorem d_prog_1_method_5_code_10 : decode prog_1_method_5_code 10 = .ok (.istore_n 3, 1) := by decide +kernel
theorem d_prog_1_method_5_code_11 : decode prog_1_method_5_code 11 = .ok (.iload_n 3, 1) := by decide +kernel
theorem d_prog_1_method_5_code_12 : decode prog_1_method_5_code 12 = .ok (.aload_n 2, 1) := by decide +kernel
theorem d_prog_1_method_5_code_13 : decode prog_1_method_5_code 13 = .ok (.arraylength, 1) := by decide +kernel
theorem d_prog_1_method_5_code_14 : decode prog_1_method_5_code 14 = .ok (.if_icmp .ge 19, 3) := by decide +kernel
theorem d_prog_1_method_5_code_33 : decode prog_1_method_5_code 33 = .ok (.aload_n 2, 1) := by decide +kernel
theorem d_prog_1_method_5_code_34 : decode prog_1_method_5_code 34 = .ok (.areturn, 1) := by decide +kernel
theorem d_prog_1_method_5_code_17 : decode prog_1_method_5_code 17 = .ok (.aload_n 2, 1) := by decide +kernel
theorem d_prog_1_method_5_code_18 : decode prog_1_method_5_code 18 = .ok (.iload_n 3, 1) := by decide +kernel
theorem d_prog_1_method_5_code_19 : decode prog_1_method_5_code 19 = .ok (.new 49, 3) := by decide +kernel
theorem d_prog_1_method_5_code_22 : decode prog_1_method_5_code 22 = .ok (.dup, 1) := by decide +kernel
theorem d_prog_1_method_5_code_23 : decode prog_1_method_5_code 23 = .ok (.invokespecial 51, 3) := by decide +kernel
theorem pd_2 : parseMethodDescriptor "()V" = some ⟨[], none⟩ := by decide +kernel
theorem d_prog_1_method_5_code_26 : decode prog_1_method_5_code 26 = .ok (.aastore, 1) := by decide +kernel
theorem d_prog_1_method_5_code_27 : decode prog_1_method_5_code 27 = .ok (.iinc 3 1, 3) := by decide +kernel
theorem d_prog_1_method_5_code_30 : decode prog_1_method_5_code 30 = .ok (.goto (-19), 3) := by decide +kernel
theorem d_prog_2_method_2_code_0 : decode prog_2_method_2_code 0 = .ok (.aload_n 1, 1) := by decide +kernel
theorem d_prog_2_method_2_code_1 : decode prog_2_method_2_code 1 = .ok (.aload_n 0, 1) := by decide +kernel
theorem d_prog_2_method_2_code_2 : decode prog_2_method_2_code 2 = .ok (.if_acmp .ne 7, 3) := by decide +kernel
theorem d_prog_2_method_2_code_5 : decode prog_2_method_2_code 5 = .ok (.iconst 1, 1) := by decide +kernel
theorem d_prog_2_method_2_code_6 : decode prog_2_method_2_code 6 = .ok (.goto 4, 3) := by decide +kernel
theorem d_prog_2_method_2_code_10 : decode prog_2_method_2_code 10 = .ok (.ireturn, 1) := by decide +kernel
theorem d_prog_2_method_2_code_9 : decode prog_2_method_2_code 9 = .ok (.iconst 0, 1) := by decide +kernel
theorem d_prog_2_method_3_code_0 : decode prog_2_method_3_code 0 = .ok (.aload_n 1, 1) := by decide +kernel
theorem d_prog_2_method_3_code_1 : decode prog_2_method_3_code 1 = .ok (.aload_n 0, 1) := by decide +kernel
theorem d_prog_2_method_3_code_2 : decode prog_2_method_3_code 2 = .ok (.if_acmp .ne 7, 3) := by decide +kernel
theorem d_prog_2_method_3_code_5 : decode prog_2_method_3_code 5 = .ok (.iconst 1, 1) := by decide +kernel
theorem d_prog_2_method_3_code_6 : decode prog_2_method_3_code 6 = .ok (.goto 4, 3) := by decide +kernel
theorem d_prog_2_method_3_code_10 : decode prog_2_method_3_code 10 = .ok (.ireturn, 1) := by decide +kernel
theorem d_prog_2_method_3_code_9 : decode prog_2_method_3_code 9 = .ok (.iconst 0, 1) := by decide +kernel
theorem pd_3 : parseMethodDescriptor "(Lcom/example/rulework/rulework/SchedulingRule;)Z" = some ⟨[(.object "com/example/rulework/rulework/SchedulingRule")], some .boolean⟩ := by decide +kernel
theorem pd_4 : parseMethodDescriptor "(I)[Lcom/example/rulework/rulework/SchedulingRule;" = some ⟨[.int], some (.array (.object "com/example/rulework/rulework/SchedulingRule"))⟩ := by decide +kernel
theorem pn_3 : plainName "com/example/rulework/bench/BurstMakeRulesPinLaw" = true := by first | (simp [plainName, overriddenIn]; done) | decide +kernel
def Q_ord (Z : State) (w_POOL : Addr) (w_NO_RULE : Addr) (w_ONE_RULE : Addr) (w_MANY_RULES : Addr) (a1 : Addr) (q1 : Int32) (h0 : Heap) (n0 : Nat) (v : Option Value) (h : Heap) (L : List Loc) : Prop := (v = some (.int q1)) ∧ (Fr n0 L) ∧ (h = h0)
set_option maxRecDepth 65536 in
set_option maxHeartbeats 40000000 in
theorem ord (l : Launch) (Z : State) (a0 : Array Value) (hw : ∀ d ∈ tables_1, d.before a0 Z = true) (ws : List Jvm.Cond) (w_POOL : Addr) (w_NO_RULE : Addr) (w_ONE_RULE : Addr) (w_MANY_RULES : Addr) (G : Gst Z w_POOL w_NO_RULE w_ONE_RULE w_MANY_RULES) (a1 : Addr) (q1 : Int32) (h0 : Heap) (n0 : Nat) (O0 : Old Z n0 h0) (a_0 : Fld Z h0 a1 "java/lang/Enum" "ordinal" "I" (.int q1)) :
    MetFree l (⟨"java/lang/Enum", "ordinal", "()I"⟩ : MethodName) (head1 (Jvm.Cond.code (⟨"java/lang/Enum", "ordinal", "()I"⟩ : MethodName) jdk_37_method_2_code 1 (some .int) :: ws) ({ frames := 0, cells := 0, slots := 0, locals := 0 } : Room)) (fun a U => a = #[(.ref a1)] ∧ Z.Warmed39 U.vm ∧ U.heap = h0) (fun _ _ _ _ _ => True) (fun _ U o U' => ∃ v L, o = .returned v ∧ Q_ord Z w_POOL w_NO_RULE w_ONE_RULE w_MANY_RULES a1 q1 h0 n0 v U'.heap L ∧ FrameEnd U o U' L ({ frames := 0, cells := 0, slots := 0, locals := 0 } : Room).cells ({ frames := 0, cells := 0, slots := 0, locals := 0 } : Room).slots) := by
  refine MetFree.of_bodySF (plainFor_of_name pn_0) hisR ?_
  intro p e s m args below meth c s₁ Bd hml0 hP hK
  obtain ⟨rfl, hZ, hh⟩ := hP
  have hx := Bd.exec
  have hby := Bd.bytes
  have hml : c.maxLocals = 1 := hml0
  have hown : s.vm.findClass "java/lang/Enum" = some m.cls := findClass_of_methodNamed Bd.named
  have hnm := (name_of_methodNamed Bd.named Bd.method).1
  have X0 : Stand p l e ({ frames := 0, cells := 0, slots := 0, locals := 0 } : Room) s m #[(.ref a1)] below meth c s₁ [] 0 0 := Stand.of_body Bd
  have e0 : s₁.heap = h0 := by rw [← hh, Bd.state]; rfl
  have N0 := Fr.nil n0
  obtain ⟨S_w_POOL, E_w_POOL, F_w_POOL_ordinal, S_w_NO_RULE, E_w_NO_RULE, F_w_NO_RULE_ordinal, S_w_ONE_RULE, E_w_ONE_RULE, F_w_ONE_RULE_ordinal, S_w_MANY_RULES, E_w_MANY_RULES, F_w_MANY_RULES_ordinal⟩ := id G
  have k0 : Way p e below (s₁.setTop (entryFrame m #[(.ref a1)] 1)) s₁ (mkF m 0 #[rv a1] []) := fun t k => castTop (by first | (simp [entryFrame, mkF, argsToLocals, Value.category]; done) | rfl) k
  generalize s₁.setTop (entryFrame m #[(.ref a1)] 1) = S0 at k0 ⊢
  have k1 : Way p e below S0 s₁ (mkF m 1 #[rv a1] [(.ref a1)]) := by
    intro t k
    refine k0 t ?_
    refine XS.aloadN X0.here hx rfl (hb hby d_jdk_37_method_2_code_0) rfl rfl ?_
    show Steps p.tables e below (s₁.setTop (mkF m 1 #[rv a1] [(.ref a1)])) _
    exact k
  obtain ⟨T2, X2, e2, st2⟩ := getF X0 hx hZ hown (host := "") (Or.inl (hw _ (List.mem_of_getElem? (i := 20) rfl))) Via.refl e0 a_0 (g := (mkF m 1 #[rv a1] [(.ref a1)])) rfl rfl (hb hby d_jdk_37_method_2_code_1)
  have k3 : Way p e below S0 T2 (mkF m 4 #[rv a1] [(.int q1)]) := fun t k => k1 t (st2 _ k)
  obtain ⟨fs, hr, hrun, hended, hW, hsame⟩ := X2.leave (v := some (.int q1)) (fun h => by rw [Bd.returns] at h; cases h)
  refine ⟨_, _, k3 _ (retOut X2 hx Bd.returns rfl (Or.inl ⟨rfl, Or.inl rfl, _, rfl⟩) (hb hby d_jdk_37_method_2_code_4) hr), hrun, hended, _, _, rfl, ?_, ⟨_, rfl⟩, hW, hsame.mono (by decide) (by decide)⟩
  show Q_ord Z w_POOL w_NO_RULE w_ONE_RULE w_MANY_RULES a1 q1 h0 n0 _ T2.heap _
  rw [e2]
  exact ⟨rfl, N0, rfl⟩
def Q_rc0 (Z : State) (w_POOL : Addr) (w_NO_RULE : Addr) (w_ONE_RULE : Addr) (w_MANY_RULES : Addr) (p2 : Int32) (h0 : Heap) (n0 : Nat) (v : Option Value) (h : Heap) (L : List Loc) : Prop := (v = some (.int (0 : Int32))) ∧ (Fr n0 L) ∧ (h = h0)
set_option maxRecDepth 65536 in
set_option maxHeartbeats 40000000 in
theorem rc0 (l : Launch) (Z : State) (a0 : Array Value) (hw : ∀ d ∈ tables_1, d.before a0 Z = true) (ws : List Jvm.Cond) (w_POOL : Addr) (w_NO_RULE : Addr) (w_ONE_RULE : Addr) (w_MANY_RULES : Addr) (G : Gst Z w_POOL w_NO_RULE w_ONE_RULE w_MANY_RULES) (p2 : Int32) (h0 : Heap) (n0 : Nat) (O0 : Old Z n0 h0) :
    MetFree l (⟨"com/example/rulework/bench/Burst", "ruleCount", "(I)I"⟩ : MethodName) (head1 (Jvm.Cond.code (⟨"com/example/rulework/bench/Burst", "ruleCount", "(I)I"⟩ : MethodName) prog_1_method_4_code 2 (some .int) :: ws) ({ frames := 1, cells := 0, slots := 0, locals := 12 } : Room)) (fun a U => a = #[(.ref w_POOL), (.int p2)] ∧ Z.Warmed39 U.vm ∧ U.heap = h0) (fun _ _ _ _ _ => True) (fun _ U o U' => ∃ v L, o = .returned v ∧ Q_rc0 Z w_POOL w_NO_RULE w_ONE_RULE w_MANY_RULES p2 h0 n0 v U'.heap L ∧ FrameEnd U o U' L ({ frames := 1, cells := 0, slots := 0, locals := 12 } : Room).cells ({ frames := 1, cells := 0, slots := 0, locals := 12 } : Room).slots) := by
  refine MetFree.of_bodySF (plainFor_of_name pn_1) hisR ?_
  intro p e s m args below meth c s₁ Bd hml0 hP hK
  obtain ⟨rfl, hZ, hh⟩ := hP
  have hx := Bd.exec
  have hby := Bd.bytes
  have hml : c.maxLocals = 2 := hml0
  have hown : s.vm.findClass "com/example/rulework/bench/Burst" = some m.cls := findClass_of_methodNamed Bd.named
  have hnm := (name_of_methodNamed Bd.named Bd.method).1
  have X0 : Stand p l e ({ frames := 1, cells := 0, slots := 0, locals := 12 } : Room) s m #[(.ref w_POOL), (.int p2)] below meth c s₁ [] 0 0 := Stand.of_body Bd
  have e0 : s₁.heap = h0 := by rw [← hh, Bd.state]; rfl
  have N0 := Fr.nil n0
  obtain ⟨S_w_POOL, E_w_POOL, F_w_POOL_ordinal, S_w_NO_RULE, E_w_NO_RULE, F_w_NO_RULE_ordinal, S_w_ONE_RULE, E_w_ONE_RULE, F_w_ONE_RULE_ordinal, S_w_MANY_RULES, E_w_MANY_RULES, F_w_MANY_RULES_ordinal⟩ := id G
  have k0 : Way p e below (s₁.setTop (entryFrame m #[(.ref w_POOL), (.int p2)] 2)) s₁ (mkF m 0 #[rv w_POOL, iv p2] []) := fun t k => castTop (by first | (simp [entryFrame, mkF, argsToLocals, Value.category]; done) | rfl) k
  generalize s₁.setTop (entryFrame m #[(.ref w_POOL), (.int p2)] 2) = S0 at k0 ⊢
  have k1 : Way p e below S0 s₁ (mkF m 1 #[rv w_POOL, iv p2] [(.ref w_POOL)]) := by
    intro t k
    refine k0 t ?_
    refine XS.aloadN X0.here hx rfl (hb hby d_prog_1_method_4_code_0) rfl rfl ?_
    show Steps p.tables e below (s₁.setTop (mkF m 1 #[rv w_POOL, iv p2] [(.ref w_POOL)])) _
    exact k
  obtain ⟨cq2, kq2, qq2a, qq2b, qq2c⟩ := isOf hZ e0 (E_w_POOL.ext O0.2)
  obtain ⟨_, _, ⟨T2, L2, kk2, nn2⟩, -, X2, ⟨Lc2, hQ2, l2, y2, z2⟩, st2⟩ := X0.virtualBackUp hx (owner := "java/lang/Enum") (x := (⟨"com/example/rulework/bench/Burst", "ordinal", "()I"⟩ : MethodName)) (y := (⟨"java/lang/Enum", "ordinal", "()I"⟩ : MethodName)) hown (mvT hZ (hw _ (List.mem_of_getElem? (i := 13) rfl))) (mvT hZ (hw _ (List.mem_of_getElem? (i := 14) rfl))) (mvT hZ (hw _ (List.mem_of_getElem? (i := 15) rfl))) (by decide) (mvT hZ (hw _ (List.mem_of_getElem? (i := 17) rfl))) (mvT hZ (hw _ (List.mem_of_getElem? (i := 16) rfl))) (backOf (W := 0) (ord l Z a0 hw [] w_POOL w_NO_RULE w_ONE_RULE w_MANY_RULES G w_POOL (0 : Int32) h0 n0 O0 ((F_w_POOL_ordinal.ext O0.2) : Fld Z h0 w_POOL "java/lang/Enum" "ordinal" "I" (.int (0 : Int32)))) hZ (hw _ (List.mem_of_getElem? (i := 19) rfl)) (hw _ (List.mem_of_getElem? (i := 18) rfl)) (by decide) (by decide)) qq2a qq2c (g := (mkF m 1 #[rv w_POOL, iv p2] [(.ref w_POOL)])) rfl (by rw [hml]; rfl) (Steps.refl _) (argsL := []) (rest := []) (lenOf pd_0 rfl) rfl (by show 2 * 0 + _ ≤ _; exact Nat.le_of_eq rfl) (hb hby d_prog_1_method_4_code_1) (fun _ _ => ⟨rfl, e0, (by decide : 0 + 0 ≤ _), (by decide : 0 + 0 ≤ _)⟩)
  dsimp only [Pt.U, Pt.locs, Pt.cells, Pt.slots] at X2 l2 y2 z2 st2 hQ2
  subst l2 y2 z2
  obtain ⟨rfl, Nq2, e2⟩ := hQ2
  have N2 := Fr.app N0 Nq2
  have k3 : Way p e below S0 T2 (mkF m 4 #[rv w_POOL, iv p2] [(.int (0 : Int32))]) := fun t k => k1 t (st2.trans k)
  have k4 : Way p e below S0 T2 (mkF m 37 #[rv w_POOL, iv p2] [(.int (0 : Int32))]) := by
    intro t k
    refine k3 t ?_
    refine own_lsw (g := (mkF m 4 #[rv w_POOL, iv p2] [(.int (0 : Int32))])) X2.here hx rfl (pc0 := 4) (pc' := 36) rfl (hb hby d_prog_1_method_4_code_4) rfl (off := 32) (by decide) (by decide) (by decide) (by decide) ?_
    show Steps p.tables e below (T2.setTop (mkF m 36 #[rv w_POOL, iv p2] [])) _
    refine XS.iconst X2.here hx rfl (hb hby d_prog_1_method_4_code_36) ?_
    show Steps p.tables e below (T2.setTop (mkF m 37 #[rv w_POOL, iv p2] [(.int (0 : Int32))])) _
    exact k
  obtain ⟨fs, hr, hrun, hended, hW, hsame⟩ := X2.leave (v := some (.int (0 : Int32))) (fun h => by rw [Bd.returns] at h; cases h)
  refine ⟨_, _, k4 _ (retOut X2 hx Bd.returns rfl (Or.inl ⟨rfl, Or.inl rfl, _, rfl⟩) (hb hby d_prog_1_method_4_code_37) hr), hrun, hended, _, _, rfl, ?_, ⟨_, rfl⟩, hW, hsame.mono (by decide) (by decide)⟩
  show Q_rc0 Z w_POOL w_NO_RULE w_ONE_RULE w_MANY_RULES p2 h0 n0 _ T2.heap _
  rw [e2]
  exact ⟨rfl, N2, rfl⟩
def Q_rc1 (Z : State) (w_POOL : Addr) (w_NO_RULE : Addr) (w_ONE_RULE : Addr) (w_MANY_RULES : Addr) (p2 : Int32) (h0 : Heap) (n0 : Nat) (v : Option Value) (h : Heap) (L : List Loc) : Prop := (v = some (.int (0 : Int32))) ∧ (Fr n0 L) ∧ (h = h0)
set_option maxRecDepth 65536 in
set_option maxHeartbeats 40000000 in
theorem rc1 (l : Launch) (Z : State) (a0 : Array Value) (hw : ∀ d ∈ tables_1, d.before a0 Z = true) (ws : List Jvm.Cond) (w_POOL : Addr) (w_NO_RULE : Addr) (w_ONE_RULE : Addr) (w_MANY_RULES : Addr) (G : Gst Z w_POOL w_NO_RULE w_ONE_RULE w_MANY_RULES) (p2 : Int32) (h0 : Heap) (n0 : Nat) (O0 : Old Z n0 h0) :
    MetFree l (⟨"com/example/rulework/bench/Burst", "ruleCount", "(I)I"⟩ : MethodName) (head1 (Jvm.Cond.code (⟨"com/example/rulework/bench/Burst", "ruleCount", "(I)I"⟩ : MethodName) prog_1_method_4_code 2 (some .int) :: ws) ({ frames := 1, cells := 0, slots := 0, locals := 12 } : Room)) (fun a U => a = #[(.ref w_NO_RULE), (.int p2)] ∧ Z.Warmed39 U.vm ∧ U.heap = h0) (fun _ _ _ _ _ => True) (fun _ U o U' => ∃ v L, o = .returned v ∧ Q_rc1 Z w_POOL w_NO_RULE w_ONE_RULE w_MANY_RULES p2 h0 n0 v U'.heap L ∧ FrameEnd U o U' L ({ frames := 1, cells := 0, slots := 0, locals := 12 } : Room).cells ({ frames := 1, cells := 0, slots := 0, locals := 12 } : Room).slots) := by
  refine MetFree.of_bodySF (plainFor_of_name pn_1) hisR ?_
  intro p e s m args below meth c s₁ Bd hml0 hP hK
  obtain ⟨rfl, hZ, hh⟩ := hP
  have hx := Bd.exec
  have hby := Bd.bytes
  have hml : c.maxLocals = 2 := hml0
  have hown : s.vm.findClass "com/example/rulework/bench/Burst" = some m.cls := findClass_of_methodNamed Bd.named
  have hnm := (name_of_methodNamed Bd.named Bd.method).1
  have X0 : Stand p l e ({ frames := 1, cells := 0, slots := 0, locals := 12 } : Room) s m #[(.ref w_NO_RULE), (.int p2)] below meth c s₁ [] 0 0 := Stand.of_body Bd
  have e0 : s₁.heap = h0 := by rw [← hh, Bd.state]; rfl
  have N0 := Fr.nil n0
  obtain ⟨S_w_POOL, E_w_POOL, F_w_POOL_ordinal, S_w_NO_RULE, E_w_NO_RULE, F_w_NO_RULE_ordinal, S_w_ONE_RULE, E_w_ONE_RULE, F_w_ONE_RULE_ordinal, S_w_MANY_RULES, E_w_MANY_RULES, F_w_MANY_RULES_ordinal⟩ := id G
  have k0 : Way p e below (s₁.setTop (entryFrame m #[(.ref w_NO_RULE), (.int p2)] 2)) s₁ (mkF m 0 #[rv w_NO_RULE, iv p2] []) := fun t k => castTop (by first | (simp [entryFrame, mkF, argsToLocals, Value.category]; done) | rfl) k
  generalize s₁.setTop (entryFrame m #[(.ref w_NO_RULE), (.int p2)] 2) = S0 at k0 ⊢
  have k1 : Way p e below S0 s₁ (mkF m 1 #[rv w_NO_RULE, iv p2] [(.ref w_NO_RULE)]) := by
    intro t k
    refine k0 t ?_
    refine XS.aloadN X0.here hx rfl (hb hby d_prog_1_method_4_code_0) rfl rfl ?_
    show Steps p.tables e below (s₁.setTop (mkF m 1 #[rv w_NO_RULE, iv p2] [(.ref w_NO_RULE)])) _
    exact k
  obtain ⟨cq2, kq2, qq2a, qq2b, qq2c⟩ := isOf hZ e0 (E_w_NO_RULE.ext O0.2)
  obtain ⟨_, _, ⟨T2, L2, kk2, nn2⟩, -, X2, ⟨Lc2, hQ2, l2, y2, z2⟩, st2⟩ := X0.virtualBackUp hx (owner := "java/lang/Enum") (x := (⟨"com/example/rulework/bench/Burst", "ordinal", "()I"⟩ : MethodName)) (y := (⟨"java/lang/Enum", "ordinal", "()I"⟩ : MethodName)) hown (mvT hZ (hw _ (List.mem_of_getElem? (i := 13) rfl))) (mvT hZ (hw _ (List.mem_of_getElem? (i := 14) rfl))) (mvT hZ (hw _ (List.mem_of_getElem? (i := 15) rfl))) (by decide) (mvT hZ (hw _ (List.mem_of_getElem? (i := 17) rfl))) (mvT hZ (hw _ (List.mem_of_getElem? (i := 16) rfl))) (backOf (W := 0) (ord l Z a0 hw [] w_POOL w_NO_RULE w_ONE_RULE w_MANY_RULES G w_NO_RULE (1 : Int32) h0 n0 O0 ((F_w_NO_RULE_ordinal.ext O0.2) : Fld Z h0 w_NO_RULE "java/lang/Enum" "ordinal" "I" (.int (1 : Int32)))) hZ (hw _ (List.mem_of_getElem? (i := 19) rfl)) (hw _ (List.mem_of_getElem? (i := 18) rfl)) (by decide) (by decide)) qq2a qq2c (g := (mkF m 1 #[rv w_NO_RULE, iv p2] [(.ref w_NO_RULE)])) rfl (by rw [hml]; rfl) (Steps.refl _) (argsL := []) (rest := []) (lenOf pd_0 rfl) rfl (by show 2 * 0 + _ ≤ _; exact Nat.le_of_eq rfl) (hb hby d_prog_1_method_4_code_1) (fun _ _ => ⟨rfl, e0, (by decide : 0 + 0 ≤ _), (by decide : 0 + 0 ≤ _)⟩)
  dsimp only [Pt.U, Pt.locs, Pt.cells, Pt.slots] at X2 l2 y2 z2 st2 hQ2
  subst l2 y2 z2
  obtain ⟨rfl, Nq2, e2⟩ := hQ2
  have N2 := Fr.app N0 Nq2
  have k3 : Way p e below S0 T2 (mkF m 4 #[rv w_NO_RULE, iv p2] [(.int (1 : Int32))]) := fun t k => k1 t (st2.trans k)
  have k4 : Way p e below S0 T2 (mkF m 37 #[rv w_NO_RULE, iv p2] [(.int (0 : Int32))]) := by
    intro t k
    refine k3 t ?_
    refine own_lsw (g := (mkF m 4 #[rv w_NO_RULE, iv p2] [(.int (1 : Int32))])) X2.here hx rfl (pc0 := 4) (pc' := 36) rfl (hb hby d_prog_1_method_4_code_4) rfl (off := 32) (by decide) (by decide) (by decide) (by decide) ?_
    show Steps p.tables e below (T2.setTop (mkF m 36 #[rv w_NO_RULE, iv p2] [])) _
    refine XS.iconst X2.here hx rfl (hb hby d_prog_1_method_4_code_36) ?_
    show Steps p.tables e below (T2.setTop (mkF m 37 #[rv w_NO_RULE, iv p2] [(.int (0 : Int32))])) _
    exact k
  obtain ⟨fs, hr, hrun, hended, hW, hsame⟩ := X2.leave (v := some (.int (0 : Int32))) (fun h => by rw [Bd.returns] at h; cases h)
  refine ⟨_, _, k4 _ (retOut X2 hx Bd.returns rfl (Or.inl ⟨rfl, Or.inl rfl, _, rfl⟩) (hb hby d_prog_1_method_4_code_37) hr), hrun, hended, _, _, rfl, ?_, ⟨_, rfl⟩, hW, hsame.mono (by decide) (by decide)⟩
  show Q_rc1 Z w_POOL w_NO_RULE w_ONE_RULE w_MANY_RULES p2 h0 n0 _ T2.heap _
  rw [e2]
  exact ⟨rfl, N2, rfl⟩
def Q_rc2 (Z : State) (w_POOL : Addr) (w_NO_RULE : Addr) (w_ONE_RULE : Addr) (w_MANY_RULES : Addr) (p2 : Int32) (h0 : Heap) (n0 : Nat) (v : Option Value) (h : Heap) (L : List Loc) : Prop := (v = some (.int (1 : Int32))) ∧ (Fr n0 L) ∧ (h = h0)
set_option maxRecDepth 65536 in
set_option maxHeartbeats 40000000 in
theorem rc2 (l : Launch) (Z : State) (a0 : Array Value) (hw : ∀ d ∈ tables_1, d.before a0 Z = true) (ws : List Jvm.Cond) (w_POOL : Addr) (w_NO_RULE : Addr) (w_ONE_RULE : Addr) (w_MANY_RULES : Addr) (G : Gst Z w_POOL w_NO_RULE w_ONE_RULE w_MANY_RULES) (p2 : Int32) (h0 : Heap) (n0 : Nat) (O0 : Old Z n0 h0) :
    MetFree l (⟨"com/example/rulework/bench/Burst", "ruleCount", "(I)I"⟩ : MethodName) (head1 (Jvm.Cond.code (⟨"com/example/rulework/bench/Burst", "ruleCount", "(I)I"⟩ : MethodName) prog_1_method_4_code 2 (some .int) :: ws) ({ frames := 1, cells := 0, slots := 0, locals := 12 } : Room)) (fun a U => a = #[(.ref w_ONE_RULE), (.int p2)] ∧ Z.Warmed39 U.vm ∧ U.heap = h0) (fun _ _ _ _ _ => True) (fun _ U o U' => ∃ v L, o = .returned v ∧ Q_rc2 Z w_POOL w_NO_RULE w_ONE_RULE w_MANY_RULES p2 h0 n0 v U'.heap L ∧ FrameEnd U o U' L ({ frames := 1, cells := 0, slots := 0, locals := 12 } : Room).cells ({ frames := 1, cells := 0, slots := 0, locals := 12 } : Room).slots) := by
  refine MetFree.of_bodySF (plainFor_of_name pn_1) hisR ?_
  intro p e s m args below meth c s₁ Bd hml0 hP hK
  obtain ⟨rfl, hZ, hh⟩ := hP
  have hx := Bd.exec
  have hby := Bd.bytes
  have hml : c.maxLocals = 2 := hml0
  have hown : s.vm.findClass "com/example/rulework/bench/Burst" = some m.cls := findClass_of_methodNamed Bd.named
  have hnm := (name_of_methodNamed Bd.named Bd.method).1
  have X0 : Stand p l e ({ frames := 1, cells := 0, slots := 0, locals := 12 } : Room) s m #[(.ref w_ONE_RULE), (.int p2)] below meth c s₁ [] 0 0 := Stand.of_body Bd
  have e0 : s₁.heap = h0 := by rw [← hh, Bd.state]; rfl
  have N0 := Fr.nil n0
  obtain ⟨S_w_POOL, E_w_POOL, F_w_POOL_ordinal, S_w_NO_RULE, E_w_NO_RULE, F_w_NO_RULE_ordinal, S_w_ONE_RULE, E_w_ONE_RULE, F_w_ONE_RULE_ordinal, S_w_MANY_RULES, E_w_MANY_RULES, F_w_MANY_RULES_ordinal⟩ := id G
  have k0 : Way p e below (s₁.setTop (entryFrame m #[(.ref w_ONE_RULE), (.int p2)] 2)) s₁ (mkF m 0 #[rv w_ONE_RULE, iv p2] []) := fun t k => castTop (by first | (simp [entryFrame, mkF, argsToLocals, Value.category]; done) | rfl) k
  generalize s₁.setTop (entryFrame m #[(.ref w_ONE_RULE), (.int p2)] 2) = S0 at k0 ⊢
  have k1 : Way p e below S0 s₁ (mkF m 1 #[rv w_ONE_RULE, iv p2] [(.ref w_ONE_RULE)]) := by
    intro t k
    refine k0 t ?_
    refine XS.aloadN X0.here hx rfl (hb hby d_prog_1_method_4_code_0) rfl rfl ?_
    show Steps p.tables e below (s₁.setTop (mkF m 1 #[rv w_ONE_RULE, iv p2] [(.ref w_ONE_RULE)])) _
    exact k
  obtain ⟨cq2, kq2, qq2a, qq2b, qq2c⟩ := isOf hZ e0 (E_w_ONE_RULE.ext O0.2)
  obtain ⟨_, _, ⟨T2, L2, kk2, nn2⟩, -, X2, ⟨Lc2, hQ2, l2, y2, z2⟩, st2⟩ := X0.virtualBackUp hx (owner := "java/lang/Enum") (x := (⟨"com/example/rulework/bench/Burst", "ordinal", "()I"⟩ : MethodName)) (y := (⟨"java/lang/Enum", "ordinal", "()I"⟩ : MethodName)) hown (mvT hZ (hw _ (List.mem_of_getElem? (i := 13) rfl))) (mvT hZ (hw _ (List.mem_of_getElem? (i := 14) rfl))) (mvT hZ (hw _ (List.mem_of_getElem? (i := 15) rfl))) (by decide) (mvT hZ (hw _ (List.mem_of_getElem? (i := 17) rfl))) (mvT hZ (hw _ (List.mem_of_getElem? (i := 16) rfl))) (backOf (W := 0) (ord l Z a0 hw [] w_POOL w_NO_RULE w_ONE_RULE w_MANY_RULES G w_ONE_RULE (2 : Int32) h0 n0 O0 ((F_w_ONE_RULE_ordinal.ext O0.2) : Fld Z h0 w_ONE_RULE "java/lang/Enum" "ordinal" "I" (.int (2 : Int32)))) hZ (hw _ (List.mem_of_getElem? (i := 19) rfl)) (hw _ (List.mem_of_getElem? (i := 18) rfl)) (by decide) (by decide)) qq2a qq2c (g := (mkF m 1 #[rv w_ONE_RULE, iv p2] [(.ref w_ONE_RULE)])) rfl (by rw [hml]; rfl) (Steps.refl _) (argsL := []) (rest := []) (lenOf pd_0 rfl) rfl (by show 2 * 0 + _ ≤ _; exact Nat.le_of_eq rfl) (hb hby d_prog_1_method_4_code_1) (fun _ _ => ⟨rfl, e0, (by decide : 0 + 0 ≤ _), (by decide : 0 + 0 ≤ _)⟩)
  dsimp only [Pt.U, Pt.locs, Pt.cells, Pt.slots] at X2 l2 y2 z2 st2 hQ2
  subst l2 y2 z2
  obtain ⟨rfl, Nq2, e2⟩ := hQ2
  have N2 := Fr.app N0 Nq2
  have k3 : Way p e below S0 T2 (mkF m 4 #[rv w_ONE_RULE, iv p2] [(.int (2 : Int32))]) := fun t k => k1 t (st2.trans k)
  have k4 : Way p e below S0 T2 (mkF m 33 #[rv w_ONE_RULE, iv p2] [(.int (1 : Int32))]) := by
    intro t k
    refine k3 t ?_
    refine own_lsw (g := (mkF m 4 #[rv w_ONE_RULE, iv p2] [(.int (2 : Int32))])) X2.here hx rfl (pc0 := 4) (pc' := 32) rfl (hb hby d_prog_1_method_4_code_4) rfl (off := 28) (by decide) (by decide) (by decide) (by decide) ?_
    show Steps p.tables e below (T2.setTop (mkF m 32 #[rv w_ONE_RULE, iv p2] [])) _
    refine XS.iconst X2.here hx rfl (hb hby d_prog_1_method_4_code_32) ?_
    show Steps p.tables e below (T2.setTop (mkF m 33 #[rv w_ONE_RULE, iv p2] [(.int (1 : Int32))])) _
    exact k
  obtain ⟨fs, hr, hrun, hended, hW, hsame⟩ := X2.leave (v := some (.int (1 : Int32))) (fun h => by rw [Bd.returns] at h; cases h)
  refine ⟨_, _, k4 _ (retOut X2 hx Bd.returns rfl (Or.inl ⟨rfl, Or.inl rfl, _, rfl⟩) (hb hby d_prog_1_method_4_code_33) hr), hrun, hended, _, _, rfl, ?_, ⟨_, rfl⟩, hW, hsame.mono (by decide) (by decide)⟩
  show Q_rc2 Z w_POOL w_NO_RULE w_ONE_RULE w_MANY_RULES p2 h0 n0 _ T2.heap _
  rw [e2]
  exact ⟨rfl, N2, rfl⟩
def Q_rc3 (Z : State) (w_POOL : Addr) (w_NO_RULE : Addr) (w_ONE_RULE : Addr) (w_MANY_RULES : Addr) (p2 : Int32) (h0 : Heap) (n0 : Nat) (v : Option Value) (h : Heap) (L : List Loc) : Prop := (v = some (.int p2)) ∧ (Fr n0 L) ∧ (h = h0)
set_option maxRecDepth 65536 in
set_option maxHeartbeats 40000000 in
theorem rc3 (l : Launch) (Z : State) (a0 : Array Value) (hw : ∀ d ∈ tables_1, d.before a0 Z = true) (ws : List Jvm.Cond) (w_POOL : Addr) (w_NO_RULE : Addr) (w_ONE_RULE : Addr) (w_MANY_RULES : Addr) (G : Gst Z w_POOL w_NO_RULE w_ONE_RULE w_MANY_RULES) (p2 : Int32) (h0 : Heap) (n0 : Nat) (O0 : Old Z n0 h0) :
    MetFree l (⟨"com/example/rulework/bench/Burst", "ruleCount", "(I)I"⟩ : MethodName) (head1 (Jvm.Cond.code (⟨"com/example/rulework/bench/Burst", "ruleCount", "(I)I"⟩ : MethodName) prog_1_method_4_code 2 (some .int) :: ws) ({ frames := 1, cells := 0, slots := 0, locals := 12 } : Room)) (fun a U => a = #[(.ref w_MANY_RULES), (.int p2)] ∧ Z.Warmed39 U.vm ∧ U.heap = h0) (fun _ _ _ _ _ => True) (fun _ U o U' => ∃ v L, o = .returned v ∧ Q_rc3 Z w_POOL w_NO_RULE w_ONE_RULE w_MANY_RULES p2 h0 n0 v U'.heap L ∧ FrameEnd U o U' L ({ frames := 1, cells := 0, slots := 0, locals := 12 } : Room).cells ({ frames := 1, cells := 0, slots := 0, locals := 12 } : Room).slots) := by
  refine MetFree.of_bodySF (plainFor_of_name pn_1) hisR ?_
  intro p e s m args below meth c s₁ Bd hml0 hP hK
  obtain ⟨rfl, hZ, hh⟩ := hP
  have hx := Bd.exec
  have hby := Bd.bytes
  have hml : c.maxLocals = 2 := hml0
  have hown : s.vm.findClass "com/example/rulework/bench/Burst" = some m.cls := findClass_of_methodNamed Bd.named
  have hnm := (name_of_methodNamed Bd.named Bd.method).1
  have X0 : Stand p l e ({ frames := 1, cells := 0, slots := 0, locals := 12 } : Room) s m #[(.ref w_MANY_RULES), (.int p2)] below meth c s₁ [] 0 0 := Stand.of_body Bd
  have e0 : s₁.heap = h0 := by rw [← hh, Bd.state]; rfl
  have N0 := Fr.nil n0
  obtain ⟨S_w_POOL, E_w_POOL, F_w_POOL_ordinal, S_w_NO_RULE, E_w_NO_RULE, F_w_NO_RULE_ordinal, S_w_ONE_RULE, E_w_ONE_RULE, F_w_ONE_RULE_ordinal, S_w_MANY_RULES, E_w_MANY_RULES, F_w_MANY_RULES_ordinal⟩ := id G
  have k0 : Way p e below (s₁.setTop (entryFrame m #[(.ref w_MANY_RULES), (.int p2)] 2)) s₁ (mkF m 0 #[rv w_MANY_RULES, iv p2] []) := fun t k => castTop (by first | (simp [entryFrame, mkF, argsToLocals, Value.category]; done) | rfl) k
  generalize s₁.setTop (entryFrame m #[(.ref w_MANY_RULES), (.int p2)] 2) = S0 at k0 ⊢
  have k1 : Way p e below S0 s₁ (mkF m 1 #[rv w_MANY_RULES, iv p2] [(.ref w_MANY_RULES)]) := by
    intro t k
    refine k0 t ?_
    refine XS.aloadN X0.here hx rfl (hb hby d_prog_1_method_4_code_0) rfl rfl ?_
    show Steps p.tables e below (s₁.setTop (mkF m 1 #[rv w_MANY_RULES, iv p2] [(.ref w_MANY_RULES)])) _
    exact k
  obtain ⟨cq2, kq2, qq2a, qq2b, qq2c⟩ := isOf hZ e0 (E_w_MANY_RULES.ext O0.2)
  obtain ⟨_, _, ⟨T2, L2, kk2, nn2⟩, -, X2, ⟨Lc2, hQ2, l2, y2, z2⟩, st2⟩ := X0.virtualBackUp hx (owner := "java/lang/Enum") (x := (⟨"com/example/rulework/bench/Burst", "ordinal", "()I"⟩ : MethodName)) (y := (⟨"java/lang/Enum", "ordinal", "()I"⟩ : MethodName)) hown (mvT hZ (hw _ (List.mem_of_getElem? (i := 13) rfl))) (mvT hZ (hw _ (List.mem_of_getElem? (i := 14) rfl))) (mvT hZ (hw _ (List.mem_of_getElem? (i := 15) rfl))) (by decide) (mvT hZ (hw _ (List.mem_of_getElem? (i := 17) rfl))) (mvT hZ (hw _ (List.mem_of_getElem? (i := 16) rfl))) (backOf (W := 0) (ord l Z a0 hw [] w_POOL w_NO_RULE w_ONE_RULE w_MANY_RULES G w_MANY_RULES (3 : Int32) h0 n0 O0 ((F_w_MANY_RULES_ordinal.ext O0.2) : Fld Z h0 w_MANY_RULES "java/lang/Enum" "ordinal" "I" (.int (3 : Int32)))) hZ (hw _ (List.mem_of_getElem? (i := 19) rfl)) (hw _ (List.mem_of_getElem? (i := 18) rfl)) (by decide) (by decide)) qq2a qq2c (g := (mkF m 1 #[rv w_MANY_RULES, iv p2] [(.ref w_MANY_RULES)])) rfl (by rw [hml]; rfl) (Steps.refl _) (argsL := []) (rest := []) (lenOf pd_0 rfl) rfl (by show 2 * 0 + _ ≤ _; exact Nat.le_of_eq rfl) (hb hby d_prog_1_method_4_code_1) (fun _ _ => ⟨rfl, e0, (by decide : 0 + 0 ≤ _), (by decide : 0 + 0 ≤ _)⟩)
  dsimp only [Pt.U, Pt.locs, Pt.cells, Pt.slots] at X2 l2 y2 z2 st2 hQ2
  subst l2 y2 z2
  obtain ⟨rfl, Nq2, e2⟩ := hQ2
  have N2 := Fr.app N0 Nq2
  have k3 : Way p e below S0 T2 (mkF m 4 #[rv w_MANY_RULES, iv p2] [(.int (3 : Int32))]) := fun t k => k1 t (st2.trans k)
  have k4 : Way p e below S0 T2 (mkF m 35 #[rv w_MANY_RULES, iv p2] [(.int p2)]) := by
    intro t k
    refine k3 t ?_
    refine own_lsw (g := (mkF m 4 #[rv w_MANY_RULES, iv p2] [(.int (3 : Int32))])) X2.here hx rfl (pc0 := 4) (pc' := 34) rfl (hb hby d_prog_1_method_4_code_4) rfl (off := 30) (by decide) (by decide) (by decide) (by decide) ?_
    show Steps p.tables e below (T2.setTop (mkF m 34 #[rv w_MANY_RULES, iv p2] [])) _
    refine XS.iloadN X2.here hx rfl (hb hby d_prog_1_method_4_code_34) rfl ?_
    show Steps p.tables e below (T2.setTop (mkF m 35 #[rv w_MANY_RULES, iv p2] [(.int p2)])) _
    exact k
  obtain ⟨fs, hr, hrun, hended, hW, hsame⟩ := X2.leave (v := some (.int p2)) (fun h => by rw [Bd.returns] at h; cases h)
  refine ⟨_, _, k4 _ (retOut X2 hx Bd.returns rfl (Or.inl ⟨rfl, Or.inl rfl, _, rfl⟩) (hb hby d_prog_1_method_4_code_35) hr), hrun, hended, _, _, rfl, ?_, ⟨_, rfl⟩, hW, hsame.mono (by decide) (by decide)⟩
  show Q_rc3 Z w_POOL w_NO_RULE w_ONE_RULE w_MANY_RULES p2 h0 n0 _ T2.heap _
  rw [e2]
  exact ⟨rfl, N2, rfl⟩
def Q_sci (Z : State) (w_POOL : Addr) (w_NO_RULE : Addr) (w_ONE_RULE : Addr) (w_MANY_RULES : Addr) (a1 : Addr) (h0 : Heap) (n0 : Nat) (v : Option Value) (h : Heap) (L : List Loc) : Prop := (v = none) ∧ (Fr n0 L) ∧ (h = h0)
set_option maxRecDepth 65536 in
set_option maxHeartbeats 40000000 in
theorem sci (l : Launch) (Z : State) (a0 : Array Value) (hw : ∀ d ∈ tables_1, d.before a0 Z = true) (ws : List Jvm.Cond) (w_POOL : Addr) (w_NO_RULE : Addr) (w_ONE_RULE : Addr) (w_MANY_RULES : Addr) (G : Gst Z w_POOL w_NO_RULE w_ONE_RULE w_MANY_RULES) (a1 : Addr) (h0 : Heap) (n0 : Nat) (O0 : Old Z n0 h0) :
    MetFree l (⟨"com/example/rulework/bench/Burst$SelfConflictingRule", "<init>", "()V"⟩ : MethodName) (head1 (Jvm.Cond.code (⟨"com/example/rulework/bench/Burst$SelfConflictingRule", "<init>", "()V"⟩ : MethodName) prog_2_method_1_code 1 none :: ws) ({ frames := 1, cells := 0, slots := 0, locals := 12 } : Room)) (fun a U => a = #[(.ref a1)] ∧ Z.Warmed39 U.vm ∧ U.heap = h0) (fun _ _ _ _ _ => True) (fun _ U o U' => ∃ v L, o = .returned v ∧ Q_sci Z w_POOL w_NO_RULE w_ONE_RULE w_MANY_RULES a1 h0 n0 v U'.heap L ∧ FrameEnd U o U' L ({ frames := 1, cells := 0, slots := 0, locals := 12 } : Room).cells ({ frames := 1, cells := 0, slots := 0, locals := 12 } : Room).slots) := by
  refine MetFree.of_bodySF (plainFor_of_name pn_2) hisR ?_
  intro p e s m args below meth c s₁ Bd hml0 hP hK
  obtain ⟨rfl, hZ, hh⟩ := hP
  have hx := Bd.exec
  have hby := Bd.bytes
  have hml : c.maxLocals = 1 := hml0
  have hown : s.vm.findClass "com/example/rulework/bench/Burst$SelfConflictingRule" = some m.cls := findClass_of_methodNamed Bd.named
  have hnm := (name_of_methodNamed Bd.named Bd.method).1
  have X0 : Stand p l e ({ frames := 1, cells := 0, slots := 0, locals := 12 } : Room) s m #[(.ref a1)] below meth c s₁ [] 0 0 := Stand.of_body Bd
  have e0 : s₁.heap = h0 := by rw [← hh, Bd.state]; rfl
  have N0 := Fr.nil n0
  obtain ⟨S_w_POOL, E_w_POOL, F_w_POOL_ordinal, S_w_NO_RULE, E_w_NO_RULE, F_w_NO_RULE_ordinal, S_w_ONE_RULE, E_w_ONE_RULE, F_w_ONE_RULE_ordinal, S_w_MANY_RULES, E_w_MANY_RULES, F_w_MANY_RULES_ordinal⟩ := id G
  have k0 : Way p e below (s₁.setTop (entryFrame m #[(.ref a1)] 1)) s₁ (mkF m 0 #[rv a1] []) := fun t k => castTop (by first | (simp [entryFrame, mkF, argsToLocals, Value.category]; done) | rfl) k
  generalize s₁.setTop (entryFrame m #[(.ref a1)] 1) = S0 at k0 ⊢
  have k1 : Way p e below S0 s₁ (mkF m 1 #[rv a1] [(.ref a1)]) := by
    intro t k
    refine k0 t ?_
    refine XS.aloadN X0.here hx rfl (hb hby d_prog_2_method_1_code_0) rfl rfl ?_
    show Steps p.tables e below (s₁.setTop (mkF m 1 #[rv a1] [(.ref a1)])) _
    exact k
  obtain ⟨T2, X2, e2, st2⟩ := initO X0 hx hZ hown (hw _ (List.mem_of_getElem? (i := 32) rfl)) (hw _ (List.mem_of_getElem? (i := 33) rfl)) (hw _ (List.mem_of_getElem? (i := 34) rfl)) e0 (g := (mkF m 1 #[rv a1] [(.ref a1)])) rfl (by rw [hml]; rfl) rfl (hb hby d_prog_2_method_1_code_1) (by decide) (W := 0) (by show 2 * 0 + _ ≤ _; exact Nat.le_of_eq rfl) (by decide)
  have k3 : Way p e below S0 T2 (mkF m 4 #[rv a1] []) := fun t k => k1 t (st2 _ k)
  obtain ⟨fs, hr, hrun, hended, hW, hsame⟩ := X2.leave (v := none) (fun _ => rfl)
  refine ⟨_, _, k3 _ (X2.returnOut hx Bd.returns (hb hby d_prog_2_method_1_code_4) hr), hrun, hended, _, _, rfl, ?_, ⟨_, rfl⟩, hW, hsame.mono (by decide) (by decide)⟩
  show Q_sci Z w_POOL w_NO_RULE w_ONE_RULE w_MANY_RULES a1 h0 n0 _ T2.heap _
  rw [e2]
  exact ⟨rfl, N0, rfl⟩
def Q_mk0 (Z : State) (w_POOL : Addr) (w_NO_RULE : Addr) (w_ONE_RULE : Addr) (w_MANY_RULES : Addr) (p2 : Int32) (h0 : Heap) (n0 : Nat) (v : Option Value) (h : Heap) (L : List Loc) : Prop := ∃ b1 : Addr, ∃ kc : ClassId, (v = some (.ref b1)) ∧ (Fr n0 L) ∧ (Keep h0 h []) ∧ (h0.size ≤ b1) ∧ (Arv Z h b1 kc (.object "com/example/rulework/rulework/SchedulingRule") (0 : Int32) [] .null)
set_option maxRecDepth 65536 in
set_option maxHeartbeats 40000000 in
theorem mk0 (l : Launch) (Z : State) (a0 : Array Value) (hw : ∀ d ∈ tables_1, d.before a0 Z = true) (ws : List Jvm.Cond) (w_POOL : Addr) (w_NO_RULE : Addr) (w_ONE_RULE : Addr) (w_MANY_RULES : Addr) (G : Gst Z w_POOL w_NO_RULE w_ONE_RULE w_MANY_RULES) (p2 : Int32) (h0 : Heap) (n0 : Nat) (O0 : Old Z n0 h0) :
    MetFree l (⟨"com/example/rulework/bench/Burst", "makeRules", "(I)[Lcom/example/rulework/rulework/SchedulingRule;"⟩ : MethodName) (head1 (Jvm.Cond.code (⟨"com/example/rulework/bench/Burst", "makeRules", "(I)[Lcom/example/rulework/rulework/SchedulingRule;"⟩ : MethodName) prog_1_method_5_code 4 (some (.array (.object "com/example/rulework/rulework/SchedulingRule"))) :: ws) ({ frames := 2, cells := 1, slots := 0, locals := 25 } : Room)) (fun a U => a = #[(.ref w_POOL), (.int p2)] ∧ Z.Warmed39 U.vm ∧ U.heap = h0) (fun _ _ _ _ _ => True) (fun _ U o U' => ∃ v L, o = .returned v ∧ Q_mk0 Z w_POOL w_NO_RULE w_ONE_RULE w_MANY_RULES p2 h0 n0 v U'.heap L ∧ FrameEnd U o U' L ({ frames := 2, cells := 1, slots := 0, locals := 25 } : Room).cells ({ frames := 2, cells := 1, slots := 0, locals := 25 } : Room).slots) := by
  refine MetFree.of_bodySF (plainFor_of_name pn_1) hisR ?_
  intro p e s m args below meth c s₁ Bd hml0 hP hK
  obtain ⟨rfl, hZ, hh⟩ := hP
  have hx := Bd.exec
  have hby := Bd.bytes
  have hml : c.maxLocals = 4 := hml0
  have hown : s.vm.findClass "com/example/rulework/bench/Burst" = some m.cls := findClass_of_methodNamed Bd.named
  have hnm := (name_of_methodNamed Bd.named Bd.method).1
  have X0 : Stand p l e ({ frames := 2, cells := 1, slots := 0, locals := 25 } : Room) s m #[(.ref w_POOL), (.int p2)] below meth c s₁ [] 0 0 := Stand.of_body Bd
  have e0 : s₁.heap = h0 := by rw [← hh, Bd.state]; rfl
  have N0 := Fr.nil n0
  obtain ⟨S_w_POOL, E_w_POOL, F_w_POOL_ordinal, S_w_NO_RULE, E_w_NO_RULE, F_w_NO_RULE_ordinal, S_w_ONE_RULE, E_w_ONE_RULE, F_w_ONE_RULE_ordinal, S_w_MANY_RULES, E_w_MANY_RULES, F_w_MANY_RULES_ordinal⟩ := id G
  have k0 : Way p e below (s₁.setTop (entryFrame m #[(.ref w_POOL), (.int p2)] 4)) s₁ (mkF m 0 #[rv w_POOL, iv p2, .unset, .unset] []) := fun t k => castTop (by first | (simp [entryFrame, mkF, argsToLocals, Value.category]; done) | rfl) k
  generalize s₁.setTop (entryFrame m #[(.ref w_POOL), (.int p2)] 4) = S0 at k0 ⊢
  have k1 : Way p e below S0 s₁ (mkF m 2 #[rv w_POOL, iv p2, .unset, .unset] [(.int p2), (.ref w_POOL)]) := by
    intro t k
    refine k0 t ?_
    refine XS.aloadN X0.here hx rfl (hb hby d_prog_1_method_5_code_0) rfl rfl ?_
    show Steps p.tables e below (s₁.setTop (mkF m 1 #[rv w_POOL, iv p2, .unset, .unset] [(.ref w_POOL)])) _
    refine XS.iloadN X0.here hx rfl (hb hby d_prog_1_method_5_code_1) rfl ?_
    show Steps p.tables e below (s₁.setTop (mkF m 2 #[rv w_POOL, iv p2, .unset, .unset] [(.int p2), (.ref w_POOL)])) _
    exact k
  obtain ⟨cq2, kq2, qq2a, qq2b, qq2c⟩ := isOf hZ e0 (E_w_POOL.ext O0.2)
  obtain ⟨_, _, ⟨T2, L2, kk2, nn2⟩, -, X2, ⟨Lc2, hQ2, l2, y2, z2⟩, st2⟩ := X0.virtualBack hx (y := (⟨"com/example/rulework/bench/Burst", "ruleCount", "(I)I"⟩ : MethodName)) (z := (⟨"com/example/rulework/bench/Burst", "ruleCount", "(I)I"⟩ : MethodName)) hown (mvT hZ (hw _ (List.mem_of_getElem? (i := 8) rfl))) (mvT hZ (hw _ (List.mem_of_getElem? (i := 9) rfl))) (notFace_of_selects (args := #[]) (mvT hZ (hw _ (List.mem_of_getElem? (i := 11) rfl)))) (mvT hZ (hw _ (List.mem_of_getElem? (i := 11) rfl))) (mvT hZ (hw _ (List.mem_of_getElem? (i := 10) rfl))) (by decide) (backOf (W := 0) (rc0 l Z a0 hw [] w_POOL w_NO_RULE w_ONE_RULE w_MANY_RULES G p2 h0 n0 O0 ) hZ (hw _ (List.mem_of_getElem? (i := 12) rfl)) (hw _ (List.mem_of_getElem? (i := 1) rfl)) (by decide) (by decide)) qq2a qq2c (g := (mkF m 2 #[rv w_POOL, iv p2, .unset, .unset] [(.int p2), (.ref w_POOL)])) rfl (by rw [hml]; rfl) (Steps.refl _) (argsL := [(.int p2)]) (rest := []) (lenOf pd_1 rfl) rfl (by show 2 * 0 + _ ≤ _; exact Nat.le_of_eq rfl) (hb hby d_prog_1_method_5_code_2) (fun _ _ => ⟨rfl, e0, (by decide : 0 + 0 ≤ _), (by decide : 0 + 0 ≤ _)⟩)
  dsimp only [Pt.U, Pt.locs, Pt.cells, Pt.slots] at X2 l2 y2 z2 st2 hQ2
  subst l2 y2 z2
  obtain ⟨rfl, Nq2, e2⟩ := hQ2
  have N2 := Fr.app N0 Nq2
  have k3 : Way p e below S0 T2 (mkF m 5 #[rv w_POOL, iv p2, .unset, .unset] [(.int (0 : Int32))]) := fun t k => k1 t (st2.trans k)
  obtain ⟨T4, h4, c4, X4, e4, E4, A4, B4, V4, st4⟩ := newRE X2 hx hZ hown (hw _ (List.mem_of_getElem? (i := 22) rfl)) (hw _ (List.mem_of_getElem? (i := 23) rfl)) e2 (g := (mkF m 5 #[rv w_POOL, iv p2, .unset, .unset] [(.int (0 : Int32))])) rfl (hb hby d_prog_1_method_5_code_5) rfl (by decide) (cap := 0) (by decide) (by decide) (by decide) (by decide) (ad := "[Lcom/example/rulework/rulework/SchedulingRule;") (by decide)
  obtain ⟨b4, g4⟩ : ∃ z, z = h0.size := ⟨_, rfl⟩
  rw [← g4] at A4 B4 st4
  have O4 := O0.ext E4
  have K4 : Keep h0 h4 [] := (Keep.refl h0 []).ext E4
  have v4 : Arv Z h4 b4 c4 (.object "com/example/rulework/rulework/SchedulingRule") (0 : Int32) [] .null := (Arv.new A4 (by decide)).pad (pad_rep [] .null 0)
  have k5 : Way p e below S0 T4 (mkF m 8 #[rv w_POOL, iv p2, .unset, .unset] [(.ref b4)]) := fun t k => k3 t (st4 _ k)
  have k6 : Way p e below S0 T4 (mkF m 13 #[rv w_POOL, iv p2, rv b4, iv (0 : Int32)] [(.ref b4), (.int (0 : Int32))]) := by
    intro t k
    refine k5 t ?_
    refine XS.astoreN X4.here hx rfl (hb hby d_prog_1_method_5_code_8) rfl rfl (l' := #[rv w_POOL, iv p2, rv b4, .unset]) rfl ?_
    show Steps p.tables e below (T4.setTop (mkF m 9 #[rv w_POOL, iv p2, rv b4, .unset] [])) _
    refine XS.iconst X4.here hx rfl (hb hby d_prog_1_method_5_code_9) ?_
    show Steps p.tables e below (T4.setTop (mkF m 10 #[rv w_POOL, iv p2, rv b4, .unset] [(.int (0 : Int32))])) _
    refine XS.istoreN X4.here hx rfl (hb hby d_prog_1_method_5_code_10) rfl (l' := #[rv w_POOL, iv p2, rv b4, iv (0 : Int32)]) rfl ?_
    show Steps p.tables e below (T4.setTop (mkF m 11 #[rv w_POOL, iv p2, rv b4, iv (0 : Int32)] [])) _
    refine XS.iloadN X4.here hx rfl (hb hby d_prog_1_method_5_code_11) rfl ?_
    show Steps p.tables e below (T4.setTop (mkF m 12 #[rv w_POOL, iv p2, rv b4, iv (0 : Int32)] [(.int (0 : Int32))])) _
    refine XS.aloadN X4.here hx rfl (hb hby d_prog_1_method_5_code_12) rfl rfl ?_
    show Steps p.tables e below (T4.setTop (mkF m 13 #[rv w_POOL, iv p2, rv b4, iv (0 : Int32)] [(.ref b4), (.int (0 : Int32))])) _
    exact k
  obtain ⟨cl7, Ar7, -, S7, M7, -, -⟩ := id (v4)
  have k8 : Way p e below S0 T4 (mkF m 14 #[rv w_POOL, iv p2, rv b4, iv (0 : Int32)] [(.int (0 : Int32)), (.int (0 : Int32))]) := fun t k => k6 t (X4.arraylength hx (by rw [e4]; exact Ar7.1) (State.isArrayOf_alike hZ.alike Ar7.2.1) (g := (mkF m 13 #[rv w_POOL, iv p2, rv b4, iv (0 : Int32)] [(.ref b4), (.int (0 : Int32))])) rfl rfl (hb hby d_prog_1_method_5_code_13) _ (by rw [len_of S7 M7]; exact k))
  have k9 : Way p e below S0 T4 (mkF m 34 #[rv w_POOL, iv p2, rv b4, iv (0 : Int32)] [(.ref b4)]) := by
    intro t k
    refine k8 t ?_
    refine XS.icmpYes X4.here hx rfl (pc0 := 14) (pc' := 33) rfl (hb hby d_prog_1_method_5_code_14) rfl (flt ((by decide) : ¬ ((0 : Int32) < (0 : Int32)))).2.1 (by decide) (by decide) ?_
    show Steps p.tables e below (T4.setTop (mkF m 33 #[rv w_POOL, iv p2, rv b4, iv (0 : Int32)] [])) _
    refine XS.aloadN X4.here hx rfl (hb hby d_prog_1_method_5_code_33) rfl rfl ?_
    show Steps p.tables e below (T4.setTop (mkF m 34 #[rv w_POOL, iv p2, rv b4, iv (0 : Int32)] [(.ref b4)])) _
    exact k
  obtain ⟨fs, hr, hrun, hended, hW, hsame⟩ := X4.leave (v := some (.ref b4)) (fun h => by rw [Bd.returns] at h; cases h)
  have gz10 : h0.size ≤ b4 := Nat.le_trans (Keep.refl h0 []).1 (Nat.le_of_eq g4.symm)
  refine ⟨_, _, k9 _ (retOut X4 hx Bd.returns rfl (Or.inr (Or.inr (Or.inr (Or.inr ⟨rfl, rfl, rfl⟩)))) (hb hby d_prog_1_method_5_code_34) hr), hrun, hended, _, _, rfl, ?_, ⟨_, rfl⟩, hW, hsame.mono (by decide) (by decide)⟩
  show Q_mk0 Z w_POOL w_NO_RULE w_ONE_RULE w_MANY_RULES p2 h0 n0 _ T4.heap _
  rw [e4]
  exact ⟨b4, c4, rfl, N2, K4, gz10, v4⟩
def Q_mk1 (Z : State) (w_POOL : Addr) (w_NO_RULE : Addr) (w_ONE_RULE : Addr) (w_MANY_RULES : Addr) (p2 : Int32) (h0 : Heap) (n0 : Nat) (v : Option Value) (h : Heap) (L : List Loc) : Prop := ∃ b1 : Addr, ∃ kc : ClassId, (v = some (.ref b1)) ∧ (Fr n0 L) ∧ (Keep h0 h []) ∧ (h0.size ≤ b1) ∧ (Arv Z h b1 kc (.object "com/example/rulework/rulework/SchedulingRule") (0 : Int32) [] .null)
set_option maxRecDepth 65536 in
set_option maxHeartbeats 40000000 in
theorem mk1 (l : Launch) (Z : State) (a0 : Array Value) (hw : ∀ d ∈ tables_1, d.before a0 Z = true) (ws : List Jvm.Cond) (w_POOL : Addr) (w_NO_RULE : Addr) (w_ONE_RULE : Addr) (w_MANY_RULES : Addr) (G : Gst Z w_POOL w_NO_RULE w_ONE_RULE w_MANY_RULES) (p2 : Int32) (h0 : Heap) (n0 : Nat) (O0 : Old Z n0 h0) :
    MetFree l (⟨"com/example/rulework/bench/Burst", "makeRules", "(I)[Lcom/example/rulework/rulework/SchedulingRule;"⟩ : MethodName) (head1 (Jvm.Cond.code (⟨"com/example/rulework/bench/Burst", "makeRules", "(I)[Lcom/example/rulework/rulework/SchedulingRule;"⟩ : MethodName) prog_1_method_5_code 4 (some (.array (.object "com/example/rulework/rulework/SchedulingRule"))) :: ws) ({ frames := 2, cells := 1, slots := 0, locals := 25 } : Room)) (fun a U => a = #[(.ref w_NO_RULE), (.int p2)] ∧ Z.Warmed39 U.vm ∧ U.heap = h0) (fun _ _ _ _ _ => True) (fun _ U o U' => ∃ v L, o = .returned v ∧ Q_mk1 Z w_POOL w_NO_RULE w_ONE_RULE w_MANY_RULES p2 h0 n0 v U'.heap L ∧ FrameEnd U o U' L ({ frames := 2, cells := 1, slots := 0, locals := 25 } : Room).cells ({ frames := 2, cells := 1, slots := 0, locals := 25 } : Room).slots) := by
  refine MetFree.of_bodySF (plainFor_of_name pn_1) hisR ?_
  intro p e s m args below meth c s₁ Bd hml0 hP hK
  obtain ⟨rfl, hZ, hh⟩ := hP
  have hx := Bd.exec
  have hby := Bd.bytes
  have hml : c.maxLocals = 4 := hml0
  have hown : s.vm.findClass "com/example/rulework/bench/Burst" = some m.cls := findClass_of_methodNamed Bd.named
  have hnm := (name_of_methodNamed Bd.named Bd.method).1
  have X0 : Stand p l e ({ frames := 2, cells := 1, slots := 0, locals := 25 } : Room) s m #[(.ref w_NO_RULE), (.int p2)] below meth c s₁ [] 0 0 := Stand.of_body Bd
  have e0 : s₁.heap = h0 := by rw [← hh, Bd.state]; rfl
  have N0 := Fr.nil n0
  obtain ⟨S_w_POOL, E_w_POOL, F_w_POOL_ordinal, S_w_NO_RULE, E_w_NO_RULE, F_w_NO_RULE_ordinal, S_w_ONE_RULE, E_w_ONE_RULE, F_w_ONE_RULE_ordinal, S_w_MANY_RULES, E_w_MANY_RULES, F_w_MANY_RULES_ordinal⟩ := id G
  have k0 : Way p e below (s₁.setTop (entryFrame m #[(.ref w_NO_RULE), (.int p2)] 4)) s₁ (mkF m 0 #[rv w_NO_RULE, iv p2, .unset, .unset] []) := fun t k => castTop (by first | (simp [entryFrame, mkF, argsToLocals, Value.category]; done) | rfl) k
  generalize s₁.setTop (entryFrame m #[(.ref w_NO_RULE), (.int p2)] 4) = S0 at k0 ⊢
  have k1 : Way p e below S0 s₁ (mkF m 2 #[rv w_NO_RULE, iv p2, .unset, .unset] [(.int p2), (.ref w_NO_RULE)]) := by
    intro t k
    refine k0 t ?_
    refine XS.aloadN X0.here hx rfl (hb hby d_prog_1_method_5_code_0) rfl rfl ?_
    show Steps p.tables e below (s₁.setTop (mkF m 1 #[rv w_NO_RULE, iv p2, .unset, .unset] [(.ref w_NO_RULE)])) _
    refine XS.iloadN X0.here hx rfl (hb hby d_prog_1_method_5_code_1) rfl ?_
    show Steps p.tables e below (s₁.setTop (mkF m 2 #[rv w_NO_RULE, iv p2, .unset, .unset] [(.int p2), (.ref w_NO_RULE)])) _
    exact k
  obtain ⟨cq2, kq2, qq2a, qq2b, qq2c⟩ := isOf hZ e0 (E_w_NO_RULE.ext O0.2)
  obtain ⟨_, _, ⟨T2, L2, kk2, nn2⟩, -, X2, ⟨Lc2, hQ2, l2, y2, z2⟩, st2⟩ := X0.virtualBack hx (y := (⟨"com/example/rulework/bench/Burst", "ruleCount", "(I)I"⟩ : MethodName)) (z := (⟨"com/example/rulework/bench/Burst", "ruleCount", "(I)I"⟩ : MethodName)) hown (mvT hZ (hw _ (List.mem_of_getElem? (i := 8) rfl))) (mvT hZ (hw _ (List.mem_of_getElem? (i := 9) rfl))) (notFace_of_selects (args := #[]) (mvT hZ (hw _ (List.mem_of_getElem? (i := 11) rfl)))) (mvT hZ (hw _ (List.mem_of_getElem? (i := 11) rfl))) (mvT hZ (hw _ (List.mem_of_getElem? (i := 10) rfl))) (by decide) (backOf (W := 0) (rc1 l Z a0 hw [] w_POOL w_NO_RULE w_ONE_RULE w_MANY_RULES G p2 h0 n0 O0 ) hZ (hw _ (List.mem_of_getElem? (i := 12) rfl)) (hw _ (List.mem_of_getElem? (i := 1) rfl)) (by decide) (by decide)) qq2a qq2c (g := (mkF m 2 #[rv w_NO_RULE, iv p2, .unset, .unset] [(.int p2), (.ref w_NO_RULE)])) rfl (by rw [hml]; rfl) (Steps.refl _) (argsL := [(.int p2)]) (rest := []) (lenOf pd_1 rfl) rfl (by show 2 * 0 + _ ≤ _; exact Nat.le_of_eq rfl) (hb hby d_prog_1_method_5_code_2) (fun _ _ => ⟨rfl, e0, (by decide : 0 + 0 ≤ _), (by decide : 0 + 0 ≤ _)⟩)
  dsimp only [Pt.U, Pt.locs, Pt.cells, Pt.slots] at X2 l2 y2 z2 st2 hQ2
  subst l2 y2 z2
  obtain ⟨rfl, Nq2, e2⟩ := hQ2
  have N2 := Fr.app N0 Nq2
  have k3 : Way p e below S0 T2 (mkF m 5 #[rv w_NO_RULE, iv p2, .unset, .unset] [(.int (0 : Int32))]) := fun t k => k1 t (st2.trans k)
  obtain ⟨T4, h4, c4, X4, e4, E4, A4, B4, V4, st4⟩ := newRE X2 hx hZ hown (hw _ (List.mem_of_getElem? (i := 22) rfl)) (hw _ (List.mem_of_getElem? (i := 23) rfl)) e2 (g := (mkF m 5 #[rv w_NO_RULE, iv p2, .unset, .unset] [(.int (0 : Int32))])) rfl (hb hby d_prog_1_method_5_code_5) rfl (by decide) (cap := 0) (by decide) (by decide) (by decide) (by decide) (ad := "[Lcom/example/rulework/rulework/SchedulingRule;") (by decide)
  obtain ⟨b4, g4⟩ : ∃ z, z = h0.size := ⟨_, rfl⟩
  rw [← g4] at A4 B4 st4
  have O4 := O0.ext E4
  have K4 : Keep h0 h4 [] := (Keep.refl h0 []).ext E4
  have v4 : Arv Z h4 b4 c4 (.object "com/example/rulework/rulework/SchedulingRule") (0 : Int32) [] .null := (Arv.new A4 (by decide)).pad (pad_rep [] .null 0)
  have k5 : Way p e below S0 T4 (mkF m 8 #[rv w_NO_RULE, iv p2, .unset, .unset] [(.ref b4)]) := fun t k => k3 t (st4 _ k)
  have k6 : Way p e below S0 T4 (mkF m 13 #[rv w_NO_RULE, iv p2, rv b4, iv (0 : Int32)] [(.ref b4), (.int (0 : Int32))]) := by
    intro t k
    refine k5 t ?_
    refine XS.astoreN X4.here hx rfl (hb hby d_prog_1_method_5_code_8) rfl rfl (l' := #[rv w_NO_RULE, iv p2, rv b4, .unset]) rfl ?_
    show Steps p.tables e below (T4.setTop (mkF m 9 #[rv w_NO_RULE, iv p2, rv b4, .unset] [])) _
    refine XS.iconst X4.here hx rfl (hb hby d_prog_1_method_5_code_9) ?_
    show Steps p.tables e below (T4.setTop (mkF m 10 #[rv w_NO_RULE, iv p2, rv b4, .unset] [(.int (0 : Int32))])) _
    refine XS.istoreN X4.here hx rfl (hb hby d_prog_1_method_5_code_10) rfl (l' := #[rv w_NO_RULE, iv p2, rv b4, iv (0 : Int32)]) rfl ?_
    show Steps p.tables e below (T4.setTop (mkF m 11 #[rv w_NO_RULE, iv p2, rv b4, iv (0 : Int32)] [])) _
    refine XS.iloadN X4.here hx rfl (hb hby d_prog_1_method_5_code_11) rfl ?_
    show Steps p.tables e below (T4.setTop (mkF m 12 #[rv w_NO_RULE, iv p2, rv b4, iv (0 : Int32)] [(.int (0 : Int32))])) _
    refine XS.aloadN X4.here hx rfl (hb hby d_prog_1_method_5_code_12) rfl rfl ?_
    show Steps p.tables e below (T4.setTop (mkF m 13 #[rv w_NO_RULE, iv p2, rv b4, iv (0 : Int32)] [(.ref b4), (.int (0 : Int32))])) _
    exact k
  obtain ⟨cl7, Ar7, -, S7, M7, -, -⟩ := id (v4)
  have k8 : Way p e below S0 T4 (mkF m 14 #[rv w_NO_RULE, iv p2, rv b4, iv (0 : Int32)] [(.int (0 : Int32)), (.int (0 : Int32))]) := fun t k => k6 t (X4.arraylength hx (by rw [e4]; exact Ar7.1) (State.isArrayOf_alike hZ.alike Ar7.2.1) (g := (mkF m 13 #[rv w_NO_RULE, iv p2, rv b4, iv (0 : Int32)] [(.ref b4), (.int (0 : Int32))])) rfl rfl (hb hby d_prog_1_method_5_code_13) _ (by rw [len_of S7 M7]; exact k))
  have k9 : Way p e below S0 T4 (mkF m 34 #[rv w_NO_RULE, iv p2, rv b4, iv (0 : Int32)] [(.ref b4)]) := by
    intro t k
    refine k8 t ?_
    refine XS.icmpYes X4.here hx rfl (pc0 := 14) (pc' := 33) rfl (hb hby d_prog_1_method_5_code_14) rfl (flt ((by decide) : ¬ ((0 : Int32) < (0 : Int32)))).2.1 (by decide) (by decide) ?_
    show Steps p.tables e below (T4.setTop (mkF m 33 #[rv w_NO_RULE, iv p2, rv b4, iv (0 : Int32)] [])) _
    refine XS.aloadN X4.here hx rfl (hb hby d_prog_1_method_5_code_33) rfl rfl ?_
    show Steps p.tables e below (T4.setTop (mkF m 34 #[rv w_NO_RULE, iv p2, rv b4, iv (0 : Int32)] [(.ref b4)])) _
    exact k
  obtain ⟨fs, hr, hrun, hended, hW, hsame⟩ := X4.leave (v := some (.ref b4)) (fun h => by rw [Bd.returns] at h; cases h)
  have gz10 : h0.size ≤ b4 := Nat.le_trans (Keep.refl h0 []).1 (Nat.le_of_eq g4.symm)
  refine ⟨_, _, k9 _ (retOut X4 hx Bd.returns rfl (Or.inr (Or.inr (Or.inr (Or.inr ⟨rfl, rfl, rfl⟩)))) (hb hby d_prog_1_method_5_code_34) hr), hrun, hended, _, _, rfl, ?_, ⟨_, rfl⟩, hW, hsame.mono (by decide) (by decide)⟩
  show Q_mk1 Z w_POOL w_NO_RULE w_ONE_RULE w_MANY_RULES p2 h0 n0 _ T4.heap _
  rw [e4]
  exact ⟨b4, c4, rfl, N2, K4, gz10, v4⟩
def Q_mk2 (Z : State) (w_POOL : Addr) (w_NO_RULE : Addr) (w_ONE_RULE : Addr) (w_MANY_RULES : Addr) (p2 : Int32) (h0 : Heap) (n0 : Nat) (v : Option Value) (h : Heap) (L : List Loc) : Prop := ∃ b1 : Addr, ∃ kc : ClassId, ∃ x0 : Addr, (v = some (.ref b1)) ∧ (Fr n0 L) ∧ (Keep h0 h []) ∧ (h0.size ≤ b1) ∧ (Arv Z h b1 kc (.object "com/example/rulework/rulework/SchedulingRule") (1 : Int32) [(.ref x0)] .null) ∧ (h0.size ≤ x0) ∧ (Exa Z h x0 "com/example/rulework/bench/Burst$SelfConflictingRule")
set_option maxRecDepth 65536 in
set_option maxHeartbeats 40000000 in
theorem mk2 (l : Launch) (Z : State) (a0 : Array Value) (hw : ∀ d ∈ tables_1, d.before a0 Z = true) (ws : List Jvm.Cond) (w_POOL : Addr) (w_NO_RULE : Addr) (w_ONE_RULE : Addr) (w_MANY_RULES : Addr) (G : Gst Z w_POOL w_NO_RULE w_ONE_RULE w_MANY_RULES) (p2 : Int32) (h0 : Heap) (n0 : Nat) (O0 : Old Z n0 h0) :
    MetFree l (⟨"com/example/rulework/bench/Burst", "makeRules", "(I)[Lcom/example/rulework/rulework/SchedulingRule;"⟩ : MethodName) (head1 (Jvm.Cond.code (⟨"com/example/rulework/bench/Burst", "makeRules", "(I)[Lcom/example/rulework/rulework/SchedulingRule;"⟩ : MethodName) prog_1_method_5_code 4 (some (.array (.object "com/example/rulework/rulework/SchedulingRule"))) :: ws) ({ frames := 2, cells := 2, slots := 1, locals := 27 } : Room)) (fun a U => a = #[(.ref w_ONE_RULE), (.int p2)] ∧ Z.Warmed39 U.vm ∧ U.heap = h0) (fun _ _ _ _ _ => True) (fun _ U o U' => ∃ v L, o = .returned v ∧ Q_mk2 Z w_POOL w_NO_RULE w_ONE_RULE w_MANY_RULES p2 h0 n0 v U'.heap L ∧ FrameEnd U o U' L ({ frames := 2, cells := 2, slots := 1, locals := 27 } : Room).cells ({ frames := 2, cells := 2, slots := 1, locals := 27 } : Room).slots) := by
  refine MetFree.of_bodySF (plainFor_of_name pn_1) hisR ?_
  intro p e s m args below meth c s₁ Bd hml0 hP hK
  obtain ⟨rfl, hZ, hh⟩ := hP
  have hx := Bd.exec
  have hby := Bd.bytes
  have hml : c.maxLocals = 4 := hml0
  have hown : s.vm.findClass "com/example/rulework/bench/Burst" = some m.cls := findClass_of_methodNamed Bd.named
  have hnm := (name_of_methodNamed Bd.named Bd.method).1
  have X0 : Stand p l e ({ frames := 2, cells := 2, slots := 1, locals := 27 } : Room) s m #[(.ref w_ONE_RULE), (.int p2)] below meth c s₁ [] 0 0 := Stand.of_body Bd
  have e0 : s₁.heap = h0 := by rw [← hh, Bd.state]; rfl
  have N0 := Fr.nil n0
  obtain ⟨S_w_POOL, E_w_POOL, F_w_POOL_ordinal, S_w_NO_RULE, E_w_NO_RULE, F_w_NO_RULE_ordinal, S_w_ONE_RULE, E_w_ONE_RULE, F_w_ONE_RULE_ordinal, S_w_MANY_RULES, E_w_MANY_RULES, F_w_MANY_RULES_ordinal⟩ := id G
  have k0 : Way p e below (s₁.setTop (entryFrame m #[(.ref w_ONE_RULE), (.int p2)] 4)) s₁ (mkF m 0 #[rv w_ONE_RULE, iv p2, .unset, .unset] []) := fun t k => castTop (by first | (simp [entryFrame, mkF, argsToLocals, Value.category]; done) | rfl) k
  generalize s₁.setTop (entryFrame m #[(.ref w_ONE_RULE), (.int p2)] 4) = S0 at k0 ⊢
  have k1 : Way p e below S0 s₁ (mkF m 2 #[rv w_ONE_RULE, iv p2, .unset, .unset] [(.int p2), (.ref w_ONE_RULE)]) := by
    intro t k
    refine k0 t ?_
    refine XS.aloadN X0.here hx rfl (hb hby d_prog_1_method_5_code_0) rfl rfl ?_
    show Steps p.tables e below (s₁.setTop (mkF m 1 #[rv w_ONE_RULE, iv p2, .unset, .unset] [(.ref w_ONE_RULE)])) _
    refine XS.iloadN X0.here hx rfl (hb hby d_prog_1_method_5_code_1) rfl ?_
    show Steps p.tables e below (s₁.setTop (mkF m 2 #[rv w_ONE_RULE, iv p2, .unset, .unset] [(.int p2), (.ref w_ONE_RULE)])) _
    exact k
  obtain ⟨cq2, kq2, qq2a, qq2b, qq2c⟩ := isOf hZ e0 (E_w_ONE_RULE.ext O0.2)
  obtain ⟨_, _, ⟨T2, L2, kk2, nn2⟩, -, X2, ⟨Lc2, hQ2, l2, y2, z2⟩, st2⟩ := X0.virtualBack hx (y := (⟨"com/example/rulework/bench/Burst", "ruleCount", "(I)I"⟩ : MethodName)) (z := (⟨"com/example/rulework/bench/Burst", "ruleCount", "(I)I"⟩ : MethodName)) hown (mvT hZ (hw _ (List.mem_of_getElem? (i := 8) rfl))) (mvT hZ (hw _ (List.mem_of_getElem? (i := 9) rfl))) (notFace_of_selects (args := #[]) (mvT hZ (hw _ (List.mem_of_getElem? (i := 11) rfl)))) (mvT hZ (hw _ (List.mem_of_getElem? (i := 11) rfl))) (mvT hZ (hw _ (List.mem_of_getElem? (i := 10) rfl))) (by decide) (backOf (W := 0) (rc2 l Z a0 hw [] w_POOL w_NO_RULE w_ONE_RULE w_MANY_RULES G p2 h0 n0 O0 ) hZ (hw _ (List.mem_of_getElem? (i := 12) rfl)) (hw _ (List.mem_of_getElem? (i := 1) rfl)) (by decide) (by decide)) qq2a qq2c (g := (mkF m 2 #[rv w_ONE_RULE, iv p2, .unset, .unset] [(.int p2), (.ref w_ONE_RULE)])) rfl (by rw [hml]; rfl) (Steps.refl _) (argsL := [(.int p2)]) (rest := []) (lenOf pd_1 rfl) rfl (by show 2 * 0 + _ ≤ _; exact Nat.le_of_eq rfl) (hb hby d_prog_1_method_5_code_2) (fun _ _ => ⟨rfl, e0, (by decide : 0 + 0 ≤ _), (by decide : 0 + 0 ≤ _)⟩)
  dsimp only [Pt.U, Pt.locs, Pt.cells, Pt.slots] at X2 l2 y2 z2 st2 hQ2
  subst l2 y2 z2
  obtain ⟨rfl, Nq2, e2⟩ := hQ2
  have N2 := Fr.app N0 Nq2
  have k3 : Way p e below S0 T2 (mkF m 5 #[rv w_ONE_RULE, iv p2, .unset, .unset] [(.int (1 : Int32))]) := fun t k => k1 t (st2.trans k)
  obtain ⟨T4, h4, c4, X4, e4, E4, A4, B4, V4, st4⟩ := newRE X2 hx hZ hown (hw _ (List.mem_of_getElem? (i := 22) rfl)) (hw _ (List.mem_of_getElem? (i := 23) rfl)) e2 (g := (mkF m 5 #[rv w_ONE_RULE, iv p2, .unset, .unset] [(.int (1 : Int32))])) rfl (hb hby d_prog_1_method_5_code_5) rfl (by decide) (cap := 1) (by decide) (by decide) (by decide) (by decide) (ad := "[Lcom/example/rulework/rulework/SchedulingRule;") (by decide)
  obtain ⟨b4, g4⟩ : ∃ z, z = h0.size := ⟨_, rfl⟩
  rw [← g4] at A4 B4 st4
  have O4 := O0.ext E4
  have K4 : Keep h0 h4 [] := (Keep.refl h0 []).ext E4
  have v4 : Arv Z h4 b4 c4 (.object "com/example/rulework/rulework/SchedulingRule") (1 : Int32) [.null] .null := (Arv.new A4 (by decide)).pad (pad_rep [] .null 1)
  have k5 : Way p e below S0 T4 (mkF m 8 #[rv w_ONE_RULE, iv p2, .unset, .unset] [(.ref b4)]) := fun t k => k3 t (st4 _ k)
  have k6 : Way p e below S0 T4 (mkF m 13 #[rv w_ONE_RULE, iv p2, rv b4, iv (0 : Int32)] [(.ref b4), (.int (0 : Int32))]) := by
    intro t k
    refine k5 t ?_
    refine XS.astoreN X4.here hx rfl (hb hby d_prog_1_method_5_code_8) rfl rfl (l' := #[rv w_ONE_RULE, iv p2, rv b4, .unset]) rfl ?_
    show Steps p.tables e below (T4.setTop (mkF m 9 #[rv w_ONE_RULE, iv p2, rv b4, .unset] [])) _
    refine XS.iconst X4.here hx rfl (hb hby d_prog_1_method_5_code_9) ?_
    show Steps p.tables e below (T4.setTop (mkF m 10 #[rv w_ONE_RULE, iv p2, rv b4, .unset] [(.int (0 : Int32))])) _
    refine XS.istoreN X4.here hx rfl (hb hby d_prog_1_method_5_code_10) rfl (l' := #[rv w_ONE_RULE, iv p2, rv b4, iv (0 : Int32)]) rfl ?_
    show Steps p.tables e below (T4.setTop (mkF m 11 #[rv w_ONE_RULE, iv p2, rv b4, iv (0 : Int32)] [])) _
    refine XS.iloadN X4.here hx rfl (hb hby d_prog_1_method_5_code_11) rfl ?_
    show Steps p.tables e below (T4.setTop (mkF m 12 #[rv w_ONE_RULE, iv p2, rv b4, iv (0 : Int32)] [(.int (0 : Int32))])) _
    refine XS.aloadN X4.here hx rfl (hb hby d_prog_1_method_5_code_12) rfl rfl ?_
    show Steps p.tables e below (T4.setTop (mkF m 13 #[rv w_ONE_RULE, iv p2, rv b4, iv (0 : Int32)] [(.ref b4), (.int (0 : Int32))])) _
    exact k
  obtain ⟨cl7, Ar7, -, S7, M7, -, -⟩ := id (v4)
  have k8 : Way p e below S0 T4 (mkF m 14 #[rv w_ONE_RULE, iv p2, rv b4, iv (0 : Int32)] [(.int (1 : Int32)), (.int (0 : Int32))]) := fun t k => k6 t (X4.arraylength hx (by rw [e4]; exact Ar7.1) (State.isArrayOf_alike hZ.alike Ar7.2.1) (g := (mkF m 13 #[rv w_ONE_RULE, iv p2, rv b4, iv (0 : Int32)] [(.ref b4), (.int (0 : Int32))])) rfl rfl (hb hby d_prog_1_method_5_code_13) _ (by rw [len_of S7 M7]; exact k))
  have k9 : Way p e below S0 T4 (mkF m 19 #[rv w_ONE_RULE, iv p2, rv b4, iv (0 : Int32)] [(.int (0 : Int32)), (.ref b4)]) := by
    intro t k
    refine k8 t ?_
    refine XS.icmpNo X4.here hx rfl (hb hby d_prog_1_method_5_code_14) rfl (tlt ((by decide) : (0 : Int32) < (1 : Int32))).2.1 ?_
    show Steps p.tables e below (T4.setTop (mkF m 17 #[rv w_ONE_RULE, iv p2, rv b4, iv (0 : Int32)] [])) _
    refine XS.aloadN X4.here hx rfl (hb hby d_prog_1_method_5_code_17) rfl rfl ?_
    show Steps p.tables e below (T4.setTop (mkF m 18 #[rv w_ONE_RULE, iv p2, rv b4, iv (0 : Int32)] [(.ref b4)])) _
    refine XS.iloadN X4.here hx rfl (hb hby d_prog_1_method_5_code_18) rfl ?_
    show Steps p.tables e below (T4.setTop (mkF m 19 #[rv w_ONE_RULE, iv p2, rv b4, iv (0 : Int32)] [(.int (0 : Int32)), (.ref b4)])) _
    exact k
  obtain ⟨T10, h10, X10, e10, E10, A10, D10, U10, st10⟩ := newO X4 hx hZ hown (hw _ (List.mem_of_getElem? (i := 26) rfl)) (hw _ (List.mem_of_getElem? (i := 27) rfl)) (hw _ (List.mem_of_getElem? (i := 28) rfl)) e4 (g := (mkF m 19 #[rv w_ONE_RULE, iv p2, rv b4, iv (0 : Int32)] [(.int (0 : Int32)), (.ref b4)])) rfl (hb hby d_prog_1_method_5_code_19) (by decide) (by decide)
  obtain ⟨b10, g10⟩ : ∃ z, z = h4.size := ⟨_, rfl⟩
  rw [← g10] at A10 D10 U10 st10
  have O10 := O4.ext E10
  have K10 : Keep h0 h10 [] := K4.ext E10
  have k11 : Way p e below S0 T10 (mkF m 22 #[rv w_ONE_RULE, iv p2, rv b4, iv (0 : Int32)] [(.ref b10), (.int (0 : Int32)), (.ref b4)]) := fun t k => k9 t (st10 _ k)
  have k12 : Way p e below S0 T10 (mkF m 23 #[rv w_ONE_RULE, iv p2, rv b4, iv (0 : Int32)] [(.ref b10), (.ref b10), (.int (0 : Int32)), (.ref b4)]) := by
    intro t k
    refine k11 t ?_
    refine XS.dup X10.here hx rfl (hb hby d_prog_1_method_5_code_22) rfl rfl ?_
    show Steps p.tables e below (T10.setTop (mkF m 23 #[rv w_ONE_RULE, iv p2, rv b4, iv (0 : Int32)] [(.ref b10), (.ref b10), (.int (0 : Int32)), (.ref b4)])) _
    exact k
  obtain ⟨_, _, ⟨T13, L13, kk13, nn13⟩, -, X13, ⟨Lc13, hQ13, l13, y13, z13⟩, st13⟩ := own_specialR X10 hx (y := (⟨"com/example/rulework/bench/Burst$SelfConflictingRule", "<init>", "()V"⟩ : MethodName)) rfl (mvT hZ (hw _ (List.mem_of_getElem? (i := 30) rfl))) (mvT hZ (hw _ (List.mem_of_getElem? (i := 31) rfl))) (fun U r hW hn => own_ready e hZ hown (by decide) (hw _ (List.mem_of_getElem? (i := 29) rfl)) hW hn) (backOf (W := 3) (sci l Z a0 hw [] w_POOL w_NO_RULE w_ONE_RULE w_MANY_RULES G b10 h10 n0 O10 ) hZ (hw _ (List.mem_of_getElem? (i := 31) rfl)) (hw _ (List.mem_of_getElem? (i := 28) rfl)) (by decide) (by decide)) (g := (mkF m 23 #[rv w_ONE_RULE, iv p2, rv b4, iv (0 : Int32)] [(.ref b10), (.ref b10), (.int (0 : Int32)), (.ref b4)])) rfl (by rw [hml]; rfl) (Steps.refl _) (a := b10) (argsL := []) (rest := [(.ref b10), (.int (0 : Int32)), (.ref b4)]) (lenOf pd_2 rfl) rfl (by show 2 * 0 + _ ≤ _; exact Nat.le_of_eq rfl) (hb hby d_prog_1_method_5_code_23) (fun _ _ => ⟨rfl, e10, (by decide : 2 + 0 ≤ _), (by decide : 1 + 0 ≤ _)⟩)
  dsimp only [Pt.U, Pt.locs, Pt.cells, Pt.slots] at X13 l13 y13 z13 st13 hQ13
  subst l13 y13 z13
  obtain ⟨rfl, Nq13, e13⟩ := hQ13
  have N13 := Fr.app N2 Nq13
  have k14 : Way p e below S0 T13 (mkF m 26 #[rv w_ONE_RULE, iv p2, rv b4, iv (0 : Int32)] [(.ref b10), (.int (0 : Int32)), (.ref b4)]) := fun t k => k12 t (st13.trans k)
  have f15 : Arv Z h10 b4 c4 (.object "com/example/rulework/rulework/SchedulingRule") (1 : Int32) [.null] .null := (v4.ext E10)
  obtain ⟨cl16, Ar16, qc16, S16, M16, U16, G16⟩ := id (f15)
  have hin16 : ¬ ((0 : Int32) < 0 ∨ cl16.slots.size ≤ ((0 : Int32)).toNatClampNeg) := inb_of S16 ⟨by decide, by decide⟩
  obtain ⟨T16, h16, X16, e16, W16, st16⟩ := stR X13 hx hZ e13 Ar16 (j := (0 : Int32)) hin16 rfl (Sto.ofV Ar16 qc16 V4 (Ins.of_exa A10 (hw _ (List.mem_of_getElem? (i := 35) rfl)))) (g := (mkF m 26 #[rv w_ONE_RULE, iv p2, rv b4, iv (0 : Int32)] [(.ref b10), (.int (0 : Int32)), (.ref b4)])) rfl rfl (hb hby d_prog_1_method_5_code_26)
  have ge17 : n0 ≤ b4 := Nat.le_trans (own_old O0) (Nat.le_of_eq g4.symm)
  have O16 := O10.wr W16 ge17
  have N16 := Fr.snoc X16 N13 ge17
  have gz18 : h0.size ≤ b4 := Nat.le_trans (Keep.refl h0 []).1 (Nat.le_of_eq g4.symm)
  have K16 : Keep h0 h16 [] := K10.wr W16 (Or.inr gz18)
  have va16 : Arv Z h16 b4 c4 (.object "com/example/rulework/rulework/SchedulingRule") (1 : Int32) [(.ref b10)] .null := Arv.set Ar16 qc16 S16 M16 U16 G16 rfl W16 0 rfl (Nat.le_of_ble_eq_true rfl)
  have k19 : Way p e below S0 T16 (mkF m 27 #[rv w_ONE_RULE, iv p2, rv b4, iv (0 : Int32)] []) := fun t k => k14 t (st16 _ k)
  have k20 : Way p e below S0 T16 (mkF m 13 #[rv w_ONE_RULE, iv p2, rv b4, iv (1 : Int32)] [(.ref b4), (.int (1 : Int32))]) := by
    intro t k
    refine k19 t ?_
    refine XS.iinc X16.here hx rfl (hb hby d_prog_1_method_5_code_27) rfl (l' := #[rv w_ONE_RULE, iv p2, rv b4, iv (1 : Int32)]) rfl ?_
    show Steps p.tables e below (T16.setTop (mkF m 30 #[rv w_ONE_RULE, iv p2, rv b4, iv (1 : Int32)] [])) _
    refine XS.goto X16.here hx rfl (pc0 := 30) (pc' := 11) rfl (hb hby d_prog_1_method_5_code_30) (by decide) (by decide) ?_
    show Steps p.tables e below (T16.setTop (mkF m 11 #[rv w_ONE_RULE, iv p2, rv b4, iv (1 : Int32)] [])) _
    refine XS.iloadN X16.here hx rfl (hb hby d_prog_1_method_5_code_11) rfl ?_
    show Steps p.tables e below (T16.setTop (mkF m 12 #[rv w_ONE_RULE, iv p2, rv b4, iv (1 : Int32)] [(.int (1 : Int32))])) _
    refine XS.aloadN X16.here hx rfl (hb hby d_prog_1_method_5_code_12) rfl rfl ?_
    show Steps p.tables e below (T16.setTop (mkF m 13 #[rv w_ONE_RULE, iv p2, rv b4, iv (1 : Int32)] [(.ref b4), (.int (1 : Int32))])) _
    exact k
  obtain ⟨cl21, Ar21, -, S21, M21, -, -⟩ := id (va16)
  have k22 : Way p e below S0 T16 (mkF m 14 #[rv w_ONE_RULE, iv p2, rv b4, iv (1 : Int32)] [(.int (1 : Int32)), (.int (1 : Int32))]) := fun t k => k20 t (X16.arraylength hx (by rw [e16]; exact Ar21.1) (State.isArrayOf_alike hZ.alike Ar21.2.1) (g := (mkF m 13 #[rv w_ONE_RULE, iv p2, rv b4, iv (1 : Int32)] [(.ref b4), (.int (1 : Int32))])) rfl rfl (hb hby d_prog_1_method_5_code_13) _ (by rw [len_of S21 M21]; exact k))
  have k23 : Way p e below S0 T16 (mkF m 34 #[rv w_ONE_RULE, iv p2, rv b4, iv (1 : Int32)] [(.ref b4)]) := by
    intro t k
    refine k22 t ?_
    refine XS.icmpYes X16.here hx rfl (pc0 := 14) (pc' := 33) rfl (hb hby d_prog_1_method_5_code_14) rfl (flt ((by decide) : ¬ ((1 : Int32) < (1 : Int32)))).2.1 (by decide) (by decide) ?_
    show Steps p.tables e below (T16.setTop (mkF m 33 #[rv w_ONE_RULE, iv p2, rv b4, iv (1 : Int32)] [])) _
    refine XS.aloadN X16.here hx rfl (hb hby d_prog_1_method_5_code_33) rfl rfl ?_
    show Steps p.tables e below (T16.setTop (mkF m 34 #[rv w_ONE_RULE, iv p2, rv b4, iv (1 : Int32)] [(.ref b4)])) _
    exact k
  obtain ⟨fs, hr, hrun, hended, hW, hsame⟩ := X16.leave (v := some (.ref b4)) (fun h => by rw [Bd.returns] at h; cases h)
  have gz24 : h0.size ≤ b10 := Nat.le_trans K4.1 (Nat.le_of_eq g10.symm)
  have f25 : Exa Z h16 b10 "com/example/rulework/bench/Burst$SelfConflictingRule" := (A10.wr W16)
  refine ⟨_, _, k23 _ (retOut X16 hx Bd.returns rfl (Or.inr (Or.inr (Or.inr (Or.inr ⟨rfl, rfl, rfl⟩)))) (hb hby d_prog_1_method_5_code_34) hr), hrun, hended, _, _, rfl, ?_, ⟨_, rfl⟩, hW, hsame.mono (by decide) (by decide)⟩
  show Q_mk2 Z w_POOL w_NO_RULE w_ONE_RULE w_MANY_RULES p2 h0 n0 _ T16.heap _
  rw [e16]
  exact ⟨b4, c4, b10, rfl, N16, K16, gz18, va16, gz24, f25⟩
def Q_mkm0 (Z : State) (w_POOL : Addr) (w_NO_RULE : Addr) (w_ONE_RULE : Addr) (w_MANY_RULES : Addr)  (h0 : Heap) (n0 : Nat) (v : Option Value) (h : Heap) (L : List Loc) : Prop := ∃ b1 : Addr, ∃ kc : ClassId, (v = some (.ref b1)) ∧ (Fr n0 L) ∧ (Keep h0 h []) ∧ (h0.size ≤ b1) ∧ (Arv Z h b1 kc (.object "com/example/rulework/rulework/SchedulingRule") (0 : Int32) [] .null)
set_option maxRecDepth 65536 in
set_option maxHeartbeats 40000000 in
theorem mkm0 (l : Launch) (Z : State) (a0 : Array Value) (hw : ∀ d ∈ tables_1, d.before a0 Z = true) (ws : List Jvm.Cond) (w_POOL : Addr) (w_NO_RULE : Addr) (w_ONE_RULE : Addr) (w_MANY_RULES : Addr) (G : Gst Z w_POOL w_NO_RULE w_ONE_RULE w_MANY_RULES)  (h0 : Heap) (n0 : Nat) (O0 : Old Z n0 h0) :
    MetFree l (⟨"com/example/rulework/bench/Burst", "makeRules", "(I)[Lcom/example/rulework/rulework/SchedulingRule;"⟩ : MethodName) (head1 (Jvm.Cond.code (⟨"com/example/rulework/bench/Burst", "makeRules", "(I)[Lcom/example/rulework/rulework/SchedulingRule;"⟩ : MethodName) prog_1_method_5_code 4 (some (.array (.object "com/example/rulework/rulework/SchedulingRule"))) :: ws) ({ frames := 2, cells := 1, slots := 0, locals := 25 } : Room)) (fun a U => a = #[(.ref w_MANY_RULES), (.int (0 : Int32))] ∧ Z.Warmed39 U.vm ∧ U.heap = h0) (fun _ _ _ _ _ => True) (fun _ U o U' => ∃ v L, o = .returned v ∧ Q_mkm0 Z w_POOL w_NO_RULE w_ONE_RULE w_MANY_RULES  h0 n0 v U'.heap L ∧ FrameEnd U o U' L ({ frames := 2, cells := 1, slots := 0, locals := 25 } : Room).cells ({ frames := 2, cells := 1, slots := 0, locals := 25 } : Room).slots) := by
  refine MetFree.of_bodySF (plainFor_of_name pn_1) hisR ?_
  intro p e s m args below meth c s₁ Bd hml0 hP hK
  obtain ⟨rfl, hZ, hh⟩ := hP
  have hx := Bd.exec
  have hby := Bd.bytes
  have hml : c.maxLocals = 4 := hml0
  have hown : s.vm.findClass "com/example/rulework/bench/Burst" = some m.cls := findClass_of_methodNamed Bd.named
  have hnm := (name_of_methodNamed Bd.named Bd.method).1
  have X0 : Stand p l e ({ frames := 2, cells := 1, slots := 0, locals := 25 } : Room) s m #[(.ref w_MANY_RULES), (.int (0 : Int32))] below meth c s₁ [] 0 0 := Stand.of_body Bd
  have e0 : s₁.heap = h0 := by rw [← hh, Bd.state]; rfl
  have N0 := Fr.nil n0
  obtain ⟨S_w_POOL, E_w_POOL, F_w_POOL_ordinal, S_w_NO_RULE, E_w_NO_RULE, F_w_NO_RULE_ordinal, S_w_ONE_RULE, E_w_ONE_RULE, F_w_ONE_RULE_ordinal, S_w_MANY_RULES, E_w_MANY_RULES, F_w_MANY_RULES_ordinal⟩ := id G
  have k0 : Way p e below (s₁.setTop (entryFrame m #[(.ref w_MANY_RULES), (.int (0 : Int32))] 4)) s₁ (mkF m 0 #[rv w_MANY_RULES, iv (0 : Int32), .unset, .unset] []) := fun t k => castTop (by first | (simp [entryFrame, mkF, argsToLocals, Value.category]; done) | rfl) k
  generalize s₁.setTop (entryFrame m #[(.ref w_MANY_RULES), (.int (0 : Int32))] 4) = S0 at k0 ⊢
  have k1 : Way p e below S0 s₁ (mkF m 2 #[rv w_MANY_RULES, iv (0 : Int32), .unset, .unset] [(.int (0 : Int32)), (.ref w_MANY_RULES)]) := by
    intro t k
    refine k0 t ?_
    refine XS.aloadN X0.here hx rfl (hb hby d_prog_1_method_5_code_0) rfl rfl ?_
    show Steps p.tables e below (s₁.setTop (mkF m 1 #[rv w_MANY_RULES, iv (0 : Int32), .unset, .unset] [(.ref w_MANY_RULES)])) _
    refine XS.iloadN X0.here hx rfl (hb hby d_prog_1_method_5_code_1) rfl ?_
    show Steps p.tables e below (s₁.setTop (mkF m 2 #[rv w_MANY_RULES, iv (0 : Int32), .unset, .unset] [(.int (0 : Int32)), (.ref w_MANY_RULES)])) _
    exact k
  obtain ⟨cq2, kq2, qq2a, qq2b, qq2c⟩ := isOf hZ e0 (E_w_MANY_RULES.ext O0.2)
  obtain ⟨_, _, ⟨T2, L2, kk2, nn2⟩, -, X2, ⟨Lc2, hQ2, l2, y2, z2⟩, st2⟩ := X0.virtualBack hx (y := (⟨"com/example/rulework/bench/Burst", "ruleCount", "(I)I"⟩ : MethodName)) (z := (⟨"com/example/rulework/bench/Burst", "ruleCount", "(I)I"⟩ : MethodName)) hown (mvT hZ (hw _ (List.mem_of_getElem? (i := 8) rfl))) (mvT hZ (hw _ (List.mem_of_getElem? (i := 9) rfl))) (notFace_of_selects (args := #[]) (mvT hZ (hw _ (List.mem_of_getElem? (i := 11) rfl)))) (mvT hZ (hw _ (List.mem_of_getElem? (i := 11) rfl))) (mvT hZ (hw _ (List.mem_of_getElem? (i := 10) rfl))) (by decide) (backOf (W := 0) (rc3 l Z a0 hw [] w_POOL w_NO_RULE w_ONE_RULE w_MANY_RULES G (0 : Int32) h0 n0 O0 ) hZ (hw _ (List.mem_of_getElem? (i := 12) rfl)) (hw _ (List.mem_of_getElem? (i := 1) rfl)) (by decide) (by decide)) qq2a qq2c (g := (mkF m 2 #[rv w_MANY_RULES, iv (0 : Int32), .unset, .unset] [(.int (0 : Int32)), (.ref w_MANY_RULES)])) rfl (by rw [hml]; rfl) (Steps.refl _) (argsL := [(.int (0 : Int32))]) (rest := []) (lenOf pd_1 rfl) rfl (by show 2 * 0 + _ ≤ _; exact Nat.le_of_eq rfl) (hb hby d_prog_1_method_5_code_2) (fun _ _ => ⟨rfl, e0, (by decide : 0 + 0 ≤ _), (by decide : 0 + 0 ≤ _)⟩)
  dsimp only [Pt.U, Pt.locs, Pt.cells, Pt.slots] at X2 l2 y2 z2 st2 hQ2
  subst l2 y2 z2
  obtain ⟨rfl, Nq2, e2⟩ := hQ2
  have N2 := Fr.app N0 Nq2
  have k3 : Way p e below S0 T2 (mkF m 5 #[rv w_MANY_RULES, iv (0 : Int32), .unset, .unset] [(.int (0 : Int32))]) := fun t k => k1 t (st2.trans k)
  obtain ⟨T4, h4, c4, X4, e4, E4, A4, B4, V4, st4⟩ := newRE X2 hx hZ hown (hw _ (List.mem_of_getElem? (i := 22) rfl)) (hw _ (List.mem_of_getElem? (i := 23) rfl)) e2 (g := (mkF m 5 #[rv w_MANY_RULES, iv (0 : Int32), .unset, .unset] [(.int (0 : Int32))])) rfl (hb hby d_prog_1_method_5_code_5) rfl (by decide) (cap := 0) (by decide) (by decide) (by decide) (by decide) (ad := "[Lcom/example/rulework/rulework/SchedulingRule;") (by decide)
  obtain ⟨b4, g4⟩ : ∃ z, z = h0.size := ⟨_, rfl⟩
  rw [← g4] at A4 B4 st4
  have O4 := O0.ext E4
  have K4 : Keep h0 h4 [] := (Keep.refl h0 []).ext E4
  have v4 : Arv Z h4 b4 c4 (.object "com/example/rulework/rulework/SchedulingRule") (0 : Int32) [] .null := (Arv.new A4 (by decide)).pad (pad_rep [] .null 0)
  have k5 : Way p e below S0 T4 (mkF m 8 #[rv w_MANY_RULES, iv (0 : Int32), .unset, .unset] [(.ref b4)]) := fun t k => k3 t (st4 _ k)
  have k6 : Way p e below S0 T4 (mkF m 13 #[rv w_MANY_RULES, iv (0 : Int32), rv b4, iv (0 : Int32)] [(.ref b4), (.int (0 : Int32))]) := by
    intro t k
    refine k5 t ?_
    refine XS.astoreN X4.here hx rfl (hb hby d_prog_1_method_5_code_8) rfl rfl (l' := #[rv w_MANY_RULES, iv (0 : Int32), rv b4, .unset]) rfl ?_
    show Steps p.tables e below (T4.setTop (mkF m 9 #[rv w_MANY_RULES, iv (0 : Int32), rv b4, .unset] [])) _
    refine XS.iconst X4.here hx rfl (hb hby d_prog_1_method_5_code_9) ?_
    show Steps p.tables e below (T4.setTop (mkF m 10 #[rv w_MANY_RULES, iv (0 : Int32), rv b4, .unset] [(.int (0 : Int32))])) _
    refine XS.istoreN X4.here hx rfl (hb hby d_prog_1_method_5_code_10) rfl (l' := #[rv w_MANY_RULES, iv (0 : Int32), rv b4, iv (0 : Int32)]) rfl ?_
    show Steps p.tables e below (T4.setTop (mkF m 11 #[rv w_MANY_RULES, iv (0 : Int32), rv b4, iv (0 : Int32)] [])) _
    refine XS.iloadN X4.here hx rfl (hb hby d_prog_1_method_5_code_11) rfl ?_
    show Steps p.tables e below (T4.setTop (mkF m 12 #[rv w_MANY_RULES, iv (0 : Int32), rv b4, iv (0 : Int32)] [(.int (0 : Int32))])) _
    refine XS.aloadN X4.here hx rfl (hb hby d_prog_1_method_5_code_12) rfl rfl ?_
    show Steps p.tables e below (T4.setTop (mkF m 13 #[rv w_MANY_RULES, iv (0 : Int32), rv b4, iv (0 : Int32)] [(.ref b4), (.int (0 : Int32))])) _
    exact k
  obtain ⟨cl7, Ar7, -, S7, M7, -, -⟩ := id (v4)
  have k8 : Way p e below S0 T4 (mkF m 14 #[rv w_MANY_RULES, iv (0 : Int32), rv b4, iv (0 : Int32)] [(.int (0 : Int32)), (.int (0 : Int32))]) := fun t k => k6 t (X4.arraylength hx (by rw [e4]; exact Ar7.1) (State.isArrayOf_alike hZ.alike Ar7.2.1) (g := (mkF m 13 #[rv w_MANY_RULES, iv (0 : Int32), rv b4, iv (0 : Int32)] [(.ref b4), (.int (0 : Int32))])) rfl rfl (hb hby d_prog_1_method_5_code_13) _ (by rw [len_of S7 M7]; exact k))
  have k9 : Way p e below S0 T4 (mkF m 34 #[rv w_MANY_RULES, iv (0 : Int32), rv b4, iv (0 : Int32)] [(.ref b4)]) := by
    intro t k
    refine k8 t ?_
    refine XS.icmpYes X4.here hx rfl (pc0 := 14) (pc' := 33) rfl (hb hby d_prog_1_method_5_code_14) rfl (flt ((by decide) : ¬ ((0 : Int32) < (0 : Int32)))).2.1 (by decide) (by decide) ?_
    show Steps p.tables e below (T4.setTop (mkF m 33 #[rv w_MANY_RULES, iv (0 : Int32), rv b4, iv (0 : Int32)] [])) _
    refine XS.aloadN X4.here hx rfl (hb hby d_prog_1_method_5_code_33) rfl rfl ?_
    show Steps p.tables e below (T4.setTop (mkF m 34 #[rv w_MANY_RULES, iv (0 : Int32), rv b4, iv (0 : Int32)] [(.ref b4)])) _
    exact k
  obtain ⟨fs, hr, hrun, hended, hW, hsame⟩ := X4.leave (v := some (.ref b4)) (fun h => by rw [Bd.returns] at h; cases h)
  have gz10 : h0.size ≤ b4 := Nat.le_trans (Keep.refl h0 []).1 (Nat.le_of_eq g4.symm)
  refine ⟨_, _, k9 _ (retOut X4 hx Bd.returns rfl (Or.inr (Or.inr (Or.inr (Or.inr ⟨rfl, rfl, rfl⟩)))) (hb hby d_prog_1_method_5_code_34) hr), hrun, hended, _, _, rfl, ?_, ⟨_, rfl⟩, hW, hsame.mono (by decide) (by decide)⟩
  show Q_mkm0 Z w_POOL w_NO_RULE w_ONE_RULE w_MANY_RULES  h0 n0 _ T4.heap _
  rw [e4]
  exact ⟨b4, c4, rfl, N2, K4, gz10, v4⟩
def Q_mkm1 (Z : State) (w_POOL : Addr) (w_NO_RULE : Addr) (w_ONE_RULE : Addr) (w_MANY_RULES : Addr)  (h0 : Heap) (n0 : Nat) (v : Option Value) (h : Heap) (L : List Loc) : Prop := ∃ b1 : Addr, ∃ kc : ClassId, ∃ x0 : Addr, (v = some (.ref b1)) ∧ (Fr n0 L) ∧ (Keep h0 h []) ∧ (h0.size ≤ b1) ∧ (Arv Z h b1 kc (.object "com/example/rulework/rulework/SchedulingRule") (1 : Int32) [(.ref x0)] .null) ∧ (h0.size ≤ x0) ∧ (Exa Z h x0 "com/example/rulework/bench/Burst$SelfConflictingRule")
set_option maxRecDepth 65536 in
set_option maxHeartbeats 40000000 in
theorem mkm1 (l : Launch) (Z : State) (a0 : Array Value) (hw : ∀ d ∈ tables_1, d.before a0 Z = true) (ws : List Jvm.Cond) (w_POOL : Addr) (w_NO_RULE : Addr) (w_ONE_RULE : Addr) (w_MANY_RULES : Addr) (G : Gst Z w_POOL w_NO_RULE w_ONE_RULE w_MANY_RULES)  (h0 : Heap) (n0 : Nat) (O0 : Old Z n0 h0) :
    MetFree l (⟨"com/example/rulework/bench/Burst", "makeRules", "(I)[Lcom/example/rulework/rulework/SchedulingRule;"⟩ : MethodName) (head1 (Jvm.Cond.code (⟨"com/example/rulework/bench/Burst", "makeRules", "(I)[Lcom/example/rulework/rulework/SchedulingRule;"⟩ : MethodName) prog_1_method_5_code 4 (some (.array (.object "com/example/rulework/rulework/SchedulingRule"))) :: ws) ({ frames := 2, cells := 2, slots := 1, locals := 27 } : Room)) (fun a U => a = #[(.ref w_MANY_RULES), (.int (1 : Int32))] ∧ Z.Warmed39 U.vm ∧ U.heap = h0) (fun _ _ _ _ _ => True) (fun _ U o U' => ∃ v L, o = .returned v ∧ Q_mkm1 Z w_POOL w_NO_RULE w_ONE_RULE w_MANY_RULES  h0 n0 v U'.heap L ∧ FrameEnd U o U' L ({ frames := 2, cells := 2, slots := 1, locals := 27 } : Room).cells ({ frames := 2, cells := 2, slots := 1, locals := 27 } : Room).slots) := by
  refine MetFree.of_bodySF (plainFor_of_name pn_1) hisR ?_
  intro p e s m args below meth c s₁ Bd hml0 hP hK
  obtain ⟨rfl, hZ, hh⟩ := hP
  have hx := Bd.exec
  have hby := Bd.bytes
  have hml : c.maxLocals = 4 := hml0
  have hown : s.vm.findClass "com/example/rulework/bench/Burst" = some m.cls := findClass_of_methodNamed Bd.named
  have hnm := (name_of_methodNamed Bd.named Bd.method).1
  have X0 : Stand p l e ({ frames := 2, cells := 2, slots := 1, locals := 27 } : Room) s m #[(.ref w_MANY_RULES), (.int (1 : Int32))] below meth c s₁ [] 0 0 := Stand.of_body Bd
  have e0 : s₁.heap = h0 := by rw [← hh, Bd.state]; rfl
  have N0 := Fr.nil n0
  obtain ⟨S_w_POOL, E_w_POOL, F_w_POOL_ordinal, S_w_NO_RULE, E_w_NO_RULE, F_w_NO_RULE_ordinal, S_w_ONE_RULE, E_w_ONE_RULE, F_w_ONE_RULE_ordinal, S_w_MANY_RULES, E_w_MANY_RULES, F_w_MANY_RULES_ordinal⟩ := id G
  have k0 : Way p e below (s₁.setTop (entryFrame m #[(.ref w_MANY_RULES), (.int (1 : Int32))] 4)) s₁ (mkF m 0 #[rv w_MANY_RULES, iv (1 : Int32), .unset, .unset] []) := fun t k => castTop (by first | (simp [entryFrame, mkF, argsToLocals, Value.category]; done) | rfl) k
  generalize s₁.setTop (entryFrame m #[(.ref w_MANY_RULES), (.int (1 : Int32))] 4) = S0 at k0 ⊢
  have k1 : Way p e below S0 s₁ (mkF m 2 #[rv w_MANY_RULES, iv (1 : Int32), .unset, .unset] [(.int (1 : Int32)), (.ref w_MANY_RULES)]) := by
    intro t k
    refine k0 t ?_
    refine XS.aloadN X0.here hx rfl (hb hby d_prog_1_method_5_code_0) rfl rfl ?_
    show Steps p.tables e below (s₁.setTop (mkF m 1 #[rv w_MANY_RULES, iv (1 : Int32), .unset, .unset] [(.ref w_MANY_RULES)])) _
    refine XS.iloadN X0.here hx rfl (hb hby d_prog_1_method_5_code_1) rfl ?_
    show Steps p.tables e below (s₁.setTop (mkF m 2 #[rv w_MANY_RULES, iv (1 : Int32), .unset, .unset] [(.int (1 : Int32)), (.ref w_MANY_RULES)])) _
    exact k
  obtain ⟨cq2, kq2, qq2a, qq2b, qq2c⟩ := isOf hZ e0 (E_w_MANY_RULES.ext O0.2)
  obtain ⟨_, _, ⟨T2, L2, kk2, nn2⟩, -, X2, ⟨Lc2, hQ2, l2, y2, z2⟩, st2⟩ := X0.virtualBack hx (y := (⟨"com/example/rulework/bench/Burst", "ruleCount", "(I)I"⟩ : MethodName)) (z := (⟨"com/example/rulework/bench/Burst", "ruleCount", "(I)I"⟩ : MethodName)) hown (mvT hZ (hw _ (List.mem_of_getElem? (i := 8) rfl))) (mvT hZ (hw _ (List.mem_of_getElem? (i := 9) rfl))) (notFace_of_selects (args := #[]) (mvT hZ (hw _ (List.mem_of_getElem? (i := 11) rfl)))) (mvT hZ (hw _ (List.mem_of_getElem? (i := 11) rfl))) (mvT hZ (hw _ (List.mem_of_getElem? (i := 10) rfl))) (by decide) (backOf (W := 0) (rc3 l Z a0 hw [] w_POOL w_NO_RULE w_ONE_RULE w_MANY_RULES G (1 : Int32) h0 n0 O0 ) hZ (hw _ (List.mem_of_getElem? (i := 12) rfl)) (hw _ (List.mem_of_getElem? (i := 1) rfl)) (by decide) (by decide)) qq2a qq2c (g := (mkF m 2 #[rv w_MANY_RULES, iv (1 : Int32), .unset, .unset] [(.int (1 : Int32)), (.ref w_MANY_RULES)])) rfl (by rw [hml]; rfl) (Steps.refl _) (argsL := [(.int (1 : Int32))]) (rest := []) (lenOf pd_1 rfl) rfl (by show 2 * 0 + _ ≤ _; exact Nat.le_of_eq rfl) (hb hby d_prog_1_method_5_code_2) (fun _ _ => ⟨rfl, e0, (by decide : 0 + 0 ≤ _), (by decide : 0 + 0 ≤ _)⟩)
  dsimp only [Pt.U, Pt.locs, Pt.cells, Pt.slots] at X2 l2 y2 z2 st2 hQ2
  subst l2 y2 z2
  obtain ⟨rfl, Nq2, e2⟩ := hQ2
  have N2 := Fr.app N0 Nq2
  have k3 : Way p e below S0 T2 (mkF m 5 #[rv w_MANY_RULES, iv (1 : Int32), .unset, .unset] [(.int (1 : Int32))]) := fun t k => k1 t (st2.trans k)
  obtain ⟨T4, h4, c4, X4, e4, E4, A4, B4, V4, st4⟩ := newRE X2 hx hZ hown (hw _ (List.mem_of_getElem? (i := 22) rfl)) (hw _ (List.mem_of_getElem? (i := 23) rfl)) e2 (g := (mkF m 5 #[rv w_MANY_RULES, iv (1 : Int32), .unset, .unset] [(.int (1 : Int32))])) rfl (hb hby d_prog_1_method_5_code_5) rfl (by decide) (cap := 1) (by decide) (by decide) (by decide) (by decide) (ad := "[Lcom/example/rulework/rulework/SchedulingRule;") (by decide)
  obtain ⟨b4, g4⟩ : ∃ z, z = h0.size := ⟨_, rfl⟩
  rw [← g4] at A4 B4 st4
  have O4 := O0.ext E4
  have K4 : Keep h0 h4 [] := (Keep.refl h0 []).ext E4
  have v4 : Arv Z h4 b4 c4 (.object "com/example/rulework/rulework/SchedulingRule") (1 : Int32) [.null] .null := (Arv.new A4 (by decide)).pad (pad_rep [] .null 1)
  have k5 : Way p e below S0 T4 (mkF m 8 #[rv w_MANY_RULES, iv (1 : Int32), .unset, .unset] [(.ref b4)]) := fun t k => k3 t (st4 _ k)
  have k6 : Way p e below S0 T4 (mkF m 13 #[rv w_MANY_RULES, iv (1 : Int32), rv b4, iv (0 : Int32)] [(.ref b4), (.int (0 : Int32))]) := by
    intro t k
    refine k5 t ?_
    refine XS.astoreN X4.here hx rfl (hb hby d_prog_1_method_5_code_8) rfl rfl (l' := #[rv w_MANY_RULES, iv (1 : Int32), rv b4, .unset]) rfl ?_
    show Steps p.tables e below (T4.setTop (mkF m 9 #[rv w_MANY_RULES, iv (1 : Int32), rv b4, .unset] [])) _
    refine XS.iconst X4.here hx rfl (hb hby d_prog_1_method_5_code_9) ?_
    show Steps p.tables e below (T4.setTop (mkF m 10 #[rv w_MANY_RULES, iv (1 : Int32), rv b4, .unset] [(.int (0 : Int32))])) _
    refine XS.istoreN X4.here hx rfl (hb hby d_prog_1_method_5_code_10) rfl (l' := #[rv w_MANY_RULES, iv (1 : Int32), rv b4, iv (0 : Int32)]) rfl ?_
    show Steps p.tables e below (T4.setTop (mkF m 11 #[rv w_MANY_RULES, iv (1 : Int32), rv b4, iv (0 : Int32)] [])) _
    refine XS.iloadN X4.here hx rfl (hb hby d_prog_1_method_5_code_11) rfl ?_
    show Steps p.tables e below (T4.setTop (mkF m 12 #[rv w_MANY_RULES, iv (1 : Int32), rv b4, iv (0 : Int32)] [(.int (0 : Int32))])) _
    refine XS.aloadN X4.here hx rfl (hb hby d_prog_1_method_5_code_12) rfl rfl ?_
    show Steps p.tables e below (T4.setTop (mkF m 13 #[rv w_MANY_RULES, iv (1 : Int32), rv b4, iv (0 : Int32)] [(.ref b4), (.int (0 : Int32))])) _
    exact k
  obtain ⟨cl7, Ar7, -, S7, M7, -, -⟩ := id (v4)
  have k8 : Way p e below S0 T4 (mkF m 14 #[rv w_MANY_RULES, iv (1 : Int32), rv b4, iv (0 : Int32)] [(.int (1 : Int32)), (.int (0 : Int32))]) := fun t k => k6 t (X4.arraylength hx (by rw [e4]; exact Ar7.1) (State.isArrayOf_alike hZ.alike Ar7.2.1) (g := (mkF m 13 #[rv w_MANY_RULES, iv (1 : Int32), rv b4, iv (0 : Int32)] [(.ref b4), (.int (0 : Int32))])) rfl rfl (hb hby d_prog_1_method_5_code_13) _ (by rw [len_of S7 M7]; exact k))
  have k9 : Way p e below S0 T4 (mkF m 19 #[rv w_MANY_RULES, iv (1 : Int32), rv b4, iv (0 : Int32)] [(.int (0 : Int32)), (.ref b4)]) := by
    intro t k
    refine k8 t ?_
    refine XS.icmpNo X4.here hx rfl (hb hby d_prog_1_method_5_code_14) rfl (tlt ((by decide) : (0 : Int32) < (1 : Int32))).2.1 ?_
    show Steps p.tables e below (T4.setTop (mkF m 17 #[rv w_MANY_RULES, iv (1 : Int32), rv b4, iv (0 : Int32)] [])) _
    refine XS.aloadN X4.here hx rfl (hb hby d_prog_1_method_5_code_17) rfl rfl ?_
    show Steps p.tables e below (T4.setTop (mkF m 18 #[rv w_MANY_RULES, iv (1 : Int32), rv b4, iv (0 : Int32)] [(.ref b4)])) _
    refine XS.iloadN X4.here hx rfl (hb hby d_prog_1_method_5_code_18) rfl ?_
    show Steps p.tables e below (T4.setTop (mkF m 19 #[rv w_MANY_RULES, iv (1 : Int32), rv b4, iv (0 : Int32)] [(.int (0 : Int32)), (.ref b4)])) _
    exact k
  obtain ⟨T10, h10, X10, e10, E10, A10, D10, U10, st10⟩ := newO X4 hx hZ hown (hw _ (List.mem_of_getElem? (i := 26) rfl)) (hw _ (List.mem_of_getElem? (i := 27) rfl)) (hw _ (List.mem_of_getElem? (i := 28) rfl)) e4 (g := (mkF m 19 #[rv w_MANY_RULES, iv (1 : Int32), rv b4, iv (0 : Int32)] [(.int (0 : Int32)), (.ref b4)])) rfl (hb hby d_prog_1_method_5_code_19) (by decide) (by decide)
  obtain ⟨b10, g10⟩ : ∃ z, z = h4.size := ⟨_, rfl⟩
  rw [← g10] at A10 D10 U10 st10
  have O10 := O4.ext E10
  have K10 : Keep h0 h10 [] := K4.ext E10
  have k11 : Way p e below S0 T10 (mkF m 22 #[rv w_MANY_RULES, iv (1 : Int32), rv b4, iv (0 : Int32)] [(.ref b10), (.int (0 : Int32)), (.ref b4)]) := fun t k => k9 t (st10 _ k)
  have k12 : Way p e below S0 T10 (mkF m 23 #[rv w_MANY_RULES, iv (1 : Int32), rv b4, iv (0 : Int32)] [(.ref b10), (.ref b10), (.int (0 : Int32)), (.ref b4)]) := by
    intro t k
    refine k11 t ?_
    refine XS.dup X10.here hx rfl (hb hby d_prog_1_method_5_code_22) rfl rfl ?_
    show Steps p.tables e below (T10.setTop (mkF m 23 #[rv w_MANY_RULES, iv (1 : Int32), rv b4, iv (0 : Int32)] [(.ref b10), (.ref b10), (.int (0 : Int32)), (.ref b4)])) _
    exact k
  obtain ⟨_, _, ⟨T13, L13, kk13, nn13⟩, -, X13, ⟨Lc13, hQ13, l13, y13, z13⟩, st13⟩ := own_specialR X10 hx (y := (⟨"com/example/rulework/bench/Burst$SelfConflictingRule", "<init>", "()V"⟩ : MethodName)) rfl (mvT hZ (hw _ (List.mem_of_getElem? (i := 30) rfl))) (mvT hZ (hw _ (List.mem_of_getElem? (i := 31) rfl))) (fun U r hW hn => own_ready e hZ hown (by decide) (hw _ (List.mem_of_getElem? (i := 29) rfl)) hW hn) (backOf (W := 3) (sci l Z a0 hw [] w_POOL w_NO_RULE w_ONE_RULE w_MANY_RULES G b10 h10 n0 O10 ) hZ (hw _ (List.mem_of_getElem? (i := 31) rfl)) (hw _ (List.mem_of_getElem? (i := 28) rfl)) (by decide) (by decide)) (g := (mkF m 23 #[rv w_MANY_RULES, iv (1 : Int32), rv b4, iv (0 : Int32)] [(.ref b10), (.ref b10), (.int (0 : Int32)), (.ref b4)])) rfl (by rw [hml]; rfl) (Steps.refl _) (a := b10) (argsL := []) (rest := [(.ref b10), (.int (0 : Int32)), (.ref b4)]) (lenOf pd_2 rfl) rfl (by show 2 * 0 + _ ≤ _; exact Nat.le_of_eq rfl) (hb hby d_prog_1_method_5_code_23) (fun _ _ => ⟨rfl, e10, (by decide : 2 + 0 ≤ _), (by decide : 1 + 0 ≤ _)⟩)
  dsimp only [Pt.U, Pt.locs, Pt.cells, Pt.slots] at X13 l13 y13 z13 st13 hQ13
  subst l13 y13 z13
  obtain ⟨rfl, Nq13, e13⟩ := hQ13
  have N13 := Fr.app N2 Nq13
  have k14 : Way p e below S0 T13 (mkF m 26 #[rv w_MANY_RULES, iv (1 : Int32), rv b4, iv (0 : Int32)] [(.ref b10), (.int (0 : Int32)), (.ref b4)]) := fun t k => k12 t (st13.trans k)
  have f15 : Arv Z h10 b4 c4 (.object "com/example/rulework/rulework/SchedulingRule") (1 : Int32) [.null] .null := (v4.ext E10)
  obtain ⟨cl16, Ar16, qc16, S16, M16, U16, G16⟩ := id (f15)
  have hin16 : ¬ ((0 : Int32) < 0 ∨ cl16.slots.size ≤ ((0 : Int32)).toNatClampNeg) := inb_of S16 ⟨by decide, by decide⟩
  obtain ⟨T16, h16, X16, e16, W16, st16⟩ := stR X13 hx hZ e13 Ar16 (j := (0 : Int32)) hin16 rfl (Sto.ofV Ar16 qc16 V4 (Ins.of_exa A10 (hw _ (List.mem_of_getElem? (i := 35) rfl)))) (g := (mkF m 26 #[rv w_MANY_RULES, iv (1 : Int32), rv b4, iv (0 : Int32)] [(.ref b10), (.int (0 : Int32)), (.ref b4)])) rfl rfl (hb hby d_prog_1_method_5_code_26)
  have ge17 : n0 ≤ b4 := Nat.le_trans (own_old O0) (Nat.le_of_eq g4.symm)
  have O16 := O10.wr W16 ge17
  have N16 := Fr.snoc X16 N13 ge17
  have gz18 : h0.size ≤ b4 := Nat.le_trans (Keep.refl h0 []).1 (Nat.le_of_eq g4.symm)
  have K16 : Keep h0 h16 [] := K10.wr W16 (Or.inr gz18)
  have va16 : Arv Z h16 b4 c4 (.object "com/example/rulework/rulework/SchedulingRule") (1 : Int32) [(.ref b10)] .null := Arv.set Ar16 qc16 S16 M16 U16 G16 rfl W16 0 rfl (Nat.le_of_ble_eq_true rfl)
  have k19 : Way p e below S0 T16 (mkF m 27 #[rv w_MANY_RULES, iv (1 : Int32), rv b4, iv (0 : Int32)] []) := fun t k => k14 t (st16 _ k)
  have k20 : Way p e below S0 T16 (mkF m 13 #[rv w_MANY_RULES, iv (1 : Int32), rv b4, iv (1 : Int32)] [(.ref b4), (.int (1 : Int32))]) := by
    intro t k
    refine k19 t ?_
    refine XS.iinc X16.here hx rfl (hb hby d_prog_1_method_5_code_27) rfl (l' := #[rv w_MANY_RULES, iv (1 : Int32), rv b4, iv (1 : Int32)]) rfl ?_
    show Steps p.tables e below (T16.setTop (mkF m 30 #[rv w_MANY_RULES, iv (1 : Int32), rv b4, iv (1 : Int32)] [])) _
    refine XS.goto X16.here hx rfl (pc0 := 30) (pc' := 11) rfl (hb hby d_prog_1_method_5_code_30) (by decide) (by decide) ?_
    show Steps p.tables e below (T16.setTop (mkF m 11 #[rv w_MANY_RULES, iv (1 : Int32), rv b4, iv (1 : Int32)] [])) _
    refine XS.iloadN X16.here hx rfl (hb hby d_prog_1_method_5_code_11) rfl ?_
    show Steps p.tables e below (T16.setTop (mkF m 12 #[rv w_MANY_RULES, iv (1 : Int32), rv b4, iv (1 : Int32)] [(.int (1 : Int32))])) _
    refine XS.aloadN X16.here hx rfl (hb hby d_prog_1_method_5_code_12) rfl rfl ?_
    show Steps p.tables e below (T16.setTop (mkF m 13 #[rv w_MANY_RULES, iv (1 : Int32), rv b4, iv (1 : Int32)] [(.ref b4), (.int (1 : Int32))])) _
    exact k
  obtain ⟨cl21, Ar21, -, S21, M21, -, -⟩ := id (va16)
  have k22 : Way p e below S0 T16 (mkF m 14 #[rv w_MANY_RULES, iv (1 : Int32), rv b4, iv (1 : Int32)] [(.int (1 : Int32)), (.int (1 : Int32))]) := fun t k => k20 t (X16.arraylength hx (by rw [e16]; exact Ar21.1) (State.isArrayOf_alike hZ.alike Ar21.2.1) (g := (mkF m 13 #[rv w_MANY_RULES, iv (1 : Int32), rv b4, iv (1 : Int32)] [(.ref b4), (.int (1 : Int32))])) rfl rfl (hb hby d_prog_1_method_5_code_13) _ (by rw [len_of S21 M21]; exact k))
  have k23 : Way p e below S0 T16 (mkF m 34 #[rv w_MANY_RULES, iv (1 : Int32), rv b4, iv (1 : Int32)] [(.ref b4)]) := by
    intro t k
    refine k22 t ?_
    refine XS.icmpYes X16.here hx rfl (pc0 := 14) (pc' := 33) rfl (hb hby d_prog_1_method_5_code_14) rfl (flt ((by decide) : ¬ ((1 : Int32) < (1 : Int32)))).2.1 (by decide) (by decide) ?_
    show Steps p.tables e below (T16.setTop (mkF m 33 #[rv w_MANY_RULES, iv (1 : Int32), rv b4, iv (1 : Int32)] [])) _
    refine XS.aloadN X16.here hx rfl (hb hby d_prog_1_method_5_code_33) rfl rfl ?_
    show Steps p.tables e below (T16.setTop (mkF m 34 #[rv w_MANY_RULES, iv (1 : Int32), rv b4, iv (1 : Int32)] [(.ref b4)])) _
    exact k
  obtain ⟨fs, hr, hrun, hended, hW, hsame⟩ := X16.leave (v := some (.ref b4)) (fun h => by rw [Bd.returns] at h; cases h)
  have gz24 : h0.size ≤ b10 := Nat.le_trans K4.1 (Nat.le_of_eq g10.symm)
  have f25 : Exa Z h16 b10 "com/example/rulework/bench/Burst$SelfConflictingRule" := (A10.wr W16)
  refine ⟨_, _, k23 _ (retOut X16 hx Bd.returns rfl (Or.inr (Or.inr (Or.inr (Or.inr ⟨rfl, rfl, rfl⟩)))) (hb hby d_prog_1_method_5_code_34) hr), hrun, hended, _, _, rfl, ?_, ⟨_, rfl⟩, hW, hsame.mono (by decide) (by decide)⟩
  show Q_mkm1 Z w_POOL w_NO_RULE w_ONE_RULE w_MANY_RULES  h0 n0 _ T16.heap _
  rw [e16]
  exact ⟨b4, c4, b10, rfl, N16, K16, gz18, va16, gz24, f25⟩
def Q_mkm2 (Z : State) (w_POOL : Addr) (w_NO_RULE : Addr) (w_ONE_RULE : Addr) (w_MANY_RULES : Addr)  (h0 : Heap) (n0 : Nat) (v : Option Value) (h : Heap) (L : List Loc) : Prop := ∃ b1 : Addr, ∃ kc : ClassId, ∃ x0 : Addr, ∃ x1 : Addr, (v = some (.ref b1)) ∧ (Fr n0 L) ∧ (Keep h0 h []) ∧ (h0.size ≤ b1) ∧ (Arv Z h b1 kc (.object "com/example/rulework/rulework/SchedulingRule") (2 : Int32) [(.ref x0), (.ref x1)] .null) ∧ (h0.size ≤ x0) ∧ (Exa Z h x0 "com/example/rulework/bench/Burst$SelfConflictingRule") ∧ (h0.size ≤ x1) ∧ (Exa Z h x1 "com/example/rulework/bench/Burst$SelfConflictingRule") ∧ (x0 ≠ x1)
set_option maxRecDepth 65536 in
set_option maxHeartbeats 40000000 in
theorem mkm2 (l : Launch) (Z : State) (a0 : Array Value) (hw : ∀ d ∈ tables_1, d.before a0 Z = true) (ws : List Jvm.Cond) (w_POOL : Addr) (w_NO_RULE : Addr) (w_ONE_RULE : Addr) (w_MANY_RULES : Addr) (G : Gst Z w_POOL w_NO_RULE w_ONE_RULE w_MANY_RULES)  (h0 : Heap) (n0 : Nat) (O0 : Old Z n0 h0) :
    MetFree l (⟨"com/example/rulework/bench/Burst", "makeRules", "(I)[Lcom/example/rulework/rulework/SchedulingRule;"⟩ : MethodName) (head1 (Jvm.Cond.code (⟨"com/example/rulework/bench/Burst", "makeRules", "(I)[Lcom/example/rulework/rulework/SchedulingRule;"⟩ : MethodName) prog_1_method_5_code 4 (some (.array (.object "com/example/rulework/rulework/SchedulingRule"))) :: ws) ({ frames := 2, cells := 3, slots := 2, locals := 27 } : Room)) (fun a U => a = #[(.ref w_MANY_RULES), (.int (2 : Int32))] ∧ Z.Warmed39 U.vm ∧ U.heap = h0) (fun _ _ _ _ _ => True) (fun _ U o U' => ∃ v L, o = .returned v ∧ Q_mkm2 Z w_POOL w_NO_RULE w_ONE_RULE w_MANY_RULES  h0 n0 v U'.heap L ∧ FrameEnd U o U' L ({ frames := 2, cells := 3, slots := 2, locals := 27 } : Room).cells ({ frames := 2, cells := 3, slots := 2, locals := 27 } : Room).slots) := by
  refine MetFree.of_bodySF (plainFor_of_name pn_1) hisR ?_
  intro p e s m args below meth c s₁ Bd hml0 hP hK
  obtain ⟨rfl, hZ, hh⟩ := hP
  have hx := Bd.exec
  have hby := Bd.bytes
  have hml : c.maxLocals = 4 := hml0
  have hown : s.vm.findClass "com/example/rulework/bench/Burst" = some m.cls := findClass_of_methodNamed Bd.named
  have hnm := (name_of_methodNamed Bd.named Bd.method).1
  have X0 : Stand p l e ({ frames := 2, cells := 3, slots := 2, locals := 27 } : Room) s m #[(.ref w_MANY_RULES), (.int (2 : Int32))] below meth c s₁ [] 0 0 := Stand.of_body Bd
  have e0 : s₁.heap = h0 := by rw [← hh, Bd.state]; rfl
  have N0 := Fr.nil n0
  obtain ⟨S_w_POOL, E_w_POOL, F_w_POOL_ordinal, S_w_NO_RULE, E_w_NO_RULE, F_w_NO_RULE_ordinal, S_w_ONE_RULE, E_w_ONE_RULE, F_w_ONE_RULE_ordinal, S_w_MANY_RULES, E_w_MANY_RULES, F_w_MANY_RULES_ordinal⟩ := id G
  have k0 : Way p e below (s₁.setTop (entryFrame m #[(.ref w_MANY_RULES), (.int (2 : Int32))] 4)) s₁ (mkF m 0 #[rv w_MANY_RULES, iv (2 : Int32), .unset, .unset] []) := fun t k => castTop (by first | (simp [entryFrame, mkF, argsToLocals, Value.category]; done) | rfl) k
  generalize s₁.setTop (entryFrame m #[(.ref w_MANY_RULES), (.int (2 : Int32))] 4) = S0 at k0 ⊢
  have k1 : Way p e below S0 s₁ (mkF m 2 #[rv w_MANY_RULES, iv (2 : Int32), .unset, .unset] [(.int (2 : Int32)), (.ref w_MANY_RULES)]) := by
    intro t k
    refine k0 t ?_
    refine XS.aloadN X0.here hx rfl (hb hby d_prog_1_method_5_code_0) rfl rfl ?_
    show Steps p.tables e below (s₁.setTop (mkF m 1 #[rv w_MANY_RULES, iv (2 : Int32), .unset, .unset] [(.ref w_MANY_RULES)])) _
    refine XS.iloadN X0.here hx rfl (hb hby d_prog_1_method_5_code_1) rfl ?_
    show Steps p.tables e below (s₁.setTop (mkF m 2 #[rv w_MANY_RULES, iv (2 : Int32), .unset, .unset] [(.int (2 : Int32)), (.ref w_MANY_RULES)])) _
    exact k
  obtain ⟨cq2, kq2, qq2a, qq2b, qq2c⟩ := isOf hZ e0 (E_w_MANY_RULES.ext O0.2)
  obtain ⟨_, _, ⟨T2, L2, kk2, nn2⟩, -, X2, ⟨Lc2, hQ2, l2, y2, z2⟩, st2⟩ := X0.virtualBack hx (y := (⟨"com/example/rulework/bench/Burst", "ruleCount", "(I)I"⟩ : MethodName)) (z := (⟨"com/example/rulework/bench/Burst", "ruleCount", "(I)I"⟩ : MethodName)) hown (mvT hZ (hw _ (List.mem_of_getElem? (i := 8) rfl))) (mvT hZ (hw _ (List.mem_of_getElem? (i := 9) rfl))) (notFace_of_selects (args := #[]) (mvT hZ (hw _ (List.mem_of_getElem? (i := 11) rfl)))) (mvT hZ (hw _ (List.mem_of_getElem? (i := 11) rfl))) (mvT hZ (hw _ (List.mem_of_getElem? (i := 10) rfl))) (by decide) (backOf (W := 0) (rc3 l Z a0 hw [] w_POOL w_NO_RULE w_ONE_RULE w_MANY_RULES G (2 : Int32) h0 n0 O0 ) hZ (hw _ (List.mem_of_getElem? (i := 12) rfl)) (hw _ (List.mem_of_getElem? (i := 1) rfl)) (by decide) (by decide)) qq2a qq2c (g := (mkF m 2 #[rv w_MANY_RULES, iv (2 : Int32), .unset, .unset] [(.int (2 : Int32)), (.ref w_MANY_RULES)])) rfl (by rw [hml]; rfl) (Steps.refl _) (argsL := [(.int (2 : Int32))]) (rest := []) (lenOf pd_1 rfl) rfl (by show 2 * 0 + _ ≤ _; exact Nat.le_of_eq rfl) (hb hby d_prog_1_method_5_code_2) (fun _ _ => ⟨rfl, e0, (by decide : 0 + 0 ≤ _), (by decide : 0 + 0 ≤ _)⟩)
  dsimp only [Pt.U, Pt.locs, Pt.cells, Pt.slots] at X2 l2 y2 z2 st2 hQ2
  subst l2 y2 z2
  obtain ⟨rfl, Nq2, e2⟩ := hQ2
  have N2 := Fr.app N0 Nq2
  have k3 : Way p e below S0 T2 (mkF m 5 #[rv w_MANY_RULES, iv (2 : Int32), .unset, .unset] [(.int (2 : Int32))]) := fun t k => k1 t (st2.trans k)
  obtain ⟨T4, h4, c4, X4, e4, E4, A4, B4, V4, st4⟩ := newRE X2 hx hZ hown (hw _ (List.mem_of_getElem? (i := 22) rfl)) (hw _ (List.mem_of_getElem? (i := 23) rfl)) e2 (g := (mkF m 5 #[rv w_MANY_RULES, iv (2 : Int32), .unset, .unset] [(.int (2 : Int32))])) rfl (hb hby d_prog_1_method_5_code_5) rfl (by decide) (cap := 2) (by decide) (by decide) (by decide) (by decide) (ad := "[Lcom/example/rulework/rulework/SchedulingRule;") (by decide)
  obtain ⟨b4, g4⟩ : ∃ z, z = h0.size := ⟨_, rfl⟩
  rw [← g4] at A4 B4 st4
  have O4 := O0.ext E4
  have K4 : Keep h0 h4 [] := (Keep.refl h0 []).ext E4
  have v4 : Arv Z h4 b4 c4 (.object "com/example/rulework/rulework/SchedulingRule") (2 : Int32) [.null, .null] .null := (Arv.new A4 (by decide)).pad (pad_rep [] .null 2)
  have k5 : Way p e below S0 T4 (mkF m 8 #[rv w_MANY_RULES, iv (2 : Int32), .unset, .unset] [(.ref b4)]) := fun t k => k3 t (st4 _ k)
  have k6 : Way p e below S0 T4 (mkF m 13 #[rv w_MANY_RULES, iv (2 : Int32), rv b4, iv (0 : Int32)] [(.ref b4), (.int (0 : Int32))]) := by
    intro t k
    refine k5 t ?_
    refine XS.astoreN X4.here hx rfl (hb hby d_prog_1_method_5_code_8) rfl rfl (l' := #[rv w_MANY_RULES, iv (2 : Int32), rv b4, .unset]) rfl ?_
    show Steps p.tables e below (T4.setTop (mkF m 9 #[rv w_MANY_RULES, iv (2 : Int32), rv b4, .unset] [])) _
    refine XS.iconst X4.here hx rfl (hb hby d_prog_1_method_5_code_9) ?_
    show Steps p.tables e below (T4.setTop (mkF m 10 #[rv w_MANY_RULES, iv (2 : Int32), rv b4, .unset] [(.int (0 : Int32))])) _
    refine XS.istoreN X4.here hx rfl (hb hby d_prog_1_method_5_code_10) rfl (l' := #[rv w_MANY_RULES, iv (2 : Int32), rv b4, iv (0 : Int32)]) rfl ?_
    show Steps p.tables e below (T4.setTop (mkF m 11 #[rv w_MANY_RULES, iv (2 : Int32), rv b4, iv (0 : Int32)] [])) _
    refine XS.iloadN X4.here hx rfl (hb hby d_prog_1_method_5_code_11) rfl ?_
    show Steps p.tables e below (T4.setTop (mkF m 12 #[rv w_MANY_RULES, iv (2 : Int32), rv b4, iv (0 : Int32)] [(.int (0 : Int32))])) _
    refine XS.aloadN X4.here hx rfl (hb hby d_prog_1_method_5_code_12) rfl rfl ?_
    show Steps p.tables e below (T4.setTop (mkF m 13 #[rv w_MANY_RULES, iv (2 : Int32), rv b4, iv (0 : Int32)] [(.ref b4), (.int (0 : Int32))])) _
    exact k
  obtain ⟨cl7, Ar7, -, S7, M7, -, -⟩ := id (v4)
  have k8 : Way p e below S0 T4 (mkF m 14 #[rv w_MANY_RULES, iv (2 : Int32), rv b4, iv (0 : Int32)] [(.int (2 : Int32)), (.int (0 : Int32))]) := fun t k => k6 t (X4.arraylength hx (by rw [e4]; exact Ar7.1) (State.isArrayOf_alike hZ.alike Ar7.2.1) (g := (mkF m 13 #[rv w_MANY_RULES, iv (2 : Int32), rv b4, iv (0 : Int32)] [(.ref b4), (.int (0 : Int32))])) rfl rfl (hb hby d_prog_1_method_5_code_13) _ (by rw [len_of S7 M7]; exact k))
  have k9 : Way p e below S0 T4 (mkF m 19 #[rv w_MANY_RULES, iv (2 : Int32), rv b4, iv (0 : Int32)] [(.int (0 : Int32)), (.ref b4)]) := by
    intro t k
    refine k8 t ?_
    refine XS.icmpNo X4.here hx rfl (hb hby d_prog_1_method_5_code_14) rfl (tlt ((by decide) : (0 : Int32) < (2 : Int32))).2.1 ?_
    show Steps p.tables e below (T4.setTop (mkF m 17 #[rv w_MANY_RULES, iv (2 : Int32), rv b4, iv (0 : Int32)] [])) _
    refine XS.aloadN X4.here hx rfl (hb hby d_prog_1_method_5_code_17) rfl rfl ?_
    show Steps p.tables e below (T4.setTop (mkF m 18 #[rv w_MANY_RULES, iv (2 : Int32), rv b4, iv (0 : Int32)] [(.ref b4)])) _
    refine XS.iloadN X4.here hx rfl (hb hby d_prog_1_method_5_code_18) rfl ?_
    show Steps p.tables e below (T4.setTop (mkF m 19 #[rv w_MANY_RULES, iv (2 : Int32), rv b4, iv (0 : Int32)] [(.int (0 : Int32)), (.ref b4)])) _
    exact k
  obtain ⟨T10, h10, X10, e10, E10, A10, D10, U10, st10⟩ := newO X4 hx hZ hown (hw _ (List.mem_of_getElem? (i := 26) rfl)) (hw _ (List.mem_of_getElem? (i := 27) rfl)) (hw _ (List.mem_of_getElem? (i := 28) rfl)) e4 (g := (mkF m 19 #[rv w_MANY_RULES, iv (2 : Int32), rv b4, iv (0 : Int32)] [(.int (0 : Int32)), (.ref b4)])) rfl (hb hby d_prog_1_method_5_code_19) (by decide) (by decide)
  obtain ⟨b10, g10⟩ : ∃ z, z = h4.size := ⟨_, rfl⟩
  rw [← g10] at A10 D10 U10 st10
  have O10 := O4.ext E10
  have K10 : Keep h0 h10 [] := K4.ext E10
  have k11 : Way p e below S0 T10 (mkF m 22 #[rv w_MANY_RULES, iv (2 : Int32), rv b4, iv (0 : Int32)] [(.ref b10), (.int (0 : Int32)), (.ref b4)]) := fun t k => k9 t (st10 _ k)
  have k12 : Way p e below S0 T10 (mkF m 23 #[rv w_MANY_RULES, iv (2 : Int32), rv b4, iv (0 : Int32)] [(.ref b10), (.ref b10), (.int (0 : Int32)), (.ref b4)]) := by
    intro t k
    refine k11 t ?_
    refine XS.dup X10.here hx rfl (hb hby d_prog_1_method_5_code_22) rfl rfl ?_
    show Steps p.tables e below (T10.setTop (mkF m 23 #[rv w_MANY_RULES, iv (2 : Int32), rv b4, iv (0 : Int32)] [(.ref b10), (.ref b10), (.int (0 : Int32)), (.ref b4)])) _
    exact k
  obtain ⟨_, _, ⟨T13, L13, kk13, nn13⟩, -, X13, ⟨Lc13, hQ13, l13, y13, z13⟩, st13⟩ := own_specialR X10 hx (y := (⟨"com/example/rulework/bench/Burst$SelfConflictingRule", "<init>", "()V"⟩ : MethodName)) rfl (mvT hZ (hw _ (List.mem_of_getElem? (i := 30) rfl))) (mvT hZ (hw _ (List.mem_of_getElem? (i := 31) rfl))) (fun U r hW hn => own_ready e hZ hown (by decide) (hw _ (List.mem_of_getElem? (i := 29) rfl)) hW hn) (backOf (W := 3) (sci l Z a0 hw [] w_POOL w_NO_RULE w_ONE_RULE w_MANY_RULES G b10 h10 n0 O10 ) hZ (hw _ (List.mem_of_getElem? (i := 31) rfl)) (hw _ (List.mem_of_getElem? (i := 28) rfl)) (by decide) (by decide)) (g := (mkF m 23 #[rv w_MANY_RULES, iv (2 : Int32), rv b4, iv (0 : Int32)] [(.ref b10), (.ref b10), (.int (0 : Int32)), (.ref b4)])) rfl (by rw [hml]; rfl) (Steps.refl _) (a := b10) (argsL := []) (rest := [(.ref b10), (.int (0 : Int32)), (.ref b4)]) (lenOf pd_2 rfl) rfl (by show 2 * 0 + _ ≤ _; exact Nat.le_of_eq rfl) (hb hby d_prog_1_method_5_code_23) (fun _ _ => ⟨rfl, e10, (by decide : 2 + 0 ≤ _), (by decide : 2 + 0 ≤ _)⟩)
  dsimp only [Pt.U, Pt.locs, Pt.cells, Pt.slots] at X13 l13 y13 z13 st13 hQ13
  subst l13 y13 z13
  obtain ⟨rfl, Nq13, e13⟩ := hQ13
  have N13 := Fr.app N2 Nq13
  have k14 : Way p e below S0 T13 (mkF m 26 #[rv w_MANY_RULES, iv (2 : Int32), rv b4, iv (0 : Int32)] [(.ref b10), (.int (0 : Int32)), (.ref b4)]) := fun t k => k12 t (st13.trans k)
  have f15 : Arv Z h10 b4 c4 (.object "com/example/rulework/rulework/SchedulingRule") (2 : Int32) [.null, .null] .null := (v4.ext E10)
  obtain ⟨cl16, Ar16, qc16, S16, M16, U16, G16⟩ := id (f15)
  have hin16 : ¬ ((0 : Int32) < 0 ∨ cl16.slots.size ≤ ((0 : Int32)).toNatClampNeg) := inb_of S16 ⟨by decide, by decide⟩
  obtain ⟨T16, h16, X16, e16, W16, st16⟩ := stR X13 hx hZ e13 Ar16 (j := (0 : Int32)) hin16 rfl (Sto.ofV Ar16 qc16 V4 (Ins.of_exa A10 (hw _ (List.mem_of_getElem? (i := 35) rfl)))) (g := (mkF m 26 #[rv w_MANY_RULES, iv (2 : Int32), rv b4, iv (0 : Int32)] [(.ref b10), (.int (0 : Int32)), (.ref b4)])) rfl rfl (hb hby d_prog_1_method_5_code_26)
  have ge17 : n0 ≤ b4 := Nat.le_trans (own_old O0) (Nat.le_of_eq g4.symm)
  have O16 := O10.wr W16 ge17
  have N16 := Fr.snoc X16 N13 ge17
  have gz18 : h0.size ≤ b4 := Nat.le_trans (Keep.refl h0 []).1 (Nat.le_of_eq g4.symm)
  have K16 : Keep h0 h16 [] := K10.wr W16 (Or.inr gz18)
  have va16 : Arv Z h16 b4 c4 (.object "com/example/rulework/rulework/SchedulingRule") (2 : Int32) [(.ref b10), .null] .null := Arv.set Ar16 qc16 S16 M16 U16 G16 rfl W16 0 rfl (Nat.le_of_ble_eq_true rfl)
  have k19 : Way p e below S0 T16 (mkF m 27 #[rv w_MANY_RULES, iv (2 : Int32), rv b4, iv (0 : Int32)] []) := fun t k => k14 t (st16 _ k)
  have k20 : Way p e below S0 T16 (mkF m 13 #[rv w_MANY_RULES, iv (2 : Int32), rv b4, iv (1 : Int32)] [(.ref b4), (.int (1 : Int32))]) := by
    intro t k
    refine k19 t ?_
    refine XS.iinc X16.here hx rfl (hb hby d_prog_1_method_5_code_27) rfl (l' := #[rv w_MANY_RULES, iv (2 : Int32), rv b4, iv (1 : Int32)]) rfl ?_
    show Steps p.tables e below (T16.setTop (mkF m 30 #[rv w_MANY_RULES, iv (2 : Int32), rv b4, iv (1 : Int32)] [])) _
    refine XS.goto X16.here hx rfl (pc0 := 30) (pc' := 11) rfl (hb hby d_prog_1_method_5_code_30) (by decide) (by decide) ?_
    show Steps p.tables e below (T16.setTop (mkF m 11 #[rv w_MANY_RULES, iv (2 : Int32), rv b4, iv (1 : Int32)] [])) _
    refine XS.iloadN X16.here hx rfl (hb hby d_prog_1_method_5_code_11) rfl ?_
    show Steps p.tables e below (T16.setTop (mkF m 12 #[rv w_MANY_RULES, iv (2 : Int32), rv b4, iv (1 : Int32)] [(.int (1 : Int32))])) _
    refine XS.aloadN X16.here hx rfl (hb hby d_prog_1_method_5_code_12) rfl rfl ?_
    show Steps p.tables e below (T16.setTop (mkF m 13 #[rv w_MANY_RULES, iv (2 : Int32), rv b4, iv (1 : Int32)] [(.ref b4), (.int (1 : Int32))])) _
    exact k
  obtain ⟨cl21, Ar21, -, S21, M21, -, -⟩ := id (va16)
  have k22 : Way p e below S0 T16 (mkF m 14 #[rv w_MANY_RULES, iv (2 : Int32), rv b4, iv (1 : Int32)] [(.int (2 : Int32)), (.int (1 : Int32))]) := fun t k => k20 t (X16.arraylength hx (by rw [e16]; exact Ar21.1) (State.isArrayOf_alike hZ.alike Ar21.2.1) (g := (mkF m 13 #[rv w_MANY_RULES, iv (2 : Int32), rv b4, iv (1 : Int32)] [(.ref b4), (.int (1 : Int32))])) rfl rfl (hb hby d_prog_1_method_5_code_13) _ (by rw [len_of S21 M21]; exact k))
  have k23 : Way p e below S0 T16 (mkF m 19 #[rv w_MANY_RULES, iv (2 : Int32), rv b4, iv (1 : Int32)] [(.int (1 : Int32)), (.ref b4)]) := by
    intro t k
    refine k22 t ?_
    refine XS.icmpNo X16.here hx rfl (hb hby d_prog_1_method_5_code_14) rfl (tlt ((by decide) : (1 : Int32) < (2 : Int32))).2.1 ?_
    show Steps p.tables e below (T16.setTop (mkF m 17 #[rv w_MANY_RULES, iv (2 : Int32), rv b4, iv (1 : Int32)] [])) _
    refine XS.aloadN X16.here hx rfl (hb hby d_prog_1_method_5_code_17) rfl rfl ?_
    show Steps p.tables e below (T16.setTop (mkF m 18 #[rv w_MANY_RULES, iv (2 : Int32), rv b4, iv (1 : Int32)] [(.ref b4)])) _
    refine XS.iloadN X16.here hx rfl (hb hby d_prog_1_method_5_code_18) rfl ?_
    show Steps p.tables e below (T16.setTop (mkF m 19 #[rv w_MANY_RULES, iv (2 : Int32), rv b4, iv (1 : Int32)] [(.int (1 : Int32)), (.ref b4)])) _
    exact k
  obtain ⟨T24, h24, X24, e24, E24, A24, D24, U24, st24⟩ := newO X16 hx hZ hown (hw _ (List.mem_of_getElem? (i := 26) rfl)) (hw _ (List.mem_of_getElem? (i := 27) rfl)) (hw _ (List.mem_of_getElem? (i := 28) rfl)) e16 (g := (mkF m 19 #[rv w_MANY_RULES, iv (2 : Int32), rv b4, iv (1 : Int32)] [(.int (1 : Int32)), (.ref b4)])) rfl (hb hby d_prog_1_method_5_code_19) (by decide) (by decide)
  obtain ⟨b24, g24⟩ : ∃ z, z = h16.size := ⟨_, rfl⟩
  rw [← g24] at A24 D24 U24 st24
  have O24 := O16.ext E24
  have K24 : Keep h0 h24 [] := K16.ext E24
  have k25 : Way p e below S0 T24 (mkF m 22 #[rv w_MANY_RULES, iv (2 : Int32), rv b4, iv (1 : Int32)] [(.ref b24), (.int (1 : Int32)), (.ref b4)]) := fun t k => k23 t (st24 _ k)
  have k26 : Way p e below S0 T24 (mkF m 23 #[rv w_MANY_RULES, iv (2 : Int32), rv b4, iv (1 : Int32)] [(.ref b24), (.ref b24), (.int (1 : Int32)), (.ref b4)]) := by
    intro t k
    refine k25 t ?_
    refine XS.dup X24.here hx rfl (hb hby d_prog_1_method_5_code_22) rfl rfl ?_
    show Steps p.tables e below (T24.setTop (mkF m 23 #[rv w_MANY_RULES, iv (2 : Int32), rv b4, iv (1 : Int32)] [(.ref b24), (.ref b24), (.int (1 : Int32)), (.ref b4)])) _
    exact k
  obtain ⟨_, _, ⟨T27, L27, kk27, nn27⟩, -, X27, ⟨Lc27, hQ27, l27, y27, z27⟩, st27⟩ := own_specialR X24 hx (y := (⟨"com/example/rulework/bench/Burst$SelfConflictingRule", "<init>", "()V"⟩ : MethodName)) rfl (mvT hZ (hw _ (List.mem_of_getElem? (i := 30) rfl))) (mvT hZ (hw _ (List.mem_of_getElem? (i := 31) rfl))) (fun U r hW hn => own_ready e hZ hown (by decide) (hw _ (List.mem_of_getElem? (i := 29) rfl)) hW hn) (backOf (W := 3) (sci l Z a0 hw [] w_POOL w_NO_RULE w_ONE_RULE w_MANY_RULES G b24 h24 n0 O24 ) hZ (hw _ (List.mem_of_getElem? (i := 31) rfl)) (hw _ (List.mem_of_getElem? (i := 28) rfl)) (by decide) (by decide)) (g := (mkF m 23 #[rv w_MANY_RULES, iv (2 : Int32), rv b4, iv (1 : Int32)] [(.ref b24), (.ref b24), (.int (1 : Int32)), (.ref b4)])) rfl (by rw [hml]; rfl) (Steps.refl _) (a := b24) (argsL := []) (rest := [(.ref b24), (.int (1 : Int32)), (.ref b4)]) (lenOf pd_2 rfl) rfl (by show 2 * 0 + _ ≤ _; exact Nat.le_of_eq rfl) (hb hby d_prog_1_method_5_code_23) (fun _ _ => ⟨rfl, e24, (by decide : 3 + 0 ≤ _), (by decide : 2 + 0 ≤ _)⟩)
  dsimp only [Pt.U, Pt.locs, Pt.cells, Pt.slots] at X27 l27 y27 z27 st27 hQ27
  subst l27 y27 z27
  obtain ⟨rfl, Nq27, e27⟩ := hQ27
  have N27 := Fr.app N16 Nq27
  have k28 : Way p e below S0 T27 (mkF m 26 #[rv w_MANY_RULES, iv (2 : Int32), rv b4, iv (1 : Int32)] [(.ref b24), (.int (1 : Int32)), (.ref b4)]) := fun t k => k26 t (st27.trans k)
  have f29 : Arv Z h24 b4 c4 (.object "com/example/rulework/rulework/SchedulingRule") (2 : Int32) [(.ref b10), .null] .null := (va16.ext E24)
  obtain ⟨cl30, Ar30, qc30, S30, M30, U30, G30⟩ := id (f29)
  have hin30 : ¬ ((1 : Int32) < 0 ∨ cl30.slots.size ≤ ((1 : Int32)).toNatClampNeg) := inb_of S30 ⟨by decide, by decide⟩
  obtain ⟨T30, h30, X30, e30, W30, st30⟩ := stR X27 hx hZ e27 Ar30 (j := (1 : Int32)) hin30 rfl (Sto.ofV Ar30 qc30 V4 (Ins.of_exa A24 (hw _ (List.mem_of_getElem? (i := 35) rfl)))) (g := (mkF m 26 #[rv w_MANY_RULES, iv (2 : Int32), rv b4, iv (1 : Int32)] [(.ref b24), (.int (1 : Int32)), (.ref b4)])) rfl rfl (hb hby d_prog_1_method_5_code_26)
  have O30 := O24.wr W30 ge17
  have N30 := Fr.snoc X30 N27 ge17
  have K30 : Keep h0 h30 [] := K24.wr W30 (Or.inr gz18)
  have va30 : Arv Z h30 b4 c4 (.object "com/example/rulework/rulework/SchedulingRule") (2 : Int32) [(.ref b10), (.ref b24)] .null := Arv.set Ar30 qc30 S30 M30 U30 G30 rfl W30 1 rfl (Nat.le_of_ble_eq_true rfl)
  have k31 : Way p e below S0 T30 (mkF m 27 #[rv w_MANY_RULES, iv (2 : Int32), rv b4, iv (1 : Int32)] []) := fun t k => k28 t (st30 _ k)
  have k32 : Way p e below S0 T30 (mkF m 13 #[rv w_MANY_RULES, iv (2 : Int32), rv b4, iv (2 : Int32)] [(.ref b4), (.int (2 : Int32))]) := by
    intro t k
    refine k31 t ?_
    refine XS.iinc X30.here hx rfl (hb hby d_prog_1_method_5_code_27) rfl (l' := #[rv w_MANY_RULES, iv (2 : Int32), rv b4, iv (2 : Int32)]) rfl ?_
    show Steps p.tables e below (T30.setTop (mkF m 30 #[rv w_MANY_RULES, iv (2 : Int32), rv b4, iv (2 : Int32)] [])) _
    refine XS.goto X30.here hx rfl (pc0 := 30) (pc' := 11) rfl (hb hby d_prog_1_method_5_code_30) (by decide) (by decide) ?_
    show Steps p.tables e below (T30.setTop (mkF m 11 #[rv w_MANY_RULES, iv (2 : Int32), rv b4, iv (2 : Int32)] [])) _
    refine XS.iloadN X30.here hx rfl (hb hby d_prog_1_method_5_code_11) rfl ?_
    show Steps p.tables e below (T30.setTop (mkF m 12 #[rv w_MANY_RULES, iv (2 : Int32), rv b4, iv (2 : Int32)] [(.int (2 : Int32))])) _
    refine XS.aloadN X30.here hx rfl (hb hby d_prog_1_method_5_code_12) rfl rfl ?_
    show Steps p.tables e below (T30.setTop (mkF m 13 #[rv w_MANY_RULES, iv (2 : Int32), rv b4, iv (2 : Int32)] [(.ref b4), (.int (2 : Int32))])) _
    exact k
  obtain ⟨cl33, Ar33, -, S33, M33, -, -⟩ := id (va30)
  have k34 : Way p e below S0 T30 (mkF m 14 #[rv w_MANY_RULES, iv (2 : Int32), rv b4, iv (2 : Int32)] [(.int (2 : Int32)), (.int (2 : Int32))]) := fun t k => k32 t (X30.arraylength hx (by rw [e30]; exact Ar33.1) (State.isArrayOf_alike hZ.alike Ar33.2.1) (g := (mkF m 13 #[rv w_MANY_RULES, iv (2 : Int32), rv b4, iv (2 : Int32)] [(.ref b4), (.int (2 : Int32))])) rfl rfl (hb hby d_prog_1_method_5_code_13) _ (by rw [len_of S33 M33]; exact k))
  have k35 : Way p e below S0 T30 (mkF m 34 #[rv w_MANY_RULES, iv (2 : Int32), rv b4, iv (2 : Int32)] [(.ref b4)]) := by
    intro t k
    refine k34 t ?_
    refine XS.icmpYes X30.here hx rfl (pc0 := 14) (pc' := 33) rfl (hb hby d_prog_1_method_5_code_14) rfl (flt ((by decide) : ¬ ((2 : Int32) < (2 : Int32)))).2.1 (by decide) (by decide) ?_
    show Steps p.tables e below (T30.setTop (mkF m 33 #[rv w_MANY_RULES, iv (2 : Int32), rv b4, iv (2 : Int32)] [])) _
    refine XS.aloadN X30.here hx rfl (hb hby d_prog_1_method_5_code_33) rfl rfl ?_
    show Steps p.tables e below (T30.setTop (mkF m 34 #[rv w_MANY_RULES, iv (2 : Int32), rv b4, iv (2 : Int32)] [(.ref b4)])) _
    exact k
  obtain ⟨fs, hr, hrun, hended, hW, hsame⟩ := X30.leave (v := some (.ref b4)) (fun h => by rw [Bd.returns] at h; cases h)
  have gz36 : h0.size ≤ b10 := Nat.le_trans K4.1 (Nat.le_of_eq g10.symm)
  have f37 : Exa Z h30 b10 "com/example/rulework/bench/Burst$SelfConflictingRule" := (((A10.wr W16).ext E24).wr W30)
  have gz38 : h0.size ≤ b24 := Nat.le_trans K16.1 (Nat.le_of_eq g24.symm)
  have f39 : Exa Z h30 b24 "com/example/rulework/bench/Burst$SelfConflictingRule" := (A24.wr W30)
  refine ⟨_, _, k35 _ (retOut X30 hx Bd.returns rfl (Or.inr (Or.inr (Or.inr (Or.inr ⟨rfl, rfl, rfl⟩)))) (hb hby d_prog_1_method_5_code_34) hr), hrun, hended, _, _, rfl, ?_, ⟨_, rfl⟩, hW, hsame.mono (by decide) (by decide)⟩
  show Q_mkm2 Z w_POOL w_NO_RULE w_ONE_RULE w_MANY_RULES  h0 n0 _ T30.heap _
  rw [e30]
  exact ⟨b4, c4, b10, b24, rfl, N30, K30, gz18, va30, gz36, f37, gz38, f39, (Nat.ne_of_lt (Nat.lt_of_lt_of_le (A10.wr W16).lt (Nat.le_of_eq g24.symm)))⟩
def Q_mkm3 (Z : State) (w_POOL : Addr) (w_NO_RULE : Addr) (w_ONE_RULE : Addr) (w_MANY_RULES : Addr)  (h0 : Heap) (n0 : Nat) (v : Option Value) (h : Heap) (L : List Loc) : Prop := ∃ b1 : Addr, ∃ kc : ClassId, ∃ x0 : Addr, ∃ x1 : Addr, ∃ x2 : Addr, (v = some (.ref b1)) ∧ (Fr n0 L) ∧ (Keep h0 h []) ∧ (h0.size ≤ b1) ∧ (Arv Z h b1 kc (.object "com/example/rulework/rulework/SchedulingRule") (3 : Int32) [(.ref x0), (.ref x1), (.ref x2)] .null) ∧ (h0.size ≤ x0) ∧ (Exa Z h x0 "com/example/rulework/bench/Burst$SelfConflictingRule") ∧ (h0.size ≤ x1) ∧ (Exa Z h x1 "com/example/rulework/bench/Burst$SelfConflictingRule") ∧ (h0.size ≤ x2) ∧ (Exa Z h x2 "com/example/rulework/bench/Burst$SelfConflictingRule") ∧ (x0 ≠ x1) ∧ (x0 ≠ x2) ∧ (x1 ≠ x2)
set_option maxRecDepth 65536 in
set_option maxHeartbeats 40000000 in
theorem mkm3 (l : Launch) (Z : State) (a0 : Array Value) (hw : ∀ d ∈ tables_1, d.before a0 Z = true) (ws : List Jvm.Cond) (w_POOL : Addr) (w_NO_RULE : Addr) (w_ONE_RULE : Addr) (w_MANY_RULES : Addr) (G : Gst Z w_POOL w_NO_RULE w_ONE_RULE w_MANY_RULES)  (h0 : Heap) (n0 : Nat) (O0 : Old Z n0 h0) :
    MetFree l (⟨"com/example/rulework/bench/Burst", "makeRules", "(I)[Lcom/example/rulework/rulework/SchedulingRule;"⟩ : MethodName) (head1 (Jvm.Cond.code (⟨"com/example/rulework/bench/Burst", "makeRules", "(I)[Lcom/example/rulework/rulework/SchedulingRule;"⟩ : MethodName) prog_1_method_5_code 4 (some (.array (.object "com/example/rulework/rulework/SchedulingRule"))) :: ws) ({ frames := 2, cells := 4, slots := 3, locals := 27 } : Room)) (fun a U => a = #[(.ref w_MANY_RULES), (.int (3 : Int32))] ∧ Z.Warmed39 U.vm ∧ U.heap = h0) (fun _ _ _ _ _ => True) (fun _ U o U' => ∃ v L, o = .returned v ∧ Q_mkm3 Z w_POOL w_NO_RULE w_ONE_RULE w_MANY_RULES  h0 n0 v U'.heap L ∧ FrameEnd U o U' L ({ frames := 2, cells := 4, slots := 3, locals := 27 } : Room).cells ({ frames := 2, cells := 4, slots := 3, locals := 27 } : Room).slots) := by
  refine MetFree.of_bodySF (plainFor_of_name pn_1) hisR ?_
  intro p e s m args below meth c s₁ Bd hml0 hP hK
  obtain ⟨rfl, hZ, hh⟩ := hP
  have hx := Bd.exec
  have hby := Bd.bytes
  have hml : c.maxLocals = 4 := hml0
  have hown : s.vm.findClass "com/example/rulework/bench/Burst" = some m.cls := findClass_of_methodNamed Bd.named
  have hnm := (name_of_methodNamed Bd.named Bd.method).1
  have X0 : Stand p l e ({ frames := 2, cells := 4, slots := 3, locals := 27 } : Room) s m #[(.ref w_MANY_RULES), (.int (3 : Int32))] below meth c s₁ [] 0 0 := Stand.of_body Bd
  have e0 : s₁.heap = h0 := by rw [← hh, Bd.state]; rfl
  have N0 := Fr.nil n0
  obtain ⟨S_w_POOL, E_w_POOL, F_w_POOL_ordinal, S_w_NO_RULE, E_w_NO_RULE, F_w_NO_RULE_ordinal, S_w_ONE_RULE, E_w_ONE_RULE, F_w_ONE_RULE_ordinal, S_w_MANY_RULES, E_w_MANY_RULES, F_w_MANY_RULES_ordinal⟩ := id G
  have k0 : Way p e below (s₁.setTop (entryFrame m #[(.ref w_MANY_RULES), (.int (3 : Int32))] 4)) s₁ (mkF m 0 #[rv w_MANY_RULES, iv (3 : Int32), .unset, .unset] []) := fun t k => castTop (by first | (simp [entryFrame, mkF, argsToLocals, Value.category]; done) | rfl) k
  generalize s₁.setTop (entryFrame m #[(.ref w_MANY_RULES), (.int (3 : Int32))] 4) = S0 at k0 ⊢
  have k1 : Way p e below S0 s₁ (mkF m 2 #[rv w_MANY_RULES, iv (3 : Int32), .unset, .unset] [(.int (3 : Int32)), (.ref w_MANY_RULES)]) := by
    intro t k
    refine k0 t ?_
    refine XS.aloadN X0.here hx rfl (hb hby d_prog_1_method_5_code_0) rfl rfl ?_
    show Steps p.tables e below (s₁.setTop (mkF m 1 #[rv w_MANY_RULES, iv (3 : Int32), .unset, .unset] [(.ref w_MANY_RULES)])) _
    refine XS.iloadN X0.here hx rfl (hb hby d_prog_1_method_5_code_1) rfl ?_
    show Steps p.tables e below (s₁.setTop (mkF m 2 #[rv w_MANY_RULES, iv (3 : Int32), .unset, .unset] [(.int (3 : Int32)), (.ref w_MANY_RULES)])) _
    exact k
  obtain ⟨cq2, kq2, qq2a, qq2b, qq2c⟩ := isOf hZ e0 (E_w_MANY_RULES.ext O0.2)
  obtain ⟨_, _, ⟨T2, L2, kk2, nn2⟩, -, X2, ⟨Lc2, hQ2, l2, y2, z2⟩, st2⟩ := X0.virtualBack hx (y := (⟨"com/example/rulework/bench/Burst", "ruleCount", "(I)I"⟩ : MethodName)) (z := (⟨"com/example/rulework/bench/Burst", "ruleCount", "(I)I"⟩ : MethodName)) hown (mvT hZ (hw _ (List.mem_of_getElem? (i := 8) rfl))) (mvT hZ (hw _ (List.mem_of_getElem? (i := 9) rfl))) (notFace_of_selects (args := #[]) (mvT hZ (hw _ (List.mem_of_getElem? (i := 11) rfl)))) (mvT hZ (hw _ (List.mem_of_getElem? (i := 11) rfl))) (mvT hZ (hw _ (List.mem_of_getElem? (i := 10) rfl))) (by decide) (backOf (W := 0) (rc3 l Z a0 hw [] w_POOL w_NO_RULE w_ONE_RULE w_MANY_RULES G (3 : Int32) h0 n0 O0 ) hZ (hw _ (List.mem_of_getElem? (i := 12) rfl)) (hw _ (List.mem_of_getElem? (i := 1) rfl)) (by decide) (by decide)) qq2a qq2c (g := (mkF m 2 #[rv w_MANY_RULES, iv (3 : Int32), .unset, .unset] [(.int (3 : Int32)), (.ref w_MANY_RULES)])) rfl (by rw [hml]; rfl) (Steps.refl _) (argsL := [(.int (3 : Int32))]) (rest := []) (lenOf pd_1 rfl) rfl (by show 2 * 0 + _ ≤ _; exact Nat.le_of_eq rfl) (hb hby d_prog_1_method_5_code_2) (fun _ _ => ⟨rfl, e0, (by decide : 0 + 0 ≤ _), (by decide : 0 + 0 ≤ _)⟩)
  dsimp only [Pt.U, Pt.locs, Pt.cells, Pt.slots] at X2 l2 y2 z2 st2 hQ2
  subst l2 y2 z2
  obtain ⟨rfl, Nq2, e2⟩ := hQ2
  have N2 := Fr.app N0 Nq2
  have k3 : Way p e below S0 T2 (mkF m 5 #[rv w_MANY_RULES, iv (3 : Int32), .unset, .unset] [(.int (3 : Int32))]) := fun t k => k1 t (st2.trans k)
  obtain ⟨T4, h4, c4, X4, e4, E4, A4, B4, V4, st4⟩ := newRE X2 hx hZ hown (hw _ (List.mem_of_getElem? (i := 22) rfl)) (hw _ (List.mem_of_getElem? (i := 23) rfl)) e2 (g := (mkF m 5 #[rv w_MANY_RULES, iv (3 : Int32), .unset, .unset] [(.int (3 : Int32))])) rfl (hb hby d_prog_1_method_5_code_5) rfl (by decide) (cap := 3) (by decide) (by decide) (by decide) (by decide) (ad := "[Lcom/example/rulework/rulework/SchedulingRule;") (by decide)
  obtain ⟨b4, g4⟩ : ∃ z, z = h0.size := ⟨_, rfl⟩
  rw [← g4] at A4 B4 st4
  have O4 := O0.ext E4
  have K4 : Keep h0 h4 [] := (Keep.refl h0 []).ext E4
  have v4 : Arv Z h4 b4 c4 (.object "com/example/rulework/rulework/SchedulingRule") (3 : Int32) [.null, .null, .null] .null := (Arv.new A4 (by decide)).pad (pad_rep [] .null 3)
  have k5 : Way p e below S0 T4 (mkF m 8 #[rv w_MANY_RULES, iv (3 : Int32), .unset, .unset] [(.ref b4)]) := fun t k => k3 t (st4 _ k)
  have k6 : Way p e below S0 T4 (mkF m 13 #[rv w_MANY_RULES, iv (3 : Int32), rv b4, iv (0 : Int32)] [(.ref b4), (.int (0 : Int32))]) := by
    intro t k
    refine k5 t ?_
    refine XS.astoreN X4.here hx rfl (hb hby d_prog_1_method_5_code_8) rfl rfl (l' := #[rv w_MANY_RULES, iv (3 : Int32), rv b4, .unset]) rfl ?_
    show Steps p.tables e below (T4.setTop (mkF m 9 #[rv w_MANY_RULES, iv (3 : Int32), rv b4, .unset] [])) _
    refine XS.iconst X4.here hx rfl (hb hby d_prog_1_method_5_code_9) ?_
    show Steps p.tables e below (T4.setTop (mkF m 10 #[rv w_MANY_RULES, iv (3 : Int32), rv b4, .unset] [(.int (0 : Int32))])) _
    refine XS.istoreN X4.here hx rfl (hb hby d_prog_1_method_5_code_10) rfl (l' := #[rv w_MANY_RULES, iv (3 : Int32), rv b4, iv (0 : Int32)]) rfl ?_
    show Steps p.tables e below (T4.setTop (mkF m 11 #[rv w_MANY_RULES, iv (3 : Int32), rv b4, iv (0 : Int32)] [])) _
    refine XS.iloadN X4.here hx rfl (hb hby d_prog_1_method_5_code_11) rfl ?_
    show Steps p.tables e below (T4.setTop (mkF m 12 #[rv w_MANY_RULES, iv (3 : Int32), rv b4, iv (0 : Int32)] [(.int (0 : Int32))])) _
    refine XS.aloadN X4.here hx rfl (hb hby d_prog_1_method_5_code_12) rfl rfl ?_
    show Steps p.tables e below (T4.setTop (mkF m 13 #[rv w_MANY_RULES, iv (3 : Int32), rv b4, iv (0 : Int32)] [(.ref b4), (.int (0 : Int32))])) _
    exact k
  obtain ⟨cl7, Ar7, -, S7, M7, -, -⟩ := id (v4)
  have k8 : Way p e below S0 T4 (mkF m 14 #[rv w_MANY_RULES, iv (3 : Int32), rv b4, iv (0 : Int32)] [(.int (3 : Int32)), (.int (0 : Int32))]) := fun t k => k6 t (X4.arraylength hx (by rw [e4]; exact Ar7.1) (State.isArrayOf_alike hZ.alike Ar7.2.1) (g := (mkF m 13 #[rv w_MANY_RULES, iv (3 : Int32), rv b4, iv (0 : Int32)] [(.ref b4), (.int (0 : Int32))])) rfl rfl (hb hby d_prog_1_method_5_code_13) _ (by rw [len_of S7 M7]; exact k))
  have k9 : Way p e below S0 T4 (mkF m 19 #[rv w_MANY_RULES, iv (3 : Int32), rv b4, iv (0 : Int32)] [(.int (0 : Int32)), (.ref b4)]) := by
    intro t k
    refine k8 t ?_
    refine XS.icmpNo X4.here hx rfl (hb hby d_prog_1_method_5_code_14) rfl (tlt ((by decide) : (0 : Int32) < (3 : Int32))).2.1 ?_
    show Steps p.tables e below (T4.setTop (mkF m 17 #[rv w_MANY_RULES, iv (3 : Int32), rv b4, iv (0 : Int32)] [])) _
    refine XS.aloadN X4.here hx rfl (hb hby d_prog_1_method_5_code_17) rfl rfl ?_
    show Steps p.tables e below (T4.setTop (mkF m 18 #[rv w_MANY_RULES, iv (3 : Int32), rv b4, iv (0 : Int32)] [(.ref b4)])) _
    refine XS.iloadN X4.here hx rfl (hb hby d_prog_1_method_5_code_18) rfl ?_
    show Steps p.tables e below (T4.setTop (mkF m 19 #[rv w_MANY_RULES, iv (3 : Int32), rv b4, iv (0 : Int32)] [(.int (0 : Int32)), (.ref b4)])) _
    exact k
  obtain ⟨T10, h10, X10, e10, E10, A10, D10, U10, st10⟩ := newO X4 hx hZ hown (hw _ (List.mem_of_getElem? (i := 26) rfl)) (hw _ (List.mem_of_getElem? (i := 27) rfl)) (hw _ (List.mem_of_getElem? (i := 28) rfl)) e4 (g := (mkF m 19 #[rv w_MANY_RULES, iv (3 : Int32), rv b4, iv (0 : Int32)] [(.int (0 : Int32)), (.ref b4)])) rfl (hb hby d_prog_1_method_5_code_19) (by decide) (by decide)
  obtain ⟨b10, g10⟩ : ∃ z, z = h4.size := ⟨_, rfl⟩
  rw [← g10] at A10 D10 U10 st10
  have O10 := O4.ext E10
  have K10 : Keep h0 h10 [] := K4.ext E10
  have k11 : Way p e below S0 T10 (mkF m 22 #[rv w_MANY_RULES, iv (3 : Int32), rv b4, iv (0 : Int32)] [(.ref b10), (.int (0 : Int32)), (.ref b4)]) := fun t k => k9 t (st10 _ k)
  have k12 : Way p e below S0 T10 (mkF m 23 #[rv w_MANY_RULES, iv (3 : Int32), rv b4, iv (0 : Int32)] [(.ref b10), (.ref b10), (.int (0 : Int32)), (.ref b4)]) := by
    intro t k
    refine k11 t ?_
    refine XS.dup X10.here hx rfl (hb hby d_prog_1_method_5_code_22) rfl rfl ?_
    show Steps p.tables e below (T10.setTop (mkF m 23 #[rv w_MANY_RULES, iv (3 : Int32), rv b4, iv (0 : Int32)] [(.ref b10), (.ref b10), (.int (0 : Int32)), (.ref b4)])) _
    exact k
  obtain ⟨_, _, ⟨T13, L13, kk13, nn13⟩, -, X13, ⟨Lc13, hQ13, l13, y13, z13⟩, st13⟩ := own_specialR X10 hx (y := (⟨"com/example/rulework/bench/Burst$SelfConflictingRule", "<init>", "()V"⟩ : MethodName)) rfl (mvT hZ (hw _ (List.mem_of_getElem? (i := 30) rfl))) (mvT hZ (hw _ (List.mem_of_getElem? (i := 31) rfl))) (fun U r hW hn => own_ready e hZ hown (by decide) (hw _ (List.mem_of_getElem? (i := 29) rfl)) hW hn) (backOf (W := 3) (sci l Z a0 hw [] w_POOL w_NO_RULE w_ONE_RULE w_MANY_RULES G b10 h10 n0 O10 ) hZ (hw _ (List.mem_of_getElem? (i := 31) rfl)) (hw _ (List.mem_of_getElem? (i := 28) rfl)) (by decide) (by decide)) (g := (mkF m 23 #[rv w_MANY_RULES, iv (3 : Int32), rv b4, iv (0 : Int32)] [(.ref b10), (.ref b10), (.int (0 : Int32)), (.ref b4)])) rfl (by rw [hml]; rfl) (Steps.refl _) (a := b10) (argsL := []) (rest := [(.ref b10), (.int (0 : Int32)), (.ref b4)]) (lenOf pd_2 rfl) rfl (by show 2 * 0 + _ ≤ _; exact Nat.le_of_eq rfl) (hb hby d_prog_1_method_5_code_23) (fun _ _ => ⟨rfl, e10, (by decide : 2 + 0 ≤ _), (by decide : 3 + 0 ≤ _)⟩)
  dsimp only [Pt.U, Pt.locs, Pt.cells, Pt.slots] at X13 l13 y13 z13 st13 hQ13
  subst l13 y13 z13
  obtain ⟨rfl, Nq13, e13⟩ := hQ13
  have N13 := Fr.app N2 Nq13
  have k14 : Way p e below S0 T13 (mkF m 26 #[rv w_MANY_RULES, iv (3 : Int32), rv b4, iv (0 : Int32)] [(.ref b10), (.int (0 : Int32)), (.ref b4)]) := fun t k => k12 t (st13.trans k)
  have f15 : Arv Z h10 b4 c4 (.object "com/example/rulework/rulework/SchedulingRule") (3 : Int32) [.null, .null, .null] .null := (v4.ext E10)
  obtain ⟨cl16, Ar16, qc16, S16, M16, U16, G16⟩ := id (f15)
  have hin16 : ¬ ((0 : Int32) < 0 ∨ cl16.slots.size ≤ ((0 : Int32)).toNatClampNeg) := inb_of S16 ⟨by decide, by decide⟩
  obtain ⟨T16, h16, X16, e16, W16, st16⟩ := stR X13 hx hZ e13 Ar16 (j := (0 : Int32)) hin16 rfl (Sto.ofV Ar16 qc16 V4 (Ins.of_exa A10 (hw _ (List.mem_of_getElem? (i := 35) rfl)))) (g := (mkF m 26 #[rv w_MANY_RULES, iv (3 : Int32), rv b4, iv (0 : Int32)] [(.ref b10), (.int (0 : Int32)), (.ref b4)])) rfl rfl (hb hby d_prog_1_method_5_code_26)
  have ge17 : n0 ≤ b4 := Nat.le_trans (own_old O0) (Nat.le_of_eq g4.symm)
  have O16 := O10.wr W16 ge17
  have N16 := Fr.snoc X16 N13 ge17
  have gz18 : h0.size ≤ b4 := Nat.le_trans (Keep.refl h0 []).1 (Nat.le_of_eq g4.symm)
  have K16 : Keep h0 h16 [] := K10.wr W16 (Or.inr gz18)
  have va16 : Arv Z h16 b4 c4 (.object "com/example/rulework/rulework/SchedulingRule") (3 : Int32) [(.ref b10), .null, .null] .null := Arv.set Ar16 qc16 S16 M16 U16 G16 rfl W16 0 rfl (Nat.le_of_ble_eq_true rfl)
  have k19 : Way p e below S0 T16 (mkF m 27 #[rv w_MANY_RULES, iv (3 : Int32), rv b4, iv (0 : Int32)] []) := fun t k => k14 t (st16 _ k)
  have k20 : Way p e below S0 T16 (mkF m 13 #[rv w_MANY_RULES, iv (3 : Int32), rv b4, iv (1 : Int32)] [(.ref b4), (.int (1 : Int32))]) := by
    intro t k
    refine k19 t ?_
    refine XS.iinc X16.here hx rfl (hb hby d_prog_1_method_5_code_27) rfl (l' := #[rv w_MANY_RULES, iv (3 : Int32), rv b4, iv (1 : Int32)]) rfl ?_
    show Steps p.tables e below (T16.setTop (mkF m 30 #[rv w_MANY_RULES, iv (3 : Int32), rv b4, iv (1 : Int32)] [])) _
    refine XS.goto X16.here hx rfl (pc0 := 30) (pc' := 11) rfl (hb hby d_prog_1_method_5_code_30) (by decide) (by decide) ?_
    show Steps p.tables e below (T16.setTop (mkF m 11 #[rv w_MANY_RULES, iv (3 : Int32), rv b4, iv (1 : Int32)] [])) _
    refine XS.iloadN X16.here hx rfl (hb hby d_prog_1_method_5_code_11) rfl ?_
    show Steps p.tables e below (T16.setTop (mkF m 12 #[rv w_MANY_RULES, iv (3 : Int32), rv b4, iv (1 : Int32)] [(.int (1 : Int32))])) _
    refine XS.aloadN X16.here hx rfl (hb hby d_prog_1_method_5_code_12) rfl rfl ?_
    show Steps p.tables e below (T16.setTop (mkF m 13 #[rv w_MANY_RULES, iv (3 : Int32), rv b4, iv (1 : Int32)] [(.ref b4), (.int (1 : Int32))])) _
    exact k
  obtain ⟨cl21, Ar21, -, S21, M21, -, -⟩ := id (va16)
  have k22 : Way p e below S0 T16 (mkF m 14 #[rv w_MANY_RULES, iv (3 : Int32), rv b4, iv (1 : Int32)] [(.int (3 : Int32)), (.int (1 : Int32))]) := fun t k => k20 t (X16.arraylength hx (by rw [e16]; exact Ar21.1) (State.isArrayOf_alike hZ.alike Ar21.2.1) (g := (mkF m 13 #[rv w_MANY_RULES, iv (3 : Int32), rv b4, iv (1 : Int32)] [(.ref b4), (.int (1 : Int32))])) rfl rfl (hb hby d_prog_1_method_5_code_13) _ (by rw [len_of S21 M21]; exact k))
  have k23 : Way p e below S0 T16 (mkF m 19 #[rv w_MANY_RULES, iv (3 : Int32), rv b4, iv (1 : Int32)] [(.int (1 : Int32)), (.ref b4)]) := by
    intro t k
    refine k22 t ?_
    refine XS.icmpNo X16.here hx rfl (hb hby d_prog_1_method_5_code_14) rfl (tlt ((by decide) : (1 : Int32) < (3 : Int32))).2.1 ?_
    show Steps p.tables e below (T16.setTop (mkF m 17 #[rv w_MANY_RULES, iv (3 : Int32), rv b4, iv (1 : Int32)] [])) _
    refine XS.aloadN X16.here hx rfl (hb hby d_prog_1_method_5_code_17) rfl rfl ?_
    show Steps p.tables e below (T16.setTop (mkF m 18 #[rv w_MANY_RULES, iv (3 : Int32), rv b4, iv (1 : Int32)] [(.ref b4)])) _
    refine XS.iloadN X16.here hx rfl (hb hby d_prog_1_method_5_code_18) rfl ?_
    show Steps p.tables e below (T16.setTop (mkF m 19 #[rv w_MANY_RULES, iv (3 : Int32), rv b4, iv (1 : Int32)] [(.int (1 : Int32)), (.ref b4)])) _
    exact k
  obtain ⟨T24, h24, X24, e24, E24, A24, D24, U24, st24⟩ := newO X16 hx hZ hown (hw _ (List.mem_of_getElem? (i := 26) rfl)) (hw _ (List.mem_of_getElem? (i := 27) rfl)) (hw _ (List.mem_of_getElem? (i := 28) rfl)) e16 (g := (mkF m 19 #[rv w_MANY_RULES, iv (3 : Int32), rv b4, iv (1 : Int32)] [(.int (1 : Int32)), (.ref b4)])) rfl (hb hby d_prog_1_method_5_code_19) (by decide) (by decide)
  obtain ⟨b24, g24⟩ : ∃ z, z = h16.size := ⟨_, rfl⟩
  rw [← g24] at A24 D24 U24 st24
  have O24 := O16.ext E24
  have K24 : Keep h0 h24 [] := K16.ext E24
  have k25 : Way p e below S0 T24 (mkF m 22 #[rv w_MANY_RULES, iv (3 : Int32), rv b4, iv (1 : Int32)] [(.ref b24), (.int (1 : Int32)), (.ref b4)]) := fun t k => k23 t (st24 _ k)
  have k26 : Way p e below S0 T24 (mkF m 23 #[rv w_MANY_RULES, iv (3 : Int32), rv b4, iv (1 : Int32)] [(.ref b24), (.ref b24), (.int (1 : Int32)), (.ref b4)]) := by
    intro t k
    refine k25 t ?_
    refine XS.dup X24.here hx rfl (hb hby d_prog_1_method_5_code_22) rfl rfl ?_
    show Steps p.tables e below (T24.setTop (mkF m 23 #[rv w_MANY_RULES, iv (3 : Int32), rv b4, iv (1 : Int32)] [(.ref b24), (.ref b24), (.int (1 : Int32)), (.ref b4)])) _
    exact k
  obtain ⟨_, _, ⟨T27, L27, kk27, nn27⟩, -, X27, ⟨Lc27, hQ27, l27, y27, z27⟩, st27⟩ := own_specialR X24 hx (y := (⟨"com/example/rulework/bench/Burst$SelfConflictingRule", "<init>", "()V"⟩ : MethodName)) rfl (mvT hZ (hw _ (List.mem_of_getElem? (i := 30) rfl))) (mvT hZ (hw _ (List.mem_of_getElem? (i := 31) rfl))) (fun U r hW hn => own_ready e hZ hown (by decide) (hw _ (List.mem_of_getElem? (i := 29) rfl)) hW hn) (backOf (W := 3) (sci l Z a0 hw [] w_POOL w_NO_RULE w_ONE_RULE w_MANY_RULES G b24 h24 n0 O24 ) hZ (hw _ (List.mem_of_getElem? (i := 31) rfl)) (hw _ (List.mem_of_getElem? (i := 28) rfl)) (by decide) (by decide)) (g := (mkF m 23 #[rv w_MANY_RULES, iv (3 : Int32), rv b4, iv (1 : Int32)] [(.ref b24), (.ref b24), (.int (1 : Int32)), (.ref b4)])) rfl (by rw [hml]; rfl) (Steps.refl _) (a := b24) (argsL := []) (rest := [(.ref b24), (.int (1 : Int32)), (.ref b4)]) (lenOf pd_2 rfl) rfl (by show 2 * 0 + _ ≤ _; exact Nat.le_of_eq rfl) (hb hby d_prog_1_method_5_code_23) (fun _ _ => ⟨rfl, e24, (by decide : 3 + 0 ≤ _), (by decide : 3 + 0 ≤ _)⟩)
  dsimp only [Pt.U, Pt.locs, Pt.cells, Pt.slots] at X27 l27 y27 z27 st27 hQ27
  subst l27 y27 z27
  obtain ⟨rfl, Nq27, e27⟩ := hQ27
  have N27 := Fr.app N16 Nq27
  have k28 : Way p e below S0 T27 (mkF m 26 #[rv w_MANY_RULES, iv (3 : Int32), rv b4, iv (1 : Int32)] [(.ref b24), (.int (1 : Int32)), (.ref b4)]) := fun t k => k26 t (st27.trans k)
  have f29 : Arv Z h24 b4 c4 (.object "com/example/rulework/rulework/SchedulingRule") (3 : Int32) [(.ref b10), .null, .null] .null := (va16.ext E24)
  obtain ⟨cl30, Ar30, qc30, S30, M30, U30, G30⟩ := id (f29)
  have hin30 : ¬ ((1 : Int32) < 0 ∨ cl30.slots.size ≤ ((1 : Int32)).toNatClampNeg) := inb_of S30 ⟨by decide, by decide⟩
  obtain ⟨T30, h30, X30, e30, W30, st30⟩ := stR X27 hx hZ e27 Ar30 (j := (1 : Int32)) hin30 rfl (Sto.ofV Ar30 qc30 V4 (Ins.of_exa A24 (hw _ (List.mem_of_getElem? (i := 35) rfl)))) (g := (mkF m 26 #[rv w_MANY_RULES, iv (3 : Int32), rv b4, iv (1 : Int32)] [(.ref b24), (.int (1 : Int32)), (.ref b4)])) rfl rfl (hb hby d_prog_1_method_5_code_26)
  have O30 := O24.wr W30 ge17
  have N30 := Fr.snoc X30 N27 ge17
  have K30 : Keep h0 h30 [] := K24.wr W30 (Or.inr gz18)
  have va30 : Arv Z h30 b4 c4 (.object "com/example/rulework/rulework/SchedulingRule") (3 : Int32) [(.ref b10), (.ref b24), .null] .null := Arv.set Ar30 qc30 S30 M30 U30 G30 rfl W30 1 rfl (Nat.le_of_ble_eq_true rfl)
  have k31 : Way p e below S0 T30 (mkF m 27 #[rv w_MANY_RULES, iv (3 : Int32), rv b4, iv (1 : Int32)] []) := fun t k => k28 t (st30 _ k)
  have k32 : Way p e below S0 T30 (mkF m 13 #[rv w_MANY_RULES, iv (3 : Int32), rv b4, iv (2 : Int32)] [(.ref b4), (.int (2 : Int32))]) := by
    intro t k
    refine k31 t ?_
    refine XS.iinc X30.here hx rfl (hb hby d_prog_1_method_5_code_27) rfl (l' := #[rv w_MANY_RULES, iv (3 : Int32), rv b4, iv (2 : Int32)]) rfl ?_
    show Steps p.tables e below (T30.setTop (mkF m 30 #[rv w_MANY_RULES, iv (3 : Int32), rv b4, iv (2 : Int32)] [])) _
    refine XS.goto X30.here hx rfl (pc0 := 30) (pc' := 11) rfl (hb hby d_prog_1_method_5_code_30) (by decide) (by decide) ?_
    show Steps p.tables e below (T30.setTop (mkF m 11 #[rv w_MANY_RULES, iv (3 : Int32), rv b4, iv (2 : Int32)] [])) _
    refine XS.iloadN X30.here hx rfl (hb hby d_prog_1_method_5_code_11) rfl ?_
    show Steps p.tables e below (T30.setTop (mkF m 12 #[rv w_MANY_RULES, iv (3 : Int32), rv b4, iv (2 : Int32)] [(.int (2 : Int32))])) _
    refine XS.aloadN X30.here hx rfl (hb hby d_prog_1_method_5_code_12) rfl rfl ?_
    show Steps p.tables e below (T30.setTop (mkF m 13 #[rv w_MANY_RULES, iv (3 : Int32), rv b4, iv (2 : Int32)] [(.ref b4), (.int (2 : Int32))])) _
    exact k
  obtain ⟨cl33, Ar33, -, S33, M33, -, -⟩ := id (va30)
  have k34 : Way p e below S0 T30 (mkF m 14 #[rv w_MANY_RULES, iv (3 : Int32), rv b4, iv (2 : Int32)] [(.int (3 : Int32)), (.int (2 : Int32))]) := fun t k => k32 t (X30.arraylength hx (by rw [e30]; exact Ar33.1) (State.isArrayOf_alike hZ.alike Ar33.2.1) (g := (mkF m 13 #[rv w_MANY_RULES, iv (3 : Int32), rv b4, iv (2 : Int32)] [(.ref b4), (.int (2 : Int32))])) rfl rfl (hb hby d_prog_1_method_5_code_13) _ (by rw [len_of S33 M33]; exact k))
  have k35 : Way p e below S0 T30 (mkF m 19 #[rv w_MANY_RULES, iv (3 : Int32), rv b4, iv (2 : Int32)] [(.int (2 : Int32)), (.ref b4)]) := by
    intro t k
    refine k34 t ?_
    refine XS.icmpNo X30.here hx rfl (hb hby d_prog_1_method_5_code_14) rfl (tlt ((by decide) : (2 : Int32) < (3 : Int32))).2.1 ?_
    show Steps p.tables e below (T30.setTop (mkF m 17 #[rv w_MANY_RULES, iv (3 : Int32), rv b4, iv (2 : Int32)] [])) _
    refine XS.aloadN X30.here hx rfl (hb hby d_prog_1_method_5_code_17) rfl rfl ?_
    show Steps p.tables e below (T30.setTop (mkF m 18 #[rv w_MANY_RULES, iv (3 : Int32), rv b4, iv (2 : Int32)] [(.ref b4)])) _
    refine XS.iloadN X30.here hx rfl (hb hby d_prog_1_method_5_code_18) rfl ?_
    show Steps p.tables e below (T30.setTop (mkF m 19 #[rv w_MANY_RULES, iv (3 : Int32), rv b4, iv (2 : Int32)] [(.int (2 : Int32)), (.ref b4)])) _
    exact k
  obtain ⟨T36, h36, X36, e36, E36, A36, D36, U36, st36⟩ := newO X30 hx hZ hown (hw _ (List.mem_of_getElem? (i := 26) rfl)) (hw _ (List.mem_of_getElem? (i := 27) rfl)) (hw _ (List.mem_of_getElem? (i := 28) rfl)) e30 (g := (mkF m 19 #[rv w_MANY_RULES, iv (3 : Int32), rv b4, iv (2 : Int32)] [(.int (2 : Int32)), (.ref b4)])) rfl (hb hby d_prog_1_method_5_code_19) (by decide) (by decide)
  obtain ⟨b36, g36⟩ : ∃ z, z = h30.size := ⟨_, rfl⟩
  rw [← g36] at A36 D36 U36 st36
  have O36 := O30.ext E36
  have K36 : Keep h0 h36 [] := K30.ext E36
  have k37 : Way p e below S0 T36 (mkF m 22 #[rv w_MANY_RULES, iv (3 : Int32), rv b4, iv (2 : Int32)] [(.ref b36), (.int (2 : Int32)), (.ref b4)]) := fun t k => k35 t (st36 _ k)
  have k38 : Way p e below S0 T36 (mkF m 23 #[rv w_MANY_RULES, iv (3 : Int32), rv b4, iv (2 : Int32)] [(.ref b36), (.ref b36), (.int (2 : Int32)), (.ref b4)]) := by
    intro t k
    refine k37 t ?_
    refine XS.dup X36.here hx rfl (hb hby d_prog_1_method_5_code_22) rfl rfl ?_
    show Steps p.tables e below (T36.setTop (mkF m 23 #[rv w_MANY_RULES, iv (3 : Int32), rv b4, iv (2 : Int32)] [(.ref b36), (.ref b36), (.int (2 : Int32)), (.ref b4)])) _
    exact k
  obtain ⟨_, _, ⟨T39, L39, kk39, nn39⟩, -, X39, ⟨Lc39, hQ39, l39, y39, z39⟩, st39⟩ := own_specialR X36 hx (y := (⟨"com/example/rulework/bench/Burst$SelfConflictingRule", "<init>", "()V"⟩ : MethodName)) rfl (mvT hZ (hw _ (List.mem_of_getElem? (i := 30) rfl))) (mvT hZ (hw _ (List.mem_of_getElem? (i := 31) rfl))) (fun U r hW hn => own_ready e hZ hown (by decide) (hw _ (List.mem_of_getElem? (i := 29) rfl)) hW hn) (backOf (W := 3) (sci l Z a0 hw [] w_POOL w_NO_RULE w_ONE_RULE w_MANY_RULES G b36 h36 n0 O36 ) hZ (hw _ (List.mem_of_getElem? (i := 31) rfl)) (hw _ (List.mem_of_getElem? (i := 28) rfl)) (by decide) (by decide)) (g := (mkF m 23 #[rv w_MANY_RULES, iv (3 : Int32), rv b4, iv (2 : Int32)] [(.ref b36), (.ref b36), (.int (2 : Int32)), (.ref b4)])) rfl (by rw [hml]; rfl) (Steps.refl _) (a := b36) (argsL := []) (rest := [(.ref b36), (.int (2 : Int32)), (.ref b4)]) (lenOf pd_2 rfl) rfl (by show 2 * 0 + _ ≤ _; exact Nat.le_of_eq rfl) (hb hby d_prog_1_method_5_code_23) (fun _ _ => ⟨rfl, e36, (by decide : 4 + 0 ≤ _), (by decide : 3 + 0 ≤ _)⟩)
  dsimp only [Pt.U, Pt.locs, Pt.cells, Pt.slots] at X39 l39 y39 z39 st39 hQ39
  subst l39 y39 z39
  obtain ⟨rfl, Nq39, e39⟩ := hQ39
  have N39 := Fr.app N30 Nq39
  have k40 : Way p e below S0 T39 (mkF m 26 #[rv w_MANY_RULES, iv (3 : Int32), rv b4, iv (2 : Int32)] [(.ref b36), (.int (2 : Int32)), (.ref b4)]) := fun t k => k38 t (st39.trans k)
  have f41 : Arv Z h36 b4 c4 (.object "com/example/rulework/rulework/SchedulingRule") (3 : Int32) [(.ref b10), (.ref b24), .null] .null := (va30.ext E36)
  obtain ⟨cl42, Ar42, qc42, S42, M42, U42, G42⟩ := id (f41)
  have hin42 : ¬ ((2 : Int32) < 0 ∨ cl42.slots.size ≤ ((2 : Int32)).toNatClampNeg) := inb_of S42 ⟨by decide, by decide⟩
  obtain ⟨T42, h42, X42, e42, W42, st42⟩ := stR X39 hx hZ e39 Ar42 (j := (2 : Int32)) hin42 rfl (Sto.ofV Ar42 qc42 V4 (Ins.of_exa A36 (hw _ (List.mem_of_getElem? (i := 35) rfl)))) (g := (mkF m 26 #[rv w_MANY_RULES, iv (3 : Int32), rv b4, iv (2 : Int32)] [(.ref b36), (.int (2 : Int32)), (.ref b4)])) rfl rfl (hb hby d_prog_1_method_5_code_26)
  have O42 := O36.wr W42 ge17
  have N42 := Fr.snoc X42 N39 ge17
  have K42 : Keep h0 h42 [] := K36.wr W42 (Or.inr gz18)
  have va42 : Arv Z h42 b4 c4 (.object "com/example/rulework/rulework/SchedulingRule") (3 : Int32) [(.ref b10), (.ref b24), (.ref b36)] .null := Arv.set Ar42 qc42 S42 M42 U42 G42 rfl W42 2 rfl (Nat.le_of_ble_eq_true rfl)
  have k43 : Way p e below S0 T42 (mkF m 27 #[rv w_MANY_RULES, iv (3 : Int32), rv b4, iv (2 : Int32)] []) := fun t k => k40 t (st42 _ k)
  have k44 : Way p e below S0 T42 (mkF m 13 #[rv w_MANY_RULES, iv (3 : Int32), rv b4, iv (3 : Int32)] [(.ref b4), (.int (3 : Int32))]) := by
    intro t k
    refine k43 t ?_
    refine XS.iinc X42.here hx rfl (hb hby d_prog_1_method_5_code_27) rfl (l' := #[rv w_MANY_RULES, iv (3 : Int32), rv b4, iv (3 : Int32)]) rfl ?_
    show Steps p.tables e below (T42.setTop (mkF m 30 #[rv w_MANY_RULES, iv (3 : Int32), rv b4, iv (3 : Int32)] [])) _
    refine XS.goto X42.here hx rfl (pc0 := 30) (pc' := 11) rfl (hb hby d_prog_1_method_5_code_30) (by decide) (by decide) ?_
    show Steps p.tables e below (T42.setTop (mkF m 11 #[rv w_MANY_RULES, iv (3 : Int32), rv b4, iv (3 : Int32)] [])) _
    refine XS.iloadN X42.here hx rfl (hb hby d_prog_1_method_5_code_11) rfl ?_
    show Steps p.tables e below (T42.setTop (mkF m 12 #[rv w_MANY_RULES, iv (3 : Int32), rv b4, iv (3 : Int32)] [(.int (3 : Int32))])) _
    refine XS.aloadN X42.here hx rfl (hb hby d_prog_1_method_5_code_12) rfl rfl ?_
    show Steps p.tables e below (T42.setTop (mkF m 13 #[rv w_MANY_RULES, iv (3 : Int32), rv b4, iv (3 : Int32)] [(.ref b4), (.int (3 : Int32))])) _
    exact k
  obtain ⟨cl45, Ar45, -, S45, M45, -, -⟩ := id (va42)
  have k46 : Way p e below S0 T42 (mkF m 14 #[rv w_MANY_RULES, iv (3 : Int32), rv b4, iv (3 : Int32)] [(.int (3 : Int32)), (.int (3 : Int32))]) := fun t k => k44 t (X42.arraylength hx (by rw [e42]; exact Ar45.1) (State.isArrayOf_alike hZ.alike Ar45.2.1) (g := (mkF m 13 #[rv w_MANY_RULES, iv (3 : Int32), rv b4, iv (3 : Int32)] [(.ref b4), (.int (3 : Int32))])) rfl rfl (hb hby d_prog_1_method_5_code_13) _ (by rw [len_of S45 M45]; exact k))
  have k47 : Way p e below S0 T42 (mkF m 34 #[rv w_MANY_RULES, iv (3 : Int32), rv b4, iv (3 : Int32)] [(.ref b4)]) := by
    intro t k
    refine k46 t ?_
    refine XS.icmpYes X42.here hx rfl (pc0 := 14) (pc' := 33) rfl (hb hby d_prog_1_method_5_code_14) rfl (flt ((by decide) : ¬ ((3 : Int32) < (3 : Int32)))).2.1 (by decide) (by decide) ?_
    show Steps p.tables e below (T42.setTop (mkF m 33 #[rv w_MANY_RULES, iv (3 : Int32), rv b4, iv (3 : Int32)] [])) _
    refine XS.aloadN X42.here hx rfl (hb hby d_prog_1_method_5_code_33) rfl rfl ?_
    show Steps p.tables e below (T42.setTop (mkF m 34 #[rv w_MANY_RULES, iv (3 : Int32), rv b4, iv (3 : Int32)] [(.ref b4)])) _
    exact k
  obtain ⟨fs, hr, hrun, hended, hW, hsame⟩ := X42.leave (v := some (.ref b4)) (fun h => by rw [Bd.returns] at h; cases h)
  have gz48 : h0.size ≤ b10 := Nat.le_trans K4.1 (Nat.le_of_eq g10.symm)
  have f49 : Exa Z h42 b10 "com/example/rulework/bench/Burst$SelfConflictingRule" := (((((A10.wr W16).ext E24).wr W30).ext E36).wr W42)
  have gz50 : h0.size ≤ b24 := Nat.le_trans K16.1 (Nat.le_of_eq g24.symm)
  have f51 : Exa Z h42 b24 "com/example/rulework/bench/Burst$SelfConflictingRule" := (((A24.wr W30).ext E36).wr W42)
  have gz52 : h0.size ≤ b36 := Nat.le_trans K30.1 (Nat.le_of_eq g36.symm)
  have f53 : Exa Z h42 b36 "com/example/rulework/bench/Burst$SelfConflictingRule" := (A36.wr W42)
  refine ⟨_, _, k47 _ (retOut X42 hx Bd.returns rfl (Or.inr (Or.inr (Or.inr (Or.inr ⟨rfl, rfl, rfl⟩)))) (hb hby d_prog_1_method_5_code_34) hr), hrun, hended, _, _, rfl, ?_, ⟨_, rfl⟩, hW, hsame.mono (by decide) (by decide)⟩
  show Q_mkm3 Z w_POOL w_NO_RULE w_ONE_RULE w_MANY_RULES  h0 n0 _ T42.heap _
  rw [e42]
  exact ⟨b4, c4, b10, b24, b36, rfl, N42, K42, gz18, va42, gz48, f49, gz50, f51, gz52, f53, (Nat.ne_of_lt (Nat.lt_of_lt_of_le (A10.wr W16).lt (Nat.le_of_eq g24.symm))), (Nat.ne_of_lt (Nat.lt_of_lt_of_le (((A10.wr W16).ext E24).wr W30).lt (Nat.le_of_eq g36.symm))), (Nat.ne_of_lt (Nat.lt_of_lt_of_le (A24.wr W30).lt (Nat.le_of_eq g36.symm)))⟩
def Q_mkm4 (Z : State) (w_POOL : Addr) (w_NO_RULE : Addr) (w_ONE_RULE : Addr) (w_MANY_RULES : Addr)  (h0 : Heap) (n0 : Nat) (v : Option Value) (h : Heap) (L : List Loc) : Prop := ∃ b1 : Addr, ∃ kc : ClassId, ∃ x0 : Addr, ∃ x1 : Addr, ∃ x2 : Addr, ∃ x3 : Addr, (v = some (.ref b1)) ∧ (Fr n0 L) ∧ (Keep h0 h []) ∧ (h0.size ≤ b1) ∧ (Arv Z h b1 kc (.object "com/example/rulework/rulework/SchedulingRule") (4 : Int32) [(.ref x0), (.ref x1), (.ref x2), (.ref x3)] .null) ∧ (h0.size ≤ x0) ∧ (Exa Z h x0 "com/example/rulework/bench/Burst$SelfConflictingRule") ∧ (h0.size ≤ x1) ∧ (Exa Z h x1 "com/example/rulework/bench/Burst$SelfConflictingRule") ∧ (h0.size ≤ x2) ∧ (Exa Z h x2 "com/example/rulework/bench/Burst$SelfConflictingRule") ∧ (h0.size ≤ x3) ∧ (Exa Z h x3 "com/example/rulework/bench/Burst$SelfConflictingRule") ∧ (x0 ≠ x1) ∧ (x0 ≠ x2) ∧ (x0 ≠ x3) ∧ (x1 ≠ x2) ∧ (x1 ≠ x3) ∧ (x2 ≠ x3)
set_option maxRecDepth 65536 in
set_option maxHeartbeats 40000000 in
theorem mkm4 (l : Launch) (Z : State) (a0 : Array Value) (hw : ∀ d ∈ tables_1, d.before a0 Z = true) (ws : List Jvm.Cond) (w_POOL : Addr) (w_NO_RULE : Addr) (w_ONE_RULE : Addr) (w_MANY_RULES : Addr) (G : Gst Z w_POOL w_NO_RULE w_ONE_RULE w_MANY_RULES)  (h0 : Heap) (n0 : Nat) (O0 : Old Z n0 h0) :
    MetFree l (⟨"com/example/rulework/bench/Burst", "makeRules", "(I)[Lcom/example/rulework/rulework/SchedulingRule;"⟩ : MethodName) (head1 (Jvm.Cond.code (⟨"com/example/rulework/bench/Burst", "makeRules", "(I)[Lcom/example/rulework/rulework/SchedulingRule;"⟩ : MethodName) prog_1_method_5_code 4 (some (.array (.object "com/example/rulework/rulework/SchedulingRule"))) :: ws) ({ frames := 2, cells := 5, slots := 4, locals := 27 } : Room)) (fun a U => a = #[(.ref w_MANY_RULES), (.int (4 : Int32))] ∧ Z.Warmed39 U.vm ∧ U.heap = h0) (fun _ _ _ _ _ => True) (fun _ U o U' => ∃ v L, o = .returned v ∧ Q_mkm4 Z w_POOL w_NO_RULE w_ONE_RULE w_MANY_RULES  h0 n0 v U'.heap L ∧ FrameEnd U o U' L ({ frames := 2, cells := 5, slots := 4, locals := 27 } : Room).cells ({ frames := 2, cells := 5, slots := 4, locals := 27 } : Room).slots) := by
  refine MetFree.of_bodySF (plainFor_of_name pn_1) hisR ?_
  intro p e s m args below meth c s₁ Bd hml0 hP hK
  obtain ⟨rfl, hZ, hh⟩ := hP
  have hx := Bd.exec
  have hby := Bd.bytes
  have hml : c.maxLocals = 4 := hml0
  have hown : s.vm.findClass "com/example/rulework/bench/Burst" = some m.cls := findClass_of_methodNamed Bd.named
  have hnm := (name_of_methodNamed Bd.named Bd.method).1
  have X0 : Stand p l e ({ frames := 2, cells := 5, slots := 4, locals := 27 } : Room) s m #[(.ref w_MANY_RULES), (.int (4 : Int32))] below meth c s₁ [] 0 0 := Stand.of_body Bd
  have e0 : s₁.heap = h0 := by rw [← hh, Bd.state]; rfl
  have N0 := Fr.nil n0
  obtain ⟨S_w_POOL, E_w_POOL, F_w_POOL_ordinal, S_w_NO_RULE, E_w_NO_RULE, F_w_NO_RULE_ordinal, S_w_ONE_RULE, E_w_ONE_RULE, F_w_ONE_RULE_ordinal, S_w_MANY_RULES, E_w_MANY_RULES, F_w_MANY_RULES_ordinal⟩ := id G
  have k0 : Way p e below (s₁.setTop (entryFrame m #[(.ref w_MANY_RULES), (.int (4 : Int32))] 4)) s₁ (mkF m 0 #[rv w_MANY_RULES, iv (4 : Int32), .unset, .unset] []) := fun t k => castTop (by first | (simp [entryFrame, mkF, argsToLocals, Value.category]; done) | rfl) k
  generalize s₁.setTop (entryFrame m #[(.ref w_MANY_RULES), (.int (4 : Int32))] 4) = S0 at k0 ⊢
  have k1 : Way p e below S0 s₁ (mkF m 2 #[rv w_MANY_RULES, iv (4 : Int32), .unset, .unset] [(.int (4 : Int32)), (.ref w_MANY_RULES)]) := by
    intro t k
    refine k0 t ?_
    refine XS.aloadN X0.here hx rfl (hb hby d_prog_1_method_5_code_0) rfl rfl ?_
    show Steps p.tables e below (s₁.setTop (mkF m 1 #[rv w_MANY_RULES, iv (4 : Int32), .unset, .unset] [(.ref w_MANY_RULES)])) _
    refine XS.iloadN X0.here hx rfl (hb hby d_prog_1_method_5_code_1) rfl ?_
    show Steps p.tables e below (s₁.setTop (mkF m 2 #[rv w_MANY_RULES, iv (4 : Int32), .unset, .unset] [(.int (4 : Int32)), (.ref w_MANY_RULES)])) _
    exact k
  obtain ⟨cq2, kq2, qq2a, qq2b, qq2c⟩ := isOf hZ e0 (E_w_MANY_RULES.ext O0.2)
  obtain ⟨_, _, ⟨T2, L2, kk2, nn2⟩, -, X2, ⟨Lc2, hQ2, l2, y2, z2⟩, st2⟩ := X0.virtualBack hx (y := (⟨"com/example/rulework/bench/Burst", "ruleCount", "(I)I"⟩ : MethodName)) (z := (⟨"com/example/rulework/bench/Burst", "ruleCount", "(I)I"⟩ : MethodName)) hown (mvT hZ (hw _ (List.mem_of_getElem? (i := 8) rfl))) (mvT hZ (hw _ (List.mem_of_getElem? (i := 9) rfl))) (notFace_of_selects (args := #[]) (mvT hZ (hw _ (List.mem_of_getElem? (i := 11) rfl)))) (mvT hZ (hw _ (List.mem_of_getElem? (i := 11) rfl))) (mvT hZ (hw _ (List.mem_of_getElem? (i := 10) rfl))) (by decide) (backOf (W := 0) (rc3 l Z a0 hw [] w_POOL w_NO_RULE w_ONE_RULE w_MANY_RULES G (4 : Int32) h0 n0 O0 ) hZ (hw _ (List.mem_of_getElem? (i := 12) rfl)) (hw _ (List.mem_of_getElem? (i := 1) rfl)) (by decide) (by decide)) qq2a qq2c (g := (mkF m 2 #[rv w_MANY_RULES, iv (4 : Int32), .unset, .unset] [(.int (4 : Int32)), (.ref w_MANY_RULES)])) rfl (by rw [hml]; rfl) (Steps.refl _) (argsL := [(.int (4 : Int32))]) (rest := []) (lenOf pd_1 rfl) rfl (by show 2 * 0 + _ ≤ _; exact Nat.le_of_eq rfl) (hb hby d_prog_1_method_5_code_2) (fun _ _ => ⟨rfl, e0, (by decide : 0 + 0 ≤ _), (by decide : 0 + 0 ≤ _)⟩)
  dsimp only [Pt.U, Pt.locs, Pt.cells, Pt.slots] at X2 l2 y2 z2 st2 hQ2
  subst l2 y2 z2
  obtain ⟨rfl, Nq2, e2⟩ := hQ2
  have N2 := Fr.app N0 Nq2
  have k3 : Way p e below S0 T2 (mkF m 5 #[rv w_MANY_RULES, iv (4 : Int32), .unset, .unset] [(.int (4 : Int32))]) := fun t k => k1 t (st2.trans k)
  obtain ⟨T4, h4, c4, X4, e4, E4, A4, B4, V4, st4⟩ := newRE X2 hx hZ hown (hw _ (List.mem_of_getElem? (i := 22) rfl)) (hw _ (List.mem_of_getElem? (i := 23) rfl)) e2 (g := (mkF m 5 #[rv w_MANY_RULES, iv (4 : Int32), .unset, .unset] [(.int (4 : Int32))])) rfl (hb hby d_prog_1_method_5_code_5) rfl (by decide) (cap := 4) (by decide) (by decide) (by decide) (by decide) (ad := "[Lcom/example/rulework/rulework/SchedulingRule;") (by decide)
  obtain ⟨b4, g4⟩ : ∃ z, z = h0.size := ⟨_, rfl⟩
  rw [← g4] at A4 B4 st4
  have O4 := O0.ext E4
  have K4 : Keep h0 h4 [] := (Keep.refl h0 []).ext E4
  have v4 : Arv Z h4 b4 c4 (.object "com/example/rulework/rulework/SchedulingRule") (4 : Int32) [.null, .null, .null, .null] .null := (Arv.new A4 (by decide)).pad (pad_rep [] .null 4)
  have k5 : Way p e below S0 T4 (mkF m 8 #[rv w_MANY_RULES, iv (4 : Int32), .unset, .unset] [(.ref b4)]) := fun t k => k3 t (st4 _ k)
  have k6 : Way p e below S0 T4 (mkF m 13 #[rv w_MANY_RULES, iv (4 : Int32), rv b4, iv (0 : Int32)] [(.ref b4), (.int (0 : Int32))]) := by
    intro t k
    refine k5 t ?_
    refine XS.astoreN X4.here hx rfl (hb hby d_prog_1_method_5_code_8) rfl rfl (l' := #[rv w_MANY_RULES, iv (4 : Int32), rv b4, .unset]) rfl ?_
    show Steps p.tables e below (T4.setTop (mkF m 9 #[rv w_MANY_RULES, iv (4 : Int32), rv b4, .unset] [])) _
    refine XS.iconst X4.here hx rfl (hb hby d_prog_1_method_5_code_9) ?_
    show Steps p.tables e below (T4.setTop (mkF m 10 #[rv w_MANY_RULES, iv (4 : Int32), rv b4, .unset] [(.int (0 : Int32))])) _
    refine XS.istoreN X4.here hx rfl (hb hby d_prog_1_method_5_code_10) rfl (l' := #[rv w_MANY_RULES, iv (4 : Int32), rv b4, iv (0 : Int32)]) rfl ?_
    show Steps p.tables e below (T4.setTop (mkF m 11 #[rv w_MANY_RULES, iv (4 : Int32), rv b4, iv (0 : Int32)] [])) _
    refine XS.iloadN X4.here hx rfl (hb hby d_prog_1_method_5_code_11) rfl ?_
    show Steps p.tables e below (T4.setTop (mkF m 12 #[rv w_MANY_RULES, iv (4 : Int32), rv b4, iv (0 : Int32)] [(.int (0 : Int32))])) _
    refine XS.aloadN X4.here hx rfl (hb hby d_prog_1_method_5_code_12) rfl rfl ?_
    show Steps p.tables e below (T4.setTop (mkF m 13 #[rv w_MANY_RULES, iv (4 : Int32), rv b4, iv (0 : Int32)] [(.ref b4), (.int (0 : Int32))])) _
    exact k
  obtain ⟨cl7, Ar7, -, S7, M7, -, -⟩ := id (v4)
  have k8 : Way p e below S0 T4 (mkF m 14 #[rv w_MANY_RULES, iv (4 : Int32), rv b4, iv (0 : Int32)] [(.int (4 : Int32)), (.int (0 : Int32))]) := fun t k => k6 t (X4.arraylength hx (by rw [e4]; exact Ar7.1) (State.isArrayOf_alike hZ.alike Ar7.2.1) (g := (mkF m 13 #[rv w_MANY_RULES, iv (4 : Int32), rv b4, iv (0 : Int32)] [(.ref b4), (.int (0 : Int32))])) rfl rfl (hb hby d_prog_1_method_5_code_13) _ (by rw [len_of S7 M7]; exact k))
  have k9 : Way p e below S0 T4 (mkF m 19 #[rv w_MANY_RULES, iv (4 : Int32), rv b4, iv (0 : Int32)] [(.int (0 : Int32)), (.ref b4)]) := by
    intro t k
    refine k8 t ?_
    refine XS.icmpNo X4.here hx rfl (hb hby d_prog_1_method_5_code_14) rfl (tlt ((by decide) : (0 : Int32) < (4 : Int32))).2.1 ?_
    show Steps p.tables e below (T4.setTop (mkF m 17 #[rv w_MANY_RULES, iv (4 : Int32), rv b4, iv (0 : Int32)] [])) _
    refine XS.aloadN X4.here hx rfl (hb hby d_prog_1_method_5_code_17) rfl rfl ?_
    show Steps p.tables e below (T4.setTop (mkF m 18 #[rv w_MANY_RULES, iv (4 : Int32), rv b4, iv (0 : Int32)] [(.ref b4)])) _
    refine XS.iloadN X4.here hx rfl (hb hby d_prog_1_method_5_code_18) rfl ?_
    show Steps p.tables e below (T4.setTop (mkF m 19 #[rv w_MANY_RULES, iv (4 : Int32), rv b4, iv (0 : Int32)] [(.int (0 : Int32)), (.ref b4)])) _
    exact k
  obtain ⟨T10, h10, X10, e10, E10, A10, D10, U10, st10⟩ := newO X4 hx hZ hown (hw _ (List.mem_of_getElem? (i := 26) rfl)) (hw _ (List.mem_of_getElem? (i := 27) rfl)) (hw _ (List.mem_of_getElem? (i := 28) rfl)) e4 (g := (mkF m 19 #[rv w_MANY_RULES, iv (4 : Int32), rv b4, iv (0 : Int32)] [(.int (0 : Int32)), (.ref b4)])) rfl (hb hby d_prog_1_method_5_code_19) (by decide) (by decide)
  obtain ⟨b10, g10⟩ : ∃ z, z = h4.size := ⟨_, rfl⟩
  rw [← g10] at A10 D10 U10 st10
  have O10 := O4.ext E10
  have K10 : Keep h0 h10 [] := K4.ext E10
  have k11 : Way p e below S0 T10 (mkF m 22 #[rv w_MANY_RULES, iv (4 : Int32), rv b4, iv (0 : Int32)] [(.ref b10), (.int (0 : Int32)), (.ref b4)]) := fun t k => k9 t (st10 _ k)
  have k12 : Way p e below S0 T10 (mkF m 23 #[rv w_MANY_RULES, iv (4 : Int32), rv b4, iv (0 : Int32)] [(.ref b10), (.ref b10), (.int (0 : Int32)), (.ref b4)]) := by
    intro t k
    refine k11 t ?_
    refine XS.dup X10.here hx rfl (hb hby d_prog_1_method_5_code_22) rfl rfl ?_
    show Steps p.tables e below (T10.setTop (mkF m 23 #[rv w_MANY_RULES, iv (4 : Int32), rv b4, iv (0 : Int32)] [(.ref b10), (.ref b10), (.int (0 : Int32)), (.ref b4)])) _
    exact k
  obtain ⟨_, _, ⟨T13, L13, kk13, nn13⟩, -, X13, ⟨Lc13, hQ13, l13, y13, z13⟩, st13⟩ := own_specialR X10 hx (y := (⟨"com/example/rulework/bench/Burst$SelfConflictingRule", "<init>", "()V"⟩ : MethodName)) rfl (mvT hZ (hw _ (List.mem_of_getElem? (i := 30) rfl))) (mvT hZ (hw _ (List.mem_of_getElem? (i := 31) rfl))) (fun U r hW hn => own_ready e hZ hown (by decide) (hw _ (List.mem_of_getElem? (i := 29) rfl)) hW hn) (backOf (W := 3) (sci l Z a0 hw [] w_POOL w_NO_RULE w_ONE_RULE w_MANY_RULES G b10 h10 n0 O10 ) hZ (hw _ (List.mem_of_getElem? (i := 31) rfl)) (hw _ (List.mem_of_getElem? (i := 28) rfl)) (by decide) (by decide)) (g := (mkF m 23 #[rv w_MANY_RULES, iv (4 : Int32), rv b4, iv (0 : Int32)] [(.ref b10), (.ref b10), (.int (0 : Int32)), (.ref b4)])) rfl (by rw [hml]; rfl) (Steps.refl _) (a := b10) (argsL := []) (rest := [(.ref b10), (.int (0 : Int32)), (.ref b4)]) (lenOf pd_2 rfl) rfl (by show 2 * 0 + _ ≤ _; exact Nat.le_of_eq rfl) (hb hby d_prog_1_method_5_code_23) (fun _ _ => ⟨rfl, e10, (by decide : 2 + 0 ≤ _), (by decide : 4 + 0 ≤ _)⟩)
  dsimp only [Pt.U, Pt.locs, Pt.cells, Pt.slots] at X13 l13 y13 z13 st13 hQ13
  subst l13 y13 z13
  obtain ⟨rfl, Nq13, e13⟩ := hQ13
  have N13 := Fr.app N2 Nq13
  have k14 : Way p e below S0 T13 (mkF m 26 #[rv w_MANY_RULES, iv (4 : Int32), rv b4, iv (0 : Int32)] [(.ref b10), (.int (0 : Int32)), (.ref b4)]) := fun t k => k12 t (st13.trans k)
  have f15 : Arv Z h10 b4 c4 (.object "com/example/rulework/rulework/SchedulingRule") (4 : Int32) [.null, .null, .null, .null] .null := (v4.ext E10)
  obtain ⟨cl16, Ar16, qc16, S16, M16, U16, G16⟩ := id (f15)
  have hin16 : ¬ ((0 : Int32) < 0 ∨ cl16.slots.size ≤ ((0 : Int32)).toNatClampNeg) := inb_of S16 ⟨by decide, by decide⟩
  obtain ⟨T16, h16, X16, e16, W16, st16⟩ := stR X13 hx hZ e13 Ar16 (j := (0 : Int32)) hin16 rfl (Sto.ofV Ar16 qc16 V4 (Ins.of_exa A10 (hw _ (List.mem_of_getElem? (i := 35) rfl)))) (g := (mkF m 26 #[rv w_MANY_RULES, iv (4 : Int32), rv b4, iv (0 : Int32)] [(.ref b10), (.int (0 : Int32)), (.ref b4)])) rfl rfl (hb hby d_prog_1_method_5_code_26)
  have ge17 : n0 ≤ b4 := Nat.le_trans (own_old O0) (Nat.le_of_eq g4.symm)
  have O16 := O10.wr W16 ge17
  have N16 := Fr.snoc X16 N13 ge17
  have gz18 : h0.size ≤ b4 := Nat.le_trans (Keep.refl h0 []).1 (Nat.le_of_eq g4.symm)
  have K16 : Keep h0 h16 [] := K10.wr W16 (Or.inr gz18)
  have va16 : Arv Z h16 b4 c4 (.object "com/example/rulework/rulework/SchedulingRule") (4 : Int32) [(.ref b10), .null, .null, .null] .null := Arv.set Ar16 qc16 S16 M16 U16 G16 rfl W16 0 rfl (Nat.le_of_ble_eq_true rfl)
  have k19 : Way p e below S0 T16 (mkF m 27 #[rv w_MANY_RULES, iv (4 : Int32), rv b4, iv (0 : Int32)] []) := fun t k => k14 t (st16 _ k)
  have k20 : Way p e below S0 T16 (mkF m 13 #[rv w_MANY_RULES, iv (4 : Int32), rv b4, iv (1 : Int32)] [(.ref b4), (.int (1 : Int32))]) := by
    intro t k
    refine k19 t ?_
    refine XS.iinc X16.here hx rfl (hb hby d_prog_1_method_5_code_27) rfl (l' := #[rv w_MANY_RULES, iv (4 : Int32), rv b4, iv (1 : Int32)]) rfl ?_
    show Steps p.tables e below (T16.setTop (mkF m 30 #[rv w_MANY_RULES, iv (4 : Int32), rv b4, iv (1 : Int32)] [])) _
    refine XS.goto X16.here hx rfl (pc0 := 30) (pc' := 11) rfl (hb hby d_prog_1_method_5_code_30) (by decide) (by decide) ?_
    show Steps p.tables e below (T16.setTop (mkF m 11 #[rv w_MANY_RULES, iv (4 : Int32), rv b4, iv (1 : Int32)] [])) _
    refine XS.iloadN X16.here hx rfl (hb hby d_prog_1_method_5_code_11) rfl ?_
    show Steps p.tables e below (T16.setTop (mkF m 12 #[rv w_MANY_RULES, iv (4 : Int32), rv b4, iv (1 : Int32)] [(.int (1 : Int32))])) _
    refine XS.aloadN X16.here hx rfl (hb hby d_prog_1_method_5_code_12) rfl rfl ?_
    show Steps p.tables e below (T16.setTop (mkF m 13 #[rv w_MANY_RULES, iv (4 : Int32), rv b4, iv (1 : Int32)] [(.ref b4), (.int (1 : Int32))])) _
    exact k
  obtain ⟨cl21, Ar21, -, S21, M21, -, -⟩ := id (va16)
  have k22 : Way p e below S0 T16 (mkF m 14 #[rv w_MANY_RULES, iv (4 : Int32), rv b4, iv (1 : Int32)] [(.int (4 : Int32)), (.int (1 : Int32))]) := fun t k => k20 t (X16.arraylength hx (by rw [e16]; exact Ar21.1) (State.isArrayOf_alike hZ.alike Ar21.2.1) (g := (mkF m 13 #[rv w_MANY_RULES, iv (4 : Int32), rv b4, iv (1 : Int32)] [(.ref b4), (.int (1 : Int32))])) rfl rfl (hb hby d_prog_1_method_5_code_13) _ (by rw [len_of S21 M21]; exact k))
  have k23 : Way p e below S0 T16 (mkF m 19 #[rv w_MANY_RULES, iv (4 : Int32), rv b4, iv (1 : Int32)] [(.int (1 : Int32)), (.ref b4)]) := by
    intro t k
    refine k22 t ?_
    refine XS.icmpNo X16.here hx rfl (hb hby d_prog_1_method_5_code_14) rfl (tlt ((by decide) : (1 : Int32) < (4 : Int32))).2.1 ?_
    show Steps p.tables e below (T16.setTop (mkF m 17 #[rv w_MANY_RULES, iv (4 : Int32), rv b4, iv (1 : Int32)] [])) _
    refine XS.aloadN X16.here hx rfl (hb hby d_prog_1_method_5_code_17) rfl rfl ?_
    show Steps p.tables e below (T16.setTop (mkF m 18 #[rv w_MANY_RULES, iv (4 : Int32), rv b4, iv (1 : Int32)] [(.ref b4)])) _
    refine XS.iloadN X16.here hx rfl (hb hby d_prog_1_method_5_code_18) rfl ?_
    show Steps p.tables e below (T16.setTop (mkF m 19 #[rv w_MANY_RULES, iv (4 : Int32), rv b4, iv (1 : Int32)] [(.int (1 : Int32)), (.ref b4)])) _
    exact k
  obtain ⟨T24, h24, X24, e24, E24, A24, D24, U24, st24⟩ := newO X16 hx hZ hown (hw _ (List.mem_of_getElem? (i := 26) rfl)) (hw _ (List.mem_of_getElem? (i := 27) rfl)) (hw _ (List.mem_of_getElem? (i := 28) rfl)) e16 (g := (mkF m 19 #[rv w_MANY_RULES, iv (4 : Int32), rv b4, iv (1 : Int32)] [(.int (1 : Int32)), (.ref b4)])) rfl (hb hby d_prog_1_method_5_code_19) (by decide) (by decide)
  obtain ⟨b24, g24⟩ : ∃ z, z = h16.size := ⟨_, rfl⟩
  rw [← g24] at A24 D24 U24 st24
  have O24 := O16.ext E24
  have K24 : Keep h0 h24 [] := K16.ext E24
  have k25 : Way p e below S0 T24 (mkF m 22 #[rv w_MANY_RULES, iv (4 : Int32), rv b4, iv (1 : Int32)] [(.ref b24), (.int (1 : Int32)), (.ref b4)]) := fun t k => k23 t (st24 _ k)
  have k26 : Way p e below S0 T24 (mkF m 23 #[rv w_MANY_RULES, iv (4 : Int32), rv b4, iv (1 : Int32)] [(.ref b24), (.ref b24), (.int (1 : Int32)), (.ref b4)]) := by
    intro t k
    refine k25 t ?_
    refine XS.dup X24.here hx rfl (hb hby d_prog_1_method_5_code_22) rfl rfl ?_
    show Steps p.tables e below (T24.setTop (mkF m 23 #[rv w_MANY_RULES, iv (4 : Int32), rv b4, iv (1 : Int32)] [(.ref b24), (.ref b24), (.int (1 : Int32)), (.ref b4)])) _
    exact k
  obtain ⟨_, _, ⟨T27, L27, kk27, nn27⟩, -, X27, ⟨Lc27, hQ27, l27, y27, z27⟩, st27⟩ := own_specialR X24 hx (y := (⟨"com/example/rulework/bench/Burst$SelfConflictingRule", "<init>", "()V"⟩ : MethodName)) rfl (mvT hZ (hw _ (List.mem_of_getElem? (i := 30) rfl))) (mvT hZ (hw _ (List.mem_of_getElem? (i := 31) rfl))) (fun U r hW hn => own_ready e hZ hown (by decide) (hw _ (List.mem_of_getElem? (i := 29) rfl)) hW hn) (backOf (W := 3) (sci l Z a0 hw [] w_POOL w_NO_RULE w_ONE_RULE w_MANY_RULES G b24 h24 n0 O24 ) hZ (hw _ (List.mem_of_getElem? (i := 31) rfl)) (hw _ (List.mem_of_getElem? (i := 28) rfl)) (by decide) (by decide)) (g := (mkF m 23 #[rv w_MANY_RULES, iv (4 : Int32), rv b4, iv (1 : Int32)] [(.ref b24), (.ref b24), (.int (1 : Int32)), (.ref b4)])) rfl (by rw [hml]; rfl) (Steps.refl _) (a := b24) (argsL := []) (rest := [(.ref b24), (.int (1 : Int32)), (.ref b4)]) (lenOf pd_2 rfl) rfl (by show 2 * 0 + _ ≤ _; exact Nat.le_of_eq rfl) (hb hby d_prog_1_method_5_code_23) (fun _ _ => ⟨rfl, e24, (by decide : 3 + 0 ≤ _), (by decide : 4 + 0 ≤ _)⟩)
  dsimp only [Pt.U, Pt.locs, Pt.cells, Pt.slots] at X27 l27 y27 z27 st27 hQ27
  subst l27 y27 z27
  obtain ⟨rfl, Nq27, e27⟩ := hQ27
  have N27 := Fr.app N16 Nq27
  have k28 : Way p e below S0 T27 (mkF m 26 #[rv w_MANY_RULES, iv (4 : Int32), rv b4, iv (1 : Int32)] [(.ref b24), (.int (1 : Int32)), (.ref b4)]) := fun t k => k26 t (st27.trans k)
  have f29 : Arv Z h24 b4 c4 (.object "com/example/rulework/rulework/SchedulingRule") (4 : Int32) [(.ref b10), .null, .null, .null] .null := (va16.ext E24)
  obtain ⟨cl30, Ar30, qc30, S30, M30, U30, G30⟩ := id (f29)
  have hin30 : ¬ ((1 : Int32) < 0 ∨ cl30.slots.size ≤ ((1 : Int32)).toNatClampNeg) := inb_of S30 ⟨by decide, by decide⟩
  obtain ⟨T30, h30, X30, e30, W30, st30⟩ := stR X27 hx hZ e27 Ar30 (j := (1 : Int32)) hin30 rfl (Sto.ofV Ar30 qc30 V4 (Ins.of_exa A24 (hw _ (List.mem_of_getElem? (i := 35) rfl)))) (g := (mkF m 26 #[rv w_MANY_RULES, iv (4 : Int32), rv b4, iv (1 : Int32)] [(.ref b24), (.int (1 : Int32)), (.ref b4)])) rfl rfl (hb hby d_prog_1_method_5_code_26)
  have O30 := O24.wr W30 ge17
  have N30 := Fr.snoc X30 N27 ge17
  have K30 : Keep h0 h30 [] := K24.wr W30 (Or.inr gz18)
  have va30 : Arv Z h30 b4 c4 (.object "com/example/rulework/rulework/SchedulingRule") (4 : Int32) [(.ref b10), (.ref b24), .null, .null] .null := Arv.set Ar30 qc30 S30 M30 U30 G30 rfl W30 1 rfl (Nat.le_of_ble_eq_true rfl)
  have k31 : Way p e below S0 T30 (mkF m 27 #[rv w_MANY_RULES, iv (4 : Int32), rv b4, iv (1 : Int32)] []) := fun t k => k28 t (st30 _ k)
  have k32 : Way p e below S0 T30 (mkF m 13 #[rv w_MANY_RULES, iv (4 : Int32), rv b4, iv (2 : Int32)] [(.ref b4), (.int (2 : Int32))]) := by
    intro t k
    refine k31 t ?_
    refine XS.iinc X30.here hx rfl (hb hby d_prog_1_method_5_code_27) rfl (l' := #[rv w_MANY_RULES, iv (4 : Int32), rv b4, iv (2 : Int32)]) rfl ?_
    show Steps p.tables e below (T30.setTop (mkF m 30 #[rv w_MANY_RULES, iv (4 : Int32), rv b4, iv (2 : Int32)] [])) _
    refine XS.goto X30.here hx rfl (pc0 := 30) (pc' := 11) rfl (hb hby d_prog_1_method_5_code_30) (by decide) (by decide) ?_
    show Steps p.tables e below (T30.setTop (mkF m 11 #[rv w_MANY_RULES, iv (4 : Int32), rv b4, iv (2 : Int32)] [])) _
    refine XS.iloadN X30.here hx rfl (hb hby d_prog_1_method_5_code_11) rfl ?_
    show Steps p.tables e below (T30.setTop (mkF m 12 #[rv w_MANY_RULES, iv (4 : Int32), rv b4, iv (2 : Int32)] [(.int (2 : Int32))])) _
    refine XS.aloadN X30.here hx rfl (hb hby d_prog_1_method_5_code_12) rfl rfl ?_
    show Steps p.tables e below (T30.setTop (mkF m 13 #[rv w_MANY_RULES, iv (4 : Int32), rv b4, iv (2 : Int32)] [(.ref b4), (.int (2 : Int32))])) _
    exact k
  obtain ⟨cl33, Ar33, -, S33, M33, -, -⟩ := id (va30)
  have k34 : Way p e below S0 T30 (mkF m 14 #[rv w_MANY_RULES, iv (4 : Int32), rv b4, iv (2 : Int32)] [(.int (4 : Int32)), (.int (2 : Int32))]) := fun t k => k32 t (X30.arraylength hx (by rw [e30]; exact Ar33.1) (State.isArrayOf_alike hZ.alike Ar33.2.1) (g := (mkF m 13 #[rv w_MANY_RULES, iv (4 : Int32), rv b4, iv (2 : Int32)] [(.ref b4), (.int (2 : Int32))])) rfl rfl (hb hby d_prog_1_method_5_code_13) _ (by rw [len_of S33 M33]; exact k))
  have k35 : Way p e below S0 T30 (mkF m 19 #[rv w_MANY_RULES, iv (4 : Int32), rv b4, iv (2 : Int32)] [(.int (2 : Int32)), (.ref b4)]) := by
    intro t k
    refine k34 t ?_
    refine XS.icmpNo X30.here hx rfl (hb hby d_prog_1_method_5_code_14) rfl (tlt ((by decide) : (2 : Int32) < (4 : Int32))).2.1 ?_
    show Steps p.tables e below (T30.setTop (mkF m 17 #[rv w_MANY_RULES, iv (4 : Int32), rv b4, iv (2 : Int32)] [])) _
    refine XS.aloadN X30.here hx rfl (hb hby d_prog_1_method_5_code_17) rfl rfl ?_
    show Steps p.tables e below (T30.setTop (mkF m 18 #[rv w_MANY_RULES, iv (4 : Int32), rv b4, iv (2 : Int32)] [(.ref b4)])) _
    refine XS.iloadN X30.here hx rfl (hb hby d_prog_1_method_5_code_18) rfl ?_
    show Steps p.tables e below (T30.setTop (mkF m 19 #[rv w_MANY_RULES, iv (4 : Int32), rv b4, iv (2 : Int32)] [(.int (2 : Int32)), (.ref b4)])) _
    exact k
  obtain ⟨T36, h36, X36, e36, E36, A36, D36, U36, st36⟩ := newO X30 hx hZ hown (hw _ (List.mem_of_getElem? (i := 26) rfl)) (hw _ (List.mem_of_getElem? (i := 27) rfl)) (hw _ (List.mem_of_getElem? (i := 28) rfl)) e30 (g := (mkF m 19 #[rv w_MANY_RULES, iv (4 : Int32), rv b4, iv (2 : Int32)] [(.int (2 : Int32)), (.ref b4)])) rfl (hb hby d_prog_1_method_5_code_19) (by decide) (by decide)
  obtain ⟨b36, g36⟩ : ∃ z, z = h30.size := ⟨_, rfl⟩
  rw [← g36] at A36 D36 U36 st36
  have O36 := O30.ext E36
  have K36 : Keep h0 h36 [] := K30.ext E36
  have k37 : Way p e below S0 T36 (mkF m 22 #[rv w_MANY_RULES, iv (4 : Int32), rv b4, iv (2 : Int32)] [(.ref b36), (.int (2 : Int32)), (.ref b4)]) := fun t k => k35 t (st36 _ k)
  have k38 : Way p e below S0 T36 (mkF m 23 #[rv w_MANY_RULES, iv (4 : Int32), rv b4, iv (2 : Int32)] [(.ref b36), (.ref b36), (.int (2 : Int32)), (.ref b4)]) := by
    intro t k
    refine k37 t ?_
    refine XS.dup X36.here hx rfl (hb hby d_prog_1_method_5_code_22) rfl rfl ?_
    show Steps p.tables e below (T36.setTop (mkF m 23 #[rv w_MANY_RULES, iv (4 : Int32), rv b4, iv (2 : Int32)] [(.ref b36), (.ref b36), (.int (2 : Int32)), (.ref b4)])) _
    exact k
  obtain ⟨_, _, ⟨T39, L39, kk39, nn39⟩, -, X39, ⟨Lc39, hQ39, l39, y39, z39⟩, st39⟩ := own_specialR X36 hx (y := (⟨"com/example/rulework/bench/Burst$SelfConflictingRule", "<init>", "()V"⟩ : MethodName)) rfl (mvT hZ (hw _ (List.mem_of_getElem? (i := 30) rfl))) (mvT hZ (hw _ (List.mem_of_getElem? (i := 31) rfl))) (fun U r hW hn => own_ready e hZ hown (by decide) (hw _ (List.mem_of_getElem? (i := 29) rfl)) hW hn) (backOf (W := 3) (sci l Z a0 hw [] w_POOL w_NO_RULE w_ONE_RULE w_MANY_RULES G b36 h36 n0 O36 ) hZ (hw _ (List.mem_of_getElem? (i := 31) rfl)) (hw _ (List.mem_of_getElem? (i := 28) rfl)) (by decide) (by decide)) (g := (mkF m 23 #[rv w_MANY_RULES, iv (4 : Int32), rv b4, iv (2 : Int32)] [(.ref b36), (.ref b36), (.int (2 : Int32)), (.ref b4)])) rfl (by rw [hml]; rfl) (Steps.refl _) (a := b36) (argsL := []) (rest := [(.ref b36), (.int (2 : Int32)), (.ref b4)]) (lenOf pd_2 rfl) rfl (by show 2 * 0 + _ ≤ _; exact Nat.le_of_eq rfl) (hb hby d_prog_1_method_5_code_23) (fun _ _ => ⟨rfl, e36, (by decide : 4 + 0 ≤ _), (by decide : 4 + 0 ≤ _)⟩)
  dsimp only [Pt.U, Pt.locs, Pt.cells, Pt.slots] at X39 l39 y39 z39 st39 hQ39
  subst l39 y39 z39
  obtain ⟨rfl, Nq39, e39⟩ := hQ39
  have N39 := Fr.app N30 Nq39
  have k40 : Way p e below S0 T39 (mkF m 26 #[rv w_MANY_RULES, iv (4 : Int32), rv b4, iv (2 : Int32)] [(.ref b36), (.int (2 : Int32)), (.ref b4)]) := fun t k => k38 t (st39.trans k)
  have f41 : Arv Z h36 b4 c4 (.object "com/example/rulework/rulework/SchedulingRule") (4 : Int32) [(.ref b10), (.ref b24), .null, .null] .null := (va30.ext E36)
  obtain ⟨cl42, Ar42, qc42, S42, M42, U42, G42⟩ := id (f41)
  have hin42 : ¬ ((2 : Int32) < 0 ∨ cl42.slots.size ≤ ((2 : Int32)).toNatClampNeg) := inb_of S42 ⟨by decide, by decide⟩
  obtain ⟨T42, h42, X42, e42, W42, st42⟩ := stR X39 hx hZ e39 Ar42 (j := (2 : Int32)) hin42 rfl (Sto.ofV Ar42 qc42 V4 (Ins.of_exa A36 (hw _ (List.mem_of_getElem? (i := 35) rfl)))) (g := (mkF m 26 #[rv w_MANY_RULES, iv (4 : Int32), rv b4, iv (2 : Int32)] [(.ref b36), (.int (2 : Int32)), (.ref b4)])) rfl rfl (hb hby d_prog_1_method_5_code_26)
  have O42 := O36.wr W42 ge17
  have N42 := Fr.snoc X42 N39 ge17
  have K42 : Keep h0 h42 [] := K36.wr W42 (Or.inr gz18)
  have va42 : Arv Z h42 b4 c4 (.object "com/example/rulework/rulework/SchedulingRule") (4 : Int32) [(.ref b10), (.ref b24), (.ref b36), .null] .null := Arv.set Ar42 qc42 S42 M42 U42 G42 rfl W42 2 rfl (Nat.le_of_ble_eq_true rfl)
  have k43 : Way p e below S0 T42 (mkF m 27 #[rv w_MANY_RULES, iv (4 : Int32), rv b4, iv (2 : Int32)] []) := fun t k => k40 t (st42 _ k)
  have k44 : Way p e below S0 T42 (mkF m 13 #[rv w_MANY_RULES, iv (4 : Int32), rv b4, iv (3 : Int32)] [(.ref b4), (.int (3 : Int32))]) := by
    intro t k
    refine k43 t ?_
    refine XS.iinc X42.here hx rfl (hb hby d_prog_1_method_5_code_27) rfl (l' := #[rv w_MANY_RULES, iv (4 : Int32), rv b4, iv (3 : Int32)]) rfl ?_
    show Steps p.tables e below (T42.setTop (mkF m 30 #[rv w_MANY_RULES, iv (4 : Int32), rv b4, iv (3 : Int32)] [])) _
    refine XS.goto X42.here hx rfl (pc0 := 30) (pc' := 11) rfl (hb hby d_prog_1_method_5_code_30) (by decide) (by decide) ?_
    show Steps p.tables e below (T42.setTop (mkF m 11 #[rv w_MANY_RULES, iv (4 : Int32), rv b4, iv (3 : Int32)] [])) _
    refine XS.iloadN X42.here hx rfl (hb hby d_prog_1_method_5_code_11) rfl ?_
    show Steps p.tables e below (T42.setTop (mkF m 12 #[rv w_MANY_RULES, iv (4 : Int32), rv b4, iv (3 : Int32)] [(.int (3 : Int32))])) _
    refine XS.aloadN X42.here hx rfl (hb hby d_prog_1_method_5_code_12) rfl rfl ?_
    show Steps p.tables e below (T42.setTop (mkF m 13 #[rv w_MANY_RULES, iv (4 : Int32), rv b4, iv (3 : Int32)] [(.ref b4), (.int (3 : Int32))])) _
    exact k
  obtain ⟨cl45, Ar45, -, S45, M45, -, -⟩ := id (va42)
  have k46 : Way p e below S0 T42 (mkF m 14 #[rv w_MANY_RULES, iv (4 : Int32), rv b4, iv (3 : Int32)] [(.int (4 : Int32)), (.int (3 : Int32))]) := fun t k => k44 t (X42.arraylength hx (by rw [e42]; exact Ar45.1) (State.isArrayOf_alike hZ.alike Ar45.2.1) (g := (mkF m 13 #[rv w_MANY_RULES, iv (4 : Int32), rv b4, iv (3 : Int32)] [(.ref b4), (.int (3 : Int32))])) rfl rfl (hb hby d_prog_1_method_5_code_13) _ (by rw [len_of S45 M45]; exact k))
  have k47 : Way p e below S0 T42 (mkF m 19 #[rv w_MANY_RULES, iv (4 : Int32), rv b4, iv (3 : Int32)] [(.int (3 : Int32)), (.ref b4)]) := by
    intro t k
    refine k46 t ?_
    refine XS.icmpNo X42.here hx rfl (hb hby d_prog_1_method_5_code_14) rfl (tlt ((by decide) : (3 : Int32) < (4 : Int32))).2.1 ?_
    show Steps p.tables e below (T42.setTop (mkF m 17 #[rv w_MANY_RULES, iv (4 : Int32), rv b4, iv (3 : Int32)] [])) _
    refine XS.aloadN X42.here hx rfl (hb hby d_prog_1_method_5_code_17) rfl rfl ?_
    show Steps p.tables e below (T42.setTop (mkF m 18 #[rv w_MANY_RULES, iv (4 : Int32), rv b4, iv (3 : Int32)] [(.ref b4)])) _
    refine XS.iloadN X42.here hx rfl (hb hby d_prog_1_method_5_code_18) rfl ?_
    show Steps p.tables e below (T42.setTop (mkF m 19 #[rv w_MANY_RULES, iv (4 : Int32), rv b4, iv (3 : Int32)] [(.int (3 : Int32)), (.ref b4)])) _
    exact k
  obtain ⟨T48, h48, X48, e48, E48, A48, D48, U48, st48⟩ := newO X42 hx hZ hown (hw _ (List.mem_of_getElem? (i := 26) rfl)) (hw _ (List.mem_of_getElem? (i := 27) rfl)) (hw _ (List.mem_of_getElem? (i := 28) rfl)) e42 (g := (mkF m 19 #[rv w_MANY_RULES, iv (4 : Int32), rv b4, iv (3 : Int32)] [(.int (3 : Int32)), (.ref b4)])) rfl (hb hby d_prog_1_method_5_code_19) (by decide) (by decide)
  obtain ⟨b48, g48⟩ : ∃ z, z = h42.size := ⟨_, rfl⟩
  rw [← g48] at A48 D48 U48 st48
  have O48 := O42.ext E48
  have K48 : Keep h0 h48 [] := K42.ext E48
  have k49 : Way p e below S0 T48 (mkF m 22 #[rv w_MANY_RULES, iv (4 : Int32), rv b4, iv (3 : Int32)] [(.ref b48), (.int (3 : Int32)), (.ref b4)]) := fun t k => k47 t (st48 _ k)
  have k50 : Way p e below S0 T48 (mkF m 23 #[rv w_MANY_RULES, iv (4 : Int32), rv b4, iv (3 : Int32)] [(.ref b48), (.ref b48), (.int (3 : Int32)), (.ref b4)]) := by
    intro t k
    refine k49 t ?_
    refine XS.dup X48.here hx rfl (hb hby d_prog_1_method_5_code_22) rfl rfl ?_
    show Steps p.tables e below (T48.setTop (mkF m 23 #[rv w_MANY_RULES, iv (4 : Int32), rv b4, iv (3 : Int32)] [(.ref b48), (.ref b48), (.int (3 : Int32)), (.ref b4)])) _
    exact k
  obtain ⟨_, _, ⟨T51, L51, kk51, nn51⟩, -, X51, ⟨Lc51, hQ51, l51, y51, z51⟩, st51⟩ := own_specialR X48 hx (y := (⟨"com/example/rulework/bench/Burst$SelfConflictingRule", "<init>", "()V"⟩ : MethodName)) rfl (mvT hZ (hw _ (List.mem_of_getElem? (i := 30) rfl))) (mvT hZ (hw _ (List.mem_of_getElem? (i := 31) rfl))) (fun U r hW hn => own_ready e hZ hown (by decide) (hw _ (List.mem_of_getElem? (i := 29) rfl)) hW hn) (backOf (W := 3) (sci l Z a0 hw [] w_POOL w_NO_RULE w_ONE_RULE w_MANY_RULES G b48 h48 n0 O48 ) hZ (hw _ (List.mem_of_getElem? (i := 31) rfl)) (hw _ (List.mem_of_getElem? (i := 28) rfl)) (by decide) (by decide)) (g := (mkF m 23 #[rv w_MANY_RULES, iv (4 : Int32), rv b4, iv (3 : Int32)] [(.ref b48), (.ref b48), (.int (3 : Int32)), (.ref b4)])) rfl (by rw [hml]; rfl) (Steps.refl _) (a := b48) (argsL := []) (rest := [(.ref b48), (.int (3 : Int32)), (.ref b4)]) (lenOf pd_2 rfl) rfl (by show 2 * 0 + _ ≤ _; exact Nat.le_of_eq rfl) (hb hby d_prog_1_method_5_code_23) (fun _ _ => ⟨rfl, e48, (by decide : 5 + 0 ≤ _), (by decide : 4 + 0 ≤ _)⟩)
  dsimp only [Pt.U, Pt.locs, Pt.cells, Pt.slots] at X51 l51 y51 z51 st51 hQ51
  subst l51 y51 z51
  obtain ⟨rfl, Nq51, e51⟩ := hQ51
  have N51 := Fr.app N42 Nq51
  have k52 : Way p e below S0 T51 (mkF m 26 #[rv w_MANY_RULES, iv (4 : Int32), rv b4, iv (3 : Int32)] [(.ref b48), (.int (3 : Int32)), (.ref b4)]) := fun t k => k50 t (st51.trans k)
  have f53 : Arv Z h48 b4 c4 (.object "com/example/rulework/rulework/SchedulingRule") (4 : Int32) [(.ref b10), (.ref b24), (.ref b36), .null] .null := (va42.ext E48)
  obtain ⟨cl54, Ar54, qc54, S54, M54, U54, G54⟩ := id (f53)
  have hin54 : ¬ ((3 : Int32) < 0 ∨ cl54.slots.size ≤ ((3 : Int32)).toNatClampNeg) := inb_of S54 ⟨by decide, by decide⟩
  obtain ⟨T54, h54, X54, e54, W54, st54⟩ := stR X51 hx hZ e51 Ar54 (j := (3 : Int32)) hin54 rfl (Sto.ofV Ar54 qc54 V4 (Ins.of_exa A48 (hw _ (List.mem_of_getElem? (i := 35) rfl)))) (g := (mkF m 26 #[rv w_MANY_RULES, iv (4 : Int32), rv b4, iv (3 : Int32)] [(.ref b48), (.int (3 : Int32)), (.ref b4)])) rfl rfl (hb hby d_prog_1_method_5_code_26)
  have O54 := O48.wr W54 ge17
  have N54 := Fr.snoc X54 N51 ge17
  have K54 : Keep h0 h54 [] := K48.wr W54 (Or.inr gz18)
  have va54 : Arv Z h54 b4 c4 (.object "com/example/rulework/rulework/SchedulingRule") (4 : Int32) [(.ref b10), (.ref b24), (.ref b36), (.ref b48)] .null := Arv.set Ar54 qc54 S54 M54 U54 G54 rfl W54 3 rfl (Nat.le_of_ble_eq_true rfl)
  have k55 : Way p e below S0 T54 (mkF m 27 #[rv w_MANY_RULES, iv (4 : Int32), rv b4, iv (3 : Int32)] []) := fun t k => k52 t (st54 _ k)
  have k56 : Way p e below S0 T54 (mkF m 13 #[rv w_MANY_RULES, iv (4 : Int32), rv b4, iv (4 : Int32)] [(.ref b4), (.int (4 : Int32))]) := by
    intro t k
    refine k55 t ?_
    refine XS.iinc X54.here hx rfl (hb hby d_prog_1_method_5_code_27) rfl (l' := #[rv w_MANY_RULES, iv (4 : Int32), rv b4, iv (4 : Int32)]) rfl ?_
    show Steps p.tables e below (T54.setTop (mkF m 30 #[rv w_MANY_RULES, iv (4 : Int32), rv b4, iv (4 : Int32)] [])) _
    refine XS.goto X54.here hx rfl (pc0 := 30) (pc' := 11) rfl (hb hby d_prog_1_method_5_code_30) (by decide) (by decide) ?_
    show Steps p.tables e below (T54.setTop (mkF m 11 #[rv w_MANY_RULES, iv (4 : Int32), rv b4, iv (4 : Int32)] [])) _
    refine XS.iloadN X54.here hx rfl (hb hby d_prog_1_method_5_code_11) rfl ?_
    show Steps p.tables e below (T54.setTop (mkF m 12 #[rv w_MANY_RULES, iv (4 : Int32), rv b4, iv (4 : Int32)] [(.int (4 : Int32))])) _
    refine XS.aloadN X54.here hx rfl (hb hby d_prog_1_method_5_code_12) rfl rfl ?_
    show Steps p.tables e below (T54.setTop (mkF m 13 #[rv w_MANY_RULES, iv (4 : Int32), rv b4, iv (4 : Int32)] [(.ref b4), (.int (4 : Int32))])) _
    exact k
  obtain ⟨cl57, Ar57, -, S57, M57, -, -⟩ := id (va54)
  have k58 : Way p e below S0 T54 (mkF m 14 #[rv w_MANY_RULES, iv (4 : Int32), rv b4, iv (4 : Int32)] [(.int (4 : Int32)), (.int (4 : Int32))]) := fun t k => k56 t (X54.arraylength hx (by rw [e54]; exact Ar57.1) (State.isArrayOf_alike hZ.alike Ar57.2.1) (g := (mkF m 13 #[rv w_MANY_RULES, iv (4 : Int32), rv b4, iv (4 : Int32)] [(.ref b4), (.int (4 : Int32))])) rfl rfl (hb hby d_prog_1_method_5_code_13) _ (by rw [len_of S57 M57]; exact k))
  have k59 : Way p e below S0 T54 (mkF m 34 #[rv w_MANY_RULES, iv (4 : Int32), rv b4, iv (4 : Int32)] [(.ref b4)]) := by
    intro t k
    refine k58 t ?_
    refine XS.icmpYes X54.here hx rfl (pc0 := 14) (pc' := 33) rfl (hb hby d_prog_1_method_5_code_14) rfl (flt ((by decide) : ¬ ((4 : Int32) < (4 : Int32)))).2.1 (by decide) (by decide) ?_
    show Steps p.tables e below (T54.setTop (mkF m 33 #[rv w_MANY_RULES, iv (4 : Int32), rv b4, iv (4 : Int32)] [])) _
    refine XS.aloadN X54.here hx rfl (hb hby d_prog_1_method_5_code_33) rfl rfl ?_
    show Steps p.tables e below (T54.setTop (mkF m 34 #[rv w_MANY_RULES, iv (4 : Int32), rv b4, iv (4 : Int32)] [(.ref b4)])) _
    exact k
  obtain ⟨fs, hr, hrun, hended, hW, hsame⟩ := X54.leave (v := some (.ref b4)) (fun h => by rw [Bd.returns] at h; cases h)
  have gz60 : h0.size ≤ b10 := Nat.le_trans K4.1 (Nat.le_of_eq g10.symm)
  have f61 : Exa Z h54 b10 "com/example/rulework/bench/Burst$SelfConflictingRule" := (((((((A10.wr W16).ext E24).wr W30).ext E36).wr W42).ext E48).wr W54)
  have gz62 : h0.size ≤ b24 := Nat.le_trans K16.1 (Nat.le_of_eq g24.symm)
  have f63 : Exa Z h54 b24 "com/example/rulework/bench/Burst$SelfConflictingRule" := (((((A24.wr W30).ext E36).wr W42).ext E48).wr W54)
  have gz64 : h0.size ≤ b36 := Nat.le_trans K30.1 (Nat.le_of_eq g36.symm)
  have f65 : Exa Z h54 b36 "com/example/rulework/bench/Burst$SelfConflictingRule" := (((A36.wr W42).ext E48).wr W54)
  have gz66 : h0.size ≤ b48 := Nat.le_trans K42.1 (Nat.le_of_eq g48.symm)
  have f67 : Exa Z h54 b48 "com/example/rulework/bench/Burst$SelfConflictingRule" := (A48.wr W54)
  refine ⟨_, _, k59 _ (retOut X54 hx Bd.returns rfl (Or.inr (Or.inr (Or.inr (Or.inr ⟨rfl, rfl, rfl⟩)))) (hb hby d_prog_1_method_5_code_34) hr), hrun, hended, _, _, rfl, ?_, ⟨_, rfl⟩, hW, hsame.mono (by decide) (by decide)⟩
  show Q_mkm4 Z w_POOL w_NO_RULE w_ONE_RULE w_MANY_RULES  h0 n0 _ T54.heap _
  rw [e54]
  exact ⟨b4, c4, b10, b24, b36, b48, rfl, N54, K54, gz18, va54, gz60, f61, gz62, f63, gz64, f65, gz66, f67, (Nat.ne_of_lt (Nat.lt_of_lt_of_le (A10.wr W16).lt (Nat.le_of_eq g24.symm))), (Nat.ne_of_lt (Nat.lt_of_lt_of_le (((A10.wr W16).ext E24).wr W30).lt (Nat.le_of_eq g36.symm))), (Nat.ne_of_lt (Nat.lt_of_lt_of_le (((((A10.wr W16).ext E24).wr W30).ext E36).wr W42).lt (Nat.le_of_eq g48.symm))), (Nat.ne_of_lt (Nat.lt_of_lt_of_le (A24.wr W30).lt (Nat.le_of_eq g36.symm))), (Nat.ne_of_lt (Nat.lt_of_lt_of_le (((A24.wr W30).ext E36).wr W42).lt (Nat.le_of_eq g48.symm))), (Nat.ne_of_lt (Nat.lt_of_lt_of_le (A36.wr W42).lt (Nat.le_of_eq g48.symm)))⟩
def Q_mkm5 (Z : State) (w_POOL : Addr) (w_NO_RULE : Addr) (w_ONE_RULE : Addr) (w_MANY_RULES : Addr)  (h0 : Heap) (n0 : Nat) (v : Option Value) (h : Heap) (L : List Loc) : Prop := ∃ b1 : Addr, ∃ kc : ClassId, ∃ x0 : Addr, ∃ x1 : Addr, ∃ x2 : Addr, ∃ x3 : Addr, ∃ x4 : Addr, (v = some (.ref b1)) ∧ (Fr n0 L) ∧ (Keep h0 h []) ∧ (h0.size ≤ b1) ∧ (Arv Z h b1 kc (.object "com/example/rulework/rulework/SchedulingRule") (5 : Int32) [(.ref x0), (.ref x1), (.ref x2), (.ref x3), (.ref x4)] .null) ∧ (h0.size ≤ x0) ∧ (Exa Z h x0 "com/example/rulework/bench/Burst$SelfConflictingRule") ∧ (h0.size ≤ x1) ∧ (Exa Z h x1 "com/example/rulework/bench/Burst$SelfConflictingRule") ∧ (h0.size ≤ x2) ∧ (Exa Z h x2 "com/example/rulework/bench/Burst$SelfConflictingRule") ∧ (h0.size ≤ x3) ∧ (Exa Z h x3 "com/example/rulework/bench/Burst$SelfConflictingRule") ∧ (h0.size ≤ x4) ∧ (Exa Z h x4 "com/example/rulework/bench/Burst$SelfConflictingRule") ∧ (x0 ≠ x1) ∧ (x0 ≠ x2) ∧ (x0 ≠ x3) ∧ (x0 ≠ x4) ∧ (x1 ≠ x2) ∧ (x1 ≠ x3) ∧ (x1 ≠ x4) ∧ (x2 ≠ x3) ∧ (x2 ≠ x4) ∧ (x3 ≠ x4)
set_option maxRecDepth 65536 in
set_option maxHeartbeats 40000000 in
theorem mkm5 (l : Launch) (Z : State) (a0 : Array Value) (hw : ∀ d ∈ tables_1, d.before a0 Z = true) (ws : List Jvm.Cond) (w_POOL : Addr) (w_NO_RULE : Addr) (w_ONE_RULE : Addr) (w_MANY_RULES : Addr) (G : Gst Z w_POOL w_NO_RULE w_ONE_RULE w_MANY_RULES)  (h0 : Heap) (n0 : Nat) (O0 : Old Z n0 h0) :
    MetFree l (⟨"com/example/rulework/bench/Burst", "makeRules", "(I)[Lcom/example/rulework/rulework/SchedulingRule;"⟩ : MethodName) (head1 (Jvm.Cond.code (⟨"com/example/rulework/bench/Burst", "makeRules", "(I)[Lcom/example/rulework/rulework/SchedulingRule;"⟩ : MethodName) prog_1_method_5_code 4 (some (.array (.object "com/example/rulework/rulework/SchedulingRule"))) :: ws) ({ frames := 2, cells := 6, slots := 5, locals := 27 } : Room)) (fun a U => a = #[(.ref w_MANY_RULES), (.int (5 : Int32))] ∧ Z.Warmed39 U.vm ∧ U.heap = h0) (fun _ _ _ _ _ => True) (fun _ U o U' => ∃ v L, o = .returned v ∧ Q_mkm5 Z w_POOL w_NO_RULE w_ONE_RULE w_MANY_RULES  h0 n0 v U'.heap L ∧ FrameEnd U o U' L ({ frames := 2, cells := 6, slots := 5, locals := 27 } : Room).cells ({ frames := 2, cells := 6, slots := 5, locals := 27 } : Room).slots) := by
  refine MetFree.of_bodySF (plainFor_of_name pn_1) hisR ?_
  intro p e s m args below meth c s₁ Bd hml0 hP hK
  obtain ⟨rfl, hZ, hh⟩ := hP
  have hx := Bd.exec
  have hby := Bd.bytes
  have hml : c.maxLocals = 4 := hml0
  have hown : s.vm.findClass "com/example/rulework/bench/Burst" = some m.cls := findClass_of_methodNamed Bd.named
  have hnm := (name_of_methodNamed Bd.named Bd.method).1
  have X0 : Stand p l e ({ frames := 2, cells := 6, slots := 5, locals := 27 } : Room) s m #[(.ref w_MANY_RULES), (.int (5 : Int32))] below meth c s₁ [] 0 0 := Stand.of_body Bd
  have e0 : s₁.heap = h0 := by rw [← hh, Bd.state]; rfl
  have N0 := Fr.nil n0
  obtain ⟨S_w_POOL, E_w_POOL, F_w_POOL_ordinal, S_w_NO_RULE, E_w_NO_RULE, F_w_NO_RULE_ordinal, S_w_ONE_RULE, E_w_ONE_RULE, F_w_ONE_RULE_ordinal, S_w_MANY_RULES, E_w_MANY_RULES, F_w_MANY_RULES_ordinal⟩ := id G
  have k0 : Way p e below (s₁.setTop (entryFrame m #[(.ref w_MANY_RULES), (.int (5 : Int32))] 4)) s₁ (mkF m 0 #[rv w_MANY_RULES, iv (5 : Int32), .unset, .unset] []) := fun t k => castTop (by first | (simp [entryFrame, mkF, argsToLocals, Value.category]; done) | rfl) k
  generalize s₁.setTop (entryFrame m #[(.ref w_MANY_RULES), (.int (5 : Int32))] 4) = S0 at k0 ⊢
  have k1 : Way p e below S0 s₁ (mkF m 2 #[rv w_MANY_RULES, iv (5 : Int32), .unset, .unset] [(.int (5 : Int32)), (.ref w_MANY_RULES)]) := by
    intro t k
    refine k0 t ?_
    refine XS.aloadN X0.here hx rfl (hb hby d_prog_1_method_5_code_0) rfl rfl ?_
    show Steps p.tables e below (s₁.setTop (mkF m 1 #[rv w_MANY_RULES, iv (5 : Int32), .unset, .unset] [(.ref w_MANY_RULES)])) _
    refine XS.iloadN X0.here hx rfl (hb hby d_prog_1_method_5_code_1) rfl ?_
    show Steps p.tables e below (s₁.setTop (mkF m 2 #[rv w_MANY_RULES, iv (5 : Int32), .unset, .unset] [(.int (5 : Int32)), (.ref w_MANY_RULES)])) _
    exact k
  obtain ⟨cq2, kq2, qq2a, qq2b, qq2c⟩ := isOf hZ e0 (E_w_MANY_RULES.ext O0.2)
  obtain ⟨_, _, ⟨T2, L2, kk2, nn2⟩, -, X2, ⟨Lc2, hQ2, l2, y2, z2⟩, st2⟩ := X0.virtualBack hx (y := (⟨"com/example/rulework/bench/Burst", "ruleCount", "(I)I"⟩ : MethodName)) (z := (⟨"com/example/rulework/bench/Burst", "ruleCount", "(I)I"⟩ : MethodName)) hown (mvT hZ (hw _ (List.mem_of_getElem? (i := 8) rfl))) (mvT hZ (hw _ (List.mem_of_getElem? (i := 9) rfl))) (notFace_of_selects (args := #[]) (mvT hZ (hw _ (List.mem_of_getElem? (i := 11) rfl)))) (mvT hZ (hw _ (List.mem_of_getElem? (i := 11) rfl))) (mvT hZ (hw _ (List.mem_of_getElem? (i := 10) rfl))) (by decide) (backOf (W := 0) (rc3 l Z a0 hw [] w_POOL w_NO_RULE w_ONE_RULE w_MANY_RULES G (5 : Int32) h0 n0 O0 ) hZ (hw _ (List.mem_of_getElem? (i := 12) rfl)) (hw _ (List.mem_of_getElem? (i := 1) rfl)) (by decide) (by decide)) qq2a qq2c (g := (mkF m 2 #[rv w_MANY_RULES, iv (5 : Int32), .unset, .unset] [(.int (5 : Int32)), (.ref w_MANY_RULES)])) rfl (by rw [hml]; rfl) (Steps.refl _) (argsL := [(.int (5 : Int32))]) (rest := []) (lenOf pd_1 rfl) rfl (by show 2 * 0 + _ ≤ _; exact Nat.le_of_eq rfl) (hb hby d_prog_1_method_5_code_2) (fun _ _ => ⟨rfl, e0, (by decide : 0 + 0 ≤ _), (by decide : 0 + 0 ≤ _)⟩)
  dsimp only [Pt.U, Pt.locs, Pt.cells, Pt.slots] at X2 l2 y2 z2 st2 hQ2
  subst l2 y2 z2
  obtain ⟨rfl, Nq2, e2⟩ := hQ2
  have N2 := Fr.app N0 Nq2
  have k3 : Way p e below S0 T2 (mkF m 5 #[rv w_MANY_RULES, iv (5 : Int32), .unset, .unset] [(.int (5 : Int32))]) := fun t k => k1 t (st2.trans k)
  obtain ⟨T4, h4, c4, X4, e4, E4, A4, B4, V4, st4⟩ := newRE X2 hx hZ hown (hw _ (List.mem_of_getElem? (i := 22) rfl)) (hw _ (List.mem_of_getElem? (i := 23) rfl)) e2 (g := (mkF m 5 #[rv w_MANY_RULES, iv (5 : Int32), .unset, .unset] [(.int (5 : Int32))])) rfl (hb hby d_prog_1_method_5_code_5) rfl (by decide) (cap := 5) (by decide) (by decide) (by decide) (by decide) (ad := "[Lcom/example/rulework/rulework/SchedulingRule;") (by decide)
  obtain ⟨b4, g4⟩ : ∃ z, z = h0.size := ⟨_, rfl⟩
  rw [← g4] at A4 B4 st4
  have O4 := O0.ext E4
  have K4 : Keep h0 h4 [] := (Keep.refl h0 []).ext E4
  have v4 : Arv Z h4 b4 c4 (.object "com/example/rulework/rulework/SchedulingRule") (5 : Int32) [.null, .null, .null, .null, .null] .null := (Arv.new A4 (by decide)).pad (pad_rep [] .null 5)
  have k5 : Way p e below S0 T4 (mkF m 8 #[rv w_MANY_RULES, iv (5 : Int32), .unset, .unset] [(.ref b4)]) := fun t k => k3 t (st4 _ k)
  have k6 : Way p e below S0 T4 (mkF m 13 #[rv w_MANY_RULES, iv (5 : Int32), rv b4, iv (0 : Int32)] [(.ref b4), (.int (0 : Int32))]) := by
    intro t k
    refine k5 t ?_
    refine XS.astoreN X4.here hx rfl (hb hby d_prog_1_method_5_code_8) rfl rfl (l' := #[rv w_MANY_RULES, iv (5 : Int32), rv b4, .unset]) rfl ?_
    show Steps p.tables e below (T4.setTop (mkF m 9 #[rv w_MANY_RULES, iv (5 : Int32), rv b4, .unset] [])) _
    refine XS.iconst X4.here hx rfl (hb hby d_prog_1_method_5_code_9) ?_
    show Steps p.tables e below (T4.setTop (mkF m 10 #[rv w_MANY_RULES, iv (5 : Int32), rv b4, .unset] [(.int (0 : Int32))])) _
    refine XS.istoreN X4.here hx rfl (hb hby d_prog_1_method_5_code_10) rfl (l' := #[rv w_MANY_RULES, iv (5 : Int32), rv b4, iv (0 : Int32)]) rfl ?_
    show Steps p.tables e below (T4.setTop (mkF m 11 #[rv w_MANY_RULES, iv (5 : Int32), rv b4, iv (0 : Int32)] [])) _
    refine XS.iloadN X4.here hx rfl (hb hby d_prog_1_method_5_code_11) rfl ?_
    show Steps p.tables e below (T4.setTop (mkF m 12 #[rv w_MANY_RULES, iv (5 : Int32), rv b4, iv (0 : Int32)] [(.int (0 : Int32))])) _
    refine XS.aloadN X4.here hx rfl (hb hby d_prog_1_method_5_code_12) rfl rfl ?_
    show Steps p.tables e below (T4.setTop (mkF m 13 #[rv w_MANY_RULES, iv (5 : Int32), rv b4, iv (0 : Int32)] [(.ref b4), (.int (0 : Int32))])) _
    exact k
  obtain ⟨cl7, Ar7, -, S7, M7, -, -⟩ := id (v4)
  have k8 : Way p e below S0 T4 (mkF m 14 #[rv w_MANY_RULES, iv (5 : Int32), rv b4, iv (0 : Int32)] [(.int (5 : Int32)), (.int (0 : Int32))]) := fun t k => k6 t (X4.arraylength hx (by rw [e4]; exact Ar7.1) (State.isArrayOf_alike hZ.alike Ar7.2.1) (g := (mkF m 13 #[rv w_MANY_RULES, iv (5 : Int32), rv b4, iv (0 : Int32)] [(.ref b4), (.int (0 : Int32))])) rfl rfl (hb hby d_prog_1_method_5_code_13) _ (by rw [len_of S7 M7]; exact k))
  have k9 : Way p e below S0 T4 (mkF m 19 #[rv w_MANY_RULES, iv (5 : Int32), rv b4, iv (0 : Int32)] [(.int (0 : Int32)), (.ref b4)]) := by
    intro t k
    refine k8 t ?_
    refine XS.icmpNo X4.here hx rfl (hb hby d_prog_1_method_5_code_14) rfl (tlt ((by decide) : (0 : Int32) < (5 : Int32))).2.1 ?_
    show Steps p.tables e below (T4.setTop (mkF m 17 #[rv w_MANY_RULES, iv (5 : Int32), rv b4, iv (0 : Int32)] [])) _
    refine XS.aloadN X4.here hx rfl (hb hby d_prog_1_method_5_code_17) rfl rfl ?_
    show Steps p.tables e below (T4.setTop (mkF m 18 #[rv w_MANY_RULES, iv (5 : Int32), rv b4, iv (0 : Int32)] [(.ref b4)])) _
    refine XS.iloadN X4.here hx rfl (hb hby d_prog_1_method_5_code_18) rfl ?_
    show Steps p.tables e below (T4.setTop (mkF m 19 #[rv w_MANY_RULES, iv (5 : Int32), rv b4, iv (0 : Int32)] [(.int (0 : Int32)), (.ref b4)])) _
    exact k
  obtain ⟨T10, h10, X10, e10, E10, A10, D10, U10, st10⟩ := newO X4 hx hZ hown (hw _ (List.mem_of_getElem? (i := 26) rfl)) (hw _ (List.mem_of_getElem? (i := 27) rfl)) (hw _ (List.mem_of_getElem? (i := 28) rfl)) e4 (g := (mkF m 19 #[rv w_MANY_RULES, iv (5 : Int32), rv b4, iv (0 : Int32)] [(.int (0 : Int32)), (.ref b4)])) rfl (hb hby d_prog_1_method_5_code_19) (by decide) (by decide)
  obtain ⟨b10, g10⟩ : ∃ z, z = h4.size := ⟨_, rfl⟩
  rw [← g10] at A10 D10 U10 st10
  have O10 := O4.ext E10
  have K10 : Keep h0 h10 [] := K4.ext E10
  have k11 : Way p e below S0 T10 (mkF m 22 #[rv w_MANY_RULES, iv (5 : Int32), rv b4, iv (0 : Int32)] [(.ref b10), (.int (0 : Int32)), (.ref b4)]) := fun t k => k9 t (st10 _ k)
  have k12 : Way p e below S0 T10 (mkF m 23 #[rv w_MANY_RULES, iv (5 : Int32), rv b4, iv (0 : Int32)] [(.ref b10), (.ref b10), (.int (0 : Int32)), (.ref b4)]) := by
    intro t k
    refine k11 t ?_
    refine XS.dup X10.here hx rfl (hb hby d_prog_1_method_5_code_22) rfl rfl ?_
    show Steps p.tables e below (T10.setTop (mkF m 23 #[rv w_MANY_RULES, iv (5 : Int32), rv b4, iv (0 : Int32)] [(.ref b10), (.ref b10), (.int (0 : Int32)), (.ref b4)])) _
    exact k
  obtain ⟨_, _, ⟨T13, L13, kk13, nn13⟩, -, X13, ⟨Lc13, hQ13, l13, y13, z13⟩, st13⟩ := own_specialR X10 hx (y := (⟨"com/example/rulework/bench/Burst$SelfConflictingRule", "<init>", "()V"⟩ : MethodName)) rfl (mvT hZ (hw _ (List.mem_of_getElem? (i := 30) rfl))) (mvT hZ (hw _ (List.mem_of_getElem? (i := 31) rfl))) (fun U r hW hn => own_ready e hZ hown (by decide) (hw _ (List.mem_of_getElem? (i := 29) rfl)) hW hn) (backOf (W := 3) (sci l Z a0 hw [] w_POOL w_NO_RULE w_ONE_RULE w_MANY_RULES G b10 h10 n0 O10 ) hZ (hw _ (List.mem_of_getElem? (i := 31) rfl)) (hw _ (List.mem_of_getElem? (i := 28) rfl)) (by decide) (by decide)) (g := (mkF m 23 #[rv w_MANY_RULES, iv (5 : Int32), rv b4, iv (0 : Int32)] [(.ref b10), (.ref b10), (.int (0 : Int32)), (.ref b4)])) rfl (by rw [hml]; rfl) (Steps.refl _) (a := b10) (argsL := []) (rest := [(.ref b10), (.int (0 : Int32)), (.ref b4)]) (lenOf pd_2 rfl) rfl (by show 2 * 0 + _ ≤ _; exact Nat.le_of_eq rfl) (hb hby d_prog_1_method_5_code_23) (fun _ _ => ⟨rfl, e10, (by decide : 2 + 0 ≤ _), (by decide : 5 + 0 ≤ _)⟩)
  dsimp only [Pt.U, Pt.locs, Pt.cells, Pt.slots] at X13 l13 y13 z13 st13 hQ13
  subst l13 y13 z13
  obtain ⟨rfl, Nq13, e13⟩ := hQ13
  have N13 := Fr.app N2 Nq13
  have k14 : Way p e below S0 T13 (mkF m 26 #[rv w_MANY_RULES, iv (5 : Int32), rv b4, iv (0 : Int32)] [(.ref b10), (.int (0 : Int32)), (.ref b4)]) := fun t k => k12 t (st13.trans k)
  have f15 : Arv Z h10 b4 c4 (.object "com/example/rulework/rulework/SchedulingRule") (5 : Int32) [.null, .null, .null, .null, .null] .null := (v4.ext E10)
  obtain ⟨cl16, Ar16, qc16, S16, M16, U16, G16⟩ := id (f15)
  have hin16 : ¬ ((0 : Int32) < 0 ∨ cl16.slots.size ≤ ((0 : Int32)).toNatClampNeg) := inb_of S16 ⟨by decide, by decide⟩
  obtain ⟨T16, h16, X16, e16, W16, st16⟩ := stR X13 hx hZ e13 Ar16 (j := (0 : Int32)) hin16 rfl (Sto.ofV Ar16 qc16 V4 (Ins.of_exa A10 (hw _ (List.mem_of_getElem? (i := 35) rfl)))) (g := (mkF m 26 #[rv w_MANY_RULES, iv (5 : Int32), rv b4, iv (0 : Int32)] [(.ref b10), (.int (0 : Int32)), (.ref b4)])) rfl rfl (hb hby d_prog_1_method_5_code_26)
  have ge17 : n0 ≤ b4 := Nat.le_trans (own_old O0) (Nat.le_of_eq g4.symm)
  have O16 := O10.wr W16 ge17
  have N16 := Fr.snoc X16 N13 ge17
  have gz18 : h0.size ≤ b4 := Nat.le_trans (Keep.refl h0 []).1 (Nat.le_of_eq g4.symm)
  have K16 : Keep h0 h16 [] := K10.wr W16 (Or.inr gz18)
  have va16 : Arv Z h16 b4 c4 (.object "com/example/rulework/rulework/SchedulingRule") (5 : Int32) [(.ref b10), .null, .null, .null, .null] .null := Arv.set Ar16 qc16 S16 M16 U16 G16 rfl W16 0 rfl (Nat.le_of_ble_eq_true rfl)
  have k19 : Way p e below S0 T16 (mkF m 27 #[rv w_MANY_RULES, iv (5 : Int32), rv b4, iv (0 : Int32)] []) := fun t k => k14 t (st16 _ k)
  have k20 : Way p e below S0 T16 (mkF m 13 #[rv w_MANY_RULES, iv (5 : Int32), rv b4, iv (1 : Int32)] [(.ref b4), (.int (1 : Int32))]) := by
    intro t k
    refine k19 t ?_
    refine XS.iinc X16.here hx rfl (hb hby d_prog_1_method_5_code_27) rfl (l' := #[rv w_MANY_RULES, iv (5 : Int32), rv b4, iv (1 : Int32)]) rfl ?_
    show Steps p.tables e below (T16.setTop (mkF m 30 #[rv w_MANY_RULES, iv (5 : Int32), rv b4, iv (1 : Int32)] [])) _
    refine XS.goto X16.here hx rfl (pc0 := 30) (pc' := 11) rfl (hb hby d_prog_1_method_5_code_30) (by decide) (by decide) ?_
    show Steps p.tables e below (T16.setTop (mkF m 11 #[rv w_MANY_RULES, iv (5 : Int32), rv b4, iv (1 : Int32)] [])) _
    refine XS.iloadN X16.here hx rfl (hb hby d_prog_1_method_5_code_11) rfl ?_
    show Steps p.tables e below (T16.setTop (mkF m 12 #[rv w_MANY_RULES, iv (5 : Int32), rv b4, iv (1 : Int32)] [(.int (1 : Int32))])) _
    refine XS.aloadN X16.here hx rfl (hb hby d_prog_1_method_5_code_12) rfl rfl ?_
    show Steps p.tables e below (T16.setTop (mkF m 13 #[rv w_MANY_RULES, iv (5 : Int32), rv b4, iv (1 : Int32)] [(.ref b4), (.int (1 : Int32))])) _
    exact k
  obtain ⟨cl21, Ar21, -, S21, M21, -, -⟩ := id (va16)
  have k22 : Way p e below S0 T16 (mkF m 14 #[rv w_MANY_RULES, iv (5 : Int32), rv b4, iv (1 : Int32)] [(.int (5 : Int32)), (.int (1 : Int32))]) := fun t k => k20 t (X16.arraylength hx (by rw [e16]; exact Ar21.1) (State.isArrayOf_alike hZ.alike Ar21.2.1) (g := (mkF m 13 #[rv w_MANY_RULES, iv (5 : Int32), rv b4, iv (1 : Int32)] [(.ref b4), (.int (1 : Int32))])) rfl rfl (hb hby d_prog_1_method_5_code_13) _ (by rw [len_of S21 M21]; exact k))
  have k23 : Way p e below S0 T16 (mkF m 19 #[rv w_MANY_RULES, iv (5 : Int32), rv b4, iv (1 : Int32)] [(.int (1 : Int32)), (.ref b4)]) := by
    intro t k
    refine k22 t ?_
    refine XS.icmpNo X16.here hx rfl (hb hby d_prog_1_method_5_code_14) rfl (tlt ((by decide) : (1 : Int32) < (5 : Int32))).2.1 ?_
    show Steps p.tables e below (T16.setTop (mkF m 17 #[rv w_MANY_RULES, iv (5 : Int32), rv b4, iv (1 : Int32)] [])) _
    refine XS.aloadN X16.here hx rfl (hb hby d_prog_1_method_5_code_17) rfl rfl ?_
    show Steps p.tables e below (T16.setTop (mkF m 18 #[rv w_MANY_RULES, iv (5 : Int32), rv b4, iv (1 : Int32)] [(.ref b4)])) _
    refine XS.iloadN X16.here hx rfl (hb hby d_prog_1_method_5_code_18) rfl ?_
    show Steps p.tables e below (T16.setTop (mkF m 19 #[rv w_MANY_RULES, iv (5 : Int32), rv b4, iv (1 : Int32)] [(.int (1 : Int32)), (.ref b4)])) _
    exact k
  obtain ⟨T24, h24, X24, e24, E24, A24, D24, U24, st24⟩ := newO X16 hx hZ hown (hw _ (List.mem_of_getElem? (i := 26) rfl)) (hw _ (List.mem_of_getElem? (i := 27) rfl)) (hw _ (List.mem_of_getElem? (i := 28) rfl)) e16 (g := (mkF m 19 #[rv w_MANY_RULES, iv (5 : Int32), rv b4, iv (1 : Int32)] [(.int (1 : Int32)), (.ref b4)])) rfl (hb hby d_prog_1_method_5_code_19) (by decide) (by decide)
  obtain ⟨b24, g24⟩ : ∃ z, z = h16.size := ⟨_, rfl⟩
  rw [← g24] at A24 D24 U24 st24
  have O24 := O16.ext E24
  have K24 : Keep h0 h24 [] := K16.ext E24
  have k25 : Way p e below S0 T24 (mkF m 22 #[rv w_MANY_RULES, iv (5 : Int32), rv b4, iv (1 : Int32)] [(.ref b24), (.int (1 : Int32)), (.ref b4)]) := fun t k => k23 t (st24 _ k)
  have k26 : Way p e below S0 T24 (mkF m 23 #[rv w_MANY_RULES, iv (5 : Int32), rv b4, iv (1 : Int32)] [(.ref b24), (.ref b24), (.int (1 : Int32)), (.ref b4)]) := by
    intro t k
    refine k25 t ?_
    refine XS.dup X24.here hx rfl (hb hby d_prog_1_method_5_code_22) rfl rfl ?_
    show Steps p.tables e below (T24.setTop (mkF m 23 #[rv w_MANY_RULES, iv (5 : Int32), rv b4, iv (1 : Int32)] [(.ref b24), (.ref b24), (.int (1 : Int32)), (.ref b4)])) _
    exact k
  obtain ⟨_, _, ⟨T27, L27, kk27, nn27⟩, -, X27, ⟨Lc27, hQ27, l27, y27, z27⟩, st27⟩ := own_specialR X24 hx (y := (⟨"com/example/rulework/bench/Burst$SelfConflictingRule", "<init>", "()V"⟩ : MethodName)) rfl (mvT hZ (hw _ (List.mem_of_getElem? (i := 30) rfl))) (mvT hZ (hw _ (List.mem_of_getElem? (i := 31) rfl))) (fun U r hW hn => own_ready e hZ hown (by decide) (hw _ (List.mem_of_getElem? (i := 29) rfl)) hW hn) (backOf (W := 3) (sci l Z a0 hw [] w_POOL w_NO_RULE w_ONE_RULE w_MANY_RULES G b24 h24 n0 O24 ) hZ (hw _ (List.mem_of_getElem? (i := 31) rfl)) (hw _ (List.mem_of_getElem? (i := 28) rfl)) (by decide) (by decide)) (g := (mkF m 23 #[rv w_MANY_RULES, iv (5 : Int32), rv b4, iv (1 : Int32)] [(.ref b24), (.ref b24), (.int (1 : Int32)), (.ref b4)])) rfl (by rw [hml]; rfl) (Steps.refl _) (a := b24) (argsL := []) (rest := [(.ref b24), (.int (1 : Int32)), (.ref b4)]) (lenOf pd_2 rfl) rfl (by show 2 * 0 + _ ≤ _; exact Nat.le_of_eq rfl) (hb hby d_prog_1_method_5_code_23) (fun _ _ => ⟨rfl, e24, (by decide : 3 + 0 ≤ _), (by decide : 5 + 0 ≤ _)⟩)
  dsimp only [Pt.U, Pt.locs, Pt.cells, Pt.slots] at X27 l27 y27 z27 st27 hQ27
  subst l27 y27 z27
  obtain ⟨rfl, Nq27, e27⟩ := hQ27
  have N27 := Fr.app N16 Nq27
  have k28 : Way p e below S0 T27 (mkF m 26 #[rv w_MANY_RULES, iv (5 : Int32), rv b4, iv (1 : Int32)] [(.ref b24), (.int (1 : Int32)), (.ref b4)]) := fun t k => k26 t (st27.trans k)
  have f29 : Arv Z h24 b4 c4 (.object "com/example/rulework/rulework/SchedulingRule") (5 : Int32) [(.ref b10), .null, .null, .null, .null] .null := (va16.ext E24)
  obtain ⟨cl30, Ar30, qc30, S30, M30, U30, G30⟩ := id (f29)
  have hin30 : ¬ ((1 : Int32) < 0 ∨ cl30.slots.size ≤ ((1 : Int32)).toNatClampNeg) := inb_of S30 ⟨by decide, by decide⟩
  obtain ⟨T30, h30, X30, e30, W30, st30⟩ := stR X27 hx hZ e27 Ar30 (j := (1 : Int32)) hin30 rfl (Sto.ofV Ar30 qc30 V4 (Ins.of_exa A24 (hw _ (List.mem_of_getElem? (i := 35) rfl)))) (g := (mkF m 26 #[rv w_MANY_RULES, iv (5 : Int32), rv b4, iv (1 : Int32)] [(.ref b24), (.int (1 : Int32)), (.ref b4)])) rfl rfl (hb hby d_prog_1_method_5_code_26)
  have O30 := O24.wr W30 ge17
  have N30 := Fr.snoc X30 N27 ge17
  have K30 : Keep h0 h30 [] := K24.wr W30 (Or.inr gz18)
  have va30 : Arv Z h30 b4 c4 (.object "com/example/rulework/rulework/SchedulingRule") (5 : Int32) [(.ref b10), (.ref b24), .null, .null, .null] .null := Arv.set Ar30 qc30 S30 M30 U30 G30 rfl W30 1 rfl (Nat.le_of_ble_eq_true rfl)
  have k31 : Way p e below S0 T30 (mkF m 27 #[rv w_MANY_RULES, iv (5 : Int32), rv b4, iv (1 : Int32)] []) := fun t k => k28 t (st30 _ k)
  have k32 : Way p e below S0 T30 (mkF m 13 #[rv w_MANY_RULES, iv (5 : Int32), rv b4, iv (2 : Int32)] [(.ref b4), (.int (2 : Int32))]) := by
    intro t k
    refine k31 t ?_
    refine XS.iinc X30.here hx rfl (hb hby d_prog_1_method_5_code_27) rfl (l' := #[rv w_MANY_RULES, iv (5 : Int32), rv b4, iv (2 : Int32)]) rfl ?_
    show Steps p.tables e below (T30.setTop (mkF m 30 #[rv w_MANY_RULES, iv (5 : Int32), rv b4, iv (2 : Int32)] [])) _
    refine XS.goto X30.here hx rfl (pc0 := 30) (pc' := 11) rfl (hb hby d_prog_1_method_5_code_30) (by decide) (by decide) ?_
    show Steps p.tables e below (T30.setTop (mkF m 11 #[rv w_MANY_RULES, iv (5 : Int32), rv b4, iv (2 : Int32)] [])) _
    refine XS.iloadN X30.here hx rfl (hb hby d_prog_1_method_5_code_11) rfl ?_
    show Steps p.tables e below (T30.setTop (mkF m 12 #[rv w_MANY_RULES, iv (5 : Int32), rv b4, iv (2 : Int32)] [(.int (2 : Int32))])) _
    refine XS.aloadN X30.here hx rfl (hb hby d_prog_1_method_5_code_12) rfl rfl ?_
    show Steps p.tables e below (T30.setTop (mkF m 13 #[rv w_MANY_RULES, iv (5 : Int32), rv b4, iv (2 : Int32)] [(.ref b4), (.int (2 : Int32))])) _
    exact k
  obtain ⟨cl33, Ar33, -, S33, M33, -, -⟩ := id (va30)
  have k34 : Way p e below S0 T30 (mkF m 14 #[rv w_MANY_RULES, iv (5 : Int32), rv b4, iv (2 : Int32)] [(.int (5 : Int32)), (.int (2 : Int32))]) := fun t k => k32 t (X30.arraylength hx (by rw [e30]; exact Ar33.1) (State.isArrayOf_alike hZ.alike Ar33.2.1) (g := (mkF m 13 #[rv w_MANY_RULES, iv (5 : Int32), rv b4, iv (2 : Int32)] [(.ref b4), (.int (2 : Int32))])) rfl rfl (hb hby d_prog_1_method_5_code_13) _ (by rw [len_of S33 M33]; exact k))
  have k35 : Way p e below S0 T30 (mkF m 19 #[rv w_MANY_RULES, iv (5 : Int32), rv b4, iv (2 : Int32)] [(.int (2 : Int32)), (.ref b4)]) := by
    intro t k
    refine k34 t ?_
    refine XS.icmpNo X30.here hx rfl (hb hby d_prog_1_method_5_code_14) rfl (tlt ((by decide) : (2 : Int32) < (5 : Int32))).2.1 ?_
    show Steps p.tables e below (T30.setTop (mkF m 17 #[rv w_MANY_RULES, iv (5 : Int32), rv b4, iv (2 : Int32)] [])) _
    refine XS.aloadN X30.here hx rfl (hb hby d_prog_1_method_5_code_17) rfl rfl ?_
    show Steps p.tables e below (T30.setTop (mkF m 18 #[rv w_MANY_RULES, iv (5 : Int32), rv b4, iv (2 : Int32)] [(.ref b4)])) _
    refine XS.iloadN X30.here hx rfl (hb hby d_prog_1_method_5_code_18) rfl ?_
    show Steps p.tables e below (T30.setTop (mkF m 19 #[rv w_MANY_RULES, iv (5 : Int32), rv b4, iv (2 : Int32)] [(.int (2 : Int32)), (.ref b4)])) _
    exact k
  obtain ⟨T36, h36, X36, e36, E36, A36, D36, U36, st36⟩ := newO X30 hx hZ hown (hw _ (List.mem_of_getElem? (i := 26) rfl)) (hw _ (List.mem_of_getElem? (i := 27) rfl)) (hw _ (List.mem_of_getElem? (i := 28) rfl)) e30 (g := (mkF m 19 #[rv w_MANY_RULES, iv (5 : Int32), rv b4, iv (2 : Int32)] [(.int (2 : Int32)), (.ref b4)])) rfl (hb hby d_prog_1_method_5_code_19) (by decide) (by decide)
  obtain ⟨b36, g36⟩ : ∃ z, z = h30.size := ⟨_, rfl⟩
  rw [← g36] at A36 D36 U36 st36
  have O36 := O30.ext E36
  have K36 : Keep h0 h36 [] := K30.ext E36
  have k37 : Way p e below S0 T36 (mkF m 22 #[rv w_MANY_RULES, iv (5 : Int32), rv b4, iv (2 : Int32)] [(.ref b36), (.int (2 : Int32)), (.ref b4)]) := fun t k => k35 t (st36 _ k)
  have k38 : Way p e below S0 T36 (mkF m 23 #[rv w_MANY_RULES, iv (5 : Int32), rv b4, iv (2 : Int32)] [(.ref b36), (.ref b36), (.int (2 : Int32)), (.ref b4)]) := by
    intro t k
    refine k37 t ?_
    refine XS.dup X36.here hx rfl (hb hby d_prog_1_method_5_code_22) rfl rfl ?_
    show Steps p.tables e below (T36.setTop (mkF m 23 #[rv w_MANY_RULES, iv (5 : Int32), rv b4, iv (2 : Int32)] [(.ref b36), (.ref b36), (.int (2 : Int32)), (.ref b4)])) _
    exact k
  obtain ⟨_, _, ⟨T39, L39, kk39, nn39⟩, -, X39, ⟨Lc39, hQ39, l39, y39, z39⟩, st39⟩ := own_specialR X36 hx (y := (⟨"com/example/rulework/bench/Burst$SelfConflictingRule", "<init>", "()V"⟩ : MethodName)) rfl (mvT hZ (hw _ (List.mem_of_getElem? (i := 30) rfl))) (mvT hZ (hw _ (List.mem_of_getElem? (i := 31) rfl))) (fun U r hW hn => own_ready e hZ hown (by decide) (hw _ (List.mem_of_getElem? (i := 29) rfl)) hW hn) (backOf (W := 3) (sci l Z a0 hw [] w_POOL w_NO_RULE w_ONE_RULE w_MANY_RULES G b36 h36 n0 O36 ) hZ (hw _ (List.mem_of_getElem? (i := 31) rfl)) (hw _ (List.mem_of_getElem? (i := 28) rfl)) (by decide) (by decide)) (g := (mkF m 23 #[rv w_MANY_RULES, iv (5 : Int32), rv b4, iv (2 : Int32)] [(.ref b36), (.ref b36), (.int (2 : Int32)), (.ref b4)])) rfl (by rw [hml]; rfl) (Steps.refl _) (a := b36) (argsL := []) (rest := [(.ref b36), (.int (2 : Int32)), (.ref b4)]) (lenOf pd_2 rfl) rfl (by show 2 * 0 + _ ≤ _; exact Nat.le_of_eq rfl) (hb hby d_prog_1_method_5_code_23) (fun _ _ => ⟨rfl, e36, (by decide : 4 + 0 ≤ _), (by decide : 5 + 0 ≤ _)⟩)
  dsimp only [Pt.U, Pt.locs, Pt.cells, Pt.slots] at X39 l39 y39 z39 st39 hQ39
  subst l39 y39 z39
  obtain ⟨rfl, Nq39, e39⟩ := hQ39
  have N39 := Fr.app N30 Nq39
  have k40 : Way p e below S0 T39 (mkF m 26 #[rv w_MANY_RULES, iv (5 : Int32), rv b4, iv (2 : Int32)] [(.ref b36), (.int (2 : Int32)), (.ref b4)]) := fun t k => k38 t (st39.trans k)
  have f41 : Arv Z h36 b4 c4 (.object "com/example/rulework/rulework/SchedulingRule") (5 : Int32) [(.ref b10), (.ref b24), .null, .null, .null] .null := (va30.ext E36)
  obtain ⟨cl42, Ar42, qc42, S42, M42, U42, G42⟩ := id (f41)
  have hin42 : ¬ ((2 : Int32) < 0 ∨ cl42.slots.size ≤ ((2 : Int32)).toNatClampNeg) := inb_of S42 ⟨by decide, by decide⟩
  obtain ⟨T42, h42, X42, e42, W42, st42⟩ := stR X39 hx hZ e39 Ar42 (j := (2 : Int32)) hin42 rfl (Sto.ofV Ar42 qc42 V4 (Ins.of_exa A36 (hw _ (List.mem_of_getElem? (i := 35) rfl)))) (g := (mkF m 26 #[rv w_MANY_RULES, iv (5 : Int32), rv b4, iv (2 : Int32)] [(.ref b36), (.int (2 : Int32)), (.ref b4)])) rfl rfl (hb hby d_prog_1_method_5_code_26)
  have O42 := O36.wr W42 ge17
  have N42 := Fr.snoc X42 N39 ge17
  have K42 : Keep h0 h42 [] := K36.wr W42 (Or.inr gz18)
  have va42 : Arv Z h42 b4 c4 (.object "com/example/rulework/rulework/SchedulingRule") (5 : Int32) [(.ref b10), (.ref b24), (.ref b36), .null, .null] .null := Arv.set Ar42 qc42 S42 M42 U42 G42 rfl W42 2 rfl (Nat.le_of_ble_eq_true rfl)
  have k43 : Way p e below S0 T42 (mkF m 27 #[rv w_MANY_RULES, iv (5 : Int32), rv b4, iv (2 : Int32)] []) := fun t k => k40 t (st42 _ k)
  have k44 : Way p e below S0 T42 (mkF m 13 #[rv w_MANY_RULES, iv (5 : Int32), rv b4, iv (3 : Int32)] [(.ref b4), (.int (3 : Int32))]) := by
    intro t k
    refine k43 t ?_
    refine XS.iinc X42.here hx rfl (hb hby d_prog_1_method_5_code_27) rfl (l' := #[rv w_MANY_RULES, iv (5 : Int32), rv b4, iv (3 : Int32)]) rfl ?_
    show Steps p.tables e below (T42.setTop (mkF m 30 #[rv w_MANY_RULES, iv (5 : Int32), rv b4, iv (3 : Int32)] [])) _
    refine XS.goto X42.here hx rfl (pc0 := 30) (pc' := 11) rfl (hb hby d_prog_1_method_5_code_30) (by decide) (by decide) ?_
    show Steps p.tables e below (T42.setTop (mkF m 11 #[rv w_MANY_RULES, iv (5 : Int32), rv b4, iv (3 : Int32)] [])) _
    refine XS.iloadN X42.here hx rfl (hb hby d_prog_1_method_5_code_11) rfl ?_
    show Steps p.tables e below (T42.setTop (mkF m 12 #[rv w_MANY_RULES, iv (5 : Int32), rv b4, iv (3 : Int32)] [(.int (3 : Int32))])) _
    refine XS.aloadN X42.here hx rfl (hb hby d_prog_1_method_5_code_12) rfl rfl ?_
    show Steps p.tables e below (T42.setTop (mkF m 13 #[rv w_MANY_RULES, iv (5 : Int32), rv b4, iv (3 : Int32)] [(.ref b4), (.int (3 : Int32))])) _
    exact k
  obtain ⟨cl45, Ar45, -, S45, M45, -, -⟩ := id (va42)
  have k46 : Way p e below S0 T42 (mkF m 14 #[rv w_MANY_RULES, iv (5 : Int32), rv b4, iv (3 : Int32)] [(.int (5 : Int32)), (.int (3 : Int32))]) := fun t k => k44 t (X42.arraylength hx (by rw [e42]; exact Ar45.1) (State.isArrayOf_alike hZ.alike Ar45.2.1) (g := (mkF m 13 #[rv w_MANY_RULES, iv (5 : Int32), rv b4, iv (3 : Int32)] [(.ref b4), (.int (3 : Int32))])) rfl rfl (hb hby d_prog_1_method_5_code_13) _ (by rw [len_of S45 M45]; exact k))
  have k47 : Way p e below S0 T42 (mkF m 19 #[rv w_MANY_RULES, iv (5 : Int32), rv b4, iv (3 : Int32)] [(.int (3 : Int32)), (.ref b4)]) := by
    intro t k
    refine k46 t ?_
    refine XS.icmpNo X42.here hx rfl (hb hby d_prog_1_method_5_code_14) rfl (tlt ((by decide) : (3 : Int32) < (5 : Int32))).2.1 ?_
    show Steps p.tables e below (T42.setTop (mkF m 17 #[rv w_MANY_RULES, iv (5 : Int32), rv b4, iv (3 : Int32)] [])) _
    refine XS.aloadN X42.here hx rfl (hb hby d_prog_1_method_5_code_17) rfl rfl ?_
    show Steps p.tables e below (T42.setTop (mkF m 18 #[rv w_MANY_RULES, iv (5 : Int32), rv b4, iv (3 : Int32)] [(.ref b4)])) _
    refine XS.iloadN X42.here hx rfl (hb hby d_prog_1_method_5_code_18) rfl ?_
    show Steps p.tables e below (T42.setTop (mkF m 19 #[rv w_MANY_RULES, iv (5 : Int32), rv b4, iv (3 : Int32)] [(.int (3 : Int32)), (.ref b4)])) _
    exact k
  obtain ⟨T48, h48, X48, e48, E48, A48, D48, U48, st48⟩ := newO X42 hx hZ hown (hw _ (List.mem_of_getElem? (i := 26) rfl)) (hw _ (List.mem_of_getElem? (i := 27) rfl)) (hw _ (List.mem_of_getElem? (i := 28) rfl)) e42 (g := (mkF m 19 #[rv w_MANY_RULES, iv (5 : Int32), rv b4, iv (3 : Int32)] [(.int (3 : Int32)), (.ref b4)])) rfl (hb hby d_prog_1_method_5_code_19) (by decide) (by decide)
  obtain ⟨b48, g48⟩ : ∃ z, z = h42.size := ⟨_, rfl⟩
  rw [← g48] at A48 D48 U48 st48
  have O48 := O42.ext E48
  have K48 : Keep h0 h48 [] := K42.ext E48
  have k49 : Way p e below S0 T48 (mkF m 22 #[rv w_MANY_RULES, iv (5 : Int32), rv b4, iv (3 : Int32)] [(.ref b48), (.int (3 : Int32)), (.ref b4)]) := fun t k => k47 t (st48 _ k)
  have k50 : Way p e below S0 T48 (mkF m 23 #[rv w_MANY_RULES, iv (5 : Int32), rv b4, iv (3 : Int32)] [(.ref b48), (.ref b48), (.int (3 : Int32)), (.ref b4)]) := by
    intro t k
    refine k49 t ?_
    refine XS.dup X48.here hx rfl (hb hby d_prog_1_method_5_code_22) rfl rfl ?_
    show Steps p.tables e below (T48.setTop (mkF m 23 #[rv w_MANY_RULES, iv (5 : Int32), rv b4, iv (3 : Int32)] [(.ref b48), (.ref b48), (.int (3 : Int32)), (.ref b4)])) _
    exact k
  obtain ⟨_, _, ⟨T51, L51, kk51, nn51⟩, -, X51, ⟨Lc51, hQ51, l51, y51, z51⟩, st51⟩ := own_specialR X48 hx (y := (⟨"com/example/rulework/bench/Burst$SelfConflictingRule", "<init>", "()V"⟩ : MethodName)) rfl (mvT hZ (hw _ (List.mem_of_getElem? (i := 30) rfl))) (mvT hZ (hw _ (List.mem_of_getElem? (i := 31) rfl))) (fun U r hW hn => own_ready e hZ hown (by decide) (hw _ (List.mem_of_getElem? (i := 29) rfl)) hW hn) (backOf (W := 3) (sci l Z a0 hw [] w_POOL w_NO_RULE w_ONE_RULE w_MANY_RULES G b48 h48 n0 O48 ) hZ (hw _ (List.mem_of_getElem? (i := 31) rfl)) (hw _ (List.mem_of_getElem? (i := 28) rfl)) (by decide) (by decide)) (g := (mkF m 23 #[rv w_MANY_RULES, iv (5 : Int32), rv b4, iv (3 : Int32)] [(.ref b48), (.ref b48), (.int (3 : Int32)), (.ref b4)])) rfl (by rw [hml]; rfl) (Steps.refl _) (a := b48) (argsL := []) (rest := [(.ref b48), (.int (3 : Int32)), (.ref b4)]) (lenOf pd_2 rfl) rfl (by show 2 * 0 + _ ≤ _; exact Nat.le_of_eq rfl) (hb hby d_prog_1_method_5_code_23) (fun _ _ => ⟨rfl, e48, (by decide : 5 + 0 ≤ _), (by decide : 5 + 0 ≤ _)⟩)
  dsimp only [Pt.U, Pt.locs, Pt.cells, Pt.slots] at X51 l51 y51 z51 st51 hQ51
  subst l51 y51 z51
  obtain ⟨rfl, Nq51, e51⟩ := hQ51
  have N51 := Fr.app N42 Nq51
  have k52 : Way p e below S0 T51 (mkF m 26 #[rv w_MANY_RULES, iv (5 : Int32), rv b4, iv (3 : Int32)] [(.ref b48), (.int (3 : Int32)), (.ref b4)]) := fun t k => k50 t (st51.trans k)
  have f53 : Arv Z h48 b4 c4 (.object "com/example/rulework/rulework/SchedulingRule") (5 : Int32) [(.ref b10), (.ref b24), (.ref b36), .null, .null] .null := (va42.ext E48)
  obtain ⟨cl54, Ar54, qc54, S54, M54, U54, G54⟩ := id (f53)
  have hin54 : ¬ ((3 : Int32) < 0 ∨ cl54.slots.size ≤ ((3 : Int32)).toNatClampNeg) := inb_of S54 ⟨by decide, by decide⟩
  obtain ⟨T54, h54, X54, e54, W54, st54⟩ := stR X51 hx hZ e51 Ar54 (j := (3 : Int32)) hin54 rfl (Sto.ofV Ar54 qc54 V4 (Ins.of_exa A48 (hw _ (List.mem_of_getElem? (i := 35) rfl)))) (g := (mkF m 26 #[rv w_MANY_RULES, iv (5 : Int32), rv b4, iv (3 : Int32)] [(.ref b48), (.int (3 : Int32)), (.ref b4)])) rfl rfl (hb hby d_prog_1_method_5_code_26)
  have O54 := O48.wr W54 ge17
  have N54 := Fr.snoc X54 N51 ge17
  have K54 : Keep h0 h54 [] := K48.wr W54 (Or.inr gz18)
  have va54 : Arv Z h54 b4 c4 (.object "com/example/rulework/rulework/SchedulingRule") (5 : Int32) [(.ref b10), (.ref b24), (.ref b36), (.ref b48), .null] .null := Arv.set Ar54 qc54 S54 M54 U54 G54 rfl W54 3 rfl (Nat.le_of_ble_eq_true rfl)
  have k55 : Way p e below S0 T54 (mkF m 27 #[rv w_MANY_RULES, iv (5 : Int32), rv b4, iv (3 : Int32)] []) := fun t k => k52 t (st54 _ k)
  have k56 : Way p e below S0 T54 (mkF m 13 #[rv w_MANY_RULES, iv (5 : Int32), rv b4, iv (4 : Int32)] [(.ref b4), (.int (4 : Int32))]) := by
    intro t k
    refine k55 t ?_
    refine XS.iinc X54.here hx rfl (hb hby d_prog_1_method_5_code_27) rfl (l' := #[rv w_MANY_RULES, iv (5 : Int32), rv b4, iv (4 : Int32)]) rfl ?_
    show Steps p.tables e below (T54.setTop (mkF m 30 #[rv w_MANY_RULES, iv (5 : Int32), rv b4, iv (4 : Int32)] [])) _
    refine XS.goto X54.here hx rfl (pc0 := 30) (pc' := 11) rfl (hb hby d_prog_1_method_5_code_30) (by decide) (by decide) ?_
    show Steps p.tables e below (T54.setTop (mkF m 11 #[rv w_MANY_RULES, iv (5 : Int32), rv b4, iv (4 : Int32)] [])) _
    refine XS.iloadN X54.here hx rfl (hb hby d_prog_1_method_5_code_11) rfl ?_
    show Steps p.tables e below (T54.setTop (mkF m 12 #[rv w_MANY_RULES, iv (5 : Int32), rv b4, iv (4 : Int32)] [(.int (4 : Int32))])) _
    refine XS.aloadN X54.here hx rfl (hb hby d_prog_1_method_5_code_12) rfl rfl ?_
    show Steps p.tables e below (T54.setTop (mkF m 13 #[rv w_MANY_RULES, iv (5 : Int32), rv b4, iv (4 : Int32)] [(.ref b4), (.int (4 : Int32))])) _
    exact k
  obtain ⟨cl57, Ar57, -, S57, M57, -, -⟩ := id (va54)
  have k58 : Way p e below S0 T54 (mkF m 14 #[rv w_MANY_RULES, iv (5 : Int32), rv b4, iv (4 : Int32)] [(.int (5 : Int32)), (.int (4 : Int32))]) := fun t k => k56 t (X54.arraylength hx (by rw [e54]; exact Ar57.1) (State.isArrayOf_alike hZ.alike Ar57.2.1) (g := (mkF m 13 #[rv w_MANY_RULES, iv (5 : Int32), rv b4, iv (4 : Int32)] [(.ref b4), (.int (4 : Int32))])) rfl rfl (hb hby d_prog_1_method_5_code_13) _ (by rw [len_of S57 M57]; exact k))
  have k59 : Way p e below S0 T54 (mkF m 19 #[rv w_MANY_RULES, iv (5 : Int32), rv b4, iv (4 : Int32)] [(.int (4 : Int32)), (.ref b4)]) := by
    intro t k
    refine k58 t ?_
    refine XS.icmpNo X54.here hx rfl (hb hby d_prog_1_method_5_code_14) rfl (tlt ((by decide) : (4 : Int32) < (5 : Int32))).2.1 ?_
    show Steps p.tables e below (T54.setTop (mkF m 17 #[rv w_MANY_RULES, iv (5 : Int32), rv b4, iv (4 : Int32)] [])) _
    refine XS.aloadN X54.here hx rfl (hb hby d_prog_1_method_5_code_17) rfl rfl ?_
    show Steps p.tables e below (T54.setTop (mkF m 18 #[rv w_MANY_RULES, iv (5 : Int32), rv b4, iv (4 : Int32)] [(.ref b4)])) _
    refine XS.iloadN X54.here hx rfl (hb hby d_prog_1_method_5_code_18) rfl ?_
    show Steps p.tables e below (T54.setTop (mkF m 19 #[rv w_MANY_RULES, iv (5 : Int32), rv b4, iv (4 : Int32)] [(.int (4 : Int32)), (.ref b4)])) _
    exact k
  obtain ⟨T60, h60, X60, e60, E60, A60, D60, U60, st60⟩ := newO X54 hx hZ hown (hw _ (List.mem_of_getElem? (i := 26) rfl)) (hw _ (List.mem_of_getElem? (i := 27) rfl)) (hw _ (List.mem_of_getElem? (i := 28) rfl)) e54 (g := (mkF m 19 #[rv w_MANY_RULES, iv (5 : Int32), rv b4, iv (4 : Int32)] [(.int (4 : Int32)), (.ref b4)])) rfl (hb hby d_prog_1_method_5_code_19) (by decide) (by decide)
  obtain ⟨b60, g60⟩ : ∃ z, z = h54.size := ⟨_, rfl⟩
  rw [← g60] at A60 D60 U60 st60
  have O60 := O54.ext E60
  have K60 : Keep h0 h60 [] := K54.ext E60
  have k61 : Way p e below S0 T60 (mkF m 22 #[rv w_MANY_RULES, iv (5 : Int32), rv b4, iv (4 : Int32)] [(.ref b60), (.int (4 : Int32)), (.ref b4)]) := fun t k => k59 t (st60 _ k)
  have k62 : Way p e below S0 T60 (mkF m 23 #[rv w_MANY_RULES, iv (5 : Int32), rv b4, iv (4 : Int32)] [(.ref b60), (.ref b60), (.int (4 : Int32)), (.ref b4)]) := by
    intro t k
    refine k61 t ?_
    refine XS.dup X60.here hx rfl (hb hby d_prog_1_method_5_code_22) rfl rfl ?_
    show Steps p.tables e below (T60.setTop (mkF m 23 #[rv w_MANY_RULES, iv (5 : Int32), rv b4, iv (4 : Int32)] [(.ref b60), (.ref b60), (.int (4 : Int32)), (.ref b4)])) _
    exact k
  obtain ⟨_, _, ⟨T63, L63, kk63, nn63⟩, -, X63, ⟨Lc63, hQ63, l63, y63, z63⟩, st63⟩ := own_specialR X60 hx (y := (⟨"com/example/rulework/bench/Burst$SelfConflictingRule", "<init>", "()V"⟩ : MethodName)) rfl (mvT hZ (hw _ (List.mem_of_getElem? (i := 30) rfl))) (mvT hZ (hw _ (List.mem_of_getElem? (i := 31) rfl))) (fun U r hW hn => own_ready e hZ hown (by decide) (hw _ (List.mem_of_getElem? (i := 29) rfl)) hW hn) (backOf (W := 3) (sci l Z a0 hw [] w_POOL w_NO_RULE w_ONE_RULE w_MANY_RULES G b60 h60 n0 O60 ) hZ (hw _ (List.mem_of_getElem? (i := 31) rfl)) (hw _ (List.mem_of_getElem? (i := 28) rfl)) (by decide) (by decide)) (g := (mkF m 23 #[rv w_MANY_RULES, iv (5 : Int32), rv b4, iv (4 : Int32)] [(.ref b60), (.ref b60), (.int (4 : Int32)), (.ref b4)])) rfl (by rw [hml]; rfl) (Steps.refl _) (a := b60) (argsL := []) (rest := [(.ref b60), (.int (4 : Int32)), (.ref b4)]) (lenOf pd_2 rfl) rfl (by show 2 * 0 + _ ≤ _; exact Nat.le_of_eq rfl) (hb hby d_prog_1_method_5_code_23) (fun _ _ => ⟨rfl, e60, (by decide : 6 + 0 ≤ _), (by decide : 5 + 0 ≤ _)⟩)
  dsimp only [Pt.U, Pt.locs, Pt.cells, Pt.slots] at X63 l63 y63 z63 st63 hQ63
  subst l63 y63 z63
  obtain ⟨rfl, Nq63, e63⟩ := hQ63
  have N63 := Fr.app N54 Nq63
  have k64 : Way p e below S0 T63 (mkF m 26 #[rv w_MANY_RULES, iv (5 : Int32), rv b4, iv (4 : Int32)] [(.ref b60), (.int (4 : Int32)), (.ref b4)]) := fun t k => k62 t (st63.trans k)
  have f65 : Arv Z h60 b4 c4 (.object "com/example/rulework/rulework/SchedulingRule") (5 : Int32) [(.ref b10), (.ref b24), (.ref b36), (.ref b48), .null] .null := (va54.ext E60)
  obtain ⟨cl66, Ar66, qc66, S66, M66, U66, G66⟩ := id (f65)
  have hin66 : ¬ ((4 : Int32) < 0 ∨ cl66.slots.size ≤ ((4 : Int32)).toNatClampNeg) := inb_of S66 ⟨by decide, by decide⟩
  obtain ⟨T66, h66, X66, e66, W66, st66⟩ := stR X63 hx hZ e63 Ar66 (j := (4 : Int32)) hin66 rfl (Sto.ofV Ar66 qc66 V4 (Ins.of_exa A60 (hw _ (List.mem_of_getElem? (i := 35) rfl)))) (g := (mkF m 26 #[rv w_MANY_RULES, iv (5 : Int32), rv b4, iv (4 : Int32)] [(.ref b60), (.int (4 : Int32)), (.ref b4)])) rfl rfl (hb hby d_prog_1_method_5_code_26)
  have O66 := O60.wr W66 ge17
  have N66 := Fr.snoc X66 N63 ge17
  have K66 : Keep h0 h66 [] := K60.wr W66 (Or.inr gz18)
  have va66 : Arv Z h66 b4 c4 (.object "com/example/rulework/rulework/SchedulingRule") (5 : Int32) [(.ref b10), (.ref b24), (.ref b36), (.ref b48), (.ref b60)] .null := Arv.set Ar66 qc66 S66 M66 U66 G66 rfl W66 4 rfl (Nat.le_of_ble_eq_true rfl)
  have k67 : Way p e below S0 T66 (mkF m 27 #[rv w_MANY_RULES, iv (5 : Int32), rv b4, iv (4 : Int32)] []) := fun t k => k64 t (st66 _ k)
  have k68 : Way p e below S0 T66 (mkF m 13 #[rv w_MANY_RULES, iv (5 : Int32), rv b4, iv (5 : Int32)] [(.ref b4), (.int (5 : Int32))]) := by
    intro t k
    refine k67 t ?_
    refine XS.iinc X66.here hx rfl (hb hby d_prog_1_method_5_code_27) rfl (l' := #[rv w_MANY_RULES, iv (5 : Int32), rv b4, iv (5 : Int32)]) rfl ?_
    show Steps p.tables e below (T66.setTop (mkF m 30 #[rv w_MANY_RULES, iv (5 : Int32), rv b4, iv (5 : Int32)] [])) _
    refine XS.goto X66.here hx rfl (pc0 := 30) (pc' := 11) rfl (hb hby d_prog_1_method_5_code_30) (by decide) (by decide) ?_
    show Steps p.tables e below (T66.setTop (mkF m 11 #[rv w_MANY_RULES, iv (5 : Int32), rv b4, iv (5 : Int32)] [])) _
    refine XS.iloadN X66.here hx rfl (hb hby d_prog_1_method_5_code_11) rfl ?_
    show Steps p.tables e below (T66.setTop (mkF m 12 #[rv w_MANY_RULES, iv (5 : Int32), rv b4, iv (5 : Int32)] [(.int (5 : Int32))])) _
    refine XS.aloadN X66.here hx rfl (hb hby d_prog_1_method_5_code_12) rfl rfl ?_
    show Steps p.tables e below (T66.setTop (mkF m 13 #[rv w_MANY_RULES, iv (5 : Int32), rv b4, iv (5 : Int32)] [(.ref b4), (.int (5 : Int32))])) _
    exact k
  obtain ⟨cl69, Ar69, -, S69, M69, -, -⟩ := id (va66)
  have k70 : Way p e below S0 T66 (mkF m 14 #[rv w_MANY_RULES, iv (5 : Int32), rv b4, iv (5 : Int32)] [(.int (5 : Int32)), (.int (5 : Int32))]) := fun t k => k68 t (X66.arraylength hx (by rw [e66]; exact Ar69.1) (State.isArrayOf_alike hZ.alike Ar69.2.1) (g := (mkF m 13 #[rv w_MANY_RULES, iv (5 : Int32), rv b4, iv (5 : Int32)] [(.ref b4), (.int (5 : Int32))])) rfl rfl (hb hby d_prog_1_method_5_code_13) _ (by rw [len_of S69 M69]; exact k))
  have k71 : Way p e below S0 T66 (mkF m 34 #[rv w_MANY_RULES, iv (5 : Int32), rv b4, iv (5 : Int32)] [(.ref b4)]) := by
    intro t k
    refine k70 t ?_
    refine XS.icmpYes X66.here hx rfl (pc0 := 14) (pc' := 33) rfl (hb hby d_prog_1_method_5_code_14) rfl (flt ((by decide) : ¬ ((5 : Int32) < (5 : Int32)))).2.1 (by decide) (by decide) ?_
    show Steps p.tables e below (T66.setTop (mkF m 33 #[rv w_MANY_RULES, iv (5 : Int32), rv b4, iv (5 : Int32)] [])) _
    refine XS.aloadN X66.here hx rfl (hb hby d_prog_1_method_5_code_33) rfl rfl ?_
    show Steps p.tables e below (T66.setTop (mkF m 34 #[rv w_MANY_RULES, iv (5 : Int32), rv b4, iv (5 : Int32)] [(.ref b4)])) _
    exact k
  obtain ⟨fs, hr, hrun, hended, hW, hsame⟩ := X66.leave (v := some (.ref b4)) (fun h => by rw [Bd.returns] at h; cases h)
  have gz72 : h0.size ≤ b10 := Nat.le_trans K4.1 (Nat.le_of_eq g10.symm)
  have f73 : Exa Z h66 b10 "com/example/rulework/bench/Burst$SelfConflictingRule" := (((((((((A10.wr W16).ext E24).wr W30).ext E36).wr W42).ext E48).wr W54).ext E60).wr W66)
  have gz74 : h0.size ≤ b24 := Nat.le_trans K16.1 (Nat.le_of_eq g24.symm)
  have f75 : Exa Z h66 b24 "com/example/rulework/bench/Burst$SelfConflictingRule" := (((((((A24.wr W30).ext E36).wr W42).ext E48).wr W54).ext E60).wr W66)
  have gz76 : h0.size ≤ b36 := Nat.le_trans K30.1 (Nat.le_of_eq g36.symm)
  have f77 : Exa Z h66 b36 "com/example/rulework/bench/Burst$SelfConflictingRule" := (((((A36.wr W42).ext E48).wr W54).ext E60).wr W66)
  have gz78 : h0.size ≤ b48 := Nat.le_trans K42.1 (Nat.le_of_eq g48.symm)
  have f79 : Exa Z h66 b48 "com/example/rulework/bench/Burst$SelfConflictingRule" := (((A48.wr W54).ext E60).wr W66)
  have gz80 : h0.size ≤ b60 := Nat.le_trans K54.1 (Nat.le_of_eq g60.symm)
  have f81 : Exa Z h66 b60 "com/example/rulework/bench/Burst$SelfConflictingRule" := (A60.wr W66)
  refine ⟨_, _, k71 _ (retOut X66 hx Bd.returns rfl (Or.inr (Or.inr (Or.inr (Or.inr ⟨rfl, rfl, rfl⟩)))) (hb hby d_prog_1_method_5_code_34) hr), hrun, hended, _, _, rfl, ?_, ⟨_, rfl⟩, hW, hsame.mono (by decide) (by decide)⟩
  show Q_mkm5 Z w_POOL w_NO_RULE w_ONE_RULE w_MANY_RULES  h0 n0 _ T66.heap _
  rw [e66]
  exact ⟨b4, c4, b10, b24, b36, b48, b60, rfl, N66, K66, gz18, va66, gz72, f73, gz74, f75, gz76, f77, gz78, f79, gz80, f81, (Nat.ne_of_lt (Nat.lt_of_lt_of_le (A10.wr W16).lt (Nat.le_of_eq g24.symm))), (Nat.ne_of_lt (Nat.lt_of_lt_of_le (((A10.wr W16).ext E24).wr W30).lt (Nat.le_of_eq g36.symm))), (Nat.ne_of_lt (Nat.lt_of_lt_of_le (((((A10.wr W16).ext E24).wr W30).ext E36).wr W42).lt (Nat.le_of_eq g48.symm))), (Nat.ne_of_lt (Nat.lt_of_lt_of_le (((((((A10.wr W16).ext E24).wr W30).ext E36).wr W42).ext E48).wr W54).lt (Nat.le_of_eq g60.symm))), (Nat.ne_of_lt (Nat.lt_of_lt_of_le (A24.wr W30).lt (Nat.le_of_eq g36.symm))), (Nat.ne_of_lt (Nat.lt_of_lt_of_le (((A24.wr W30).ext E36).wr W42).lt (Nat.le_of_eq g48.symm))), (Nat.ne_of_lt (Nat.lt_of_lt_of_le (((((A24.wr W30).ext E36).wr W42).ext E48).wr W54).lt (Nat.le_of_eq g60.symm))), (Nat.ne_of_lt (Nat.lt_of_lt_of_le (A36.wr W42).lt (Nat.le_of_eq g48.symm))), (Nat.ne_of_lt (Nat.lt_of_lt_of_le (((A36.wr W42).ext E48).wr W54).lt (Nat.le_of_eq g60.symm))), (Nat.ne_of_lt (Nat.lt_of_lt_of_le (A48.wr W54).lt (Nat.le_of_eq g60.symm)))⟩
def Q_mkm6 (Z : State) (w_POOL : Addr) (w_NO_RULE : Addr) (w_ONE_RULE : Addr) (w_MANY_RULES : Addr)  (h0 : Heap) (n0 : Nat) (v : Option Value) (h : Heap) (L : List Loc) : Prop := ∃ b1 : Addr, ∃ kc : ClassId, ∃ x0 : Addr, ∃ x1 : Addr, ∃ x2 : Addr, ∃ x3 : Addr, ∃ x4 : Addr, ∃ x5 : Addr, (v = some (.ref b1)) ∧ (Fr n0 L) ∧ (Keep h0 h []) ∧ (h0.size ≤ b1) ∧ (Arv Z h b1 kc (.object "com/example/rulework/rulework/SchedulingRule") (6 : Int32) [(.ref x0), (.ref x1), (.ref x2), (.ref x3), (.ref x4), (.ref x5)] .null) ∧ (h0.size ≤ x0) ∧ (Exa Z h x0 "com/example/rulework/bench/Burst$SelfConflictingRule") ∧ (h0.size ≤ x1) ∧ (Exa Z h x1 "com/example/rulework/bench/Burst$SelfConflictingRule") ∧ (h0.size ≤ x2) ∧ (Exa Z h x2 "com/example/rulework/bench/Burst$SelfConflictingRule") ∧ (h0.size ≤ x3) ∧ (Exa Z h x3 "com/example/rulework/bench/Burst$SelfConflictingRule") ∧ (h0.size ≤ x4) ∧ (Exa Z h x4 "com/example/rulework/bench/Burst$SelfConflictingRule") ∧ (h0.size ≤ x5) ∧ (Exa Z h x5 "com/example/rulework/bench/Burst$SelfConflictingRule") ∧ (x0 ≠ x1) ∧ (x0 ≠ x2) ∧ (x0 ≠ x3) ∧ (x0 ≠ x4) ∧ (x0 ≠ x5) ∧ (x1 ≠ x2) ∧ (x1 ≠ x3) ∧ (x1 ≠ x4) ∧ (x1 ≠ x5) ∧ (x2 ≠ x3) ∧ (x2 ≠ x4) ∧ (x2 ≠ x5) ∧ (x3 ≠ x4) ∧ (x3 ≠ x5) ∧ (x4 ≠ x5)
set_option maxRecDepth 65536 in
set_option maxHeartbeats 40000000 in
theorem mkm6 (l : Launch) (Z : State) (a0 : Array Value) (hw : ∀ d ∈ tables_1, d.before a0 Z = true) (ws : List Jvm.Cond) (w_POOL : Addr) (w_NO_RULE : Addr) (w_ONE_RULE : Addr) (w_MANY_RULES : Addr) (G : Gst Z w_POOL w_NO_RULE w_ONE_RULE w_MANY_RULES)  (h0 : Heap) (n0 : Nat) (O0 : Old Z n0 h0) :
    MetFree l (⟨"com/example/rulework/bench/Burst", "makeRules", "(I)[Lcom/example/rulework/rulework/SchedulingRule;"⟩ : MethodName) (head1 (Jvm.Cond.code (⟨"com/example/rulework/bench/Burst", "makeRules", "(I)[Lcom/example/rulework/rulework/SchedulingRule;"⟩ : MethodName) prog_1_method_5_code 4 (some (.array (.object "com/example/rulework/rulework/SchedulingRule"))) :: ws) ({ frames := 2, cells := 7, slots := 6, locals := 27 } : Room)) (fun a U => a = #[(.ref w_MANY_RULES), (.int (6 : Int32))] ∧ Z.Warmed39 U.vm ∧ U.heap = h0) (fun _ _ _ _ _ => True) (fun _ U o U' => ∃ v L, o = .returned v ∧ Q_mkm6 Z w_POOL w_NO_RULE w_ONE_RULE w_MANY_RULES  h0 n0 v U'.heap L ∧ FrameEnd U o U' L ({ frames := 2, cells := 7, slots := 6, locals := 27 } : Room).cells ({ frames := 2, cells := 7, slots := 6, locals := 27 } : Room).slots) := by
  refine MetFree.of_bodySF (plainFor_of_name pn_1) hisR ?_
  intro p e s m args below meth c s₁ Bd hml0 hP hK
  obtain ⟨rfl, hZ, hh⟩ := hP
  have hx := Bd.exec
  have hby := Bd.bytes
  have hml : c.maxLocals = 4 := hml0
  have hown : s.vm.findClass "com/example/rulework/bench/Burst" = some m.cls := findClass_of_methodNamed Bd.named
  have hnm := (name_of_methodNamed Bd.named Bd.method).1
  have X0 : Stand p l e ({ frames := 2, cells := 7, slots := 6, locals := 27 } : Room) s m #[(.ref w_MANY_RULES), (.int (6 : Int32))] below meth c s₁ [] 0 0 := Stand.of_body Bd
  have e0 : s₁.heap = h0 := by rw [← hh, Bd.state]; rfl
  have N0 := Fr.nil n0
  obtain ⟨S_w_POOL, E_w_POOL, F_w_POOL_ordinal, S_w_NO_RULE, E_w_NO_RULE, F_w_NO_RULE_ordinal, S_w_ONE_RULE, E_w_ONE_RULE, F_w_ONE_RULE_ordinal, S_w_MANY_RULES, E_w_MANY_RULES, F_w_MANY_RULES_ordinal⟩ := id G
  have k0 : Way p e below (s₁.setTop (entryFrame m #[(.ref w_MANY_RULES), (.int (6 : Int32))] 4)) s₁ (mkF m 0 #[rv w_MANY_RULES, iv (6 : Int32), .unset, .unset] []) := fun t k => castTop (by first | (simp [entryFrame, mkF, argsToLocals, Value.category]; done) | rfl) k
  generalize s₁.setTop (entryFrame m #[(.ref w_MANY_RULES), (.int (6 : Int32))] 4) = S0 at k0 ⊢
  have k1 : Way p e below S0 s₁ (mkF m 2 #[rv w_MANY_RULES, iv (6 : Int32), .unset, .unset] [(.int (6 : Int32)), (.ref w_MANY_RULES)]) := by
    intro t k
    refine k0 t ?_
    refine XS.aloadN X0.here hx rfl (hb hby d_prog_1_method_5_code_0) rfl rfl ?_
    show Steps p.tables e below (s₁.setTop (mkF m 1 #[rv w_MANY_RULES, iv (6 : Int32), .unset, .unset] [(.ref w_MANY_RULES)])) _
    refine XS.iloadN X0.here hx rfl (hb hby d_prog_1_method_5_code_1) rfl ?_
    show Steps p.tables e below (s₁.setTop (mkF m 2 #[rv w_MANY_RULES, iv (6 : Int32), .unset, .unset] [(.int (6 : Int32)), (.ref w_MANY_RULES)])) _
    exact k
  obtain ⟨cq2, kq2, qq2a, qq2b, qq2c⟩ := isOf hZ e0 (E_w_MANY_RULES.ext O0.2)
  obtain ⟨_, _, ⟨T2, L2, kk2, nn2⟩, -, X2, ⟨Lc2, hQ2, l2, y2, z2⟩, st2⟩ := X0.virtualBack hx (y := (⟨"com/example/rulework/bench/Burst", "ruleCount", "(I)I"⟩ : MethodName)) (z := (⟨"com/example/rulework/bench/Burst", "ruleCount", "(I)I"⟩ : MethodName)) hown (mvT hZ (hw _ (List.mem_of_getElem? (i := 8) rfl))) (mvT hZ (hw _ (List.mem_of_getElem? (i := 9) rfl))) (notFace_of_selects (args := #[]) (mvT hZ (hw _ (List.mem_of_getElem? (i := 11) rfl)))) (mvT hZ (hw _ (List.mem_of_getElem? (i := 11) rfl))) (mvT hZ (hw _ (List.mem_of_getElem? (i := 10) rfl))) (by decide) (backOf (W := 0) (rc3 l Z a0 hw [] w_POOL w_NO_RULE w_ONE_RULE w_MANY_RULES G (6 : Int32) h0 n0 O0 ) hZ (hw _ (List.mem_of_getElem? (i := 12) rfl)) (hw _ (List.mem_of_getElem? (i := 1) rfl)) (by decide) (by decide)) qq2a qq2c (g := (mkF m 2 #[rv w_MANY_RULES, iv (6 : Int32), .unset, .unset] [(.int (6 : Int32)), (.ref w_MANY_RULES)])) rfl (by rw [hml]; rfl) (Steps.refl _) (argsL := [(.int (6 : Int32))]) (rest := []) (lenOf pd_1 rfl) rfl (by show 2 * 0 + _ ≤ _; exact Nat.le_of_eq rfl) (hb hby d_prog_1_method_5_code_2) (fun _ _ => ⟨rfl, e0, (by decide : 0 + 0 ≤ _), (by decide : 0 + 0 ≤ _)⟩)
  dsimp only [Pt.U, Pt.locs, Pt.cells, Pt.slots] at X2 l2 y2 z2 st2 hQ2
  subst l2 y2 z2
  obtain ⟨rfl, Nq2, e2⟩ := hQ2
  have N2 := Fr.app N0 Nq2
  have k3 : Way p e below S0 T2 (mkF m 5 #[rv w_MANY_RULES, iv (6 : Int32), .unset, .unset] [(.int (6 : Int32))]) := fun t k => k1 t (st2.trans k)
  obtain ⟨T4, h4, c4, X4, e4, E4, A4, B4, V4, st4⟩ := newRE X2 hx hZ hown (hw _ (List.mem_of_getElem? (i := 22) rfl)) (hw _ (List.mem_of_getElem? (i := 23) rfl)) e2 (g := (mkF m 5 #[rv w_MANY_RULES, iv (6 : Int32), .unset, .unset] [(.int (6 : Int32))])) rfl (hb hby d_prog_1_method_5_code_5) rfl (by decide) (cap := 6) (by decide) (by decide) (by decide) (by decide) (ad := "[Lcom/example/rulework/rulework/SchedulingRule;") (by decide)
  obtain ⟨b4, g4⟩ : ∃ z, z = h0.size := ⟨_, rfl⟩
  rw [← g4] at A4 B4 st4
  have O4 := O0.ext E4
  have K4 : Keep h0 h4 [] := (Keep.refl h0 []).ext E4
  have v4 : Arv Z h4 b4 c4 (.object "com/example/rulework/rulework/SchedulingRule") (6 : Int32) [.null, .null, .null, .null, .null, .null] .null := (Arv.new A4 (by decide)).pad (pad_rep [] .null 6)
  have k5 : Way p e below S0 T4 (mkF m 8 #[rv w_MANY_RULES, iv (6 : Int32), .unset, .unset] [(.ref b4)]) := fun t k => k3 t (st4 _ k)
  have k6 : Way p e below S0 T4 (mkF m 13 #[rv w_MANY_RULES, iv (6 : Int32), rv b4, iv (0 : Int32)] [(.ref b4), (.int (0 : Int32))]) := by
    intro t k
    refine k5 t ?_
    refine XS.astoreN X4.here hx rfl (hb hby d_prog_1_method_5_code_8) rfl rfl (l' := #[rv w_MANY_RULES, iv (6 : Int32), rv b4, .unset]) rfl ?_
    show Steps p.tables e below (T4.setTop (mkF m 9 #[rv w_MANY_RULES, iv (6 : Int32), rv b4, .unset] [])) _
    refine XS.iconst X4.here hx rfl (hb hby d_prog_1_method_5_code_9) ?_
    show Steps p.tables e below (T4.setTop (mkF m 10 #[rv w_MANY_RULES, iv (6 : Int32), rv b4, .unset] [(.int (0 : Int32))])) _
    refine XS.istoreN X4.here hx rfl (hb hby d_prog_1_method_5_code_10) rfl (l' := #[rv w_MANY_RULES, iv (6 : Int32), rv b4, iv (0 : Int32)]) rfl ?_
    show Steps p.tables e below (T4.setTop (mkF m 11 #[rv w_MANY_RULES, iv (6 : Int32), rv b4, iv (0 : Int32)] [])) _
    refine XS.iloadN X4.here hx rfl (hb hby d_prog_1_method_5_code_11) rfl ?_
    show Steps p.tables e below (T4.setTop (mkF m 12 #[rv w_MANY_RULES, iv (6 : Int32), rv b4, iv (0 : Int32)] [(.int (0 : Int32))])) _
    refine XS.aloadN X4.here hx rfl (hb hby d_prog_1_method_5_code_12) rfl rfl ?_
    show Steps p.tables e below (T4.setTop (mkF m 13 #[rv w_MANY_RULES, iv (6 : Int32), rv b4, iv (0 : Int32)] [(.ref b4), (.int (0 : Int32))])) _
    exact k
  obtain ⟨cl7, Ar7, -, S7, M7, -, -⟩ := id (v4)
  have k8 : Way p e below S0 T4 (mkF m 14 #[rv w_MANY_RULES, iv (6 : Int32), rv b4, iv (0 : Int32)] [(.int (6 : Int32)), (.int (0 : Int32))]) := fun t k => k6 t (X4.arraylength hx (by rw [e4]; exact Ar7.1) (State.isArrayOf_alike hZ.alike Ar7.2.1) (g := (mkF m 13 #[rv w_MANY_RULES, iv (6 : Int32), rv b4, iv (0 : Int32)] [(.ref b4), (.int (0 : Int32))])) rfl rfl (hb hby d_prog_1_method_5_code_13) _ (by rw [len_of S7 M7]; exact k))
  have k9 : Way p e below S0 T4 (mkF m 19 #[rv w_MANY_RULES, iv (6 : Int32), rv b4, iv (0 : Int32)] [(.int (0 : Int32)), (.ref b4)]) := by
    intro t k
    refine k8 t ?_
    refine XS.icmpNo X4.here hx rfl (hb hby d_prog_1_method_5_code_14) rfl (tlt ((by decide) : (0 : Int32) < (6 : Int32))).2.1 ?_
    show Steps p.tables e below (T4.setTop (mkF m 17 #[rv w_MANY_RULES, iv (6 : Int32), rv b4, iv (0 : Int32)] [])) _
    refine XS.aloadN X4.here hx rfl (hb hby d_prog_1_method_5_code_17) rfl rfl ?_
    show Steps p.tables e below (T4.setTop (mkF m 18 #[rv w_MANY_RULES, iv (6 : Int32), rv b4, iv (0 : Int32)] [(.ref b4)])) _
    refine XS.iloadN X4.here hx rfl (hb hby d_prog_1_method_5_code_18) rfl ?_
    show Steps p.tables e below (T4.setTop (mkF m 19 #[rv w_MANY_RULES, iv (6 : Int32), rv b4, iv (0 : Int32)] [(.int (0 : Int32)), (.ref b4)])) _
    exact k
  obtain ⟨T10, h10, X10, e10, E10, A10, D10, U10, st10⟩ := newO X4 hx hZ hown (hw _ (List.mem_of_getElem? (i := 26) rfl)) (hw _ (List.mem_of_getElem? (i := 27) rfl)) (hw _ (List.mem_of_getElem? (i := 28) rfl)) e4 (g := (mkF m 19 #[rv w_MANY_RULES, iv (6 : Int32), rv b4, iv (0 : Int32)] [(.int (0 : Int32)), (.ref b4)])) rfl (hb hby d_prog_1_method_5_code_19) (by decide) (by decide)
  obtain ⟨b10, g10⟩ : ∃ z, z = h4.size := ⟨_, rfl⟩
  rw [← g10] at A10 D10 U10 st10
  have O10 := O4.ext E10
  have K10 : Keep h0 h10 [] := K4.ext E10
  have k11 : Way p e below S0 T10 (mkF m 22 #[rv w_MANY_RULES, iv (6 : Int32), rv b4, iv (0 : Int32)] [(.ref b10), (.int (0 : Int32)), (.ref b4)]) := fun t k => k9 t (st10 _ k)
  have k12 : Way p e below S0 T10 (mkF m 23 #[rv w_MANY_RULES, iv (6 : Int32), rv b4, iv (0 : Int32)] [(.ref b10), (.ref b10), (.int (0 : Int32)), (.ref b4)]) := by
    intro t k
    refine k11 t ?_
    refine XS.dup X10.here hx rfl (hb hby d_prog_1_method_5_code_22) rfl rfl ?_
    show Steps p.tables e below (T10.setTop (mkF m 23 #[rv w_MANY_RULES, iv (6 : Int32), rv b4, iv (0 : Int32)] [(.ref b10), (.ref b10), (.int (0 : Int32)), (.ref b4)])) _
    exact k
  obtain ⟨_, _, ⟨T13, L13, kk13, nn13⟩, -, X13, ⟨Lc13, hQ13, l13, y13, z13⟩, st13⟩ := own_specialR X10 hx (y := (⟨"com/example/rulework/bench/Burst$SelfConflictingRule", "<init>", "()V"⟩ : MethodName)) rfl (mvT hZ (hw _ (List.mem_of_getElem? (i := 30) rfl))) (mvT hZ (hw _ (List.mem_of_getElem? (i := 31) rfl))) (fun U r hW hn => own_ready e hZ hown (by decide) (hw _ (List.mem_of_getElem? (i := 29) rfl)) hW hn) (backOf (W := 3) (sci l Z a0 hw [] w_POOL w_NO_RULE w_ONE_RULE w_MANY_RULES G b10 h10 n0 O10 ) hZ (hw _ (List.mem_of_getElem? (i := 31) rfl)) (hw _ (List.mem_of_getElem? (i := 28) rfl)) (by decide) (by decide)) (g := (mkF m 23 #[rv w_MANY_RULES, iv (6 : Int32), rv b4, iv (0 : Int32)] [(.ref b10), (.ref b10), (.int (0 : Int32)), (.ref b4)])) rfl (by rw [hml]; rfl) (Steps.refl _) (a := b10) (argsL := []) (rest := [(.ref b10), (.int (0 : Int32)), (.ref b4)]) (lenOf pd_2 rfl) rfl (by show 2 * 0 + _ ≤ _; exact Nat.le_of_eq rfl) (hb hby d_prog_1_method_5_code_23) (fun _ _ => ⟨rfl, e10, (by decide : 2 + 0 ≤ _), (by decide : 6 + 0 ≤ _)⟩)
  dsimp only [Pt.U, Pt.locs, Pt.cells, Pt.slots] at X13 l13 y13 z13 st13 hQ13
  subst l13 y13 z13
  obtain ⟨rfl, Nq13, e13⟩ := hQ13
  have N13 := Fr.app N2 Nq13
  have k14 : Way p e below S0 T13 (mkF m 26 #[rv w_MANY_RULES, iv (6 : Int32), rv b4, iv (0 : Int32)] [(.ref b10), (.int (0 : Int32)), (.ref b4)]) := fun t k => k12 t (st13.trans k)
  have f15 : Arv Z h10 b4 c4 (.object "com/example/rulework/rulework/SchedulingRule") (6 : Int32) [.null, .null, .null, .null, .null, .null] .null := (v4.ext E10)
  obtain ⟨cl16, Ar16, qc16, S16, M16, U16, G16⟩ := id (f15)
  have hin16 : ¬ ((0 : Int32) < 0 ∨ cl16.slots.size ≤ ((0 : Int32)).toNatClampNeg) := inb_of S16 ⟨by decide, by decide⟩
  obtain ⟨T16, h16, X16, e16, W16, st16⟩ := stR X13 hx hZ e13 Ar16 (j := (0 : Int32)) hin16 rfl (Sto.ofV Ar16 qc16 V4 (Ins.of_exa A10 (hw _ (List.mem_of_getElem? (i := 35) rfl)))) (g := (mkF m 26 #[rv w_MANY_RULES, iv (6 : Int32), rv b4, iv (0 : Int32)] [(.ref b10), (.int (0 : Int32)), (.ref b4)])) rfl rfl (hb hby d_prog_1_method_5_code_26)
  have ge17 : n0 ≤ b4 := Nat.le_trans (own_old O0) (Nat.le_of_eq g4.symm)
  have O16 := O10.wr W16 ge17
  have N16 := Fr.snoc X16 N13 ge17
  have gz18 : h0.size ≤ b4 := Nat.le_trans (Keep.refl h0 []).1 (Nat.le_of_eq g4.symm)
  have K16 : Keep h0 h16 [] := K10.wr W16 (Or.inr gz18)
  have va16 : Arv Z h16 b4 c4 (.object "com/example/rulework/rulework/SchedulingRule") (6 : Int32) [(.ref b10), .null, .null, .null, .null, .null] .null := Arv.set Ar16 qc16 S16 M16 U16 G16 rfl W16 0 rfl (Nat.le_of_ble_eq_true rfl)
  have k19 : Way p e below S0 T16 (mkF m 27 #[rv w_MANY_RULES, iv (6 : Int32), rv b4, iv (0 : Int32)] []) := fun t k => k14 t (st16 _ k)
  have k20 : Way p e below S0 T16 (mkF m 13 #[rv w_MANY_RULES, iv (6 : Int32), rv b4, iv (1 : Int32)] [(.ref b4), (.int (1 : Int32))]) := by
    intro t k
    refine k19 t ?_
    refine XS.iinc X16.here hx rfl (hb hby d_prog_1_method_5_code_27) rfl (l' := #[rv w_MANY_RULES, iv (6 : Int32), rv b4, iv (1 : Int32)]) rfl ?_
    show Steps p.tables e below (T16.setTop (mkF m 30 #[rv w_MANY_RULES, iv (6 : Int32), rv b4, iv (1 : Int32)] [])) _
    refine XS.goto X16.here hx rfl (pc0 := 30) (pc' := 11) rfl (hb hby d_prog_1_method_5_code_30) (by decide) (by decide) ?_
    show Steps p.tables e below (T16.setTop (mkF m 11 #[rv w_MANY_RULES, iv (6 : Int32), rv b4, iv (1 : Int32)] [])) _
    refine XS.iloadN X16.here hx rfl (hb hby d_prog_1_method_5_code_11) rfl ?_
    show Steps p.tables e below (T16.setTop (mkF m 12 #[rv w_MANY_RULES, iv (6 : Int32), rv b4, iv (1 : Int32)] [(.int (1 : Int32))])) _
    refine XS.aloadN X16.here hx rfl (hb hby d_prog_1_method_5_code_12) rfl rfl ?_
    show Steps p.tables e below (T16.setTop (mkF m 13 #[rv w_MANY_RULES, iv (6 : Int32), rv b4, iv (1 : Int32)] [(.ref b4), (.int (1 : Int32))])) _
    exact k
  obtain ⟨cl21, Ar21, -, S21, M21, -, -⟩ := id (va16)
  have k22 : Way p e below S0 T16 (mkF m 14 #[rv w_MANY_RULES, iv (6 : Int32), rv b4, iv (1 : Int32)] [(.int (6 : Int32)), (.int (1 : Int32))]) := fun t k => k20 t (X16.arraylength hx (by rw [e16]; exact Ar21.1) (State.isArrayOf_alike hZ.alike Ar21.2.1) (g := (mkF m 13 #[rv w_MANY_RULES, iv (6 : Int32), rv b4, iv (1 : Int32)] [(.ref b4), (.int (1 : Int32))])) rfl rfl (hb hby d_prog_1_method_5_code_13) _ (by rw [len_of S21 M21]; exact k))
  have k23 : Way p e below S0 T16 (mkF m 19 #[rv w_MANY_RULES, iv (6 : Int32), rv b4, iv (1 : Int32)] [(.int (1 : Int32)), (.ref b4)]) := by
    intro t k
    refine k22 t ?_
    refine XS.icmpNo X16.here hx rfl (hb hby d_prog_1_method_5_code_14) rfl (tlt ((by decide) : (1 : Int32) < (6 : Int32))).2.1 ?_
    show Steps p.tables e below (T16.setTop (mkF m 17 #[rv w_MANY_RULES, iv (6 : Int32), rv b4, iv (1 : Int32)] [])) _
    refine XS.aloadN X16.here hx rfl (hb hby d_prog_1_method_5_code_17) rfl rfl ?_
    show Steps p.tables e below (T16.setTop (mkF m 18 #[rv w_MANY_RULES, iv (6 : Int32), rv b4, iv (1 : Int32)] [(.ref b4)])) _
    refine XS.iloadN X16.here hx rfl (hb hby d_prog_1_method_5_code_18) rfl ?_
    show Steps p.tables e below (T16.setTop (mkF m 19 #[rv w_MANY_RULES, iv (6 : Int32), rv b4, iv (1 : Int32)] [(.int (1 : Int32)), (.ref b4)])) _
    exact k
  obtain ⟨T24, h24, X24, e24, E24, A24, D24, U24, st24⟩ := newO X16 hx hZ hown (hw _ (List.mem_of_getElem? (i := 26) rfl)) (hw _ (List.mem_of_getElem? (i := 27) rfl)) (hw _ (List.mem_of_getElem? (i := 28) rfl)) e16 (g := (mkF m 19 #[rv w_MANY_RULES, iv (6 : Int32), rv b4, iv (1 : Int32)] [(.int (1 : Int32)), (.ref b4)])) rfl (hb hby d_prog_1_method_5_code_19) (by decide) (by decide)
  obtain ⟨b24, g24⟩ : ∃ z, z = h16.size := ⟨_, rfl⟩
  rw [← g24] at A24 D24 U24 st24
  have O24 := O16.ext E24
  have K24 : Keep h0 h24 [] := K16.ext E24
  have k25 : Way p e below S0 T24 (mkF m 22 #[rv w_MANY_RULES, iv (6 : Int32), rv b4, iv (1 : Int32)] [(.ref b24), (.int (1 : Int32)), (.ref b4)]) := fun t k => k23 t (st24 _ k)
  have k26 : Way p e below S0 T24 (mkF m 23 #[rv w_MANY_RULES, iv (6 : Int32), rv b4, iv (1 : Int32)] [(.ref b24), (.ref b24), (.int (1 : Int32)), (.ref b4)]) := by
    intro t k
    refine k25 t ?_
    refine XS.dup X24.here hx rfl (hb hby d_prog_1_method_5_code_22) rfl rfl ?_
    show Steps p.tables e below (T24.setTop (mkF m 23 #[rv w_MANY_RULES, iv (6 : Int32), rv b4, iv (1 : Int32)] [(.ref b24), (.ref b24), (.int (1 : Int32)), (.ref b4)])) _
    exact k
  obtain ⟨_, _, ⟨T27, L27, kk27, nn27⟩, -, X27, ⟨Lc27, hQ27, l27, y27, z27⟩, st27⟩ := own_specialR X24 hx (y := (⟨"com/example/rulework/bench/Burst$SelfConflictingRule", "<init>", "()V"⟩ : MethodName)) rfl (mvT hZ (hw _ (List.mem_of_getElem? (i := 30) rfl))) (mvT hZ (hw _ (List.mem_of_getElem? (i := 31) rfl))) (fun U r hW hn => own_ready e hZ hown (by decide) (hw _ (List.mem_of_getElem? (i := 29) rfl)) hW hn) (backOf (W := 3) (sci l Z a0 hw [] w_POOL w_NO_RULE w_ONE_RULE w_MANY_RULES G b24 h24 n0 O24 ) hZ (hw _ (List.mem_of_getElem? (i := 31) rfl)) (hw _ (List.mem_of_getElem? (i := 28) rfl)) (by decide) (by decide)) (g := (mkF m 23 #[rv w_MANY_RULES, iv (6 : Int32), rv b4, iv (1 : Int32)] [(.ref b24), (.ref b24), (.int (1 : Int32)), (.ref b4)])) rfl (by rw [hml]; rfl) (Steps.refl _) (a := b24) (argsL := []) (rest := [(.ref b24), (.int (1 : Int32)), (.ref b4)]) (lenOf pd_2 rfl) rfl (by show 2 * 0 + _ ≤ _; exact Nat.le_of_eq rfl) (hb hby d_prog_1_method_5_code_23) (fun _ _ => ⟨rfl, e24, (by decide : 3 + 0 ≤ _), (by decide : 6 + 0 ≤ _)⟩)
  dsimp only [Pt.U, Pt.locs, Pt.cells, Pt.slots] at X27 l27 y27 z27 st27 hQ27
  subst l27 y27 z27
  obtain ⟨rfl, Nq27, e27⟩ := hQ27
  have N27 := Fr.app N16 Nq27
  have k28 : Way p e below S0 T27 (mkF m 26 #[rv w_MANY_RULES, iv (6 : Int32), rv b4, iv (1 : Int32)] [(.ref b24), (.int (1 : Int32)), (.ref b4)]) := fun t k => k26 t (st27.trans k)
  have f29 : Arv Z h24 b4 c4 (.object "com/example/rulework/rulework/SchedulingRule") (6 : Int32) [(.ref b10), .null, .null, .null, .null, .null] .null := (va16.ext E24)
  obtain ⟨cl30, Ar30, qc30, S30, M30, U30, G30⟩ := id (f29)
  have hin30 : ¬ ((1 : Int32) < 0 ∨ cl30.slots.size ≤ ((1 : Int32)).toNatClampNeg) := inb_of S30 ⟨by decide, by decide⟩
  obtain ⟨T30, h30, X30, e30, W30, st30⟩ := stR X27 hx hZ e27 Ar30 (j := (1 : Int32)) hin30 rfl (Sto.ofV Ar30 qc30 V4 (Ins.of_exa A24 (hw _ (List.mem_of_getElem? (i := 35) rfl)))) (g := (mkF m 26 #[rv w_MANY_RULES, iv (6 : Int32), rv b4, iv (1 : Int32)] [(.ref b24), (.int (1 : Int32)), (.ref b4)])) rfl rfl (hb hby d_prog_1_method_5_code_26)
  have O30 := O24.wr W30 ge17
  have N30 := Fr.snoc X30 N27 ge17
  have K30 : Keep h0 h30 [] := K24.wr W30 (Or.inr gz18)
  have va30 : Arv Z h30 b4 c4 (.object "com/example/rulework/rulework/SchedulingRule") (6 : Int32) [(.ref b10), (.ref b24), .null, .null, .null, .null] .null := Arv.set Ar30 qc30 S30 M30 U30 G30 rfl W30 1 rfl (Nat.le_of_ble_eq_true rfl)
  have k31 : Way p e below S0 T30 (mkF m 27 #[rv w_MANY_RULES, iv (6 : Int32), rv b4, iv (1 : Int32)] []) := fun t k => k28 t (st30 _ k)
  have k32 : Way p e below S0 T30 (mkF m 13 #[rv w_MANY_RULES, iv (6 : Int32), rv b4, iv (2 : Int32)] [(.ref b4), (.int (2 : Int32))]) := by
    intro t k
    refine k31 t ?_
    refine XS.iinc X30.here hx rfl (hb hby d_prog_1_method_5_code_27) rfl (l' := #[rv w_MANY_RULES, iv (6 : Int32), rv b4, iv (2 : Int32)]) rfl ?_
    show Steps p.tables e below (T30.setTop (mkF m 30 #[rv w_MANY_RULES, iv (6 : Int32), rv b4, iv (2 : Int32)] [])) _
    refine XS.goto X30.here hx rfl (pc0 := 30) (pc' := 11) rfl (hb hby d_prog_1_method_5_code_30) (by decide) (by decide) ?_
    show Steps p.tables e below (T30.setTop (mkF m 11 #[rv w_MANY_RULES, iv (6 : Int32), rv b4, iv (2 : Int32)] [])) _
    refine XS.iloadN X30.here hx rfl (hb hby d_prog_1_method_5_code_11) rfl ?_
    show Steps p.tables e below (T30.setTop (mkF m 12 #[rv w_MANY_RULES, iv (6 : Int32), rv b4, iv (2 : Int32)] [(.int (2 : Int32))])) _
    refine XS.aloadN X30.here hx rfl (hb hby d_prog_1_method_5_code_12) rfl rfl ?_
    show Steps p.tables e below (T30.setTop (mkF m 13 #[rv w_MANY_RULES, iv (6 : Int32), rv b4, iv (2 : Int32)] [(.ref b4), (.int (2 : Int32))])) _
    exact k
  obtain ⟨cl33, Ar33, -, S33, M33, -, -⟩ := id (va30)
  have k34 : Way p e below S0 T30 (mkF m 14 #[rv w_MANY_RULES, iv (6 : Int32), rv b4, iv (2 : Int32)] [(.int (6 : Int32)), (.int (2 : Int32))]) := fun t k => k32 t (X30.arraylength hx (by rw [e30]; exact Ar33.1) (State.isArrayOf_alike hZ.alike Ar33.2.1) (g := (mkF m 13 #[rv w_MANY_RULES, iv (6 : Int32), rv b4, iv (2 : Int32)] [(.ref b4), (.int (2 : Int32))])) rfl rfl (hb hby d_prog_1_method_5_code_13) _ (by rw [len_of S33 M33]; exact k))
  have k35 : Way p e below S0 T30 (mkF m 19 #[rv w_MANY_RULES, iv (6 : Int32), rv b4, iv (2 : Int32)] [(.int (2 : Int32)), (.ref b4)]) := by
    intro t k
    refine k34 t ?_
    refine XS.icmpNo X30.here hx rfl (hb hby d_prog_1_method_5_code_14) rfl (tlt ((by decide) : (2 : Int32) < (6 : Int32))).2.1 ?_
    show Steps p.tables e below (T30.setTop (mkF m 17 #[rv w_MANY_RULES, iv (6 : Int32), rv b4, iv (2 : Int32)] [])) _
    refine XS.aloadN X30.here hx rfl (hb hby d_prog_1_method_5_code_17) rfl rfl ?_
    show Steps p.tables e below (T30.setTop (mkF m 18 #[rv w_MANY_RULES, iv (6 : Int32), rv b4, iv (2 : Int32)] [(.ref b4)])) _
    refine XS.iloadN X30.here hx rfl (hb hby d_prog_1_method_5_code_18) rfl ?_
    show Steps p.tables e below (T30.setTop (mkF m 19 #[rv w_MANY_RULES, iv (6 : Int32), rv b4, iv (2 : Int32)] [(.int (2 : Int32)), (.ref b4)])) _
    exact k
  obtain ⟨T36, h36, X36, e36, E36, A36, D36, U36, st36⟩ := newO X30 hx hZ hown (hw _ (List.mem_of_getElem? (i := 26) rfl)) (hw _ (List.mem_of_getElem? (i := 27) rfl)) (hw _ (List.mem_of_getElem? (i := 28) rfl)) e30 (g := (mkF m 19 #[rv w_MANY_RULES, iv (6 : Int32), rv b4, iv (2 : Int32)] [(.int (2 : Int32)), (.ref b4)])) rfl (hb hby d_prog_1_method_5_code_19) (by decide) (by decide)
  obtain ⟨b36, g36⟩ : ∃ z, z = h30.size := ⟨_, rfl⟩
  rw [← g36] at A36 D36 U36 st36
  have O36 := O30.ext E36
  have K36 : Keep h0 h36 [] := K30.ext E36
  have k37 : Way p e below S0 T36 (mkF m 22 #[rv w_MANY_RULES, iv (6 : Int32), rv b4, iv (2 : Int32)] [(.ref b36), (.int (2 : Int32)), (.ref b4)]) := fun t k => k35 t (st36 _ k)
  have k38 : Way p e below S0 T36 (mkF m 23 #[rv w_MANY_RULES, iv (6 : Int32), rv b4, iv (2 : Int32)] [(.ref b36), (.ref b36), (.int (2 : Int32)), (.ref b4)]) := by
    intro t k
    refine k37 t ?_
    refine XS.dup X36.here hx rfl (hb hby d_prog_1_method_5_code_22) rfl rfl ?_
    show Steps p.tables e below (T36.setTop (mkF m 23 #[rv w_MANY_RULES, iv (6 : Int32), rv b4, iv (2 : Int32)] [(.ref b36), (.ref b36), (.int (2 : Int32)), (.ref b4)])) _
    exact k
  obtain ⟨_, _, ⟨T39, L39, kk39, nn39⟩, -, X39, ⟨Lc39, hQ39, l39, y39, z39⟩, st39⟩ := own_specialR X36 hx (y := (⟨"com/example/rulework/bench/Burst$SelfConflictingRule", "<init>", "()V"⟩ : MethodName)) rfl (mvT hZ (hw _ (List.mem_of_getElem? (i := 30) rfl))) (mvT hZ (hw _ (List.mem_of_getElem? (i := 31) rfl))) (fun U r hW hn => own_ready e hZ hown (by decide) (hw _ (List.mem_of_getElem? (i := 29) rfl)) hW hn) (backOf (W := 3) (sci l Z a0 hw [] w_POOL w_NO_RULE w_ONE_RULE w_MANY_RULES G b36 h36 n0 O36 ) hZ (hw _ (List.mem_of_getElem? (i := 31) rfl)) (hw _ (List.mem_of_getElem? (i := 28) rfl)) (by decide) (by decide)) (g := (mkF m 23 #[rv w_MANY_RULES, iv (6 : Int32), rv b4, iv (2 : Int32)] [(.ref b36), (.ref b36), (.int (2 : Int32)), (.ref b4)])) rfl (by rw [hml]; rfl) (Steps.refl _) (a := b36) (argsL := []) (rest := [(.ref b36), (.int (2 : Int32)), (.ref b4)]) (lenOf pd_2 rfl) rfl (by show 2 * 0 + _ ≤ _; exact Nat.le_of_eq rfl) (hb hby d_prog_1_method_5_code_23) (fun _ _ => ⟨rfl, e36, (by decide : 4 + 0 ≤ _), (by decide : 6 + 0 ≤ _)⟩)
  dsimp only [Pt.U, Pt.locs, Pt.cells, Pt.slots] at X39 l39 y39 z39 st39 hQ39
  subst l39 y39 z39
  obtain ⟨rfl, Nq39, e39⟩ := hQ39
  have N39 := Fr.app N30 Nq39
  have k40 : Way p e below S0 T39 (mkF m 26 #[rv w_MANY_RULES, iv (6 : Int32), rv b4, iv (2 : Int32)] [(.ref b36), (.int (2 : Int32)), (.ref b4)]) := fun t k => k38 t (st39.trans k)
  have f41 : Arv Z h36 b4 c4 (.object "com/example/rulework/rulework/SchedulingRule") (6 : Int32) [(.ref b10), (.ref b24), .null, .null, .null, .null] .null := (va30.ext E36)
  obtain ⟨cl42, Ar42, qc42, S42, M42, U42, G42⟩ := id (f41)
  have hin42 : ¬ ((2 : Int32) < 0 ∨ cl42.slots.size ≤ ((2 : Int32)).toNatClampNeg) := inb_of S42 ⟨by decide, by decide⟩
  obtain ⟨T42, h42, X42, e42, W42, st42⟩ := stR X39 hx hZ e39 Ar42 (j := (2 : Int32)) hin42 rfl (Sto.ofV Ar42 qc42 V4 (Ins.of_exa A36 (hw _ (List.mem_of_getElem? (i := 35) rfl)))) (g := (mkF m 26 #[rv w_MANY_RULES, iv (6 : Int32), rv b4, iv (2 : Int32)] [(.ref b36), (.int (2 : Int32)), (.ref b4)])) rfl rfl (hb hby d_prog_1_method_5_code_26)
  have O42 := O36.wr W42 ge17
  have N42 := Fr.snoc X42 N39 ge17
  have K42 : Keep h0 h42 [] := K36.wr W42 (Or.inr gz18)
  have va42 : Arv Z h42 b4 c4 (.object "com/example/rulework/rulework/SchedulingRule") (6 : Int32) [(.ref b10), (.ref b24), (.ref b36), .null, .null, .null] .null := Arv.set Ar42 qc42 S42 M42 U42 G42 rfl W42 2 rfl (Nat.le_of_ble_eq_true rfl)
  have k43 : Way p e below S0 T42 (mkF m 27 #[rv w_MANY_RULES, iv (6 : Int32), rv b4, iv (2 : Int32)] []) := fun t k => k40 t (st42 _ k)
  have k44 : Way p e below S0 T42 (mkF m 13 #[rv w_MANY_RULES, iv (6 : Int32), rv b4, iv (3 : Int32)] [(.ref b4), (.int (3 : Int32))]) := by
    intro t k
    refine k43 t ?_
    refine XS.iinc X42.here hx rfl (hb hby d_prog_1_method_5_code_27) rfl (l' := #[rv w_MANY_RULES, iv (6 : Int32), rv b4, iv (3 : Int32)]) rfl ?_
    show Steps p.tables e below (T42.setTop (mkF m 30 #[rv w_MANY_RULES, iv (6 : Int32), rv b4, iv (3 : Int32)] [])) _
    refine XS.goto X42.here hx rfl (pc0 := 30) (pc' := 11) rfl (hb hby d_prog_1_method_5_code_30) (by decide) (by decide) ?_
    show Steps p.tables e below (T42.setTop (mkF m 11 #[rv w_MANY_RULES, iv (6 : Int32), rv b4, iv (3 : Int32)] [])) _
    refine XS.iloadN X42.here hx rfl (hb hby d_prog_1_method_5_code_11) rfl ?_
    show Steps p.tables e below (T42.setTop (mkF m 12 #[rv w_MANY_RULES, iv (6 : Int32), rv b4, iv (3 : Int32)] [(.int (3 : Int32))])) _
    refine XS.aloadN X42.here hx rfl (hb hby d_prog_1_method_5_code_12) rfl rfl ?_
    show Steps p.tables e below (T42.setTop (mkF m 13 #[rv w_MANY_RULES, iv (6 : Int32), rv b4, iv (3 : Int32)] [(.ref b4), (.int (3 : Int32))])) _
    exact k
  obtain ⟨cl45, Ar45, -, S45, M45, -, -⟩ := id (va42)
  have k46 : Way p e below S0 T42 (mkF m 14 #[rv w_MANY_RULES, iv (6 : Int32), rv b4, iv (3 : Int32)] [(.int (6 : Int32)), (.int (3 : Int32))]) := fun t k => k44 t (X42.arraylength hx (by rw [e42]; exact Ar45.1) (State.isArrayOf_alike hZ.alike Ar45.2.1) (g := (mkF m 13 #[rv w_MANY_RULES, iv (6 : Int32), rv b4, iv (3 : Int32)] [(.ref b4), (.int (3 : Int32))])) rfl rfl (hb hby d_prog_1_method_5_code_13) _ (by rw [len_of S45 M45]; exact k))
  have k47 : Way p e below S0 T42 (mkF m 19 #[rv w_MANY_RULES, iv (6 : Int32), rv b4, iv (3 : Int32)] [(.int (3 : Int32)), (.ref b4)]) := by
    intro t k
    refine k46 t ?_
    refine XS.icmpNo X42.here hx rfl (hb hby d_prog_1_method_5_code_14) rfl (tlt ((by decide) : (3 : Int32) < (6 : Int32))).2.1 ?_
    show Steps p.tables e below (T42.setTop (mkF m 17 #[rv w_MANY_RULES, iv (6 : Int32), rv b4, iv (3 : Int32)] [])) _
    refine XS.aloadN X42.here hx rfl (hb hby d_prog_1_method_5_code_17) rfl rfl ?_
    show Steps p.tables e below (T42.setTop (mkF m 18 #[rv w_MANY_RULES, iv (6 : Int32), rv b4, iv (3 : Int32)] [(.ref b4)])) _
    refine XS.iloadN X42.here hx rfl (hb hby d_prog_1_method_5_code_18) rfl ?_
    show Steps p.tables e below (T42.setTop (mkF m 19 #[rv w_MANY_RULES, iv (6 : Int32), rv b4, iv (3 : Int32)] [(.int (3 : Int32)), (.ref b4)])) _
    exact k
  obtain ⟨T48, h48, X48, e48, E48, A48, D48, U48, st48⟩ := newO X42 hx hZ hown (hw _ (List.mem_of_getElem? (i := 26) rfl)) (hw _ (List.mem_of_getElem? (i := 27) rfl)) (hw _ (List.mem_of_getElem? (i := 28) rfl)) e42 (g := (mkF m 19 #[rv w_MANY_RULES, iv (6 : Int32), rv b4, iv (3 : Int32)] [(.int (3 : Int32)), (.ref b4)])) rfl (hb hby d_prog_1_method_5_code_19) (by decide) (by decide)
  obtain ⟨b48, g48⟩ : ∃ z, z = h42.size := ⟨_, rfl⟩
  rw [← g48] at A48 D48 U48 st48
  have O48 := O42.ext E48
  have K48 : Keep h0 h48 [] := K42.ext E48
  have k49 : Way p e below S0 T48 (mkF m 22 #[rv w_MANY_RULES, iv (6 : Int32), rv b4, iv (3 : Int32)] [(.ref b48), (.int (3 : Int32)), (.ref b4)]) := fun t k => k47 t (st48 _ k)
  have k50 : Way p e below S0 T48 (mkF m 23 #[rv w_MANY_RULES, iv (6 : Int32), rv b4, iv (3 : Int32)] [(.ref b48), (.ref b48), (.int (3 : Int32)), (.ref b4)]) := by
    intro t k
    refine k49 t ?_
    refine XS.dup X48.here hx rfl (hb hby d_prog_1_method_5_code_22) rfl rfl ?_
    show Steps p.tables e below (T48.setTop (mkF m 23 #[rv w_MANY_RULES, iv (6 : Int32), rv b4, iv (3 : Int32)] [(.ref b48), (.ref b48), (.int (3 : Int32)), (.ref b4)])) _
    exact k
  obtain ⟨_, _, ⟨T51, L51, kk51, nn51⟩, -, X51, ⟨Lc51, hQ51, l51, y51, z51⟩, st51⟩ := own_specialR X48 hx (y := (⟨"com/example/rulework/bench/Burst$SelfConflictingRule", "<init>", "()V"⟩ : MethodName)) rfl (mvT hZ (hw _ (List.mem_of_getElem? (i := 30) rfl))) (mvT hZ (hw _ (List.mem_of_getElem? (i := 31) rfl))) (fun U r hW hn => own_ready e hZ hown (by decide) (hw _ (List.mem_of_getElem? (i := 29) rfl)) hW hn) (backOf (W := 3) (sci l Z a0 hw [] w_POOL w_NO_RULE w_ONE_RULE w_MANY_RULES G b48 h48 n0 O48 ) hZ (hw _ (List.mem_of_getElem? (i := 31) rfl)) (hw _ (List.mem_of_getElem? (i := 28) rfl)) (by decide) (by decide)) (g := (mkF m 23 #[rv w_MANY_RULES, iv (6 : Int32), rv b4, iv (3 : Int32)] [(.ref b48), (.ref b48), (.int (3 : Int32)), (.ref b4)])) rfl (by rw [hml]; rfl) (Steps.refl _) (a := b48) (argsL := []) (rest := [(.ref b48), (.int (3 : Int32)), (.ref b4)]) (lenOf pd_2 rfl) rfl (by show 2 * 0 + _ ≤ _; exact Nat.le_of_eq rfl) (hb hby d_prog_1_method_5_code_23) (fun _ _ => ⟨rfl, e48, (by decide : 5 + 0 ≤ _), (by decide : 6 + 0 ≤ _)⟩)
  dsimp only [Pt.U, Pt.locs, Pt.cells, Pt.slots] at X51 l51 y51 z51 st51 hQ51
  subst l51 y51 z51
  obtain ⟨rfl, Nq51, e51⟩ := hQ51
  have N51 := Fr.app N42 Nq51
  have k52 : Way p e below S0 T51 (mkF m 26 #[rv w_MANY_RULES, iv (6 : Int32), rv b4, iv (3 : Int32)] [(.ref b48), (.int (3 : Int32)), (.ref b4)]) := fun t k => k50 t (st51.trans k)
  have f53 : Arv Z h48 b4 c4 (.object "com/example/rulework/rulework/SchedulingRule") (6 : Int32) [(.ref b10), (.ref b24), (.ref b36), .null, .null, .null] .null := (va42.ext E48)
  obtain ⟨cl54, Ar54, qc54, S54, M54, U54, G54⟩ := id (f53)
  have hin54 : ¬ ((3 : Int32) < 0 ∨ cl54.slots.size ≤ ((3 : Int32)).toNatClampNeg) := inb_of S54 ⟨by decide, by decide⟩
  obtain ⟨T54, h54, X54, e54, W54, st54⟩ := stR X51 hx hZ e51 Ar54 (j := (3 : Int32)) hin54 rfl (Sto.ofV Ar54 qc54 V4 (Ins.of_exa A48 (hw _ (List.mem_of_getElem? (i := 35) rfl)))) (g := (mkF m 26 #[rv w_MANY_RULES, iv (6 : Int32), rv b4, iv (3 : Int32)] [(.ref b48), (.int (3 : Int32)), (.ref b4)])) rfl rfl (hb hby d_prog_1_method_5_code_26)
  have O54 := O48.wr W54 ge17
  have N54 := Fr.snoc X54 N51 ge17
  have K54 : Keep h0 h54 [] := K48.wr W54 (Or.inr gz18)
  have va54 : Arv Z h54 b4 c4 (.object "com/example/rulework/rulework/SchedulingRule") (6 : Int32) [(.ref b10), (.ref b24), (.ref b36), (.ref b48), .null, .null] .null := Arv.set Ar54 qc54 S54 M54 U54 G54 rfl W54 3 rfl (Nat.le_of_ble_eq_true rfl)
  have k55 : Way p e below S0 T54 (mkF m 27 #[rv w_MANY_RULES, iv (6 : Int32), rv b4, iv (3 : Int32)] []) := fun t k => k52 t (st54 _ k)
  have k56 : Way p e below S0 T54 (mkF m 13 #[rv w_MANY_RULES, iv (6 : Int32), rv b4, iv (4 : Int32)] [(.ref b4), (.int (4 : Int32))]) := by
    intro t k
    refine k55 t ?_
    refine XS.iinc X54.here hx rfl (hb hby d_prog_1_method_5_code_27) rfl (l' := #[rv w_MANY_RULES, iv (6 : Int32), rv b4, iv (4 : Int32)]) rfl ?_
    show Steps p.tables e below (T54.setTop (mkF m 30 #[rv w_MANY_RULES, iv (6 : Int32), rv b4, iv (4 : Int32)] [])) _
    refine XS.goto X54.here hx rfl (pc0 := 30) (pc' := 11) rfl (hb hby d_prog_1_method_5_code_30) (by decide) (by decide) ?_
    show Steps p.tables e below (T54.setTop (mkF m 11 #[rv w_MANY_RULES, iv (6 : Int32), rv b4, iv (4 : Int32)] [])) _
    refine XS.iloadN X54.here hx rfl (hb hby d_prog_1_method_5_code_11) rfl ?_
    show Steps p.tables e below (T54.setTop (mkF m 12 #[rv w_MANY_RULES, iv (6 : Int32), rv b4, iv (4 : Int32)] [(.int (4 : Int32))])) _
    refine XS.aloadN X54.here hx rfl (hb hby d_prog_1_method_5_code_12) rfl rfl ?_
    show Steps p.tables e below (T54.setTop (mkF m 13 #[rv w_MANY_RULES, iv (6 : Int32), rv b4, iv (4 : Int32)] [(.ref b4), (.int (4 : Int32))])) _
    exact k
  obtain ⟨cl57, Ar57, -, S57, M57, -, -⟩ := id (va54)
  have k58 : Way p e below S0 T54 (mkF m 14 #[rv w_MANY_RULES, iv (6 : Int32), rv b4, iv (4 : Int32)] [(.int (6 : Int32)), (.int (4 : Int32))]) := fun t k => k56 t (X54.arraylength hx (by rw [e54]; exact Ar57.1) (State.isArrayOf_alike hZ.alike Ar57.2.1) (g := (mkF m 13 #[rv w_MANY_RULES, iv (6 : Int32), rv b4, iv (4 : Int32)] [(.ref b4), (.int (4 : Int32))])) rfl rfl (hb hby d_prog_1_method_5_code_13) _ (by rw [len_of S57 M57]; exact k))
  have k59 : Way p e below S0 T54 (mkF m 19 #[rv w_MANY_RULES, iv (6 : Int32), rv b4, iv (4 : Int32)] [(.int (4 : Int32)), (.ref b4)]) := by
    intro t k
    refine k58 t ?_
    refine XS.icmpNo X54.here hx rfl (hb hby d_prog_1_method_5_code_14) rfl (tlt ((by decide) : (4 : Int32) < (6 : Int32))).2.1 ?_
    show Steps p.tables e below (T54.setTop (mkF m 17 #[rv w_MANY_RULES, iv (6 : Int32), rv b4, iv (4 : Int32)] [])) _
    refine XS.aloadN X54.here hx rfl (hb hby d_prog_1_method_5_code_17) rfl rfl ?_
    show Steps p.tables e below (T54.setTop (mkF m 18 #[rv w_MANY_RULES, iv (6 : Int32), rv b4, iv (4 : Int32)] [(.ref b4)])) _
    refine XS.iloadN X54.here hx rfl (hb hby d_prog_1_method_5_code_18) rfl ?_
    show Steps p.tables e below (T54.setTop (mkF m 19 #[rv w_MANY_RULES, iv (6 : Int32), rv b4, iv (4 : Int32)] [(.int (4 : Int32)), (.ref b4)])) _
    exact k
  obtain ⟨T60, h60, X60, e60, E60, A60, D60, U60, st60⟩ := newO X54 hx hZ hown (hw _ (List.mem_of_getElem? (i := 26) rfl)) (hw _ (List.mem_of_getElem? (i := 27) rfl)) (hw _ (List.mem_of_getElem? (i := 28) rfl)) e54 (g := (mkF m 19 #[rv w_MANY_RULES, iv (6 : Int32), rv b4, iv (4 : Int32)] [(.int (4 : Int32)), (.ref b4)])) rfl (hb hby d_prog_1_method_5_code_19) (by decide) (by decide)
  obtain ⟨b60, g60⟩ : ∃ z, z = h54.size := ⟨_, rfl⟩
  rw [← g60] at A60 D60 U60 st60
  have O60 := O54.ext E60
  have K60 : Keep h0 h60 [] := K54.ext E60
  have k61 : Way p e below S0 T60 (mkF m 22 #[rv w_MANY_RULES, iv (6 : Int32), rv b4, iv (4 : Int32)] [(.ref b60), (.int (4 : Int32)), (.ref b4)]) := fun t k => k59 t (st60 _ k)
  have k62 : Way p e below S0 T60 (mkF m 23 #[rv w_MANY_RULES, iv (6 : Int32), rv b4, iv (4 : Int32)] [(.ref b60), (.ref b60), (.int (4 : Int32)), (.ref b4)]) := by
    intro t k
    refine k61 t ?_
    refine XS.dup X60.here hx rfl (hb hby d_prog_1_method_5_code_22) rfl rfl ?_
    show Steps p.tables e below (T60.setTop (mkF m 23 #[rv w_MANY_RULES, iv (6 : Int32), rv b4, iv (4 : Int32)] [(.ref b60), (.ref b60), (.int (4 : Int32)), (.ref b4)])) _
    exact k
  obtain ⟨_, _, ⟨T63, L63, kk63, nn63⟩, -, X63, ⟨Lc63, hQ63, l63, y63, z63⟩, st63⟩ := own_specialR X60 hx (y := (⟨"com/example/rulework/bench/Burst$SelfConflictingRule", "<init>", "()V"⟩ : MethodName)) rfl (mvT hZ (hw _ (List.mem_of_getElem? (i := 30) rfl))) (mvT hZ (hw _ (List.mem_of_getElem? (i := 31) rfl))) (fun U r hW hn => own_ready e hZ hown (by decide) (hw _ (List.mem_of_getElem? (i := 29) rfl)) hW hn) (backOf (W := 3) (sci l Z a0 hw [] w_POOL w_NO_RULE w_ONE_RULE w_MANY_RULES G b60 h60 n0 O60 ) hZ (hw _ (List.mem_of_getElem? (i := 31) rfl)) (hw _ (List.mem_of_getElem? (i := 28) rfl)) (by decide) (by decide)) (g := (mkF m 23 #[rv w_MANY_RULES, iv (6 : Int32), rv b4, iv (4 : Int32)] [(.ref b60), (.ref b60), (.int (4 : Int32)), (.ref b4)])) rfl (by rw [hml]; rfl) (Steps.refl _) (a := b60) (argsL := []) (rest := [(.ref b60), (.int (4 : Int32)), (.ref b4)]) (lenOf pd_2 rfl) rfl (by show 2 * 0 + _ ≤ _; exact Nat.le_of_eq rfl) (hb hby d_prog_1_method_5_code_23) (fun _ _ => ⟨rfl, e60, (by decide : 6 + 0 ≤ _), (by decide : 6 + 0 ≤ _)⟩)
  dsimp only [Pt.U, Pt.locs, Pt.cells, Pt.slots] at X63 l63 y63 z63 st63 hQ63
  subst l63 y63 z63
  obtain ⟨rfl, Nq63, e63⟩ := hQ63
  have N63 := Fr.app N54 Nq63
  have k64 : Way p e below S0 T63 (mkF m 26 #[rv w_MANY_RULES, iv (6 : Int32), rv b4, iv (4 : Int32)] [(.ref b60), (.int (4 : Int32)), (.ref b4)]) := fun t k => k62 t (st63.trans k)
  have f65 : Arv Z h60 b4 c4 (.object "com/example/rulework/rulework/SchedulingRule") (6 : Int32) [(.ref b10), (.ref b24), (.ref b36), (.ref b48), .null, .null] .null := (va54.ext E60)
  obtain ⟨cl66, Ar66, qc66, S66, M66, U66, G66⟩ := id (f65)
  have hin66 : ¬ ((4 : Int32) < 0 ∨ cl66.slots.size ≤ ((4 : Int32)).toNatClampNeg) := inb_of S66 ⟨by decide, by decide⟩
  obtain ⟨T66, h66, X66, e66, W66, st66⟩ := stR X63 hx hZ e63 Ar66 (j := (4 : Int32)) hin66 rfl (Sto.ofV Ar66 qc66 V4 (Ins.of_exa A60 (hw _ (List.mem_of_getElem? (i := 35) rfl)))) (g := (mkF m 26 #[rv w_MANY_RULES, iv (6 : Int32), rv b4, iv (4 : Int32)] [(.ref b60), (.int (4 : Int32)), (.ref b4)])) rfl rfl (hb hby d_prog_1_method_5_code_26)
  have O66 := O60.wr W66 ge17
  have N66 := Fr.snoc X66 N63 ge17
  have K66 : Keep h0 h66 [] := K60.wr W66 (Or.inr gz18)
  have va66 : Arv Z h66 b4 c4 (.object "com/example/rulework/rulework/SchedulingRule") (6 : Int32) [(.ref b10), (.ref b24), (.ref b36), (.ref b48), (.ref b60), .null] .null := Arv.set Ar66 qc66 S66 M66 U66 G66 rfl W66 4 rfl (Nat.le_of_ble_eq_true rfl)
  have k67 : Way p e below S0 T66 (mkF m 27 #[rv w_MANY_RULES, iv (6 : Int32), rv b4, iv (4 : Int32)] []) := fun t k => k64 t (st66 _ k)
  have k68 : Way p e below S0 T66 (mkF m 13 #[rv w_MANY_RULES, iv (6 : Int32), rv b4, iv (5 : Int32)] [(.ref b4), (.int (5 : Int32))]) := by
    intro t k
    refine k67 t ?_
    refine XS.iinc X66.here hx rfl (hb hby d_prog_1_method_5_code_27) rfl (l' := #[rv w_MANY_RULES, iv (6 : Int32), rv b4, iv (5 : Int32)]) rfl ?_
    show Steps p.tables e below (T66.setTop (mkF m 30 #[rv w_MANY_RULES, iv (6 : Int32), rv b4, iv (5 : Int32)] [])) _
    refine XS.goto X66.here hx rfl (pc0 := 30) (pc' := 11) rfl (hb hby d_prog_1_method_5_code_30) (by decide) (by decide) ?_
    show Steps p.tables e below (T66.setTop (mkF m 11 #[rv w_MANY_RULES, iv (6 : Int32), rv b4, iv (5 : Int32)] [])) _
    refine XS.iloadN X66.here hx rfl (hb hby d_prog_1_method_5_code_11) rfl ?_
    show Steps p.tables e below (T66.setTop (mkF m 12 #[rv w_MANY_RULES, iv (6 : Int32), rv b4, iv (5 : Int32)] [(.int (5 : Int32))])) _
    refine XS.aloadN X66.here hx rfl (hb hby d_prog_1_method_5_code_12) rfl rfl ?_
    show Steps p.tables e below (T66.setTop (mkF m 13 #[rv w_MANY_RULES, iv (6 : Int32), rv b4, iv (5 : Int32)] [(.ref b4), (.int (5 : Int32))])) _
    exact k
  obtain ⟨cl69, Ar69, -, S69, M69, -, -⟩ := id (va66)
  have k70 : Way p e below S0 T66 (mkF m 14 #[rv w_MANY_RULES, iv (6 : Int32), rv b4, iv (5 : Int32)] [(.int (6 : Int32)), (.int (5 : Int32))]) := fun t k => k68 t (X66.arraylength hx (by rw [e66]; exact Ar69.1) (State.isArrayOf_alike hZ.alike Ar69.2.1) (g := (mkF m 13 #[rv w_MANY_RULES, iv (6 : Int32), rv b4, iv (5 : Int32)] [(.ref b4), (.int (5 : Int32))])) rfl rfl (hb hby d_prog_1_method_5_code_13) _ (by rw [len_of S69 M69]; exact k))
  have k71 : Way p e below S0 T66 (mkF m 19 #[rv w_MANY_RULES, iv (6 : Int32), rv b4, iv (5 : Int32)] [(.int (5 : Int32)), (.ref b4)]) := by
    intro t k
    refine k70 t ?_
    refine XS.icmpNo X66.here hx rfl (hb hby d_prog_1_method_5_code_14) rfl (tlt ((by decide) : (5 : Int32) < (6 : Int32))).2.1 ?_
    show Steps p.tables e below (T66.setTop (mkF m 17 #[rv w_MANY_RULES, iv (6 : Int32), rv b4, iv (5 : Int32)] [])) _
    refine XS.aloadN X66.here hx rfl (hb hby d_prog_1_method_5_code_17) rfl rfl ?_
    show Steps p.tables e below (T66.setTop (mkF m 18 #[rv w_MANY_RULES, iv (6 : Int32), rv b4, iv (5 : Int32)] [(.ref b4)])) _
    refine XS.iloadN X66.here hx rfl (hb hby d_prog_1_method_5_code_18) rfl ?_
    show Steps p.tables e below (T66.setTop (mkF m 19 #[rv w_MANY_RULES, iv (6 : Int32), rv b4, iv (5 : Int32)] [(.int (5 : Int32)), (.ref b4)])) _
    exact k
  obtain ⟨T72, h72, X72, e72, E72, A72, D72, U72, st72⟩ := newO X66 hx hZ hown (hw _ (List.mem_of_getElem? (i := 26) rfl)) (hw _ (List.mem_of_getElem? (i := 27) rfl)) (hw _ (List.mem_of_getElem? (i := 28) rfl)) e66 (g := (mkF m 19 #[rv w_MANY_RULES, iv (6 : Int32), rv b4, iv (5 : Int32)] [(.int (5 : Int32)), (.ref b4)])) rfl (hb hby d_prog_1_method_5_code_19) (by decide) (by decide)
  obtain ⟨b72, g72⟩ : ∃ z, z = h66.size := ⟨_, rfl⟩
  rw [← g72] at A72 D72 U72 st72
  have O72 := O66.ext E72
  have K72 : Keep h0 h72 [] := K66.ext E72
  have k73 : Way p e below S0 T72 (mkF m 22 #[rv w_MANY_RULES, iv (6 : Int32), rv b4, iv (5 : Int32)] [(.ref b72), (.int (5 : Int32)), (.ref b4)]) := fun t k => k71 t (st72 _ k)
  have k74 : Way p e below S0 T72 (mkF m 23 #[rv w_MANY_RULES, iv (6 : Int32), rv b4, iv (5 : Int32)] [(.ref b72), (.ref b72), (.int (5 : Int32)), (.ref b4)]) := by
    intro t k
    refine k73 t ?_
    refine XS.dup X72.here hx rfl (hb hby d_prog_1_method_5_code_22) rfl rfl ?_
    show Steps p.tables e below (T72.setTop (mkF m 23 #[rv w_MANY_RULES, iv (6 : Int32), rv b4, iv (5 : Int32)] [(.ref b72), (.ref b72), (.int (5 : Int32)), (.ref b4)])) _
    exact k
  obtain ⟨_, _, ⟨T75, L75, kk75, nn75⟩, -, X75, ⟨Lc75, hQ75, l75, y75, z75⟩, st75⟩ := own_specialR X72 hx (y := (⟨"com/example/rulework/bench/Burst$SelfConflictingRule", "<init>", "()V"⟩ : MethodName)) rfl (mvT hZ (hw _ (List.mem_of_getElem? (i := 30) rfl))) (mvT hZ (hw _ (List.mem_of_getElem? (i := 31) rfl))) (fun U r hW hn => own_ready e hZ hown (by decide) (hw _ (List.mem_of_getElem? (i := 29) rfl)) hW hn) (backOf (W := 3) (sci l Z a0 hw [] w_POOL w_NO_RULE w_ONE_RULE w_MANY_RULES G b72 h72 n0 O72 ) hZ (hw _ (List.mem_of_getElem? (i := 31) rfl)) (hw _ (List.mem_of_getElem? (i := 28) rfl)) (by decide) (by decide)) (g := (mkF m 23 #[rv w_MANY_RULES, iv (6 : Int32), rv b4, iv (5 : Int32)] [(.ref b72), (.ref b72), (.int (5 : Int32)), (.ref b4)])) rfl (by rw [hml]; rfl) (Steps.refl _) (a := b72) (argsL := []) (rest := [(.ref b72), (.int (5 : Int32)), (.ref b4)]) (lenOf pd_2 rfl) rfl (by show 2 * 0 + _ ≤ _; exact Nat.le_of_eq rfl) (hb hby d_prog_1_method_5_code_23) (fun _ _ => ⟨rfl, e72, (by decide : 7 + 0 ≤ _), (by decide : 6 + 0 ≤ _)⟩)
  dsimp only [Pt.U, Pt.locs, Pt.cells, Pt.slots] at X75 l75 y75 z75 st75 hQ75
  subst l75 y75 z75
  obtain ⟨rfl, Nq75, e75⟩ := hQ75
  have N75 := Fr.app N66 Nq75
  have k76 : Way p e below S0 T75 (mkF m 26 #[rv w_MANY_RULES, iv (6 : Int32), rv b4, iv (5 : Int32)] [(.ref b72), (.int (5 : Int32)), (.ref b4)]) := fun t k => k74 t (st75.trans k)
  have f77 : Arv Z h72 b4 c4 (.object "com/example/rulework/rulework/SchedulingRule") (6 : Int32) [(.ref b10), (.ref b24), (.ref b36), (.ref b48), (.ref b60), .null] .null := (va66.ext E72)
  obtain ⟨cl78, Ar78, qc78, S78, M78, U78, G78⟩ := id (f77)
  have hin78 : ¬ ((5 : Int32) < 0 ∨ cl78.slots.size ≤ ((5 : Int32)).toNatClampNeg) := inb_of S78 ⟨by decide, by decide⟩
  obtain ⟨T78, h78, X78, e78, W78, st78⟩ := stR X75 hx hZ e75 Ar78 (j := (5 : Int32)) hin78 rfl (Sto.ofV Ar78 qc78 V4 (Ins.of_exa A72 (hw _ (List.mem_of_getElem? (i := 35) rfl)))) (g := (mkF m 26 #[rv w_MANY_RULES, iv (6 : Int32), rv b4, iv (5 : Int32)] [(.ref b72), (.int (5 : Int32)), (.ref b4)])) rfl rfl (hb hby d_prog_1_method_5_code_26)
  have O78 := O72.wr W78 ge17
  have N78 := Fr.snoc X78 N75 ge17
  have K78 : Keep h0 h78 [] := K72.wr W78 (Or.inr gz18)
  have va78 : Arv Z h78 b4 c4 (.object "com/example/rulework/rulework/SchedulingRule") (6 : Int32) [(.ref b10), (.ref b24), (.ref b36), (.ref b48), (.ref b60), (.ref b72)] .null := Arv.set Ar78 qc78 S78 M78 U78 G78 rfl W78 5 rfl (Nat.le_of_ble_eq_true rfl)
  have k79 : Way p e below S0 T78 (mkF m 27 #[rv w_MANY_RULES, iv (6 : Int32), rv b4, iv (5 : Int32)] []) := fun t k => k76 t (st78 _ k)
  have k80 : Way p e below S0 T78 (mkF m 13 #[rv w_MANY_RULES, iv (6 : Int32), rv b4, iv (6 : Int32)] [(.ref b4), (.int (6 : Int32))]) := by
    intro t k
    refine k79 t ?_
    refine XS.iinc X78.here hx rfl (hb hby d_prog_1_method_5_code_27) rfl (l' := #[rv w_MANY_RULES, iv (6 : Int32), rv b4, iv (6 : Int32)]) rfl ?_
    show Steps p.tables e below (T78.setTop (mkF m 30 #[rv w_MANY_RULES, iv (6 : Int32), rv b4, iv (6 : Int32)] [])) _
    refine XS.goto X78.here hx rfl (pc0 := 30) (pc' := 11) rfl (hb hby d_prog_1_method_5_code_30) (by decide) (by decide) ?_
    show Steps p.tables e below (T78.setTop (mkF m 11 #[rv w_MANY_RULES, iv (6 : Int32), rv b4, iv (6 : Int32)] [])) _
    refine XS.iloadN X78.here hx rfl (hb hby d_prog_1_method_5_code_11) rfl ?_
    show Steps p.tables e below (T78.setTop (mkF m 12 #[rv w_MANY_RULES, iv (6 : Int32), rv b4, iv (6 : Int32)] [(.int (6 : Int32))])) _
    refine XS.aloadN X78.here hx rfl (hb hby d_prog_1_method_5_code_12) rfl rfl ?_
    show Steps p.tables e below (T78.setTop (mkF m 13 #[rv w_MANY_RULES, iv (6 : Int32), rv b4, iv (6 : Int32)] [(.ref b4), (.int (6 : Int32))])) _
    exact k
  obtain ⟨cl81, Ar81, -, S81, M81, -, -⟩ := id (va78)
  have k82 : Way p e below S0 T78 (mkF m 14 #[rv w_MANY_RULES, iv (6 : Int32), rv b4, iv (6 : Int32)] [(.int (6 : Int32)), (.int (6 : Int32))]) := fun t k => k80 t (X78.arraylength hx (by rw [e78]; exact Ar81.1) (State.isArrayOf_alike hZ.alike Ar81.2.1) (g := (mkF m 13 #[rv w_MANY_RULES, iv (6 : Int32), rv b4, iv (6 : Int32)] [(.ref b4), (.int (6 : Int32))])) rfl rfl (hb hby d_prog_1_method_5_code_13) _ (by rw [len_of S81 M81]; exact k))
  have k83 : Way p e below S0 T78 (mkF m 34 #[rv w_MANY_RULES, iv (6 : Int32), rv b4, iv (6 : Int32)] [(.ref b4)]) := by
    intro t k
    refine k82 t ?_
    refine XS.icmpYes X78.here hx rfl (pc0 := 14) (pc' := 33) rfl (hb hby d_prog_1_method_5_code_14) rfl (flt ((by decide) : ¬ ((6 : Int32) < (6 : Int32)))).2.1 (by decide) (by decide) ?_
    show Steps p.tables e below (T78.setTop (mkF m 33 #[rv w_MANY_RULES, iv (6 : Int32), rv b4, iv (6 : Int32)] [])) _
    refine XS.aloadN X78.here hx rfl (hb hby d_prog_1_method_5_code_33) rfl rfl ?_
    show Steps p.tables e below (T78.setTop (mkF m 34 #[rv w_MANY_RULES, iv (6 : Int32), rv b4, iv (6 : Int32)] [(.ref b4)])) _
    exact k
  obtain ⟨fs, hr, hrun, hended, hW, hsame⟩ := X78.leave (v := some (.ref b4)) (fun h => by rw [Bd.returns] at h; cases h)
  have gz84 : h0.size ≤ b10 := Nat.le_trans K4.1 (Nat.le_of_eq g10.symm)
  have f85 : Exa Z h78 b10 "com/example/rulework/bench/Burst$SelfConflictingRule" := (((((((((((A10.wr W16).ext E24).wr W30).ext E36).wr W42).ext E48).wr W54).ext E60).wr W66).ext E72).wr W78)
  have gz86 : h0.size ≤ b24 := Nat.le_trans K16.1 (Nat.le_of_eq g24.symm)
  have f87 : Exa Z h78 b24 "com/example/rulework/bench/Burst$SelfConflictingRule" := (((((((((A24.wr W30).ext E36).wr W42).ext E48).wr W54).ext E60).wr W66).ext E72).wr W78)
  have gz88 : h0.size ≤ b36 := Nat.le_trans K30.1 (Nat.le_of_eq g36.symm)
  have f89 : Exa Z h78 b36 "com/example/rulework/bench/Burst$SelfConflictingRule" := (((((((A36.wr W42).ext E48).wr W54).ext E60).wr W66).ext E72).wr W78)
  have gz90 : h0.size ≤ b48 := Nat.le_trans K42.1 (Nat.le_of_eq g48.symm)
  have f91 : Exa Z h78 b48 "com/example/rulework/bench/Burst$SelfConflictingRule" := (((((A48.wr W54).ext E60).wr W66).ext E72).wr W78)
  have gz92 : h0.size ≤ b60 := Nat.le_trans K54.1 (Nat.le_of_eq g60.symm)
  have f93 : Exa Z h78 b60 "com/example/rulework/bench/Burst$SelfConflictingRule" := (((A60.wr W66).ext E72).wr W78)
  have gz94 : h0.size ≤ b72 := Nat.le_trans K66.1 (Nat.le_of_eq g72.symm)
  have f95 : Exa Z h78 b72 "com/example/rulework/bench/Burst$SelfConflictingRule" := (A72.wr W78)
  refine ⟨_, _, k83 _ (retOut X78 hx Bd.returns rfl (Or.inr (Or.inr (Or.inr (Or.inr ⟨rfl, rfl, rfl⟩)))) (hb hby d_prog_1_method_5_code_34) hr), hrun, hended, _, _, rfl, ?_, ⟨_, rfl⟩, hW, hsame.mono (by decide) (by decide)⟩
  show Q_mkm6 Z w_POOL w_NO_RULE w_ONE_RULE w_MANY_RULES  h0 n0 _ T78.heap _
  rw [e78]
  exact ⟨b4, c4, b10, b24, b36, b48, b60, b72, rfl, N78, K78, gz18, va78, gz84, f85, gz86, f87, gz88, f89, gz90, f91, gz92, f93, gz94, f95, (Nat.ne_of_lt (Nat.lt_of_lt_of_le (A10.wr W16).lt (Nat.le_of_eq g24.symm))), (Nat.ne_of_lt (Nat.lt_of_lt_of_le (((A10.wr W16).ext E24).wr W30).lt (Nat.le_of_eq g36.symm))), (Nat.ne_of_lt (Nat.lt_of_lt_of_le (((((A10.wr W16).ext E24).wr W30).ext E36).wr W42).lt (Nat.le_of_eq g48.symm))), (Nat.ne_of_lt (Nat.lt_of_lt_of_le (((((((A10.wr W16).ext E24).wr W30).ext E36).wr W42).ext E48).wr W54).lt (Nat.le_of_eq g60.symm))), (Nat.ne_of_lt (Nat.lt_of_lt_of_le (((((((((A10.wr W16).ext E24).wr W30).ext E36).wr W42).ext E48).wr W54).ext E60).wr W66).lt (Nat.le_of_eq g72.symm))), (Nat.ne_of_lt (Nat.lt_of_lt_of_le (A24.wr W30).lt (Nat.le_of_eq g36.symm))), (Nat.ne_of_lt (Nat.lt_of_lt_of_le (((A24.wr W30).ext E36).wr W42).lt (Nat.le_of_eq g48.symm))), (Nat.ne_of_lt (Nat.lt_of_lt_of_le (((((A24.wr W30).ext E36).wr W42).ext E48).wr W54).lt (Nat.le_of_eq g60.symm))), (Nat.ne_of_lt (Nat.lt_of_lt_of_le (((((((A24.wr W30).ext E36).wr W42).ext E48).wr W54).ext E60).wr W66).lt (Nat.le_of_eq g72.symm))), (Nat.ne_of_lt (Nat.lt_of_lt_of_le (A36.wr W42).lt (Nat.le_of_eq g48.symm))), (Nat.ne_of_lt (Nat.lt_of_lt_of_le (((A36.wr W42).ext E48).wr W54).lt (Nat.le_of_eq g60.symm))), (Nat.ne_of_lt (Nat.lt_of_lt_of_le (((((A36.wr W42).ext E48).wr W54).ext E60).wr W66).lt (Nat.le_of_eq g72.symm))), (Nat.ne_of_lt (Nat.lt_of_lt_of_le (A48.wr W54).lt (Nat.le_of_eq g60.symm))), (Nat.ne_of_lt (Nat.lt_of_lt_of_le (((A48.wr W54).ext E60).wr W66).lt (Nat.le_of_eq g72.symm))), (Nat.ne_of_lt (Nat.lt_of_lt_of_le (A60.wr W66).lt (Nat.le_of_eq g72.symm)))⟩
def Q_mkm7 (Z : State) (w_POOL : Addr) (w_NO_RULE : Addr) (w_ONE_RULE : Addr) (w_MANY_RULES : Addr)  (h0 : Heap) (n0 : Nat) (v : Option Value) (h : Heap) (L : List Loc) : Prop := ∃ b1 : Addr, ∃ kc : ClassId, ∃ x0 : Addr, ∃ x1 : Addr, ∃ x2 : Addr, ∃ x3 : Addr, ∃ x4 : Addr, ∃ x5 : Addr, ∃ x6 : Addr, (v = some (.ref b1)) ∧ (Fr n0 L) ∧ (Keep h0 h []) ∧ (h0.size ≤ b1) ∧ (Arv Z h b1 kc (.object "com/example/rulework/rulework/SchedulingRule") (7 : Int32) [(.ref x0), (.ref x1), (.ref x2), (.ref x3), (.ref x4), (.ref x5), (.ref x6)] .null) ∧ (h0.size ≤ x0) ∧ (Exa Z h x0 "com/example/rulework/bench/Burst$SelfConflictingRule") ∧ (h0.size ≤ x1) ∧ (Exa Z h x1 "com/example/rulework/bench/Burst$SelfConflictingRule") ∧ (h0.size ≤ x2) ∧ (Exa Z h x2 "com/example/rulework/bench/Burst$SelfConflictingRule") ∧ (h0.size ≤ x3) ∧ (Exa Z h x3 "com/example/rulework/bench/Burst$SelfConflictingRule") ∧ (h0.size ≤ x4) ∧ (Exa Z h x4 "com/example/rulework/bench/Burst$SelfConflictingRule") ∧ (h0.size ≤ x5) ∧ (Exa Z h x5 "com/example/rulework/bench/Burst$SelfConflictingRule") ∧ (h0.size ≤ x6) ∧ (Exa Z h x6 "com/example/rulework/bench/Burst$SelfConflictingRule") ∧ (x0 ≠ x1) ∧ (x0 ≠ x2) ∧ (x0 ≠ x3) ∧ (x0 ≠ x4) ∧ (x0 ≠ x5) ∧ (x0 ≠ x6) ∧ (x1 ≠ x2) ∧ (x1 ≠ x3) ∧ (x1 ≠ x4) ∧ (x1 ≠ x5) ∧ (x1 ≠ x6) ∧ (x2 ≠ x3) ∧ (x2 ≠ x4) ∧ (x2 ≠ x5) ∧ (x2 ≠ x6) ∧ (x3 ≠ x4) ∧ (x3 ≠ x5) ∧ (x3 ≠ x6) ∧ (x4 ≠ x5) ∧ (x4 ≠ x6) ∧ (x5 ≠ x6)
set_option maxRecDepth 65536 in
set_option maxHeartbeats 40000000 in
theorem mkm7 (l : Launch) (Z : State) (a0 : Array Value) (hw : ∀ d ∈ tables_1, d.before a0 Z = true) (ws : List Jvm.Cond) (w_POOL : Addr) (w_NO_RULE : Addr) (w_ONE_RULE : Addr) (w_MANY_RULES : Addr) (G : Gst Z w_POOL w_NO_RULE w_ONE_RULE w_MANY_RULES)  (h0 : Heap) (n0 : Nat) (O0 : Old Z n0 h0) :
    MetFree l (⟨"com/example/rulework/bench/Burst", "makeRules", "(I)[Lcom/example/rulework/rulework/SchedulingRule;"⟩ : MethodName) (head1 (Jvm.Cond.code (⟨"com/example/rulework/bench/Burst", "makeRules", "(I)[Lcom/example/rulework/rulework/SchedulingRule;"⟩ : MethodName) prog_1_method_5_code 4 (some (.array (.object "com/example/rulework/rulework/SchedulingRule"))) :: ws) ({ frames := 2, cells := 8, slots := 7, locals := 27 } : Room)) (fun a U => a = #[(.ref w_MANY_RULES), (.int (7 : Int32))] ∧ Z.Warmed39 U.vm ∧ U.heap = h0) (fun _ _ _ _ _ => True) (fun _ U o U' => ∃ v L, o = .returned v ∧ Q_mkm7 Z w_POOL w_NO_RULE w_ONE_RULE w_MANY_RULES  h0 n0 v U'.heap L ∧ FrameEnd U o U' L ({ frames := 2, cells := 8, slots := 7, locals := 27 } : Room).cells ({ frames := 2, cells := 8, slots := 7, locals := 27 } : Room).slots) := by
  refine MetFree.of_bodySF (plainFor_of_name pn_1) hisR ?_
  intro p e s m args below meth c s₁ Bd hml0 hP hK
  obtain ⟨rfl, hZ, hh⟩ := hP
  have hx := Bd.exec
  have hby := Bd.bytes
  have hml : c.maxLocals = 4 := hml0
  have hown : s.vm.findClass "com/example/rulework/bench/Burst" = some m.cls := findClass_of_methodNamed Bd.named
  have hnm := (name_of_methodNamed Bd.named Bd.method).1
  have X0 : Stand p l e ({ frames := 2, cells := 8, slots := 7, locals := 27 } : Room) s m #[(.ref w_MANY_RULES), (.int (7 : Int32))] below meth c s₁ [] 0 0 := Stand.of_body Bd
  have e0 : s₁.heap = h0 := by rw [← hh, Bd.state]; rfl
  have N0 := Fr.nil n0
  obtain ⟨S_w_POOL, E_w_POOL, F_w_POOL_ordinal, S_w_NO_RULE, E_w_NO_RULE, F_w_NO_RULE_ordinal, S_w_ONE_RULE, E_w_ONE_RULE, F_w_ONE_RULE_ordinal, S_w_MANY_RULES, E_w_MANY_RULES, F_w_MANY_RULES_ordinal⟩ := id G
  have k0 : Way p e below (s₁.setTop (entryFrame m #[(.ref w_MANY_RULES), (.int (7 : Int32))] 4)) s₁ (mkF m 0 #[rv w_MANY_RULES, iv (7 : Int32), .unset, .unset] []) := fun t k => castTop (by first | (simp [entryFrame, mkF, argsToLocals, Value.category]; done) | rfl) k
  generalize s₁.setTop (entryFrame m #[(.ref w_MANY_RULES), (.int (7 : Int32))] 4) = S0 at k0 ⊢
  have k1 : Way p e below S0 s₁ (mkF m 2 #[rv w_MANY_RULES, iv (7 : Int32), .unset, .unset] [(.int (7 : Int32)), (.ref w_MANY_RULES)]) := by
    intro t k
    refine k0 t ?_
    refine XS.aloadN X0.here hx rfl (hb hby d_prog_1_method_5_code_0) rfl rfl ?_
    show Steps p.tables e below (s₁.setTop (mkF m 1 #[rv w_MANY_RULES, iv (7 : Int32), .unset, .unset] [(.ref w_MANY_RULES)])) _
    refine XS.iloadN X0.here hx rfl (hb hby d_prog_1_method_5_code_1) rfl ?_
    show Steps p.tables e below (s₁.setTop (mkF m 2 #[rv w_MANY_RULES, iv (7 : Int32), .unset, .unset] [(.int (7 : Int32)), (.ref w_MANY_RULES)])) _
    exact k
  obtain ⟨cq2, kq2, qq2a, qq2b, qq2c⟩ := isOf hZ e0 (E_w_MANY_RULES.ext O0.2)
  obtain ⟨_, _, ⟨T2, L2, kk2, nn2⟩, -, X2, ⟨Lc2, hQ2, l2, y2, z2⟩, st2⟩ := X0.virtualBack hx (y := (⟨"com/example/rulework/bench/Burst", "ruleCount", "(I)I"⟩ : MethodName)) (z := (⟨"com/example/rulework/bench/Burst", "ruleCount", "(I)I"⟩ : MethodName)) hown (mvT hZ (hw _ (List.mem_of_getElem? (i := 8) rfl))) (mvT hZ (hw _ (List.mem_of_getElem? (i := 9) rfl))) (notFace_of_selects (args := #[]) (mvT hZ (hw _ (List.mem_of_getElem? (i := 11) rfl)))) (mvT hZ (hw _ (List.mem_of_getElem? (i := 11) rfl))) (mvT hZ (hw _ (List.mem_of_getElem? (i := 10) rfl))) (by decide) (backOf (W := 0) (rc3 l Z a0 hw [] w_POOL w_NO_RULE w_ONE_RULE w_MANY_RULES G (7 : Int32) h0 n0 O0 ) hZ (hw _ (List.mem_of_getElem? (i := 12) rfl)) (hw _ (List.mem_of_getElem? (i := 1) rfl)) (by decide) (by decide)) qq2a qq2c (g := (mkF m 2 #[rv w_MANY_RULES, iv (7 : Int32), .unset, .unset] [(.int (7 : Int32)), (.ref w_MANY_RULES)])) rfl (by rw [hml]; rfl) (Steps.refl _) (argsL := [(.int (7 : Int32))]) (rest := []) (lenOf pd_1 rfl) rfl (by show 2 * 0 + _ ≤ _; exact Nat.le_of_eq rfl) (hb hby d_prog_1_method_5_code_2) (fun _ _ => ⟨rfl, e0, (by decide : 0 + 0 ≤ _), (by decide : 0 + 0 ≤ _)⟩)
  dsimp only [Pt.U, Pt.locs, Pt.cells, Pt.slots] at X2 l2 y2 z2 st2 hQ2
  subst l2 y2 z2
  obtain ⟨rfl, Nq2, e2⟩ := hQ2
  have N2 := Fr.app N0 Nq2
  have k3 : Way p e below S0 T2 (mkF m 5 #[rv w_MANY_RULES, iv (7 : Int32), .unset, .unset] [(.int (7 : Int32))]) := fun t k => k1 t (st2.trans k)
  obtain ⟨T4, h4, c4, X4, e4, E4, A4, B4, V4, st4⟩ := newRE X2 hx hZ hown (hw _ (List.mem_of_getElem? (i := 22) rfl)) (hw _ (List.mem_of_getElem? (i := 23) rfl)) e2 (g := (mkF m 5 #[rv w_MANY_RULES, iv (7 : Int32), .unset, .unset] [(.int (7 : Int32))])) rfl (hb hby d_prog_1_method_5_code_5) rfl (by decide) (cap := 7) (by decide) (by decide) (by decide) (by decide) (ad := "[Lcom/example/rulework/rulework/SchedulingRule;") (by decide)
  obtain ⟨b4, g4⟩ : ∃ z, z = h0.size := ⟨_, rfl⟩
  rw [← g4] at A4 B4 st4
  have O4 := O0.ext E4
  have K4 : Keep h0 h4 [] := (Keep.refl h0 []).ext E4
  have v4 : Arv Z h4 b4 c4 (.object "com/example/rulework/rulework/SchedulingRule") (7 : Int32) [.null, .null, .null, .null, .null, .null, .null] .null := (Arv.new A4 (by decide)).pad (pad_rep [] .null 7)
  have k5 : Way p e below S0 T4 (mkF m 8 #[rv w_MANY_RULES, iv (7 : Int32), .unset, .unset] [(.ref b4)]) := fun t k => k3 t (st4 _ k)
  have k6 : Way p e below S0 T4 (mkF m 13 #[rv w_MANY_RULES, iv (7 : Int32), rv b4, iv (0 : Int32)] [(.ref b4), (.int (0 : Int32))]) := by
    intro t k
    refine k5 t ?_
    refine XS.astoreN X4.here hx rfl (hb hby d_prog_1_method_5_code_8) rfl rfl (l' := #[rv w_MANY_RULES, iv (7 : Int32), rv b4, .unset]) rfl ?_
    show Steps p.tables e below (T4.setTop (mkF m 9 #[rv w_MANY_RULES, iv (7 : Int32), rv b4, .unset] [])) _
    refine XS.iconst X4.here hx rfl (hb hby d_prog_1_method_5_code_9) ?_
    show Steps p.tables e below (T4.setTop (mkF m 10 #[rv w_MANY_RULES, iv (7 : Int32), rv b4, .unset] [(.int (0 : Int32))])) _
    refine XS.istoreN X4.here hx rfl (hb hby d_prog_1_method_5_code_10) rfl (l' := #[rv w_MANY_RULES, iv (7 : Int32), rv b4, iv (0 : Int32)]) rfl ?_
    show Steps p.tables e below (T4.setTop (mkF m 11 #[rv w_MANY_RULES, iv (7 : Int32), rv b4, iv (0 : Int32)] [])) _
    refine XS.iloadN X4.here hx rfl (hb hby d_prog_1_method_5_code_11) rfl ?_
    show Steps p.tables e below (T4.setTop (mkF m 12 #[rv w_MANY_RULES, iv (7 : Int32), rv b4, iv (0 : Int32)] [(.int (0 : Int32))])) _
    refine XS.aloadN X4.here hx rfl (hb hby d_prog_1_method_5_code_12) rfl rfl ?_
    show Steps p.tables e below (T4.setTop (mkF m 13 #[rv w_MANY_RULES, iv (7 : Int32), rv b4, iv (0 : Int32)] [(.ref b4), (.int (0 : Int32))])) _
    exact k
  obtain ⟨cl7, Ar7, -, S7, M7, -, -⟩ := id (v4)
  have k8 : Way p e below S0 T4 (mkF m 14 #[rv w_MANY_RULES, iv (7 : Int32), rv b4, iv (0 : Int32)] [(.int (7 : Int32)), (.int (0 : Int32))]) := fun t k => k6 t (X4.arraylength hx (by rw [e4]; exact Ar7.1) (State.isArrayOf_alike hZ.alike Ar7.2.1) (g := (mkF m 13 #[rv w_MANY_RULES, iv (7 : Int32), rv b4, iv (0 : Int32)] [(.ref b4), (.int (0 : Int32))])) rfl rfl (hb hby d_prog_1_method_5_code_13) _ (by rw [len_of S7 M7]; exact k))
  have k9 : Way p e below S0 T4 (mkF m 19 #[rv w_MANY_RULES, iv (7 : Int32), rv b4, iv (0 : Int32)] [(.int (0 : Int32)), (.ref b4)]) := by
    intro t k
    refine k8 t ?_
    refine XS.icmpNo X4.here hx rfl (hb hby d_prog_1_method_5_code_14) rfl (tlt ((by decide) : (0 : Int32) < (7 : Int32))).2.1 ?_
    show Steps p.tables e below (T4.setTop (mkF m 17 #[rv w_MANY_RULES, iv (7 : Int32), rv b4, iv (0 : Int32)] [])) _
    refine XS.aloadN X4.here hx rfl (hb hby d_prog_1_method_5_code_17) rfl rfl ?_
    show Steps p.tables e below (T4.setTop (mkF m 18 #[rv w_MANY_RULES, iv (7 : Int32), rv b4, iv (0 : Int32)] [(.ref b4)])) _
    refine XS.iloadN X4.here hx rfl (hb hby d_prog_1_method_5_code_18) rfl ?_
    show Steps p.tables e below (T4.setTop (mkF m 19 #[rv w_MANY_RULES, iv (7 : Int32), rv b4, iv (0 : Int32)] [(.int (0 : Int32)), (.ref b4)])) _
    exact k
  obtain ⟨T10, h10, X10, e10, E10, A10, D10, U10, st10⟩ := newO X4 hx hZ hown (hw _ (List.mem_of_getElem? (i := 26) rfl)) (hw _ (List.mem_of_getElem? (i := 27) rfl)) (hw _ (List.mem_of_getElem? (i := 28) rfl)) e4 (g := (mkF m 19 #[rv w_MANY_RULES, iv (7 : Int32), rv b4, iv (0 : Int32)] [(.int (0 : Int32)), (.ref b4)])) rfl (hb hby d_prog_1_method_5_code_19) (by decide) (by decide)
  obtain ⟨b10, g10⟩ : ∃ z, z = h4.size := ⟨_, rfl⟩
  rw [← g10] at A10 D10 U10 st10
  have O10 := O4.ext E10
  have K10 : Keep h0 h10 [] := K4.ext E10
  have k11 : Way p e below S0 T10 (mkF m 22 #[rv w_MANY_RULES, iv (7 : Int32), rv b4, iv (0 : Int32)] [(.ref b10), (.int (0 : Int32)), (.ref b4)]) := fun t k => k9 t (st10 _ k)
  have k12 : Way p e below S0 T10 (mkF m 23 #[rv w_MANY_RULES, iv (7 : Int32), rv b4, iv (0 : Int32)] [(.ref b10), (.ref b10), (.int (0 : Int32)), (.ref b4)]) := by
    intro t k
    refine k11 t ?_
    refine XS.dup X10.here hx rfl (hb hby d_prog_1_method_5_code_22) rfl rfl ?_
    show Steps p.tables e below (T10.setTop (mkF m 23 #[rv w_MANY_RULES, iv (7 : Int32), rv b4, iv (0 : Int32)] [(.ref b10), (.ref b10), (.int (0 : Int32)), (.ref b4)])) _
    exact k
  obtain ⟨_, _, ⟨T13, L13, kk13, nn13⟩, -, X13, ⟨Lc13, hQ13, l13, y13, z13⟩, st13⟩ := own_specialR X10 hx (y := (⟨"com/example/rulework/bench/Burst$SelfConflictingRule", "<init>", "()V"⟩ : MethodName)) rfl (mvT hZ (hw _ (List.mem_of_getElem? (i := 30) rfl))) (mvT hZ (hw _ (List.mem_of_getElem? (i := 31) rfl))) (fun U r hW hn => own_ready e hZ hown (by decide) (hw _ (List.mem_of_getElem? (i := 29) rfl)) hW hn) (backOf (W := 3) (sci l Z a0 hw [] w_POOL w_NO_RULE w_ONE_RULE w_MANY_RULES G b10 h10 n0 O10 ) hZ (hw _ (List.mem_of_getElem? (i := 31) rfl)) (hw _ (List.mem_of_getElem? (i := 28) rfl)) (by decide) (by decide)) (g := (mkF m 23 #[rv w_MANY_RULES, iv (7 : Int32), rv b4, iv (0 : Int32)] [(.ref b10), (.ref b10), (.int (0 : Int32)), (.ref b4)])) rfl (by rw [hml]; rfl) (Steps.refl _) (a := b10) (argsL := []) (rest := [(.ref b10), (.int (0 : Int32)), (.ref b4)]) (lenOf pd_2 rfl) rfl (by show 2 * 0 + _ ≤ _; exact Nat.le_of_eq rfl) (hb hby d_prog_1_method_5_code_23) (fun _ _ => ⟨rfl, e10, (by decide : 2 + 0 ≤ _), (by decide : 7 + 0 ≤ _)⟩)
  dsimp only [Pt.U, Pt.locs, Pt.cells, Pt.slots] at X13 l13 y13 z13 st13 hQ13
  subst l13 y13 z13
  obtain ⟨rfl, Nq13, e13⟩ := hQ13
  have N13 := Fr.app N2 Nq13
  have k14 : Way p e below S0 T13 (mkF m 26 #[rv w_MANY_RULES, iv (7 : Int32), rv b4, iv (0 : Int32)] [(.ref b10), (.int (0 : Int32)), (.ref b4)]) := fun t k => k12 t (st13.trans k)
  have f15 : Arv Z h10 b4 c4 (.object "com/example/rulework/rulework/SchedulingRule") (7 : Int32) [.null, .null, .null, .null, .null, .null, .null] .null := (v4.ext E10)
  obtain ⟨cl16, Ar16, qc16, S16, M16, U16, G16⟩ := id (f15)
  have hin16 : ¬ ((0 : Int32) < 0 ∨ cl16.slots.size ≤ ((0 : Int32)).toNatClampNeg) := inb_of S16 ⟨by decide, by decide⟩
  obtain ⟨T16, h16, X16, e16, W16, st16⟩ := stR X13 hx hZ e13 Ar16 (j := (0 : Int32)) hin16 rfl (Sto.ofV Ar16 qc16 V4 (Ins.of_exa A10 (hw _ (List.mem_of_getElem? (i := 35) rfl)))) (g := (mkF m 26 #[rv w_MANY_RULES, iv (7 : Int32), rv b4, iv (0 : Int32)] [(.ref b10), (.int (0 : Int32)), (.ref b4)])) rfl rfl (hb hby d_prog_1_method_5_code_26)
  have ge17 : n0 ≤ b4 := Nat.le_trans (own_old O0) (Nat.le_of_eq g4.symm)
  have O16 := O10.wr W16 ge17
  have N16 := Fr.snoc X16 N13 ge17
  have gz18 : h0.size ≤ b4 := Nat.le_trans (Keep.refl h0 []).1 (Nat.le_of_eq g4.symm)
  have K16 : Keep h0 h16 [] := K10.wr W16 (Or.inr gz18)
  have va16 : Arv Z h16 b4 c4 (.object "com/example/rulework/rulework/SchedulingRule") (7 : Int32) [(.ref b10), .null, .null, .null, .null, .null, .null] .null := Arv.set Ar16 qc16 S16 M16 U16 G16 rfl W16 0 rfl (Nat.le_of_ble_eq_true rfl)
  have k19 : Way p e below S0 T16 (mkF m 27 #[rv w_MANY_RULES, iv (7 : Int32), rv b4, iv (0 : Int32)] []) := fun t k => k14 t (st16 _ k)
  have k20 : Way p e below S0 T16 (mkF m 13 #[rv w_MANY_RULES, iv (7 : Int32), rv b4, iv (1 : Int32)] [(.ref b4), (.int (1 : Int32))]) := by
    intro t k
    refine k19 t ?_
    refine XS.iinc X16.here hx rfl (hb hby d_prog_1_method_5_code_27) rfl (l' := #[rv w_MANY_RULES, iv (7 : Int32), rv b4, iv (1 : Int32)]) rfl ?_
    show Steps p.tables e below (T16.setTop (mkF m 30 #[rv w_MANY_RULES, iv (7 : Int32), rv b4, iv (1 : Int32)] [])) _
    refine XS.goto X16.here hx rfl (pc0 := 30) (pc' := 11) rfl (hb hby d_prog_1_method_5_code_30) (by decide) (by decide) ?_
    show Steps p.tables e below (T16.setTop (mkF m 11 #[rv w_MANY_RULES, iv (7 : Int32), rv b4, iv (1 : Int32)] [])) _
    refine XS.iloadN X16.here hx rfl (hb hby d_prog_1_method_5_code_11) rfl ?_
    show Steps p.tables e below (T16.setTop (mkF m 12 #[rv w_MANY_RULES, iv (7 : Int32), rv b4, iv (1 : Int32)] [(.int (1 : Int32))])) _
    refine XS.aloadN X16.here hx rfl (hb hby d_prog_1_method_5_code_12) rfl rfl ?_
    show Steps p.tables e below (T16.setTop (mkF m 13 #[rv w_MANY_RULES, iv (7 : Int32), rv b4, iv (1 : Int32)] [(.ref b4), (.int (1 : Int32))])) _
    exact k
  obtain ⟨cl21, Ar21, -, S21, M21, -, -⟩ := id (va16)
  have k22 : Way p e below S0 T16 (mkF m 14 #[rv w_MANY_RULES, iv (7 : Int32), rv b4, iv (1 : Int32)] [(.int (7 : Int32)), (.int (1 : Int32))]) := fun t k => k20 t (X16.arraylength hx (by rw [e16]; exact Ar21.1) (State.isArrayOf_alike hZ.alike Ar21.2.1) (g := (mkF m 13 #[rv w_MANY_RULES, iv (7 : Int32), rv b4, iv (1 : Int32)] [(.ref b4), (.int (1 : Int32))])) rfl rfl (hb hby d_prog_1_method_5_code_13) _ (by rw [len_of S21 M21]; exact k))
  have k23 : Way p e below S0 T16 (mkF m 19 #[rv w_MANY_RULES, iv (7 : Int32), rv b4, iv (1 : Int32)] [(.int (1 : Int32)), (.ref b4)]) := by
    intro t k
    refine k22 t ?_
    refine XS.icmpNo X16.here hx rfl (hb hby d_prog_1_method_5_code_14) rfl (tlt ((by decide) : (1 : Int32) < (7 : Int32))).2.1 ?_
    show Steps p.tables e below (T16.setTop (mkF m 17 #[rv w_MANY_RULES, iv (7 : Int32), rv b4, iv (1 : Int32)] [])) _
    refine XS.aloadN X16.here hx rfl (hb hby d_prog_1_method_5_code_17) rfl rfl ?_
    show Steps p.tables e below (T16.setTop (mkF m 18 #[rv w_MANY_RULES, iv (7 : Int32), rv b4, iv (1 : Int32)] [(.ref b4)])) _
    refine XS.iloadN X16.here hx rfl (hb hby d_prog_1_method_5_code_18) rfl ?_
    show Steps p.tables e below (T16.setTop (mkF m 19 #[rv w_MANY_RULES, iv (7 : Int32), rv b4, iv (1 : Int32)] [(.int (1 : Int32)), (.ref b4)])) _
    exact k
  obtain ⟨T24, h24, X24, e24, E24, A24, D24, U24, st24⟩ := newO X16 hx hZ hown (hw _ (List.mem_of_getElem? (i := 26) rfl)) (hw _ (List.mem_of_getElem? (i := 27) rfl)) (hw _ (List.mem_of_getElem? (i := 28) rfl)) e16 (g := (mkF m 19 #[rv w_MANY_RULES, iv (7 : Int32), rv b4, iv (1 : Int32)] [(.int (1 : Int32)), (.ref b4)])) rfl (hb hby d_prog_1_method_5_code_19) (by decide) (by decide)
  obtain ⟨b24, g24⟩ : ∃ z, z = h16.size := ⟨_, rfl⟩
  rw [← g24] at A24 D24 U24 st24
  have O24 := O16.ext E24
  have K24 : Keep h0 h24 [] := K16.ext E24
  have k25 : Way p e below S0 T24 (mkF m 22 #[rv w_MANY_RULES, iv (7 : Int32), rv b4, iv (1 : Int32)] [(.ref b24), (.int (1 : Int32)), (.ref b4)]) := fun t k => k23 t (st24 _ k)
  have k26 : Way p e below S0 T24 (mkF m 23 #[rv w_MANY_RULES, iv (7 : Int32), rv b4, iv (1 : Int32)] [(.ref b24), (.ref b24), (.int (1 : Int32)), (.ref b4)]) := by
    intro t k
    refine k25 t ?_
    refine XS.dup X24.here hx rfl (hb hby d_prog_1_method_5_code_22) rfl rfl ?_
    show Steps p.tables e below (T24.setTop (mkF m 23 #[rv w_MANY_RULES, iv (7 : Int32), rv b4, iv (1 : Int32)] [(.ref b24), (.ref b24), (.int (1 : Int32)), (.ref b4)])) _
    exact k
  obtain ⟨_, _, ⟨T27, L27, kk27, nn27⟩, -, X27, ⟨Lc27, hQ27, l27, y27, z27⟩, st27⟩ := own_specialR X24 hx (y := (⟨"com/example/rulework/bench/Burst$SelfConflictingRule", "<init>", "()V"⟩ : MethodName)) rfl (mvT hZ (hw _ (List.mem_of_getElem? (i := 30) rfl))) (mvT hZ (hw _ (List.mem_of_getElem? (i := 31) rfl))) (fun U r hW hn => own_ready e hZ hown (by decide) (hw _ (List.mem_of_getElem? (i := 29) rfl)) hW hn) (backOf (W := 3) (sci l Z a0 hw [] w_POOL w_NO_RULE w_ONE_RULE w_MANY_RULES G b24 h24 n0 O24 ) hZ (hw _ (List.mem_of_getElem? (i := 31) rfl)) (hw _ (List.mem_of_getElem? (i := 28) rfl)) (by decide) (by decide)) (g := (mkF m 23 #[rv w_MANY_RULES, iv (7 : Int32), rv b4, iv (1 : Int32)] [(.ref b24), (.ref b24), (.int (1 : Int32)), (.ref b4)])) rfl (by rw [hml]; rfl) (Steps.refl _) (a := b24) (argsL := []) (rest := [(.ref b24), (.int (1 : Int32)), (.ref b4)]) (lenOf pd_2 rfl) rfl (by show 2 * 0 + _ ≤ _; exact Nat.le_of_eq rfl) (hb hby d_prog_1_method_5_code_23) (fun _ _ => ⟨rfl, e24, (by decide : 3 + 0 ≤ _), (by decide : 7 + 0 ≤ _)⟩)
  dsimp only [Pt.U, Pt.locs, Pt.cells, Pt.slots] at X27 l27 y27 z27 st27 hQ27
  subst l27 y27 z27
  obtain ⟨rfl, Nq27, e27⟩ := hQ27
  have N27 := Fr.app N16 Nq27
  have k28 : Way p e below S0 T27 (mkF m 26 #[rv w_MANY_RULES, iv (7 : Int32), rv b4, iv (1 : Int32)] [(.ref b24), (.int (1 : Int32)), (.ref b4)]) := fun t k => k26 t (st27.trans k)
  have f29 : Arv Z h24 b4 c4 (.object "com/example/rulework/rulework/SchedulingRule") (7 : Int32) [(.ref b10), .null, .null, .null, .null, .null, .null] .null := (va16.ext E24)
  obtain ⟨cl30, Ar30, qc30, S30, M30, U30, G30⟩ := id (f29)
  have hin30 : ¬ ((1 : Int32) < 0 ∨ cl30.slots.size ≤ ((1 : Int32)).toNatClampNeg) := inb_of S30 ⟨by decide, by decide⟩
  obtain ⟨T30, h30, X30, e30, W30, st30⟩ := stR X27 hx hZ e27 Ar30 (j := (1 : Int32)) hin30 rfl (Sto.ofV Ar30 qc30 V4 (Ins.of_exa A24 (hw _ (List.mem_of_getElem? (i := 35) rfl)))) (g := (mkF m 26 #[rv w_MANY_RULES, iv (7 : Int32), rv b4, iv (1 : Int32)] [(.ref b24), (.int (1 : Int32)), (.ref b4)])) rfl rfl (hb hby d_prog_1_method_5_code_26)
  have O30 := O24.wr W30 ge17
  have N30 := Fr.snoc X30 N27 ge17
  have K30 : Keep h0 h30 [] := K24.wr W30 (Or.inr gz18)
  have va30 : Arv Z h30 b4 c4 (.object "com/example/rulework/rulework/SchedulingRule") (7 : Int32) [(.ref b10), (.ref b24), .null, .null, .null, .null, .null] .null := Arv.set Ar30 qc30 S30 M30 U30 G30 rfl W30 1 rfl (Nat.le_of_ble_eq_true rfl)
  have k31 : Way p e below S0 T30 (mkF m 27 #[rv w_MANY_RULES, iv (7 : Int32), rv b4, iv (1 : Int32)] []) := fun t k => k28 t (st30 _ k)
  have k32 : Way p e below S0 T30 (mkF m 13 #[rv w_MANY_RULES, iv (7 : Int32), rv b4, iv (2 : Int32)] [(.ref b4), (.int (2 : Int32))]) := by
    intro t k
    refine k31 t ?_
    refine XS.iinc X30.here hx rfl (hb hby d_prog_1_method_5_code_27) rfl (l' := #[rv w_MANY_RULES, iv (7 : Int32), rv b4, iv (2 : Int32)]) rfl ?_
    show Steps p.tables e below (T30.setTop (mkF m 30 #[rv w_MANY_RULES, iv (7 : Int32), rv b4, iv (2 : Int32)] [])) _
    refine XS.goto X30.here hx rfl (pc0 := 30) (pc' := 11) rfl (hb hby d_prog_1_method_5_code_30) (by decide) (by decide) ?_
    show Steps p.tables e below (T30.setTop (mkF m 11 #[rv w_MANY_RULES, iv (7 : Int32), rv b4, iv (2 : Int32)] [])) _
    refine XS.iloadN X30.here hx rfl (hb hby d_prog_1_method_5_code_11) rfl ?_
    show Steps p.tables e below (T30.setTop (mkF m 12 #[rv w_MANY_RULES, iv (7 : Int32), rv b4, iv (2 : Int32)] [(.int (2 : Int32))])) _
    refine XS.aloadN X30.here hx rfl (hb hby d_prog_1_method_5_code_12) rfl rfl ?_
    show Steps p.tables e below (T30.setTop (mkF m 13 #[rv w_MANY_RULES, iv (7 : Int32), rv b4, iv (2 : Int32)] [(.ref b4), (.int (2 : Int32))])) _
    exact k
  obtain ⟨cl33, Ar33, -, S33, M33, -, -⟩ := id (va30)
  have k34 : Way p e below S0 T30 (mkF m 14 #[rv w_MANY_RULES, iv (7 : Int32), rv b4, iv (2 : Int32)] [(.int (7 : Int32)), (.int (2 : Int32))]) := fun t k => k32 t (X30.arraylength hx (by rw [e30]; exact Ar33.1) (State.isArrayOf_alike hZ.alike Ar33.2.1) (g := (mkF m 13 #[rv w_MANY_RULES, iv (7 : Int32), rv b4, iv (2 : Int32)] [(.ref b4), (.int (2 : Int32))])) rfl rfl (hb hby d_prog_1_method_5_code_13) _ (by rw [len_of S33 M33]; exact k))
  have k35 : Way p e below S0 T30 (mkF m 19 #[rv w_MANY_RULES, iv (7 : Int32), rv b4, iv (2 : Int32)] [(.int (2 : Int32)), (.ref b4)]) := by
    intro t k
    refine k34 t ?_
    refine XS.icmpNo X30.here hx rfl (hb hby d_prog_1_method_5_code_14) rfl (tlt ((by decide) : (2 : Int32) < (7 : Int32))).2.1 ?_
    show Steps p.tables e below (T30.setTop (mkF m 17 #[rv w_MANY_RULES, iv (7 : Int32), rv b4, iv (2 : Int32)] [])) _
    refine XS.aloadN X30.here hx rfl (hb hby d_prog_1_method_5_code_17) rfl rfl ?_
    show Steps p.tables e below (T30.setTop (mkF m 18 #[rv w_MANY_RULES, iv (7 : Int32), rv b4, iv (2 : Int32)] [(.ref b4)])) _
    refine XS.iloadN X30.here hx rfl (hb hby d_prog_1_method_5_code_18) rfl ?_
    show Steps p.tables e below (T30.setTop (mkF m 19 #[rv w_MANY_RULES, iv (7 : Int32), rv b4, iv (2 : Int32)] [(.int (2 : Int32)), (.ref b4)])) _
    exact k
  obtain ⟨T36, h36, X36, e36, E36, A36, D36, U36, st36⟩ := newO X30 hx hZ hown (hw _ (List.mem_of_getElem? (i := 26) rfl)) (hw _ (List.mem_of_getElem? (i := 27) rfl)) (hw _ (List.mem_of_getElem? (i := 28) rfl)) e30 (g := (mkF m 19 #[rv w_MANY_RULES, iv (7 : Int32), rv b4, iv (2 : Int32)] [(.int (2 : Int32)), (.ref b4)])) rfl (hb hby d_prog_1_method_5_code_19) (by decide) (by decide)
  obtain ⟨b36, g36⟩ : ∃ z, z = h30.size := ⟨_, rfl⟩
  rw [← g36] at A36 D36 U36 st36
  have O36 := O30.ext E36
  have K36 : Keep h0 h36 [] := K30.ext E36
  have k37 : Way p e below S0 T36 (mkF m 22 #[rv w_MANY_RULES, iv (7 : Int32), rv b4, iv (2 : Int32)] [(.ref b36), (.int (2 : Int32)), (.ref b4)]) := fun t k => k35 t (st36 _ k)
  have k38 : Way p e below S0 T36 (mkF m 23 #[rv w_MANY_RULES, iv (7 : Int32), rv b4, iv (2 : Int32)] [(.ref b36), (.ref b36), (.int (2 : Int32)), (.ref b4)]) := by
    intro t k
    refine k37 t ?_
    refine XS.dup X36.here hx rfl (hb hby d_prog_1_method_5_code_22) rfl rfl ?_
    show Steps p.tables e below (T36.setTop (mkF m 23 #[rv w_MANY_RULES, iv (7 : Int32), rv b4, iv (2 : Int32)] [(.ref b36), (.ref b36), (.int (2 : Int32)), (.ref b4)])) _
    exact k
  obtain ⟨_, _, ⟨T39, L39, kk39, nn39⟩, -, X39, ⟨Lc39, hQ39, l39, y39, z39⟩, st39⟩ := own_specialR X36 hx (y := (⟨"com/example/rulework/bench/Burst$SelfConflictingRule", "<init>", "()V"⟩ : MethodName)) rfl (mvT hZ (hw _ (List.mem_of_getElem? (i := 30) rfl))) (mvT hZ (hw _ (List.mem_of_getElem? (i := 31) rfl))) (fun U r hW hn => own_ready e hZ hown (by decide) (hw _ (List.mem_of_getElem? (i := 29) rfl)) hW hn) (backOf (W := 3) (sci l Z a0 hw [] w_POOL w_NO_RULE w_ONE_RULE w_MANY_RULES G b36 h36 n0 O36 ) hZ (hw _ (List.mem_of_getElem? (i := 31) rfl)) (hw _ (List.mem_of_getElem? (i := 28) rfl)) (by decide) (by decide)) (g := (mkF m 23 #[rv w_MANY_RULES, iv (7 : Int32), rv b4, iv (2 : Int32)] [(.ref b36), (.ref b36), (.int (2 : Int32)), (.ref b4)])) rfl (by rw [hml]; rfl) (Steps.refl _) (a := b36) (argsL := []) (rest := [(.ref b36), (.int (2 : Int32)), (.ref b4)]) (lenOf pd_2 rfl) rfl (by show 2 * 0 + _ ≤ _; exact Nat.le_of_eq rfl) (hb hby d_prog_1_method_5_code_23) (fun _ _ => ⟨rfl, e36, (by decide : 4 + 0 ≤ _), (by decide : 7 + 0 ≤ _)⟩)
  dsimp only [Pt.U, Pt.locs, Pt.cells, Pt.slots] at X39 l39 y39 z39 st39 hQ39
  subst l39 y39 z39
  obtain ⟨rfl, Nq39, e39⟩ := hQ39
  have N39 := Fr.app N30 Nq39
  have k40 : Way p e below S0 T39 (mkF m 26 #[rv w_MANY_RULES, iv (7 : Int32), rv b4, iv (2 : Int32)] [(.ref b36), (.int (2 : Int32)), (.ref b4)]) := fun t k => k38 t (st39.trans k)
  have f41 : Arv Z h36 b4 c4 (.object "com/example/rulework/rulework/SchedulingRule") (7 : Int32) [(.ref b10), (.ref b24), .null, .null, .null, .null, .null] .null := (va30.ext E36)
  obtain ⟨cl42, Ar42, qc42, S42, M42, U42, G42⟩ := id (f41)
  have hin42 : ¬ ((2 : Int32) < 0 ∨ cl42.slots.size ≤ ((2 : Int32)).toNatClampNeg) := inb_of S42 ⟨by decide, by decide⟩
  obtain ⟨T42, h42, X42, e42, W42, st42⟩ := stR X39 hx hZ e39 Ar42 (j := (2 : Int32)) hin42 rfl (Sto.ofV Ar42 qc42 V4 (Ins.of_exa A36 (hw _ (List.mem_of_getElem? (i := 35) rfl)))) (g := (mkF m 26 #[rv w_MANY_RULES, iv (7 : Int32), rv b4, iv (2 : Int32)] [(.ref b36), (.int (2 : Int32)), (.ref b4)])) rfl rfl (hb hby d_prog_1_method_5_code_26)
  have O42 := O36.wr W42 ge17
  have N42 := Fr.snoc X42 N39 ge17
  have K42 : Keep h0 h42 [] := K36.wr W42 (Or.inr gz18)
  have va42 : Arv Z h42 b4 c4 (.object "com/example/rulework/rulework/SchedulingRule") (7 : Int32) [(.ref b10), (.ref b24), (.ref b36), .null, .null, .null, .null] .null := Arv.set Ar42 qc42 S42 M42 U42 G42 rfl W42 2 rfl (Nat.le_of_ble_eq_true rfl)
  have k43 : Way p e below S0 T42 (mkF m 27 #[rv w_MANY_RULES, iv (7 : Int32), rv b4, iv (2 : Int32)] []) := fun t k => k40 t (st42 _ k)
  have k44 : Way p e below S0 T42 (mkF m 13 #[rv w_MANY_RULES, iv (7 : Int32), rv b4, iv (3 : Int32)] [(.ref b4), (.int (3 : Int32))]) := by
    intro t k
    refine k43 t ?_
    refine XS.iinc X42.here hx rfl (hb hby d_prog_1_method_5_code_27) rfl (l' := #[rv w_MANY_RULES, iv (7 : Int32), rv b4, iv (3 : Int32)]) rfl ?_
    show Steps p.tables e below (T42.setTop (mkF m 30 #[rv w_MANY_RULES, iv (7 : Int32), rv b4, iv (3 : Int32)] [])) _
    refine XS.goto X42.here hx rfl (pc0 := 30) (pc' := 11) rfl (hb hby d_prog_1_method_5_code_30) (by decide) (by decide) ?_
    show Steps p.tables e below (T42.setTop (mkF m 11 #[rv w_MANY_RULES, iv (7 : Int32), rv b4, iv (3 : Int32)] [])) _
    refine XS.iloadN X42.here hx rfl (hb hby d_prog_1_method_5_code_11) rfl ?_
    show Steps p.tables e below (T42.setTop (mkF m 12 #[rv w_MANY_RULES, iv (7 : Int32), rv b4, iv (3 : Int32)] [(.int (3 : Int32))])) _
    refine XS.aloadN X42.here hx rfl (hb hby d_prog_1_method_5_code_12) rfl rfl ?_
    show Steps p.tables e below (T42.setTop (mkF m 13 #[rv w_MANY_RULES, iv (7 : Int32), rv b4, iv (3 : Int32)] [(.ref b4), (.int (3 : Int32))])) _
    exact k
  obtain ⟨cl45, Ar45, -, S45, M45, -, -⟩ := id (va42)
  have k46 : Way p e below S0 T42 (mkF m 14 #[rv w_MANY_RULES, iv (7 : Int32), rv b4, iv (3 : Int32)] [(.int (7 : Int32)), (.int (3 : Int32))]) := fun t k => k44 t (X42.arraylength hx (by rw [e42]; exact Ar45.1) (State.isArrayOf_alike hZ.alike Ar45.2.1) (g := (mkF m 13 #[rv w_MANY_RULES, iv (7 : Int32), rv b4, iv (3 : Int32)] [(.ref b4), (.int (3 : Int32))])) rfl rfl (hb hby d_prog_1_method_5_code_13) _ (by rw [len_of S45 M45]; exact k))
  have k47 : Way p e below S0 T42 (mkF m 19 #[rv w_MANY_RULES, iv (7 : Int32), rv b4, iv (3 : Int32)] [(.int (3 : Int32)), (.ref b4)]) := by
    intro t k
    refine k46 t ?_
    refine XS.icmpNo X42.here hx rfl (hb hby d_prog_1_method_5_code_14) rfl (tlt ((by decide) : (3 : Int32) < (7 : Int32))).2.1 ?_
    show Steps p.tables e below (T42.setTop (mkF m 17 #[rv w_MANY_RULES, iv (7 : Int32), rv b4, iv (3 : Int32)] [])) _
    refine XS.aloadN X42.here hx rfl (hb hby d_prog_1_method_5_code_17) rfl rfl ?_
    show Steps p.tables e below (T42.setTop (mkF m 18 #[rv w_MANY_RULES, iv (7 : Int32), rv b4, iv (3 : Int32)] [(.ref b4)])) _
    refine XS.iloadN X42.here hx rfl (hb hby d_prog_1_method_5_code_18) rfl ?_
    show Steps p.tables e below (T42.setTop (mkF m 19 #[rv w_MANY_RULES, iv (7 : Int32), rv b4, iv (3 : Int32)] [(.int (3 : Int32)), (.ref b4)])) _
    exact k
  obtain ⟨T48, h48, X48, e48, E48, A48, D48, U48, st48⟩ := newO X42 hx hZ hown (hw _ (List.mem_of_getElem? (i := 26) rfl)) (hw _ (List.mem_of_getElem? (i := 27) rfl)) (hw _ (List.mem_of_getElem? (i := 28) rfl)) e42 (g := (mkF m 19 #[rv w_MANY_RULES, iv (7 : Int32), rv b4, iv (3 : Int32)] [(.int (3 : Int32)), (.ref b4)])) rfl (hb hby d_prog_1_method_5_code_19) (by decide) (by decide)
  obtain ⟨b48, g48⟩ : ∃ z, z = h42.size := ⟨_, rfl⟩
  rw [← g48] at A48 D48 U48 st48
  have O48 := O42.ext E48
  have K48 : Keep h0 h48 [] := K42.ext E48
  have k49 : Way p e below S0 T48 (mkF m 22 #[rv w_MANY_RULES, iv (7 : Int32), rv b4, iv (3 : Int32)] [(.ref b48), (.int (3 : Int32)), (.ref b4)]) := fun t k => k47 t (st48 _ k)
  have k50 : Way p e below S0 T48 (mkF m 23 #[rv w_MANY_RULES, iv (7 : Int32), rv b4, iv (3 : Int32)] [(.ref b48), (.ref b48), (.int (3 : Int32)), (.ref b4)]) := by
    intro t k
    refine k49 t ?_
    refine XS.dup X48.here hx rfl (hb hby d_prog_1_method_5_code_22) rfl rfl ?_
    show Steps p.tables e below (T48.setTop (mkF m 23 #[rv w_MANY_RULES, iv (7 : Int32), rv b4, iv (3 : Int32)] [(.ref b48), (.ref b48), (.int (3 : Int32)), (.ref b4)])) _
    exact k
  obtain ⟨_, _, ⟨T51, L51, kk51, nn51⟩, -, X51, ⟨Lc51, hQ51, l51, y51, z51⟩, st51⟩ := own_specialR X48 hx (y := (⟨"com/example/rulework/bench/Burst$SelfConflictingRule", "<init>", "()V"⟩ : MethodName)) rfl (mvT hZ (hw _ (List.mem_of_getElem? (i := 30) rfl))) (mvT hZ (hw _ (List.mem_of_getElem? (i := 31) rfl))) (fun U r hW hn => own_ready e hZ hown (by decide) (hw _ (List.mem_of_getElem? (i := 29) rfl)) hW hn) (backOf (W := 3) (sci l Z a0 hw [] w_POOL w_NO_RULE w_ONE_RULE w_MANY_RULES G b48 h48 n0 O48 ) hZ (hw _ (List.mem_of_getElem? (i := 31) rfl)) (hw _ (List.mem_of_getElem? (i := 28) rfl)) (by decide) (by decide)) (g := (mkF m 23 #[rv w_MANY_RULES, iv (7 : Int32), rv b4, iv (3 : Int32)] [(.ref b48), (.ref b48), (.int (3 : Int32)), (.ref b4)])) rfl (by rw [hml]; rfl) (Steps.refl _) (a := b48) (argsL := []) (rest := [(.ref b48), (.int (3 : Int32)), (.ref b4)]) (lenOf pd_2 rfl) rfl (by show 2 * 0 + _ ≤ _; exact Nat.le_of_eq rfl) (hb hby d_prog_1_method_5_code_23) (fun _ _ => ⟨rfl, e48, (by decide : 5 + 0 ≤ _), (by decide : 7 + 0 ≤ _)⟩)
  dsimp only [Pt.U, Pt.locs, Pt.cells, Pt.slots] at X51 l51 y51 z51 st51 hQ51
  subst l51 y51 z51
  obtain ⟨rfl, Nq51, e51⟩ := hQ51
  have N51 := Fr.app N42 Nq51
  have k52 : Way p e below S0 T51 (mkF m 26 #[rv w_MANY_RULES, iv (7 : Int32), rv b4, iv (3 : Int32)] [(.ref b48), (.int (3 : Int32)), (.ref b4)]) := fun t k => k50 t (st51.trans k)
  have f53 : Arv Z h48 b4 c4 (.object "com/example/rulework/rulework/SchedulingRule") (7 : Int32) [(.ref b10), (.ref b24), (.ref b36), .null, .null, .null, .null] .null := (va42.ext E48)
  obtain ⟨cl54, Ar54, qc54, S54, M54, U54, G54⟩ := id (f53)
  have hin54 : ¬ ((3 : Int32) < 0 ∨ cl54.slots.size ≤ ((3 : Int32)).toNatClampNeg) := inb_of S54 ⟨by decide, by decide⟩
  obtain ⟨T54, h54, X54, e54, W54, st54⟩ := stR X51 hx hZ e51 Ar54 (j := (3 : Int32)) hin54 rfl (Sto.ofV Ar54 qc54 V4 (Ins.of_exa A48 (hw _ (List.mem_of_getElem? (i := 35) rfl)))) (g := (mkF m 26 #[rv w_MANY_RULES, iv (7 : Int32), rv b4, iv (3 : Int32)] [(.ref b48), (.int (3 : Int32)), (.ref b4)])) rfl rfl (hb hby d_prog_1_method_5_code_26)
  have O54 := O48.wr W54 ge17
  have N54 := Fr.snoc X54 N51 ge17
  have K54 : Keep h0 h54 [] := K48.wr W54 (Or.inr gz18)
  have va54 : Arv Z h54 b4 c4 (.object "com/example/rulework/rulework/SchedulingRule") (7 : Int32) [(.ref b10), (.ref b24), (.ref b36), (.ref b48), .null, .null, .null] .null := Arv.set Ar54 qc54 S54 M54 U54 G54 rfl W54 3 rfl (Nat.le_of_ble_eq_true rfl)
  have k55 : Way p e below S0 T54 (mkF m 27 #[rv w_MANY_RULES, iv (7 : Int32), rv b4, iv (3 : Int32)] []) := fun t k => k52 t (st54 _ k)
  have k56 : Way p e below S0 T54 (mkF m 13 #[rv w_MANY_RULES, iv (7 : Int32), rv b4, iv (4 : Int32)] [(.ref b4), (.int (4 : Int32))]) := by
    intro t k
    refine k55 t ?_
    refine XS.iinc X54.here hx rfl (hb hby d_prog_1_method_5_code_27) rfl (l' := #[rv w_MANY_RULES, iv (7 : Int32), rv b4, iv (4 : Int32)]) rfl ?_
    show Steps p.tables e below (T54.setTop (mkF m 30 #[rv w_MANY_RULES, iv (7 : Int32), rv b4, iv (4 : Int32)] [])) _
    refine XS.goto X54.here hx rfl (pc0 := 30) (pc' := 11) rfl (hb hby d_prog_1_method_5_code_30) (by decide) (by decide) ?_
    show Steps p.tables e below (T54.setTop (mkF m 11 #[rv w_MANY_RULES, iv (7 : Int32), rv b4, iv (4 : Int32)] [])) _
    refine XS.iloadN X54.here hx rfl (hb hby d_prog_1_method_5_code_11) rfl ?_
    show Steps p.tables e below (T54.setTop (mkF m 12 #[rv w_MANY_RULES, iv (7 : Int32), rv b4, iv (4 : Int32)] [(.int (4 : Int32))])) _
    refine XS.aloadN X54.here hx rfl (hb hby d_prog_1_method_5_code_12) rfl rfl ?_
    show Steps p.tables e below (T54.setTop (mkF m 13 #[rv w_MANY_RULES, iv (7 : Int32), rv b4, iv (4 : Int32)] [(.ref b4), (.int (4 : Int32))])) _
    exact k
  obtain ⟨cl57, Ar57, -, S57, M57, -, -⟩ := id (va54)
  have k58 : Way p e below S0 T54 (mkF m 14 #[rv w_MANY_RULES, iv (7 : Int32), rv b4, iv (4 : Int32)] [(.int (7 : Int32)), (.int (4 : Int32))]) := fun t k => k56 t (X54.arraylength hx (by rw [e54]; exact Ar57.1) (State.isArrayOf_alike hZ.alike Ar57.2.1) (g := (mkF m 13 #[rv w_MANY_RULES, iv (7 : Int32), rv b4, iv (4 : Int32)] [(.ref b4), (.int (4 : Int32))])) rfl rfl (hb hby d_prog_1_method_5_code_13) _ (by rw [len_of S57 M57]; exact k))
  have k59 : Way p e below S0 T54 (mkF m 19 #[rv w_MANY_RULES, iv (7 : Int32), rv b4, iv (4 : Int32)] [(.int (4 : Int32)), (.ref b4)]) := by
    intro t k
    refine k58 t ?_
    refine XS.icmpNo X54.here hx rfl (hb hby d_prog_1_method_5_code_14) rfl (tlt ((by decide) : (4 : Int32) < (7 : Int32))).2.1 ?_
    show Steps p.tables e below (T54.setTop (mkF m 17 #[rv w_MANY_RULES, iv (7 : Int32), rv b4, iv (4 : Int32)] [])) _
    refine XS.aloadN X54.here hx rfl (hb hby d_prog_1_method_5_code_17) rfl rfl ?_
    show Steps p.tables e below (T54.setTop (mkF m 18 #[rv w_MANY_RULES, iv (7 : Int32), rv b4, iv (4 : Int32)] [(.ref b4)])) _
    refine XS.iloadN X54.here hx rfl (hb hby d_prog_1_method_5_code_18) rfl ?_
    show Steps p.tables e below (T54.setTop (mkF m 19 #[rv w_MANY_RULES, iv (7 : Int32), rv b4, iv (4 : Int32)] [(.int (4 : Int32)), (.ref b4)])) _
    exact k
  obtain ⟨T60, h60, X60, e60, E60, A60, D60, U60, st60⟩ := newO X54 hx hZ hown (hw _ (List.mem_of_getElem? (i := 26) rfl)) (hw _ (List.mem_of_getElem? (i := 27) rfl)) (hw _ (List.mem_of_getElem? (i := 28) rfl)) e54 (g := (mkF m 19 #[rv w_MANY_RULES, iv (7 : Int32), rv b4, iv (4 : Int32)] [(.int (4 : Int32)), (.ref b4)])) rfl (hb hby d_prog_1_method_5_code_19) (by decide) (by decide)
  obtain ⟨b60, g60⟩ : ∃ z, z = h54.size := ⟨_, rfl⟩
  rw [← g60] at A60 D60 U60 st60
  have O60 := O54.ext E60
  have K60 : Keep h0 h60 [] := K54.ext E60
  have k61 : Way p e below S0 T60 (mkF m 22 #[rv w_MANY_RULES, iv (7 : Int32), rv b4, iv (4 : Int32)] [(.ref b60), (.int (4 : Int32)), (.ref b4)]) := fun t k => k59 t (st60 _ k)
  have k62 : Way p e below S0 T60 (mkF m 23 #[rv w_MANY_RULES, iv (7 : Int32), rv b4, iv (4 : Int32)] [(.ref b60), (.ref b60), (.int (4 : Int32)), (.ref b4)]) := by
    intro t k
    refine k61 t ?_
    refine XS.dup X60.here hx rfl (hb hby d_prog_1_method_5_code_22) rfl rfl ?_
    show Steps p.tables e below (T60.setTop (mkF m 23 #[rv w_MANY_RULES, iv (7 : Int32), rv b4, iv (4 : Int32)] [(.ref b60), (.ref b60), (.int (4 : Int32)), (.ref b4)])) _
    exact k
  obtain ⟨_, _, ⟨T63, L63, kk63, nn63⟩, -, X63, ⟨Lc63, hQ63, l63, y63, z63⟩, st63⟩ := own_specialR X60 hx (y := (⟨"com/example/rulework/bench/Burst$SelfConflictingRule", "<init>", "()V"⟩ : MethodName)) rfl (mvT hZ (hw _ (List.mem_of_getElem? (i := 30) rfl))) (mvT hZ (hw _ (List.mem_of_getElem? (i := 31) rfl))) (fun U r hW hn => own_ready e hZ hown (by decide) (hw _ (List.mem_of_getElem? (i := 29) rfl)) hW hn) (backOf (W := 3) (sci l Z a0 hw [] w_POOL w_NO_RULE w_ONE_RULE w_MANY_RULES G b60 h60 n0 O60 ) hZ (hw _ (List.mem_of_getElem? (i := 31) rfl)) (hw _ (List.mem_of_getElem? (i := 28) rfl)) (by decide) (by decide)) (g := (mkF m 23 #[rv w_MANY_RULES, iv (7 : Int32), rv b4, iv (4 : Int32)] [(.ref b60), (.ref b60), (.int (4 : Int32)), (.ref b4)])) rfl (by rw [hml]; rfl) (Steps.refl _) (a := b60) (argsL := []) (rest := [(.ref b60), (.int (4 : Int32)), (.ref b4)]) (lenOf pd_2 rfl) rfl (by show 2 * 0 + _ ≤ _; exact Nat.le_of_eq rfl) (hb hby d_prog_1_method_5_code_23) (fun _ _ => ⟨rfl, e60, (by decide : 6 + 0 ≤ _), (by decide : 7 + 0 ≤ _)⟩)
  dsimp only [Pt.U, Pt.locs, Pt.cells, Pt.slots] at X63 l63 y63 z63 st63 hQ63
  subst l63 y63 z63
  obtain ⟨rfl, Nq63, e63⟩ := hQ63
  have N63 := Fr.app N54 Nq63
  have k64 : Way p e below S0 T63 (mkF m 26 #[rv w_MANY_RULES, iv (7 : Int32), rv b4, iv (4 : Int32)] [(.ref b60), (.int (4 : Int32)), (.ref b4)]) := fun t k => k62 t (st63.trans k)
  have f65 : Arv Z h60 b4 c4 (.object "com/example/rulework/rulework/SchedulingRule") (7 : Int32) [(.ref b10), (.ref b24), (.ref b36), (.ref b48), .null, .null, .null] .null := (va54.ext E60)
  obtain ⟨cl66, Ar66, qc66, S66, M66, U66, G66⟩ := id (f65)
  have hin66 : ¬ ((4 : Int32) < 0 ∨ cl66.slots.size ≤ ((4 : Int32)).toNatClampNeg) := inb_of S66 ⟨by decide, by decide⟩
  obtain ⟨T66, h66, X66, e66, W66, st66⟩ := stR X63 hx hZ e63 Ar66 (j := (4 : Int32)) hin66 rfl (Sto.ofV Ar66 qc66 V4 (Ins.of_exa A60 (hw _ (List.mem_of_getElem? (i := 35) rfl)))) (g := (mkF m 26 #[rv w_MANY_RULES, iv (7 : Int32), rv b4, iv (4 : Int32)] [(.ref b60), (.int (4 : Int32)), (.ref b4)])) rfl rfl (hb hby d_prog_1_method_5_code_26)
  have O66 := O60.wr W66 ge17
  have N66 := Fr.snoc X66 N63 ge17
  have K66 : Keep h0 h66 [] := K60.wr W66 (Or.inr gz18)
  have va66 : Arv Z h66 b4 c4 (.object "com/example/rulework/rulework/SchedulingRule") (7 : Int32) [(.ref b10), (.ref b24), (.ref b36), (.ref b48), (.ref b60), .null, .null] .null := Arv.set Ar66 qc66 S66 M66 U66 G66 rfl W66 4 rfl (Nat.le_of_ble_eq_true rfl)
  have k67 : Way p e below S0 T66 (mkF m 27 #[rv w_MANY_RULES, iv (7 : Int32), rv b4, iv (4 : Int32)] []) := fun t k => k64 t (st66 _ k)
  have k68 : Way p e below S0 T66 (mkF m 13 #[rv w_MANY_RULES, iv (7 : Int32), rv b4, iv (5 : Int32)] [(.ref b4), (.int (5 : Int32))]) := by
    intro t k
    refine k67 t ?_
    refine XS.iinc X66.here hx rfl (hb hby d_prog_1_method_5_code_27) rfl (l' := #[rv w_MANY_RULES, iv (7 : Int32), rv b4, iv (5 : Int32)]) rfl ?_
    show Steps p.tables e below (T66.setTop (mkF m 30 #[rv w_MANY_RULES, iv (7 : Int32), rv b4, iv (5 : Int32)] [])) _
    refine XS.goto X66.here hx rfl (pc0 := 30) (pc' := 11) rfl (hb hby d_prog_1_method_5_code_30) (by decide) (by decide) ?_
    show Steps p.tables e below (T66.setTop (mkF m 11 #[rv w_MANY_RULES, iv (7 : Int32), rv b4, iv (5 : Int32)] [])) _
    refine XS.iloadN X66.here hx rfl (hb hby d_prog_1_method_5_code_11) rfl ?_
    show Steps p.tables e below (T66.setTop (mkF m 12 #[rv w_MANY_RULES, iv (7 : Int32), rv b4, iv (5 : Int32)] [(.int (5 : Int32))])) _
    refine XS.aloadN X66.here hx rfl (hb hby d_prog_1_method_5_code_12) rfl rfl ?_
    show Steps p.tables e below (T66.setTop (mkF m 13 #[rv w_MANY_RULES, iv (7 : Int32), rv b4, iv (5 : Int32)] [(.ref b4), (.int (5 : Int32))])) _
    exact k
  obtain ⟨cl69, Ar69, -, S69, M69, -, -⟩ := id (va66)
  have k70 : Way p e below S0 T66 (mkF m 14 #[rv w_MANY_RULES, iv (7 : Int32), rv b4, iv (5 : Int32)] [(.int (7 : Int32)), (.int (5 : Int32))]) := fun t k => k68 t (X66.arraylength hx (by rw [e66]; exact Ar69.1) (State.isArrayOf_alike hZ.alike Ar69.2.1) (g := (mkF m 13 #[rv w_MANY_RULES, iv (7 : Int32), rv b4, iv (5 : Int32)] [(.ref b4), (.int (5 : Int32))])) rfl rfl (hb hby d_prog_1_method_5_code_13) _ (by rw [len_of S69 M69]; exact k))
  have k71 : Way p e below S0 T66 (mkF m 19 #[rv w_MANY_RULES, iv (7 : Int32), rv b4, iv (5 : Int32)] [(.int (5 : Int32)), (.ref b4)]) := by
    intro t k
    refine k70 t ?_
    refine XS.icmpNo X66.here hx rfl (hb hby d_prog_1_method_5_code_14) rfl (tlt ((by decide) : (5 : Int32) < (7 : Int32))).2.1 ?_
    show Steps p.tables e below (T66.setTop (mkF m 17 #[rv w_MANY_RULES, iv (7 : Int32), rv b4, iv (5 : Int32)] [])) _
    refine XS.aloadN X66.here hx rfl (hb hby d_prog_1_method_5_code_17) rfl rfl ?_
    show Steps p.tables e below (T66.setTop (mkF m 18 #[rv w_MANY_RULES, iv (7 : Int32), rv b4, iv (5 : Int32)] [(.ref b4)])) _
    refine XS.iloadN X66.here hx rfl (hb hby d_prog_1_method_5_code_18) rfl ?_
    show Steps p.tables e below (T66.setTop (mkF m 19 #[rv w_MANY_RULES, iv (7 : Int32), rv b4, iv (5 : Int32)] [(.int (5 : Int32)), (.ref b4)])) _
    exact k
  obtain ⟨T72, h72, X72, e72, E72, A72, D72, U72, st72⟩ := newO X66 hx hZ hown (hw _ (List.mem_of_getElem? (i := 26) rfl)) (hw _ (List.mem_of_getElem? (i := 27) rfl)) (hw _ (List.mem_of_getElem? (i := 28) rfl)) e66 (g := (mkF m 19 #[rv w_MANY_RULES, iv (7 : Int32), rv b4, iv (5 : Int32)] [(.int (5 : Int32)), (.ref b4)])) rfl (hb hby d_prog_1_method_5_code_19) (by decide) (by decide)
  obtain ⟨b72, g72⟩ : ∃ z, z = h66.size := ⟨_, rfl⟩
  rw [← g72] at A72 D72 U72 st72
  have O72 := O66.ext E72
  have K72 : Keep h0 h72 [] := K66.ext E72
  have k73 : Way p e below S0 T72 (mkF m 22 #[rv w_MANY_RULES, iv (7 : Int32), rv b4, iv (5 : Int32)] [(.ref b72), (.int (5 : Int32)), (.ref b4)]) := fun t k => k71 t (st72 _ k)
  have k74 : Way p e below S0 T72 (mkF m 23 #[rv w_MANY_RULES, iv (7 : Int32), rv b4, iv (5 : Int32)] [(.ref b72), (.ref b72), (.int (5 : Int32)), (.ref b4)]) := by
    intro t k
    refine k73 t ?_
    refine XS.dup X72.here hx rfl (hb hby d_prog_1_method_5_code_22) rfl rfl ?_
    show Steps p.tables e below (T72.setTop (mkF m 23 #[rv w_MANY_RULES, iv (7 : Int32), rv b4, iv (5 : Int32)] [(.ref b72), (.ref b72), (.int (5 : Int32)), (.ref b4)])) _
    exact k
  obtain ⟨_, _, ⟨T75, L75, kk75, nn75⟩, -, X75, ⟨Lc75, hQ75, l75, y75, z75⟩, st75⟩ := own_specialR X72 hx (y := (⟨"com/example/rulework/bench/Burst$SelfConflictingRule", "<init>", "()V"⟩ : MethodName)) rfl (mvT hZ (hw _ (List.mem_of_getElem? (i := 30) rfl))) (mvT hZ (hw _ (List.mem_of_getElem? (i := 31) rfl))) (fun U r hW hn => own_ready e hZ hown (by decide) (hw _ (List.mem_of_getElem? (i := 29) rfl)) hW hn) (backOf (W := 3) (sci l Z a0 hw [] w_POOL w_NO_RULE w_ONE_RULE w_MANY_RULES G b72 h72 n0 O72 ) hZ (hw _ (List.mem_of_getElem? (i := 31) rfl)) (hw _ (List.mem_of_getElem? (i := 28) rfl)) (by decide) (by decide)) (g := (mkF m 23 #[rv w_MANY_RULES, iv (7 : Int32), rv b4, iv (5 : Int32)] [(.ref b72), (.ref b72), (.int (5 : Int32)), (.ref b4)])) rfl (by rw [hml]; rfl) (Steps.refl _) (a := b72) (argsL := []) (rest := [(.ref b72), (.int (5 : Int32)), (.ref b4)]) (lenOf pd_2 rfl) rfl (by show 2 * 0 + _ ≤ _; exact Nat.le_of_eq rfl) (hb hby d_prog_1_method_5_code_23) (fun _ _ => ⟨rfl, e72, (by decide : 7 + 0 ≤ _), (by decide : 7 + 0 ≤ _)⟩)
  dsimp only [Pt.U, Pt.locs, Pt.cells, Pt.slots] at X75 l75 y75 z75 st75 hQ75
  subst l75 y75 z75
  obtain ⟨rfl, Nq75, e75⟩ := hQ75
  have N75 := Fr.app N66 Nq75
  have k76 : Way p e below S0 T75 (mkF m 26 #[rv w_MANY_RULES, iv (7 : Int32), rv b4, iv (5 : Int32)] [(.ref b72), (.int (5 : Int32)), (.ref b4)]) := fun t k => k74 t (st75.trans k)
  have f77 : Arv Z h72 b4 c4 (.object "com/example/rulework/rulework/SchedulingRule") (7 : Int32) [(.ref b10), (.ref b24), (.ref b36), (.ref b48), (.ref b60), .null, .null] .null := (va66.ext E72)
  obtain ⟨cl78, Ar78, qc78, S78, M78, U78, G78⟩ := id (f77)
  have hin78 : ¬ ((5 : Int32) < 0 ∨ cl78.slots.size ≤ ((5 : Int32)).toNatClampNeg) := inb_of S78 ⟨by decide, by decide⟩
  obtain ⟨T78, h78, X78, e78, W78, st78⟩ := stR X75 hx hZ e75 Ar78 (j := (5 : Int32)) hin78 rfl (Sto.ofV Ar78 qc78 V4 (Ins.of_exa A72 (hw _ (List.mem_of_getElem? (i := 35) rfl)))) (g := (mkF m 26 #[rv w_MANY_RULES, iv (7 : Int32), rv b4, iv (5 : Int32)] [(.ref b72), (.int (5 : Int32)), (.ref b4)])) rfl rfl (hb hby d_prog_1_method_5_code_26)
  have O78 := O72.wr W78 ge17
  have N78 := Fr.snoc X78 N75 ge17
  have K78 : Keep h0 h78 [] := K72.wr W78 (Or.inr gz18)
  have va78 : Arv Z h78 b4 c4 (.object "com/example/rulework/rulework/SchedulingRule") (7 : Int32) [(.ref b10), (.ref b24), (.ref b36), (.ref b48), (.ref b60), (.ref b72), .null] .null := Arv.set Ar78 qc78 S78 M78 U78 G78 rfl W78 5 rfl (Nat.le_of_ble_eq_true rfl)
  have k79 : Way p e below S0 T78 (mkF m 27 #[rv w_MANY_RULES, iv (7 : Int32), rv b4, iv (5 : Int32)] []) := fun t k => k76 t (st78 _ k)
  have k80 : Way p e below S0 T78 (mkF m 13 #[rv w_MANY_RULES, iv (7 : Int32), rv b4, iv (6 : Int32)] [(.ref b4), (.int (6 : Int32))]) := by
    intro t k
    refine k79 t ?_
    refine XS.iinc X78.here hx rfl (hb hby d_prog_1_method_5_code_27) rfl (l' := #[rv w_MANY_RULES, iv (7 : Int32), rv b4, iv (6 : Int32)]) rfl ?_
    show Steps p.tables e below (T78.setTop (mkF m 30 #[rv w_MANY_RULES, iv (7 : Int32), rv b4, iv (6 : Int32)] [])) _
    refine XS.goto X78.here hx rfl (pc0 := 30) (pc' := 11) rfl (hb hby d_prog_1_method_5_code_30) (by decide) (by decide) ?_
    show Steps p.tables e below (T78.setTop (mkF m 11 #[rv w_MANY_RULES, iv (7 : Int32), rv b4, iv (6 : Int32)] [])) _
    refine XS.iloadN X78.here hx rfl (hb hby d_prog_1_method_5_code_11) rfl ?_
    show Steps p.tables e below (T78.setTop (mkF m 12 #[rv w_MANY_RULES, iv (7 : Int32), rv b4, iv (6 : Int32)] [(.int (6 : Int32))])) _
    refine XS.aloadN X78.here hx rfl (hb hby d_prog_1_method_5_code_12) rfl rfl ?_
    show Steps p.tables e below (T78.setTop (mkF m 13 #[rv w_MANY_RULES, iv (7 : Int32), rv b4, iv (6 : Int32)] [(.ref b4), (.int (6 : Int32))])) _
    exact k
  obtain ⟨cl81, Ar81, -, S81, M81, -, -⟩ := id (va78)
  have k82 : Way p e below S0 T78 (mkF m 14 #[rv w_MANY_RULES, iv (7 : Int32), rv b4, iv (6 : Int32)] [(.int (7 : Int32)), (.int (6 : Int32))]) := fun t k => k80 t (X78.arraylength hx (by rw [e78]; exact Ar81.1) (State.isArrayOf_alike hZ.alike Ar81.2.1) (g := (mkF m 13 #[rv w_MANY_RULES, iv (7 : Int32), rv b4, iv (6 : Int32)] [(.ref b4), (.int (6 : Int32))])) rfl rfl (hb hby d_prog_1_method_5_code_13) _ (by rw [len_of S81 M81]; exact k))
  have k83 : Way p e below S0 T78 (mkF m 19 #[rv w_MANY_RULES, iv (7 : Int32), rv b4, iv (6 : Int32)] [(.int (6 : Int32)), (.ref b4)]) := by
    intro t k
    refine k82 t ?_
    refine XS.icmpNo X78.here hx rfl (hb hby d_prog_1_method_5_code_14) rfl (tlt ((by decide) : (6 : Int32) < (7 : Int32))).2.1 ?_
    show Steps p.tables e below (T78.setTop (mkF m 17 #[rv w_MANY_RULES, iv (7 : Int32), rv b4, iv (6 : Int32)] [])) _
    refine XS.aloadN X78.here hx rfl (hb hby d_prog_1_method_5_code_17) rfl rfl ?_
    show Steps p.tables e below (T78.setTop (mkF m 18 #[rv w_MANY_RULES, iv (7 : Int32), rv b4, iv (6 : Int32)] [(.ref b4)])) _
    refine XS.iloadN X78.here hx rfl (hb hby d_prog_1_method_5_code_18) rfl ?_
    show Steps p.tables e below (T78.setTop (mkF m 19 #[rv w_MANY_RULES, iv (7 : Int32), rv b4, iv (6 : Int32)] [(.int (6 : Int32)), (.ref b4)])) _
    exact k
  obtain ⟨T84, h84, X84, e84, E84, A84, D84, U84, st84⟩ := newO X78 hx hZ hown (hw _ (List.mem_of_getElem? (i := 26) rfl)) (hw _ (List.mem_of_getElem? (i := 27) rfl)) (hw _ (List.mem_of_getElem? (i := 28) rfl)) e78 (g := (mkF m 19 #[rv w_MANY_RULES, iv (7 : Int32), rv b4, iv (6 : Int32)] [(.int (6 : Int32)), (.ref b4)])) rfl (hb hby d_prog_1_method_5_code_19) (by decide) (by decide)
  obtain ⟨b84, g84⟩ : ∃ z, z = h78.size := ⟨_, rfl⟩
  rw [← g84] at A84 D84 U84 st84
  have O84 := O78.ext E84
  have K84 : Keep h0 h84 [] := K78.ext E84
  have k85 : Way p e below S0 T84 (mkF m 22 #[rv w_MANY_RULES, iv (7 : Int32), rv b4, iv (6 : Int32)] [(.ref b84), (.int (6 : Int32)), (.ref b4)]) := fun t k => k83 t (st84 _ k)
  have k86 : Way p e below S0 T84 (mkF m 23 #[rv w_MANY_RULES, iv (7 : Int32), rv b4, iv (6 : Int32)] [(.ref b84), (.ref b84), (.int (6 : Int32)), (.ref b4)]) := by
    intro t k
    refine k85 t ?_
    refine XS.dup X84.here hx rfl (hb hby d_prog_1_method_5_code_22) rfl rfl ?_
    show Steps p.tables e below (T84.setTop (mkF m 23 #[rv w_MANY_RULES, iv (7 : Int32), rv b4, iv (6 : Int32)] [(.ref b84), (.ref b84), (.int (6 : Int32)), (.ref b4)])) _
    exact k
  obtain ⟨_, _, ⟨T87, L87, kk87, nn87⟩, -, X87, ⟨Lc87, hQ87, l87, y87, z87⟩, st87⟩ := own_specialR X84 hx (y := (⟨"com/example/rulework/bench/Burst$SelfConflictingRule", "<init>", "()V"⟩ : MethodName)) rfl (mvT hZ (hw _ (List.mem_of_getElem? (i := 30) rfl))) (mvT hZ (hw _ (List.mem_of_getElem? (i := 31) rfl))) (fun U r hW hn => own_ready e hZ hown (by decide) (hw _ (List.mem_of_getElem? (i := 29) rfl)) hW hn) (backOf (W := 3) (sci l Z a0 hw [] w_POOL w_NO_RULE w_ONE_RULE w_MANY_RULES G b84 h84 n0 O84 ) hZ (hw _ (List.mem_of_getElem? (i := 31) rfl)) (hw _ (List.mem_of_getElem? (i := 28) rfl)) (by decide) (by decide)) (g := (mkF m 23 #[rv w_MANY_RULES, iv (7 : Int32), rv b4, iv (6 : Int32)] [(.ref b84), (.ref b84), (.int (6 : Int32)), (.ref b4)])) rfl (by rw [hml]; rfl) (Steps.refl _) (a := b84) (argsL := []) (rest := [(.ref b84), (.int (6 : Int32)), (.ref b4)]) (lenOf pd_2 rfl) rfl (by show 2 * 0 + _ ≤ _; exact Nat.le_of_eq rfl) (hb hby d_prog_1_method_5_code_23) (fun _ _ => ⟨rfl, e84, (by decide : 8 + 0 ≤ _), (by decide : 7 + 0 ≤ _)⟩)
  dsimp only [Pt.U, Pt.locs, Pt.cells, Pt.slots] at X87 l87 y87 z87 st87 hQ87
  subst l87 y87 z87
  obtain ⟨rfl, Nq87, e87⟩ := hQ87
  have N87 := Fr.app N78 Nq87
  have k88 : Way p e below S0 T87 (mkF m 26 #[rv w_MANY_RULES, iv (7 : Int32), rv b4, iv (6 : Int32)] [(.ref b84), (.int (6 : Int32)), (.ref b4)]) := fun t k => k86 t (st87.trans k)
  have f89 : Arv Z h84 b4 c4 (.object "com/example/rulework/rulework/SchedulingRule") (7 : Int32) [(.ref b10), (.ref b24), (.ref b36), (.ref b48), (.ref b60), (.ref b72), .null] .null := (va78.ext E84)
  obtain ⟨cl90, Ar90, qc90, S90, M90, U90, G90⟩ := id (f89)
  have hin90 : ¬ ((6 : Int32) < 0 ∨ cl90.slots.size ≤ ((6 : Int32)).toNatClampNeg) := inb_of S90 ⟨by decide, by decide⟩
  obtain ⟨T90, h90, X90, e90, W90, st90⟩ := stR X87 hx hZ e87 Ar90 (j := (6 : Int32)) hin90 rfl (Sto.ofV Ar90 qc90 V4 (Ins.of_exa A84 (hw _ (List.mem_of_getElem? (i := 35) rfl)))) (g := (mkF m 26 #[rv w_MANY_RULES, iv (7 : Int32), rv b4, iv (6 : Int32)] [(.ref b84), (.int (6 : Int32)), (.ref b4)])) rfl rfl (hb hby d_prog_1_method_5_code_26)
  have O90 := O84.wr W90 ge17
  have N90 := Fr.snoc X90 N87 ge17
  have K90 : Keep h0 h90 [] := K84.wr W90 (Or.inr gz18)
  have va90 : Arv Z h90 b4 c4 (.object "com/example/rulework/rulework/SchedulingRule") (7 : Int32) [(.ref b10), (.ref b24), (.ref b36), (.ref b48), (.ref b60), (.ref b72), (.ref b84)] .null := Arv.set Ar90 qc90 S90 M90 U90 G90 rfl W90 6 rfl (Nat.le_of_ble_eq_true rfl)
  have k91 : Way p e below S0 T90 (mkF m 27 #[rv w_MANY_RULES, iv (7 : Int32), rv b4, iv (6 : Int32)] []) := fun t k => k88 t (st90 _ k)
  have k92 : Way p e below S0 T90 (mkF m 13 #[rv w_MANY_RULES, iv (7 : Int32), rv b4, iv (7 : Int32)] [(.ref b4), (.int (7 : Int32))]) := by
    intro t k
    refine k91 t ?_
    refine XS.iinc X90.here hx rfl (hb hby d_prog_1_method_5_code_27) rfl (l' := #[rv w_MANY_RULES, iv (7 : Int32), rv b4, iv (7 : Int32)]) rfl ?_
    show Steps p.tables e below (T90.setTop (mkF m 30 #[rv w_MANY_RULES, iv (7 : Int32), rv b4, iv (7 : Int32)] [])) _
    refine XS.goto X90.here hx rfl (pc0 := 30) (pc' := 11) rfl (hb hby d_prog_1_method_5_code_30) (by decide) (by decide) ?_
    show Steps p.tables e below (T90.setTop (mkF m 11 #[rv w_MANY_RULES, iv (7 : Int32), rv b4, iv (7 : Int32)] [])) _
    refine XS.iloadN X90.here hx rfl (hb hby d_prog_1_method_5_code_11) rfl ?_
    show Steps p.tables e below (T90.setTop (mkF m 12 #[rv w_MANY_RULES, iv (7 : Int32), rv b4, iv (7 : Int32)] [(.int (7 : Int32))])) _
    refine XS.aloadN X90.here hx rfl (hb hby d_prog_1_method_5_code_12) rfl rfl ?_
    show Steps p.tables e below (T90.setTop (mkF m 13 #[rv w_MANY_RULES, iv (7 : Int32), rv b4, iv (7 : Int32)] [(.ref b4), (.int (7 : Int32))])) _
    exact k
  obtain ⟨cl93, Ar93, -, S93, M93, -, -⟩ := id (va90)
  have k94 : Way p e below S0 T90 (mkF m 14 #[rv w_MANY_RULES, iv (7 : Int32), rv b4, iv (7 : Int32)] [(.int (7 : Int32)), (.int (7 : Int32))]) := fun t k => k92 t (X90.arraylength hx (by rw [e90]; exact Ar93.1) (State.isArrayOf_alike hZ.alike Ar93.2.1) (g := (mkF m 13 #[rv w_MANY_RULES, iv (7 : Int32), rv b4, iv (7 : Int32)] [(.ref b4), (.int (7 : Int32))])) rfl rfl (hb hby d_prog_1_method_5_code_13) _ (by rw [len_of S93 M93]; exact k))
  have k95 : Way p e below S0 T90 (mkF m 34 #[rv w_MANY_RULES, iv (7 : Int32), rv b4, iv (7 : Int32)] [(.ref b4)]) := by
    intro t k
    refine k94 t ?_
    refine XS.icmpYes X90.here hx rfl (pc0 := 14) (pc' := 33) rfl (hb hby d_prog_1_method_5_code_14) rfl (flt ((by decide) : ¬ ((7 : Int32) < (7 : Int32)))).2.1 (by decide) (by decide) ?_
    show Steps p.tables e below (T90.setTop (mkF m 33 #[rv w_MANY_RULES, iv (7 : Int32), rv b4, iv (7 : Int32)] [])) _
    refine XS.aloadN X90.here hx rfl (hb hby d_prog_1_method_5_code_33) rfl rfl ?_
    show Steps p.tables e below (T90.setTop (mkF m 34 #[rv w_MANY_RULES, iv (7 : Int32), rv b4, iv (7 : Int32)] [(.ref b4)])) _
    exact k
  obtain ⟨fs, hr, hrun, hended, hW, hsame⟩ := X90.leave (v := some (.ref b4)) (fun h => by rw [Bd.returns] at h; cases h)
  have gz96 : h0.size ≤ b10 := Nat.le_trans K4.1 (Nat.le_of_eq g10.symm)
  have f97 : Exa Z h90 b10 "com/example/rulework/bench/Burst$SelfConflictingRule" := (((((((((((((A10.wr W16).ext E24).wr W30).ext E36).wr W42).ext E48).wr W54).ext E60).wr W66).ext E72).wr W78).ext E84).wr W90)
  have gz98 : h0.size ≤ b24 := Nat.le_trans K16.1 (Nat.le_of_eq g24.symm)
  have f99 : Exa Z h90 b24 "com/example/rulework/bench/Burst$SelfConflictingRule" := (((((((((((A24.wr W30).ext E36).wr W42).ext E48).wr W54).ext E60).wr W66).ext E72).wr W78).ext E84).wr W90)
  have gz100 : h0.size ≤ b36 := Nat.le_trans K30.1 (Nat.le_of_eq g36.symm)
  have f101 : Exa Z h90 b36 "com/example/rulework/bench/Burst$SelfConflictingRule" := (((((((((A36.wr W42).ext E48).wr W54).ext E60).wr W66).ext E72).wr W78).ext E84).wr W90)
  have gz102 : h0.size ≤ b48 := Nat.le_trans K42.1 (Nat.le_of_eq g48.symm)
  have f103 : Exa Z h90 b48 "com/example/rulework/bench/Burst$SelfConflictingRule" := (((((((A48.wr W54).ext E60).wr W66).ext E72).wr W78).ext E84).wr W90)
  have gz104 : h0.size ≤ b60 := Nat.le_trans K54.1 (Nat.le_of_eq g60.symm)
  have f105 : Exa Z h90 b60 "com/example/rulework/bench/Burst$SelfConflictingRule" := (((((A60.wr W66).ext E72).wr W78).ext E84).wr W90)
  have gz106 : h0.size ≤ b72 := Nat.le_trans K66.1 (Nat.le_of_eq g72.symm)
  have f107 : Exa Z h90 b72 "com/example/rulework/bench/Burst$SelfConflictingRule" := (((A72.wr W78).ext E84).wr W90)
  have gz108 : h0.size ≤ b84 := Nat.le_trans K78.1 (Nat.le_of_eq g84.symm)
  have f109 : Exa Z h90 b84 "com/example/rulework/bench/Burst$SelfConflictingRule" := (A84.wr W90)
  refine ⟨_, _, k95 _ (retOut X90 hx Bd.returns rfl (Or.inr (Or.inr (Or.inr (Or.inr ⟨rfl, rfl, rfl⟩)))) (hb hby d_prog_1_method_5_code_34) hr), hrun, hended, _, _, rfl, ?_, ⟨_, rfl⟩, hW, hsame.mono (by decide) (by decide)⟩
  show Q_mkm7 Z w_POOL w_NO_RULE w_ONE_RULE w_MANY_RULES  h0 n0 _ T90.heap _
  rw [e90]
  exact ⟨b4, c4, b10, b24, b36, b48, b60, b72, b84, rfl, N90, K90, gz18, va90, gz96, f97, gz98, f99, gz100, f101, gz102, f103, gz104, f105, gz106, f107, gz108, f109, (Nat.ne_of_lt (Nat.lt_of_lt_of_le (A10.wr W16).lt (Nat.le_of_eq g24.symm))), (Nat.ne_of_lt (Nat.lt_of_lt_of_le (((A10.wr W16).ext E24).wr W30).lt (Nat.le_of_eq g36.symm))), (Nat.ne_of_lt (Nat.lt_of_lt_of_le (((((A10.wr W16).ext E24).wr W30).ext E36).wr W42).lt (Nat.le_of_eq g48.symm))), (Nat.ne_of_lt (Nat.lt_of_lt_of_le (((((((A10.wr W16).ext E24).wr W30).ext E36).wr W42).ext E48).wr W54).lt (Nat.le_of_eq g60.symm))), (Nat.ne_of_lt (Nat.lt_of_lt_of_le (((((((((A10.wr W16).ext E24).wr W30).ext E36).wr W42).ext E48).wr W54).ext E60).wr W66).lt (Nat.le_of_eq g72.symm))), (Nat.ne_of_lt (Nat.lt_of_lt_of_le (((((((((((A10.wr W16).ext E24).wr W30).ext E36).wr W42).ext E48).wr W54).ext E60).wr W66).ext E72).wr W78).lt (Nat.le_of_eq g84.symm))), (Nat.ne_of_lt (Nat.lt_of_lt_of_le (A24.wr W30).lt (Nat.le_of_eq g36.symm))), (Nat.ne_of_lt (Nat.lt_of_lt_of_le (((A24.wr W30).ext E36).wr W42).lt (Nat.le_of_eq g48.symm))), (Nat.ne_of_lt (Nat.lt_of_lt_of_le (((((A24.wr W30).ext E36).wr W42).ext E48).wr W54).lt (Nat.le_of_eq g60.symm))), (Nat.ne_of_lt (Nat.lt_of_lt_of_le (((((((A24.wr W30).ext E36).wr W42).ext E48).wr W54).ext E60).wr W66).lt (Nat.le_of_eq g72.symm))), (Nat.ne_of_lt (Nat.lt_of_lt_of_le (((((((((A24.wr W30).ext E36).wr W42).ext E48).wr W54).ext E60).wr W66).ext E72).wr W78).lt (Nat.le_of_eq g84.symm))), (Nat.ne_of_lt (Nat.lt_of_lt_of_le (A36.wr W42).lt (Nat.le_of_eq g48.symm))), (Nat.ne_of_lt (Nat.lt_of_lt_of_le (((A36.wr W42).ext E48).wr W54).lt (Nat.le_of_eq g60.symm))), (Nat.ne_of_lt (Nat.lt_of_lt_of_le (((((A36.wr W42).ext E48).wr W54).ext E60).wr W66).lt (Nat.le_of_eq g72.symm))), (Nat.ne_of_lt (Nat.lt_of_lt_of_le (((((((A36.wr W42).ext E48).wr W54).ext E60).wr W66).ext E72).wr W78).lt (Nat.le_of_eq g84.symm))), (Nat.ne_of_lt (Nat.lt_of_lt_of_le (A48.wr W54).lt (Nat.le_of_eq g60.symm))), (Nat.ne_of_lt (Nat.lt_of_lt_of_le (((A48.wr W54).ext E60).wr W66).lt (Nat.le_of_eq g72.symm))), (Nat.ne_of_lt (Nat.lt_of_lt_of_le (((((A48.wr W54).ext E60).wr W66).ext E72).wr W78).lt (Nat.le_of_eq g84.symm))), (Nat.ne_of_lt (Nat.lt_of_lt_of_le (A60.wr W66).lt (Nat.le_of_eq g72.symm))), (Nat.ne_of_lt (Nat.lt_of_lt_of_le (((A60.wr W66).ext E72).wr W78).lt (Nat.le_of_eq g84.symm))), (Nat.ne_of_lt (Nat.lt_of_lt_of_le (A72.wr W78).lt (Nat.le_of_eq g84.symm)))⟩
def Q_isConflictingT (Z : State) (w_POOL : Addr) (w_NO_RULE : Addr) (w_ONE_RULE : Addr) (w_MANY_RULES : Addr) (a1 : Addr) (h0 : Heap) (n0 : Nat) (v : Option Value) (h : Heap) (L : List Loc) : Prop := (v = some (.int (1 : Int32))) ∧ (Fr n0 L) ∧ (h = h0)
set_option maxRecDepth 65536 in
set_option maxHeartbeats 40000000 in
theorem isConflictingT (l : Launch) (Z : State) (a0 : Array Value) (hw : ∀ d ∈ tables_1, d.before a0 Z = true) (ws : List Jvm.Cond) (w_POOL : Addr) (w_NO_RULE : Addr) (w_ONE_RULE : Addr) (w_MANY_RULES : Addr) (G : Gst Z w_POOL w_NO_RULE w_ONE_RULE w_MANY_RULES) (a1 : Addr) (h0 : Heap) (n0 : Nat) (O0 : Old Z n0 h0) :
    MetFree l (⟨"com/example/rulework/bench/Burst$SelfConflictingRule", "isConflicting", "(Lcom/example/rulework/rulework/SchedulingRule;)Z"⟩ : MethodName) (head1 (Jvm.Cond.code (⟨"com/example/rulework/bench/Burst$SelfConflictingRule", "isConflicting", "(Lcom/example/rulework/rulework/SchedulingRule;)Z"⟩ : MethodName) prog_2_method_2_code 2 (some .boolean) :: ws) ({ frames := 0, cells := 0, slots := 0, locals := 0 } : Room)) (fun a U => a = #[(.ref a1), (.ref a1)] ∧ Z.Warmed39 U.vm ∧ U.heap = h0) (fun _ _ _ _ _ => True) (fun _ U o U' => ∃ v L, o = .returned v ∧ Q_isConflictingT Z w_POOL w_NO_RULE w_ONE_RULE w_MANY_RULES a1 h0 n0 v U'.heap L ∧ FrameEnd U o U' L ({ frames := 0, cells := 0, slots := 0, locals := 0 } : Room).cells ({ frames := 0, cells := 0, slots := 0, locals := 0 } : Room).slots) := by
  refine MetFree.of_bodySF (plainFor_of_name pn_2) hisR ?_
  intro p e s m args below meth c s₁ Bd hml0 hP hK
  obtain ⟨rfl, hZ, hh⟩ := hP
  have hx := Bd.exec
  have hby := Bd.bytes
  have hml : c.maxLocals = 2 := hml0
  have hown : s.vm.findClass "com/example/rulework/bench/Burst$SelfConflictingRule" = some m.cls := findClass_of_methodNamed Bd.named
  have hnm := (name_of_methodNamed Bd.named Bd.method).1
  have X0 : Stand p l e ({ frames := 0, cells := 0, slots := 0, locals := 0 } : Room) s m #[(.ref a1), (.ref a1)] below meth c s₁ [] 0 0 := Stand.of_body Bd
  have e0 : s₁.heap = h0 := by rw [← hh, Bd.state]; rfl
  have N0 := Fr.nil n0
  obtain ⟨S_w_POOL, E_w_POOL, F_w_POOL_ordinal, S_w_NO_RULE, E_w_NO_RULE, F_w_NO_RULE_ordinal, S_w_ONE_RULE, E_w_ONE_RULE, F_w_ONE_RULE_ordinal, S_w_MANY_RULES, E_w_MANY_RULES, F_w_MANY_RULES_ordinal⟩ := id G
  have k0 : Way p e below (s₁.setTop (entryFrame m #[(.ref a1), (.ref a1)] 2)) s₁ (mkF m 0 #[rv a1, rv a1] []) := fun t k => castTop (by first | (simp [entryFrame, mkF, argsToLocals, Value.category]; done) | rfl) k
  generalize s₁.setTop (entryFrame m #[(.ref a1), (.ref a1)] 2) = S0 at k0 ⊢
  have k1 : Way p e below S0 s₁ (mkF m 10 #[rv a1, rv a1] [(.int (1 : Int32))]) := by
    intro t k
    refine k0 t ?_
    refine XS.aloadN X0.here hx rfl (hb hby d_prog_2_method_2_code_0) rfl rfl ?_
    show Steps p.tables e below (s₁.setTop (mkF m 1 #[rv a1, rv a1] [(.ref a1)])) _
    refine XS.aloadN X0.here hx rfl (hb hby d_prog_2_method_2_code_1) rfl rfl ?_
    show Steps p.tables e below (s₁.setTop (mkF m 2 #[rv a1, rv a1] [(.ref a1), (.ref a1)])) _
    refine Jvm.RoadKit.acmp (g := (mkF m 2 #[rv a1, rv a1] [(.ref a1), (.ref a1)])) X0 hx rfl rfl rfl (pc0 := 2) (pc' := 5) (same := true) rfl (hb hby d_prog_2_method_2_code_2) rfl (decide_eq_true rfl) (by decide) (by decide) ?_
    show Steps p.tables e below (s₁.setTop (mkF m 5 #[rv a1, rv a1] [])) _
    refine XS.iconst X0.here hx rfl (hb hby d_prog_2_method_2_code_5) ?_
    show Steps p.tables e below (s₁.setTop (mkF m 6 #[rv a1, rv a1] [(.int (1 : Int32))])) _
    refine XS.goto X0.here hx rfl (pc0 := 6) (pc' := 10) rfl (hb hby d_prog_2_method_2_code_6) (by decide) (by decide) ?_
    show Steps p.tables e below (s₁.setTop (mkF m 10 #[rv a1, rv a1] [(.int (1 : Int32))])) _
    exact k
  obtain ⟨fs, hr, hrun, hended, hW, hsame⟩ := X0.leave (v := some (.int (1 : Int32))) (fun h => by rw [Bd.returns] at h; cases h)
  refine ⟨_, _, k1 _ (retN X0 hx (t := .boolean) Bd.returns (by simp) (hb hby d_prog_2_method_2_code_10) hr), hrun, hended, _, _, rfl, ?_, ⟨_, rfl⟩, hW, hsame.mono (by decide) (by decide)⟩
  show Q_isConflictingT Z w_POOL w_NO_RULE w_ONE_RULE w_MANY_RULES a1 h0 n0 _ s₁.heap _
  rw [e0]
  exact ⟨rfl, N0, rfl⟩
def Q_isConflictingF (Z : State) (w_POOL : Addr) (w_NO_RULE : Addr) (w_ONE_RULE : Addr) (w_MANY_RULES : Addr) (a1 : Addr) (a2 : Addr) (h0 : Heap) (n0 : Nat) (v : Option Value) (h : Heap) (L : List Loc) : Prop := (v = some (.int (0 : Int32))) ∧ (Fr n0 L) ∧ (h = h0)
set_option maxRecDepth 65536 in
set_option maxHeartbeats 40000000 in
theorem isConflictingF (l : Launch) (Z : State) (a0 : Array Value) (hw : ∀ d ∈ tables_1, d.before a0 Z = true) (ws : List Jvm.Cond) (w_POOL : Addr) (w_NO_RULE : Addr) (w_ONE_RULE : Addr) (w_MANY_RULES : Addr) (G : Gst Z w_POOL w_NO_RULE w_ONE_RULE w_MANY_RULES) (a1 : Addr) (a2 : Addr) (h0 : Heap) (n0 : Nat) (O0 : Old Z n0 h0) (hne : ¬ (a2 = a1)) :
    MetFree l (⟨"com/example/rulework/bench/Burst$SelfConflictingRule", "isConflicting", "(Lcom/example/rulework/rulework/SchedulingRule;)Z"⟩ : MethodName) (head1 (Jvm.Cond.code (⟨"com/example/rulework/bench/Burst$SelfConflictingRule", "isConflicting", "(Lcom/example/rulework/rulework/SchedulingRule;)Z"⟩ : MethodName) prog_2_method_2_code 2 (some .boolean) :: ws) ({ frames := 0, cells := 0, slots := 0, locals := 0 } : Room)) (fun a U => a = #[(.ref a1), (.ref a2)] ∧ Z.Warmed39 U.vm ∧ U.heap = h0) (fun _ _ _ _ _ => True) (fun _ U o U' => ∃ v L, o = .returned v ∧ Q_isConflictingF Z w_POOL w_NO_RULE w_ONE_RULE w_MANY_RULES a1 a2 h0 n0 v U'.heap L ∧ FrameEnd U o U' L ({ frames := 0, cells := 0, slots := 0, locals := 0 } : Room).cells ({ frames := 0, cells := 0, slots := 0, locals := 0 } : Room).slots) := by
  refine MetFree.of_bodySF (plainFor_of_name pn_2) hisR ?_
  intro p e s m args below meth c s₁ Bd hml0 hP hK
  obtain ⟨rfl, hZ, hh⟩ := hP
  have hx := Bd.exec
  have hby := Bd.bytes
  have hml : c.maxLocals = 2 := hml0
  have hown : s.vm.findClass "com/example/rulework/bench/Burst$SelfConflictingRule" = some m.cls := findClass_of_methodNamed Bd.named
  have hnm := (name_of_methodNamed Bd.named Bd.method).1
  have X0 : Stand p l e ({ frames := 0, cells := 0, slots := 0, locals := 0 } : Room) s m #[(.ref a1), (.ref a2)] below meth c s₁ [] 0 0 := Stand.of_body Bd
  have e0 : s₁.heap = h0 := by rw [← hh, Bd.state]; rfl
  have N0 := Fr.nil n0
  obtain ⟨S_w_POOL, E_w_POOL, F_w_POOL_ordinal, S_w_NO_RULE, E_w_NO_RULE, F_w_NO_RULE_ordinal, S_w_ONE_RULE, E_w_ONE_RULE, F_w_ONE_RULE_ordinal, S_w_MANY_RULES, E_w_MANY_RULES, F_w_MANY_RULES_ordinal⟩ := id G
  have k0 : Way p e below (s₁.setTop (entryFrame m #[(.ref a1), (.ref a2)] 2)) s₁ (mkF m 0 #[rv a1, rv a2] []) := fun t k => castTop (by first | (simp [entryFrame, mkF, argsToLocals, Value.category]; done) | rfl) k
  generalize s₁.setTop (entryFrame m #[(.ref a1), (.ref a2)] 2) = S0 at k0 ⊢
  have k1 : Way p e below S0 s₁ (mkF m 10 #[rv a1, rv a2] [(.int (0 : Int32))]) := by
    intro t k
    refine k0 t ?_
    refine XS.aloadN X0.here hx rfl (hb hby d_prog_2_method_2_code_0) rfl rfl ?_
    show Steps p.tables e below (s₁.setTop (mkF m 1 #[rv a1, rv a2] [(.ref a2)])) _
    refine XS.aloadN X0.here hx rfl (hb hby d_prog_2_method_2_code_1) rfl rfl ?_
    show Steps p.tables e below (s₁.setTop (mkF m 2 #[rv a1, rv a2] [(.ref a1), (.ref a2)])) _
    refine Jvm.RoadKit.acmp (g := (mkF m 2 #[rv a1, rv a2] [(.ref a1), (.ref a2)])) X0 hx rfl rfl rfl (pc0 := 2) (pc' := 9) (same := false) rfl (hb hby d_prog_2_method_2_code_2) rfl (decide_eq_false fun q => absurd (Value.ref.inj q) hne) (by decide) (by decide) ?_
    show Steps p.tables e below (s₁.setTop (mkF m 9 #[rv a1, rv a2] [])) _
    refine XS.iconst X0.here hx rfl (hb hby d_prog_2_method_2_code_9) ?_
    show Steps p.tables e below (s₁.setTop (mkF m 10 #[rv a1, rv a2] [(.int (0 : Int32))])) _
    exact k
  obtain ⟨fs, hr, hrun, hended, hW, hsame⟩ := X0.leave (v := some (.int (0 : Int32))) (fun h => by rw [Bd.returns] at h; cases h)
  refine ⟨_, _, k1 _ (retN X0 hx (t := .boolean) Bd.returns (by simp) (hb hby d_prog_2_method_2_code_10) hr), hrun, hended, _, _, rfl, ?_, ⟨_, rfl⟩, hW, hsame.mono (by decide) (by decide)⟩
  show Q_isConflictingF Z w_POOL w_NO_RULE w_ONE_RULE w_MANY_RULES a1 a2 h0 n0 _ s₁.heap _
  rw [e0]
  exact ⟨rfl, N0, rfl⟩
def Q_containsT (Z : State) (w_POOL : Addr) (w_NO_RULE : Addr) (w_ONE_RULE : Addr) (w_MANY_RULES : Addr) (a1 : Addr) (h0 : Heap) (n0 : Nat) (v : Option Value) (h : Heap) (L : List Loc) : Prop := (v = some (.int (1 : Int32))) ∧ (Fr n0 L) ∧ (h = h0)
set_option maxRecDepth 65536 in
set_option maxHeartbeats 40000000 in
theorem containsT (l : Launch) (Z : State) (a0 : Array Value) (hw : ∀ d ∈ tables_1, d.before a0 Z = true) (ws : List Jvm.Cond) (w_POOL : Addr) (w_NO_RULE : Addr) (w_ONE_RULE : Addr) (w_MANY_RULES : Addr) (G : Gst Z w_POOL w_NO_RULE w_ONE_RULE w_MANY_RULES) (a1 : Addr) (h0 : Heap) (n0 : Nat) (O0 : Old Z n0 h0) :
    MetFree l (⟨"com/example/rulework/bench/Burst$SelfConflictingRule", "contains", "(Lcom/example/rulework/rulework/SchedulingRule;)Z"⟩ : MethodName) (head1 (Jvm.Cond.code (⟨"com/example/rulework/bench/Burst$SelfConflictingRule", "contains", "(Lcom/example/rulework/rulework/SchedulingRule;)Z"⟩ : MethodName) prog_2_method_3_code 2 (some .boolean) :: ws) ({ frames := 0, cells := 0, slots := 0, locals := 0 } : Room)) (fun a U => a = #[(.ref a1), (.ref a1)] ∧ Z.Warmed39 U.vm ∧ U.heap = h0) (fun _ _ _ _ _ => True) (fun _ U o U' => ∃ v L, o = .returned v ∧ Q_containsT Z w_POOL w_NO_RULE w_ONE_RULE w_MANY_RULES a1 h0 n0 v U'.heap L ∧ FrameEnd U o U' L ({ frames := 0, cells := 0, slots := 0, locals := 0 } : Room).cells ({ frames := 0, cells := 0, slots := 0, locals := 0 } : Room).slots) := by
  refine MetFree.of_bodySF (plainFor_of_name pn_2) hisR ?_
  intro p e s m args below meth c s₁ Bd hml0 hP hK
  obtain ⟨rfl, hZ, hh⟩ := hP
  have hx := Bd.exec
  have hby := Bd.bytes
  have hml : c.maxLocals = 2 := hml0
  have hown : s.vm.findClass "com/example/rulework/bench/Burst$SelfConflictingRule" = some m.cls := findClass_of_methodNamed Bd.named
  have hnm := (name_of_methodNamed Bd.named Bd.method).1
  have X0 : Stand p l e ({ frames := 0, cells := 0, slots := 0, locals := 0 } : Room) s m #[(.ref a1), (.ref a1)] below meth c s₁ [] 0 0 := Stand.of_body Bd
  have e0 : s₁.heap = h0 := by rw [← hh, Bd.state]; rfl
  have N0 := Fr.nil n0
  obtain ⟨S_w_POOL, E_w_POOL, F_w_POOL_ordinal, S_w_NO_RULE, E_w_NO_RULE, F_w_NO_RULE_ordinal, S_w_ONE_RULE, E_w_ONE_RULE, F_w_ONE_RULE_ordinal, S_w_MANY_RULES, E_w_MANY_RULES, F_w_MANY_RULES_ordinal⟩ := id G
  have k0 : Way p e below (s₁.setTop (entryFrame m #[(.ref a1), (.ref a1)] 2)) s₁ (mkF m 0 #[rv a1, rv a1] []) := fun t k => castTop (by first | (simp [entryFrame, mkF, argsToLocals, Value.category]; done) | rfl) k
  generalize s₁.setTop (entryFrame m #[(.ref a1), (.ref a1)] 2) = S0 at k0 ⊢
  have k1 : Way p e below S0 s₁ (mkF m 10 #[rv a1, rv a1] [(.int (1 : Int32))]) := by
    intro t k
    refine k0 t ?_
    refine XS.aloadN X0.here hx rfl (hb hby d_prog_2_method_3_code_0) rfl rfl ?_
    show Steps p.tables e below (s₁.setTop (mkF m 1 #[rv a1, rv a1] [(.ref a1)])) _
    refine XS.aloadN X0.here hx rfl (hb hby d_prog_2_method_3_code_1) rfl rfl ?_
    show Steps p.tables e below (s₁.setTop (mkF m 2 #[rv a1, rv a1] [(.ref a1), (.ref a1)])) _
    refine Jvm.RoadKit.acmp (g := (mkF m 2 #[rv a1, rv a1] [(.ref a1), (.ref a1)])) X0 hx rfl rfl rfl (pc0 := 2) (pc' := 5) (same := true) rfl (hb hby d_prog_2_method_3_code_2) rfl (decide_eq_true rfl) (by decide) (by decide) ?_
    show Steps p.tables e below (s₁.setTop (mkF m 5 #[rv a1, rv a1] [])) _
    refine XS.iconst X0.here hx rfl (hb hby d_prog_2_method_3_code_5) ?_
    show Steps p.tables e below (s₁.setTop (mkF m 6 #[rv a1, rv a1] [(.int (1 : Int32))])) _
    refine XS.goto X0.here hx rfl (pc0 := 6) (pc' := 10) rfl (hb hby d_prog_2_method_3_code_6) (by decide) (by decide) ?_
    show Steps p.tables e below (s₁.setTop (mkF m 10 #[rv a1, rv a1] [(.int (1 : Int32))])) _
    exact k
  obtain ⟨fs, hr, hrun, hended, hW, hsame⟩ := X0.leave (v := some (.int (1 : Int32))) (fun h => by rw [Bd.returns] at h; cases h)
  refine ⟨_, _, k1 _ (retN X0 hx (t := .boolean) Bd.returns (by simp) (hb hby d_prog_2_method_3_code_10) hr), hrun, hended, _, _, rfl, ?_, ⟨_, rfl⟩, hW, hsame.mono (by decide) (by decide)⟩
  show Q_containsT Z w_POOL w_NO_RULE w_ONE_RULE w_MANY_RULES a1 h0 n0 _ s₁.heap _
  rw [e0]
  exact ⟨rfl, N0, rfl⟩
def Q_containsF (Z : State) (w_POOL : Addr) (w_NO_RULE : Addr) (w_ONE_RULE : Addr) (w_MANY_RULES : Addr) (a1 : Addr) (a2 : Addr) (h0 : Heap) (n0 : Nat) (v : Option Value) (h : Heap) (L : List Loc) : Prop := (v = some (.int (0 : Int32))) ∧ (Fr n0 L) ∧ (h = h0)
set_option maxRecDepth 65536 in
set_option maxHeartbeats 40000000 in
theorem containsF (l : Launch) (Z : State) (a0 : Array Value) (hw : ∀ d ∈ tables_1, d.before a0 Z = true) (ws : List Jvm.Cond) (w_POOL : Addr) (w_NO_RULE : Addr) (w_ONE_RULE : Addr) (w_MANY_RULES : Addr) (G : Gst Z w_POOL w_NO_RULE w_ONE_RULE w_MANY_RULES) (a1 : Addr) (a2 : Addr) (h0 : Heap) (n0 : Nat) (O0 : Old Z n0 h0) (hne : ¬ (a2 = a1)) :
    MetFree l (⟨"com/example/rulework/bench/Burst$SelfConflictingRule", "contains", "(Lcom/example/rulework/rulework/SchedulingRule;)Z"⟩ : MethodName) (head1 (Jvm.Cond.code (⟨"com/example/rulework/bench/Burst$SelfConflictingRule", "contains", "(Lcom/example/rulework/rulework/SchedulingRule;)Z"⟩ : MethodName) prog_2_method_3_code 2 (some .boolean) :: ws) ({ frames := 0, cells := 0, slots := 0, locals := 0 } : Room)) (fun a U => a = #[(.ref a1), (.ref a2)] ∧ Z.Warmed39 U.vm ∧ U.heap = h0) (fun _ _ _ _ _ => True) (fun _ U o U' => ∃ v L, o = .returned v ∧ Q_containsF Z w_POOL w_NO_RULE w_ONE_RULE w_MANY_RULES a1 a2 h0 n0 v U'.heap L ∧ FrameEnd U o U' L ({ frames := 0, cells := 0, slots := 0, locals := 0 } : Room).cells ({ frames := 0, cells := 0, slots := 0, locals := 0 } : Room).slots) := by
  refine MetFree.of_bodySF (plainFor_of_name pn_2) hisR ?_
  intro p e s m args below meth c s₁ Bd hml0 hP hK
  obtain ⟨rfl, hZ, hh⟩ := hP
  have hx := Bd.exec
  have hby := Bd.bytes
  have hml : c.maxLocals = 2 := hml0
  have hown : s.vm.findClass "com/example/rulework/bench/Burst$SelfConflictingRule" = some m.cls := findClass_of_methodNamed Bd.named
  have hnm := (name_of_methodNamed Bd.named Bd.method).1
  have X0 : Stand p l e ({ frames := 0, cells := 0, slots := 0, locals := 0 } : Room) s m #[(.ref a1), (.ref a2)] below meth c s₁ [] 0 0 := Stand.of_body Bd
  have e0 : s₁.heap = h0 := by rw [← hh, Bd.state]; rfl
  have N0 := Fr.nil n0
  obtain ⟨S_w_POOL, E_w_POOL, F_w_POOL_ordinal, S_w_NO_RULE, E_w_NO_RULE, F_w_NO_RULE_ordinal, S_w_ONE_RULE, E_w_ONE_RULE, F_w_ONE_RULE_ordinal, S_w_MANY_RULES, E_w_MANY_RULES, F_w_MANY_RULES_ordinal⟩ := id G
  have k0 : Way p e below (s₁.setTop (entryFrame m #[(.ref a1), (.ref a2)] 2)) s₁ (mkF m 0 #[rv a1, rv a2] []) := fun t k => castTop (by first | (simp [entryFrame, mkF, argsToLocals, Value.category]; done) | rfl) k
  generalize s₁.setTop (entryFrame m #[(.ref a1), (.ref a2)] 2) = S0 at k0 ⊢
  have k1 : Way p e below S0 s₁ (mkF m 10 #[rv a1, rv a2] [(.int (0 : Int32))]) := by
    intro t k
    refine k0 t ?_
    refine XS.aloadN X0.here hx rfl (hb hby d_prog_2_method_3_code_0) rfl rfl ?_
    show Steps p.tables e below (s₁.setTop (mkF m 1 #[rv a1, rv a2] [(.ref a2)])) _
    refine XS.aloadN X0.here hx rfl (hb hby d_prog_2_method_3_code_1) rfl rfl ?_
    show Steps p.tables e below (s₁.setTop (mkF m 2 #[rv a1, rv a2] [(.ref a1), (.ref a2)])) _
    refine Jvm.RoadKit.acmp (g := (mkF m 2 #[rv a1, rv a2] [(.ref a1), (.ref a2)])) X0 hx rfl rfl rfl (pc0 := 2) (pc' := 9) (same := false) rfl (hb hby d_prog_2_method_3_code_2) rfl (decide_eq_false fun q => absurd (Value.ref.inj q) hne) (by decide) (by decide) ?_
    show Steps p.tables e below (s₁.setTop (mkF m 9 #[rv a1, rv a2] [])) _
    refine XS.iconst X0.here hx rfl (hb hby d_prog_2_method_3_code_9) ?_
    show Steps p.tables e below (s₁.setTop (mkF m 10 #[rv a1, rv a2] [(.int (0 : Int32))])) _
    exact k
  obtain ⟨fs, hr, hrun, hended, hW, hsame⟩ := X0.leave (v := some (.int (0 : Int32))) (fun h => by rw [Bd.returns] at h; cases h)
  refine ⟨_, _, k1 _ (retN X0 hx (t := .boolean) Bd.returns (by simp) (hb hby d_prog_2_method_3_code_10) hr), hrun, hended, _, _, rfl, ?_, ⟨_, rfl⟩, hW, hsame.mono (by decide) (by decide)⟩
  show Q_containsF Z w_POOL w_NO_RULE w_ONE_RULE w_MANY_RULES a1 a2 h0 n0 _ s₁.heap _
  rw [e0]
  exact ⟨rfl, N0, rfl⟩
set_option maxRecDepth 65536 in
set_option maxHeartbeats 40000000 in
theorem tail_same {p : Program} {l : Launch} {e : Env} {s : State} {m : MethodId} {args : Array Value} {below : List Frame} {meth : Method} {c : Code} {T0 : State} {locs : List Loc} {cells slots : Nat} {Z : State} {a0 : Array Value} {h0 : Heap} {n0 : Nat} (w_POOL : Addr) (w_NO_RULE : Addr) (w_ONE_RULE : Addr) (w_MANY_RULES : Addr) (G : Gst Z w_POOL w_NO_RULE w_ONE_RULE w_MANY_RULES) (p1 : Int32) (p2 : Int32) (p3 : Int32) (p4 : Int32) (q4 : Int32) (w5 : Addr) (g6 : Int32) (g7 : Int32) (b8 : Addr) (b9 : Addr) (ii : Int32) (xx : Addr) (zz : Addr)
    (X0 : Stand p l e room_1 s m args below meth c T0 locs cells slots) (hx : p.tables.exec = Jvm.exec) (hZ : Z.Warmed39 s.vm) (hw : ∀ d ∈ tables_1, d.before a0 Z = true) (hby : c.code = code) (hml : c.maxLocals = 15) (hown : s.vm.findClass "com/example/rulework/bench/BurstMakeRulesPinLaw" = some m.cls) (O0 : Old Z n0 h0) (N0 : Fr n0 locs) (hcl : cells ≤ room_1.cells) (hsl : slots ≤ room_1.slots) (e0 : T0.heap = h0) (a_0 : Exa Z h0 xx "com/example/rulework/bench/Burst$SelfConflictingRule") (a_1 : Exa Z h0 zz "com/example/rulework/bench/Burst$SelfConflictingRule") (nez : zz ≠ xx) :
    ∃ (T' : State) (locs' : List Loc), Stand p l e room_1 s m args below meth c T' locs' cells slots ∧ Fr n0 locs' ∧ T'.heap = h0 ∧ ∀ t, Steps p.tables e below (T'.setTop (mkF m 314 #[iv p1, iv p2, iv p3, iv p4, iv q4, rv w5, iv g6, iv g7, rv b8, rv b9, iv ii, iv ii, rv xx, rv xx, rv zz] [(.int (1 : Int32))])) t → Steps p.tables e below (T0.setTop (mkF m 173 #[iv p1, iv p2, iv p3, iv p4, iv q4, rv w5, iv g6, iv g7, rv b8, rv b9, iv ii, iv ii, rv xx, rv xx, rv zz] [])) t := by
  obtain ⟨S_w_POOL, E_w_POOL, F_w_POOL_ordinal, S_w_NO_RULE, E_w_NO_RULE, F_w_NO_RULE_ordinal, S_w_ONE_RULE, E_w_ONE_RULE, F_w_ONE_RULE_ordinal, S_w_MANY_RULES, E_w_MANY_RULES, F_w_MANY_RULES_ordinal⟩ := id G
  have k1 : Way p e below (T0.setTop (mkF m 173 #[iv p1, iv p2, iv p3, iv p4, iv q4, rv w5, iv g6, iv g7, rv b8, rv b9, iv ii, iv ii, rv xx, rv xx, rv zz] [])) T0 (mkF m 194 #[iv p1, iv p2, iv p3, iv p4, iv q4, rv w5, iv g6, iv g7, rv b8, rv b9, iv ii, iv ii, rv xx, rv xx, rv zz] [(.ref xx), (.ref xx)]) := by
    intro t k
    refine (fun t k => k) t ?_
    refine XS.aload X0.here hx rfl (hb hby at_173) rfl rfl ?_
    show Steps p.tables e below (T0.setTop (mkF m 175 #[iv p1, iv p2, iv p3, iv p4, iv q4, rv w5, iv g6, iv g7, rv b8, rv b9, iv ii, iv ii, rv xx, rv xx, rv zz] [(.ref xx)])) _
    refine XS.ifnullNo X0.here hx rfl (hb hby at_175) rfl ?_
    show Steps p.tables e below (T0.setTop (mkF m 178 #[iv p1, iv p2, iv p3, iv p4, iv q4, rv w5, iv g6, iv g7, rv b8, rv b9, iv ii, iv ii, rv xx, rv xx, rv zz] [])) _
    refine XS.aload X0.here hx rfl (hb hby at_178) rfl rfl ?_
    show Steps p.tables e below (T0.setTop (mkF m 180 #[iv p1, iv p2, iv p3, iv p4, iv q4, rv w5, iv g6, iv g7, rv b8, rv b9, iv ii, iv ii, rv xx, rv xx, rv zz] [(.ref xx)])) _
    refine XS.ifnullNo X0.here hx rfl (hb hby at_180) rfl ?_
    show Steps p.tables e below (T0.setTop (mkF m 183 #[iv p1, iv p2, iv p3, iv p4, iv q4, rv w5, iv g6, iv g7, rv b8, rv b9, iv ii, iv ii, rv xx, rv xx, rv zz] [])) _
    refine XS.aload X0.here hx rfl (hb hby at_183) rfl rfl ?_
    show Steps p.tables e below (T0.setTop (mkF m 185 #[iv p1, iv p2, iv p3, iv p4, iv q4, rv w5, iv g6, iv g7, rv b8, rv b9, iv ii, iv ii, rv xx, rv xx, rv zz] [(.ref zz)])) _
    refine XS.ifnonnullYes X0.here hx rfl (pc0 := 185) (pc' := 190) rfl (hb hby at_185) rfl (by decide) (by decide) ?_
    show Steps p.tables e below (T0.setTop (mkF m 190 #[iv p1, iv p2, iv p3, iv p4, iv q4, rv w5, iv g6, iv g7, rv b8, rv b9, iv ii, iv ii, rv xx, rv xx, rv zz] [])) _
    refine XS.aload X0.here hx rfl (hb hby at_190) rfl rfl ?_
    show Steps p.tables e below (T0.setTop (mkF m 192 #[iv p1, iv p2, iv p3, iv p4, iv q4, rv w5, iv g6, iv g7, rv b8, rv b9, iv ii, iv ii, rv xx, rv xx, rv zz] [(.ref xx)])) _
    refine XS.aload X0.here hx rfl (hb hby at_192) rfl rfl ?_
    show Steps p.tables e below (T0.setTop (mkF m 194 #[iv p1, iv p2, iv p3, iv p4, iv q4, rv w5, iv g6, iv g7, rv b8, rv b9, iv ii, iv ii, rv xx, rv xx, rv zz] [(.ref xx), (.ref xx)])) _
    exact k
  obtain ⟨cq2, kq2, qq2a, qq2b, qq2c⟩ := isOf hZ e0 a_0
  obtain ⟨_, _, ⟨T2, L2, kk2, nn2⟩, -, X2, ⟨Lc2, hQ2, l2, y2, z2⟩, st2⟩ := X0.interfaceBack hx (xi := (⟨"com/example/rulework/rulework/SchedulingRule", "isConflicting", "(Lcom/example/rulework/rulework/SchedulingRule;)Z"⟩ : MethodName)) (y := (⟨"com/example/rulework/bench/Burst$SelfConflictingRule", "isConflicting", "(Lcom/example/rulework/rulework/SchedulingRule;)Z"⟩ : MethodName)) hown (mvT hZ (hw _ (List.mem_of_getElem? (i := 37) rfl))) (mvT hZ (hw _ (List.mem_of_getElem? (i := 38) rfl))) (mvT hZ (hw _ (List.mem_of_getElem? (i := 39) rfl))) (mvT hZ (hw _ (List.mem_of_getElem? (i := 40) rfl))) (mvT hZ (hw _ (List.mem_of_getElem? (i := 41) rfl))) (mvT hZ (hw _ (List.mem_of_getElem? (i := 42) rfl))) (mvT hZ (hw _ (List.mem_of_getElem? (i := 43) rfl))) (mvT hZ (hw _ (List.mem_of_getElem? (i := 35) rfl))) (by decide) (backOf (W := 0) (isConflictingT l Z a0 hw [] w_POOL w_NO_RULE w_ONE_RULE w_MANY_RULES G xx h0 n0 O0 ) hZ (hw _ (List.mem_of_getElem? (i := 44) rfl)) (hw _ (List.mem_of_getElem? (i := 28) rfl)) (by decide) (by decide)) qq2a qq2b qq2c (g := (mkF m 194 #[iv p1, iv p2, iv p3, iv p4, iv q4, rv w5, iv g6, iv g7, rv b8, rv b9, iv ii, iv ii, rv xx, rv xx, rv zz] [(.ref xx), (.ref xx)])) rfl (by rw [hml]; rfl) (Steps.refl _) (argsL := [(.ref xx)]) (rest := []) (lenOf pd_3 rfl) rfl (by show 2 * 0 + _ ≤ _; exact Nat.le_of_eq rfl) (hb hby at_194) (fun _ _ => ⟨rfl, e0, hcl, hsl⟩)
  dsimp only [Pt.U, Pt.locs, Pt.cells, Pt.slots] at X2 l2 y2 z2 st2 hQ2
  subst l2 y2 z2
  obtain ⟨rfl, Nq2, e2⟩ := hQ2
  have N2 := Fr.app N0 Nq2
  have k3 : Way p e below (T0.setTop (mkF m 173 #[iv p1, iv p2, iv p3, iv p4, iv q4, rv w5, iv g6, iv g7, rv b8, rv b9, iv ii, iv ii, rv xx, rv xx, rv zz] [])) T2 (mkF m 199 #[iv p1, iv p2, iv p3, iv p4, iv q4, rv w5, iv g6, iv g7, rv b8, rv b9, iv ii, iv ii, rv xx, rv xx, rv zz] [(.int (1 : Int32))]) := fun t k => k1 t (st2.trans k)
  have k4 : Way p e below (T0.setTop (mkF m 173 #[iv p1, iv p2, iv p3, iv p4, iv q4, rv w5, iv g6, iv g7, rv b8, rv b9, iv ii, iv ii, rv xx, rv xx, rv zz] [])) T2 (mkF m 206 #[iv p1, iv p2, iv p3, iv p4, iv q4, rv w5, iv g6, iv g7, rv b8, rv b9, iv ii, iv ii, rv xx, rv xx, rv zz] [(.ref xx), (.ref xx)]) := by
    intro t k
    refine k3 t ?_
    refine XS.ifNo X2.here hx rfl (hb hby at_199) rfl ((if0 _ _).trans (feq ((by decide) : ¬ ((1 : Int32) = (0 : Int32)))).1) ?_
    show Steps p.tables e below (T2.setTop (mkF m 202 #[iv p1, iv p2, iv p3, iv p4, iv q4, rv w5, iv g6, iv g7, rv b8, rv b9, iv ii, iv ii, rv xx, rv xx, rv zz] [])) _
    refine XS.aload X2.here hx rfl (hb hby at_202) rfl rfl ?_
    show Steps p.tables e below (T2.setTop (mkF m 204 #[iv p1, iv p2, iv p3, iv p4, iv q4, rv w5, iv g6, iv g7, rv b8, rv b9, iv ii, iv ii, rv xx, rv xx, rv zz] [(.ref xx)])) _
    refine XS.aload X2.here hx rfl (hb hby at_204) rfl rfl ?_
    show Steps p.tables e below (T2.setTop (mkF m 206 #[iv p1, iv p2, iv p3, iv p4, iv q4, rv w5, iv g6, iv g7, rv b8, rv b9, iv ii, iv ii, rv xx, rv xx, rv zz] [(.ref xx), (.ref xx)])) _
    exact k
  obtain ⟨cq5, kq5, qq5a, qq5b, qq5c⟩ := isOf hZ e2 a_0
  obtain ⟨_, _, ⟨T5, L5, kk5, nn5⟩, -, X5, ⟨Lc5, hQ5, l5, y5, z5⟩, st5⟩ := X2.interfaceBack hx (xi := (⟨"com/example/rulework/rulework/SchedulingRule", "contains", "(Lcom/example/rulework/rulework/SchedulingRule;)Z"⟩ : MethodName)) (y := (⟨"com/example/rulework/bench/Burst$SelfConflictingRule", "contains", "(Lcom/example/rulework/rulework/SchedulingRule;)Z"⟩ : MethodName)) hown (mvT hZ (hw _ (List.mem_of_getElem? (i := 45) rfl))) (mvT hZ (hw _ (List.mem_of_getElem? (i := 46) rfl))) (mvT hZ (hw _ (List.mem_of_getElem? (i := 47) rfl))) (mvT hZ (hw _ (List.mem_of_getElem? (i := 48) rfl))) (mvT hZ (hw _ (List.mem_of_getElem? (i := 49) rfl))) (mvT hZ (hw _ (List.mem_of_getElem? (i := 50) rfl))) (mvT hZ (hw _ (List.mem_of_getElem? (i := 51) rfl))) (mvT hZ (hw _ (List.mem_of_getElem? (i := 35) rfl))) (by decide) (backOf (W := 0) (containsT l Z a0 hw [] w_POOL w_NO_RULE w_ONE_RULE w_MANY_RULES G xx h0 n0 O0 ) hZ (hw _ (List.mem_of_getElem? (i := 52) rfl)) (hw _ (List.mem_of_getElem? (i := 28) rfl)) (by decide) (by decide)) qq5a qq5b qq5c (g := (mkF m 206 #[iv p1, iv p2, iv p3, iv p4, iv q4, rv w5, iv g6, iv g7, rv b8, rv b9, iv ii, iv ii, rv xx, rv xx, rv zz] [(.ref xx), (.ref xx)])) rfl (by rw [hml]; rfl) (Steps.refl _) (argsL := [(.ref xx)]) (rest := []) (lenOf pd_3 rfl) rfl (by show 2 * 0 + _ ≤ _; exact Nat.le_of_eq rfl) (hb hby at_206) (fun _ _ => ⟨rfl, e2, hcl, hsl⟩)
  dsimp only [Pt.U, Pt.locs, Pt.cells, Pt.slots] at X5 l5 y5 z5 st5 hQ5
  subst l5 y5 z5
  obtain ⟨rfl, Nq5, e5⟩ := hQ5
  have N5 := Fr.app N2 Nq5
  have k6 : Way p e below (T0.setTop (mkF m 173 #[iv p1, iv p2, iv p3, iv p4, iv q4, rv w5, iv g6, iv g7, rv b8, rv b9, iv ii, iv ii, rv xx, rv xx, rv zz] [])) T5 (mkF m 211 #[iv p1, iv p2, iv p3, iv p4, iv q4, rv w5, iv g6, iv g7, rv b8, rv b9, iv ii, iv ii, rv xx, rv xx, rv zz] [(.int (1 : Int32))]) := fun t k => k4 t (st5.trans k)
  have k7 : Way p e below (T0.setTop (mkF m 173 #[iv p1, iv p2, iv p3, iv p4, iv q4, rv w5, iv g6, iv g7, rv b8, rv b9, iv ii, iv ii, rv xx, rv xx, rv zz] [])) T5 (mkF m 220 #[iv p1, iv p2, iv p3, iv p4, iv q4, rv w5, iv g6, iv g7, rv b8, rv b9, iv ii, iv ii, rv xx, rv xx, rv zz] [(.ref xx), (.ref xx)]) := by
    intro t k
    refine k6 t ?_
    refine XS.ifYes X5.here hx rfl (pc0 := 211) (pc' := 216) rfl (hb hby at_211) rfl ((if0 _ _).trans (feq ((by decide) : ¬ ((1 : Int32) = (0 : Int32)))).2) (by decide) (by decide) ?_
    show Steps p.tables e below (T5.setTop (mkF m 216 #[iv p1, iv p2, iv p3, iv p4, iv q4, rv w5, iv g6, iv g7, rv b8, rv b9, iv ii, iv ii, rv xx, rv xx, rv zz] [])) _
    refine XS.aload X5.here hx rfl (hb hby at_216) rfl rfl ?_
    show Steps p.tables e below (T5.setTop (mkF m 218 #[iv p1, iv p2, iv p3, iv p4, iv q4, rv w5, iv g6, iv g7, rv b8, rv b9, iv ii, iv ii, rv xx, rv xx, rv zz] [(.ref xx)])) _
    refine XS.aload X5.here hx rfl (hb hby at_218) rfl rfl ?_
    show Steps p.tables e below (T5.setTop (mkF m 220 #[iv p1, iv p2, iv p3, iv p4, iv q4, rv w5, iv g6, iv g7, rv b8, rv b9, iv ii, iv ii, rv xx, rv xx, rv zz] [(.ref xx), (.ref xx)])) _
    exact k
  obtain ⟨cq8, kq8, qq8a, qq8b, qq8c⟩ := isOf hZ e5 a_0
  obtain ⟨_, _, ⟨T8, L8, kk8, nn8⟩, -, X8, ⟨Lc8, hQ8, l8, y8, z8⟩, st8⟩ := X5.interfaceBack hx (xi := (⟨"com/example/rulework/rulework/SchedulingRule", "isConflicting", "(Lcom/example/rulework/rulework/SchedulingRule;)Z"⟩ : MethodName)) (y := (⟨"com/example/rulework/bench/Burst$SelfConflictingRule", "isConflicting", "(Lcom/example/rulework/rulework/SchedulingRule;)Z"⟩ : MethodName)) hown (mvT hZ (hw _ (List.mem_of_getElem? (i := 37) rfl))) (mvT hZ (hw _ (List.mem_of_getElem? (i := 38) rfl))) (mvT hZ (hw _ (List.mem_of_getElem? (i := 39) rfl))) (mvT hZ (hw _ (List.mem_of_getElem? (i := 40) rfl))) (mvT hZ (hw _ (List.mem_of_getElem? (i := 41) rfl))) (mvT hZ (hw _ (List.mem_of_getElem? (i := 42) rfl))) (mvT hZ (hw _ (List.mem_of_getElem? (i := 43) rfl))) (mvT hZ (hw _ (List.mem_of_getElem? (i := 35) rfl))) (by decide) (backOf (W := 0) (isConflictingT l Z a0 hw [] w_POOL w_NO_RULE w_ONE_RULE w_MANY_RULES G xx h0 n0 O0 ) hZ (hw _ (List.mem_of_getElem? (i := 44) rfl)) (hw _ (List.mem_of_getElem? (i := 28) rfl)) (by decide) (by decide)) qq8a qq8b qq8c (g := (mkF m 220 #[iv p1, iv p2, iv p3, iv p4, iv q4, rv w5, iv g6, iv g7, rv b8, rv b9, iv ii, iv ii, rv xx, rv xx, rv zz] [(.ref xx), (.ref xx)])) rfl (by rw [hml]; rfl) (Steps.refl _) (argsL := [(.ref xx)]) (rest := []) (lenOf pd_3 rfl) rfl (by show 2 * 0 + _ ≤ _; exact Nat.le_of_eq rfl) (hb hby at_220) (fun _ _ => ⟨rfl, e5, hcl, hsl⟩)
  dsimp only [Pt.U, Pt.locs, Pt.cells, Pt.slots] at X8 l8 y8 z8 st8 hQ8
  subst l8 y8 z8
  obtain ⟨rfl, Nq8, e8⟩ := hQ8
  have N8 := Fr.app N5 Nq8
  have k9 : Way p e below (T0.setTop (mkF m 173 #[iv p1, iv p2, iv p3, iv p4, iv q4, rv w5, iv g6, iv g7, rv b8, rv b9, iv ii, iv ii, rv xx, rv xx, rv zz] [])) T8 (mkF m 225 #[iv p1, iv p2, iv p3, iv p4, iv q4, rv w5, iv g6, iv g7, rv b8, rv b9, iv ii, iv ii, rv xx, rv xx, rv zz] [(.int (1 : Int32))]) := fun t k => k7 t (st8.trans k)
  have k10 : Way p e below (T0.setTop (mkF m 173 #[iv p1, iv p2, iv p3, iv p4, iv q4, rv w5, iv g6, iv g7, rv b8, rv b9, iv ii, iv ii, rv xx, rv xx, rv zz] [])) T8 (mkF m 246 #[iv p1, iv p2, iv p3, iv p4, iv q4, rv w5, iv g6, iv g7, rv b8, rv b9, iv ii, iv ii, rv xx, rv xx, rv zz] [(.ref xx), (.ref xx)]) := by
    intro t k
    refine k9 t ?_
    refine XS.iload X8.here hx rfl (hb hby at_225) rfl ?_
    show Steps p.tables e below (T8.setTop (mkF m 227 #[iv p1, iv p2, iv p3, iv p4, iv q4, rv w5, iv g6, iv g7, rv b8, rv b9, iv ii, iv ii, rv xx, rv xx, rv zz] [(.int ii), (.int (1 : Int32))])) _
    refine XS.iload X8.here hx rfl (hb hby at_227) rfl ?_
    show Steps p.tables e below (T8.setTop (mkF m 229 #[iv p1, iv p2, iv p3, iv p4, iv q4, rv w5, iv g6, iv g7, rv b8, rv b9, iv ii, iv ii, rv xx, rv xx, rv zz] [(.int ii), (.int ii), (.int (1 : Int32))])) _
    refine XS.icmpNo X8.here hx rfl (hb hby at_229) rfl (teq (rfl : ii = ii)).2 ?_
    show Steps p.tables e below (T8.setTop (mkF m 232 #[iv p1, iv p2, iv p3, iv p4, iv q4, rv w5, iv g6, iv g7, rv b8, rv b9, iv ii, iv ii, rv xx, rv xx, rv zz] [(.int (1 : Int32))])) _
    refine XS.iconst X8.here hx rfl (hb hby at_232) ?_
    show Steps p.tables e below (T8.setTop (mkF m 233 #[iv p1, iv p2, iv p3, iv p4, iv q4, rv w5, iv g6, iv g7, rv b8, rv b9, iv ii, iv ii, rv xx, rv xx, rv zz] [(.int (1 : Int32)), (.int (1 : Int32))])) _
    refine XS.goto X8.here hx rfl (pc0 := 233) (pc' := 237) rfl (hb hby at_233) (by decide) (by decide) ?_
    show Steps p.tables e below (T8.setTop (mkF m 237 #[iv p1, iv p2, iv p3, iv p4, iv q4, rv w5, iv g6, iv g7, rv b8, rv b9, iv ii, iv ii, rv xx, rv xx, rv zz] [(.int (1 : Int32)), (.int (1 : Int32))])) _
    refine XS.icmpYes X8.here hx rfl (pc0 := 237) (pc' := 242) rfl (hb hby at_237) rfl (teq ((by decide) : (1 : Int32) = (1 : Int32))).1 (by decide) (by decide) ?_
    show Steps p.tables e below (T8.setTop (mkF m 242 #[iv p1, iv p2, iv p3, iv p4, iv q4, rv w5, iv g6, iv g7, rv b8, rv b9, iv ii, iv ii, rv xx, rv xx, rv zz] [])) _
    refine XS.aload X8.here hx rfl (hb hby at_242) rfl rfl ?_
    show Steps p.tables e below (T8.setTop (mkF m 244 #[iv p1, iv p2, iv p3, iv p4, iv q4, rv w5, iv g6, iv g7, rv b8, rv b9, iv ii, iv ii, rv xx, rv xx, rv zz] [(.ref xx)])) _
    refine XS.aload X8.here hx rfl (hb hby at_244) rfl rfl ?_
    show Steps p.tables e below (T8.setTop (mkF m 246 #[iv p1, iv p2, iv p3, iv p4, iv q4, rv w5, iv g6, iv g7, rv b8, rv b9, iv ii, iv ii, rv xx, rv xx, rv zz] [(.ref xx), (.ref xx)])) _
    exact k
  obtain ⟨cq11, kq11, qq11a, qq11b, qq11c⟩ := isOf hZ e8 a_0
  obtain ⟨_, _, ⟨T11, L11, kk11, nn11⟩, -, X11, ⟨Lc11, hQ11, l11, y11, z11⟩, st11⟩ := X8.interfaceBack hx (xi := (⟨"com/example/rulework/rulework/SchedulingRule", "contains", "(Lcom/example/rulework/rulework/SchedulingRule;)Z"⟩ : MethodName)) (y := (⟨"com/example/rulework/bench/Burst$SelfConflictingRule", "contains", "(Lcom/example/rulework/rulework/SchedulingRule;)Z"⟩ : MethodName)) hown (mvT hZ (hw _ (List.mem_of_getElem? (i := 45) rfl))) (mvT hZ (hw _ (List.mem_of_getElem? (i := 46) rfl))) (mvT hZ (hw _ (List.mem_of_getElem? (i := 47) rfl))) (mvT hZ (hw _ (List.mem_of_getElem? (i := 48) rfl))) (mvT hZ (hw _ (List.mem_of_getElem? (i := 49) rfl))) (mvT hZ (hw _ (List.mem_of_getElem? (i := 50) rfl))) (mvT hZ (hw _ (List.mem_of_getElem? (i := 51) rfl))) (mvT hZ (hw _ (List.mem_of_getElem? (i := 35) rfl))) (by decide) (backOf (W := 0) (containsT l Z a0 hw [] w_POOL w_NO_RULE w_ONE_RULE w_MANY_RULES G xx h0 n0 O0 ) hZ (hw _ (List.mem_of_getElem? (i := 52) rfl)) (hw _ (List.mem_of_getElem? (i := 28) rfl)) (by decide) (by decide)) qq11a qq11b qq11c (g := (mkF m 246 #[iv p1, iv p2, iv p3, iv p4, iv q4, rv w5, iv g6, iv g7, rv b8, rv b9, iv ii, iv ii, rv xx, rv xx, rv zz] [(.ref xx), (.ref xx)])) rfl (by rw [hml]; rfl) (Steps.refl _) (argsL := [(.ref xx)]) (rest := []) (lenOf pd_3 rfl) rfl (by show 2 * 0 + _ ≤ _; exact Nat.le_of_eq rfl) (hb hby at_246) (fun _ _ => ⟨rfl, e8, hcl, hsl⟩)
  dsimp only [Pt.U, Pt.locs, Pt.cells, Pt.slots] at X11 l11 y11 z11 st11 hQ11
  subst l11 y11 z11
  obtain ⟨rfl, Nq11, e11⟩ := hQ11
  have N11 := Fr.app N8 Nq11
  have k12 : Way p e below (T0.setTop (mkF m 173 #[iv p1, iv p2, iv p3, iv p4, iv q4, rv w5, iv g6, iv g7, rv b8, rv b9, iv ii, iv ii, rv xx, rv xx, rv zz] [])) T11 (mkF m 251 #[iv p1, iv p2, iv p3, iv p4, iv q4, rv w5, iv g6, iv g7, rv b8, rv b9, iv ii, iv ii, rv xx, rv xx, rv zz] [(.int (1 : Int32))]) := fun t k => k10 t (st11.trans k)
  have k13 : Way p e below (T0.setTop (mkF m 173 #[iv p1, iv p2, iv p3, iv p4, iv q4, rv w5, iv g6, iv g7, rv b8, rv b9, iv ii, iv ii, rv xx, rv xx, rv zz] [])) T11 (mkF m 279 #[iv p1, iv p2, iv p3, iv p4, iv q4, rv w5, iv g6, iv g7, rv b8, rv b9, iv ii, iv ii, rv xx, rv xx, rv zz] [(.ref zz), (.ref xx)]) := by
    intro t k
    refine k12 t ?_
    refine XS.iload X11.here hx rfl (hb hby at_251) rfl ?_
    show Steps p.tables e below (T11.setTop (mkF m 253 #[iv p1, iv p2, iv p3, iv p4, iv q4, rv w5, iv g6, iv g7, rv b8, rv b9, iv ii, iv ii, rv xx, rv xx, rv zz] [(.int ii), (.int (1 : Int32))])) _
    refine XS.iload X11.here hx rfl (hb hby at_253) rfl ?_
    show Steps p.tables e below (T11.setTop (mkF m 255 #[iv p1, iv p2, iv p3, iv p4, iv q4, rv w5, iv g6, iv g7, rv b8, rv b9, iv ii, iv ii, rv xx, rv xx, rv zz] [(.int ii), (.int ii), (.int (1 : Int32))])) _
    refine XS.icmpNo X11.here hx rfl (hb hby at_255) rfl (teq (rfl : ii = ii)).2 ?_
    show Steps p.tables e below (T11.setTop (mkF m 258 #[iv p1, iv p2, iv p3, iv p4, iv q4, rv w5, iv g6, iv g7, rv b8, rv b9, iv ii, iv ii, rv xx, rv xx, rv zz] [(.int (1 : Int32))])) _
    refine XS.iconst X11.here hx rfl (hb hby at_258) ?_
    show Steps p.tables e below (T11.setTop (mkF m 259 #[iv p1, iv p2, iv p3, iv p4, iv q4, rv w5, iv g6, iv g7, rv b8, rv b9, iv ii, iv ii, rv xx, rv xx, rv zz] [(.int (1 : Int32)), (.int (1 : Int32))])) _
    refine XS.goto X11.here hx rfl (pc0 := 259) (pc' := 263) rfl (hb hby at_259) (by decide) (by decide) ?_
    show Steps p.tables e below (T11.setTop (mkF m 263 #[iv p1, iv p2, iv p3, iv p4, iv q4, rv w5, iv g6, iv g7, rv b8, rv b9, iv ii, iv ii, rv xx, rv xx, rv zz] [(.int (1 : Int32)), (.int (1 : Int32))])) _
    refine XS.icmpYes X11.here hx rfl (pc0 := 263) (pc' := 268) rfl (hb hby at_263) rfl (teq ((by decide) : (1 : Int32) = (1 : Int32))).1 (by decide) (by decide) ?_
    show Steps p.tables e below (T11.setTop (mkF m 268 #[iv p1, iv p2, iv p3, iv p4, iv q4, rv w5, iv g6, iv g7, rv b8, rv b9, iv ii, iv ii, rv xx, rv xx, rv zz] [])) _
    refine XS.aload X11.here hx rfl (hb hby at_268) rfl rfl ?_
    show Steps p.tables e below (T11.setTop (mkF m 270 #[iv p1, iv p2, iv p3, iv p4, iv q4, rv w5, iv g6, iv g7, rv b8, rv b9, iv ii, iv ii, rv xx, rv xx, rv zz] [(.ref zz)])) _
    refine XS.aload X11.here hx rfl (hb hby at_270) rfl rfl ?_
    show Steps p.tables e below (T11.setTop (mkF m 272 #[iv p1, iv p2, iv p3, iv p4, iv q4, rv w5, iv g6, iv g7, rv b8, rv b9, iv ii, iv ii, rv xx, rv xx, rv zz] [(.ref xx), (.ref zz)])) _
    refine Jvm.RoadKit.acmp (g := (mkF m 272 #[iv p1, iv p2, iv p3, iv p4, iv q4, rv w5, iv g6, iv g7, rv b8, rv b9, iv ii, iv ii, rv xx, rv xx, rv zz] [(.ref xx), (.ref zz)])) X11 hx rfl rfl rfl (pc0 := 272) (pc' := 275) (same := false) rfl (hb hby at_272) rfl (decide_eq_false fun q => absurd (Value.ref.inj q) nez) (by decide) (by decide) ?_
    show Steps p.tables e below (T11.setTop (mkF m 275 #[iv p1, iv p2, iv p3, iv p4, iv q4, rv w5, iv g6, iv g7, rv b8, rv b9, iv ii, iv ii, rv xx, rv xx, rv zz] [])) _
    refine XS.aload X11.here hx rfl (hb hby at_275) rfl rfl ?_
    show Steps p.tables e below (T11.setTop (mkF m 277 #[iv p1, iv p2, iv p3, iv p4, iv q4, rv w5, iv g6, iv g7, rv b8, rv b9, iv ii, iv ii, rv xx, rv xx, rv zz] [(.ref xx)])) _
    refine XS.aload X11.here hx rfl (hb hby at_277) rfl rfl ?_
    show Steps p.tables e below (T11.setTop (mkF m 279 #[iv p1, iv p2, iv p3, iv p4, iv q4, rv w5, iv g6, iv g7, rv b8, rv b9, iv ii, iv ii, rv xx, rv xx, rv zz] [(.ref zz), (.ref xx)])) _
    exact k
  obtain ⟨cq14, kq14, qq14a, qq14b, qq14c⟩ := isOf hZ e11 a_0
  obtain ⟨_, _, ⟨T14, L14, kk14, nn14⟩, -, X14, ⟨Lc14, hQ14, l14, y14, z14⟩, st14⟩ := X11.interfaceBack hx (xi := (⟨"com/example/rulework/rulework/SchedulingRule", "isConflicting", "(Lcom/example/rulework/rulework/SchedulingRule;)Z"⟩ : MethodName)) (y := (⟨"com/example/rulework/bench/Burst$SelfConflictingRule", "isConflicting", "(Lcom/example/rulework/rulework/SchedulingRule;)Z"⟩ : MethodName)) hown (mvT hZ (hw _ (List.mem_of_getElem? (i := 37) rfl))) (mvT hZ (hw _ (List.mem_of_getElem? (i := 38) rfl))) (mvT hZ (hw _ (List.mem_of_getElem? (i := 39) rfl))) (mvT hZ (hw _ (List.mem_of_getElem? (i := 40) rfl))) (mvT hZ (hw _ (List.mem_of_getElem? (i := 41) rfl))) (mvT hZ (hw _ (List.mem_of_getElem? (i := 42) rfl))) (mvT hZ (hw _ (List.mem_of_getElem? (i := 43) rfl))) (mvT hZ (hw _ (List.mem_of_getElem? (i := 35) rfl))) (by decide) (backOf (W := 0) (isConflictingF l Z a0 hw [] w_POOL w_NO_RULE w_ONE_RULE w_MANY_RULES G xx zz h0 n0 O0 (nez : ¬ (zz = xx))) hZ (hw _ (List.mem_of_getElem? (i := 44) rfl)) (hw _ (List.mem_of_getElem? (i := 28) rfl)) (by decide) (by decide)) qq14a qq14b qq14c (g := (mkF m 279 #[iv p1, iv p2, iv p3, iv p4, iv q4, rv w5, iv g6, iv g7, rv b8, rv b9, iv ii, iv ii, rv xx, rv xx, rv zz] [(.ref zz), (.ref xx)])) rfl (by rw [hml]; rfl) (Steps.refl _) (argsL := [(.ref zz)]) (rest := []) (lenOf pd_3 rfl) rfl (by show 2 * 0 + _ ≤ _; exact Nat.le_of_eq rfl) (hb hby at_279) (fun _ _ => ⟨rfl, e11, hcl, hsl⟩)
  dsimp only [Pt.U, Pt.locs, Pt.cells, Pt.slots] at X14 l14 y14 z14 st14 hQ14
  subst l14 y14 z14
  obtain ⟨rfl, Nq14, e14⟩ := hQ14
  have N14 := Fr.app N11 Nq14
  have k15 : Way p e below (T0.setTop (mkF m 173 #[iv p1, iv p2, iv p3, iv p4, iv q4, rv w5, iv g6, iv g7, rv b8, rv b9, iv ii, iv ii, rv xx, rv xx, rv zz] [])) T14 (mkF m 284 #[iv p1, iv p2, iv p3, iv p4, iv q4, rv w5, iv g6, iv g7, rv b8, rv b9, iv ii, iv ii, rv xx, rv xx, rv zz] [(.int (0 : Int32))]) := fun t k => k13 t (st14.trans k)
  have k16 : Way p e below (T0.setTop (mkF m 173 #[iv p1, iv p2, iv p3, iv p4, iv q4, rv w5, iv g6, iv g7, rv b8, rv b9, iv ii, iv ii, rv xx, rv xx, rv zz] [])) T14 (mkF m 291 #[iv p1, iv p2, iv p3, iv p4, iv q4, rv w5, iv g6, iv g7, rv b8, rv b9, iv ii, iv ii, rv xx, rv xx, rv zz] [(.ref xx), (.ref zz)]) := by
    intro t k
    refine k15 t ?_
    refine XS.ifNo X14.here hx rfl (hb hby at_284) rfl ((if0 _ _).trans (teq ((by decide) : (0 : Int32) = (0 : Int32))).2) ?_
    show Steps p.tables e below (T14.setTop (mkF m 287 #[iv p1, iv p2, iv p3, iv p4, iv q4, rv w5, iv g6, iv g7, rv b8, rv b9, iv ii, iv ii, rv xx, rv xx, rv zz] [])) _
    refine XS.aload X14.here hx rfl (hb hby at_287) rfl rfl ?_
    show Steps p.tables e below (T14.setTop (mkF m 289 #[iv p1, iv p2, iv p3, iv p4, iv q4, rv w5, iv g6, iv g7, rv b8, rv b9, iv ii, iv ii, rv xx, rv xx, rv zz] [(.ref zz)])) _
    refine XS.aload X14.here hx rfl (hb hby at_289) rfl rfl ?_
    show Steps p.tables e below (T14.setTop (mkF m 291 #[iv p1, iv p2, iv p3, iv p4, iv q4, rv w5, iv g6, iv g7, rv b8, rv b9, iv ii, iv ii, rv xx, rv xx, rv zz] [(.ref xx), (.ref zz)])) _
    exact k
  obtain ⟨cq17, kq17, qq17a, qq17b, qq17c⟩ := isOf hZ e14 a_1
  obtain ⟨_, _, ⟨T17, L17, kk17, nn17⟩, -, X17, ⟨Lc17, hQ17, l17, y17, z17⟩, st17⟩ := X14.interfaceBack hx (xi := (⟨"com/example/rulework/rulework/SchedulingRule", "isConflicting", "(Lcom/example/rulework/rulework/SchedulingRule;)Z"⟩ : MethodName)) (y := (⟨"com/example/rulework/bench/Burst$SelfConflictingRule", "isConflicting", "(Lcom/example/rulework/rulework/SchedulingRule;)Z"⟩ : MethodName)) hown (mvT hZ (hw _ (List.mem_of_getElem? (i := 37) rfl))) (mvT hZ (hw _ (List.mem_of_getElem? (i := 38) rfl))) (mvT hZ (hw _ (List.mem_of_getElem? (i := 39) rfl))) (mvT hZ (hw _ (List.mem_of_getElem? (i := 40) rfl))) (mvT hZ (hw _ (List.mem_of_getElem? (i := 41) rfl))) (mvT hZ (hw _ (List.mem_of_getElem? (i := 42) rfl))) (mvT hZ (hw _ (List.mem_of_getElem? (i := 43) rfl))) (mvT hZ (hw _ (List.mem_of_getElem? (i := 35) rfl))) (by decide) (backOf (W := 0) (isConflictingF l Z a0 hw [] w_POOL w_NO_RULE w_ONE_RULE w_MANY_RULES G zz xx h0 n0 O0 ((Ne.symm nez) : ¬ (xx = zz))) hZ (hw _ (List.mem_of_getElem? (i := 44) rfl)) (hw _ (List.mem_of_getElem? (i := 28) rfl)) (by decide) (by decide)) qq17a qq17b qq17c (g := (mkF m 291 #[iv p1, iv p2, iv p3, iv p4, iv q4, rv w5, iv g6, iv g7, rv b8, rv b9, iv ii, iv ii, rv xx, rv xx, rv zz] [(.ref xx), (.ref zz)])) rfl (by rw [hml]; rfl) (Steps.refl _) (argsL := [(.ref xx)]) (rest := []) (lenOf pd_3 rfl) rfl (by show 2 * 0 + _ ≤ _; exact Nat.le_of_eq rfl) (hb hby at_291) (fun _ _ => ⟨rfl, e14, hcl, hsl⟩)
  dsimp only [Pt.U, Pt.locs, Pt.cells, Pt.slots] at X17 l17 y17 z17 st17 hQ17
  subst l17 y17 z17
  obtain ⟨rfl, Nq17, e17⟩ := hQ17
  have N17 := Fr.app N14 Nq17
  have k18 : Way p e below (T0.setTop (mkF m 173 #[iv p1, iv p2, iv p3, iv p4, iv q4, rv w5, iv g6, iv g7, rv b8, rv b9, iv ii, iv ii, rv xx, rv xx, rv zz] [])) T17 (mkF m 296 #[iv p1, iv p2, iv p3, iv p4, iv q4, rv w5, iv g6, iv g7, rv b8, rv b9, iv ii, iv ii, rv xx, rv xx, rv zz] [(.int (0 : Int32))]) := fun t k => k16 t (st17.trans k)
  have k19 : Way p e below (T0.setTop (mkF m 173 #[iv p1, iv p2, iv p3, iv p4, iv q4, rv w5, iv g6, iv g7, rv b8, rv b9, iv ii, iv ii, rv xx, rv xx, rv zz] [])) T17 (mkF m 303 #[iv p1, iv p2, iv p3, iv p4, iv q4, rv w5, iv g6, iv g7, rv b8, rv b9, iv ii, iv ii, rv xx, rv xx, rv zz] [(.ref zz), (.ref xx)]) := by
    intro t k
    refine k18 t ?_
    refine XS.ifNo X17.here hx rfl (hb hby at_296) rfl ((if0 _ _).trans (teq ((by decide) : (0 : Int32) = (0 : Int32))).2) ?_
    show Steps p.tables e below (T17.setTop (mkF m 299 #[iv p1, iv p2, iv p3, iv p4, iv q4, rv w5, iv g6, iv g7, rv b8, rv b9, iv ii, iv ii, rv xx, rv xx, rv zz] [])) _
    refine XS.aload X17.here hx rfl (hb hby at_299) rfl rfl ?_
    show Steps p.tables e below (T17.setTop (mkF m 301 #[iv p1, iv p2, iv p3, iv p4, iv q4, rv w5, iv g6, iv g7, rv b8, rv b9, iv ii, iv ii, rv xx, rv xx, rv zz] [(.ref xx)])) _
    refine XS.aload X17.here hx rfl (hb hby at_301) rfl rfl ?_
    show Steps p.tables e below (T17.setTop (mkF m 303 #[iv p1, iv p2, iv p3, iv p4, iv q4, rv w5, iv g6, iv g7, rv b8, rv b9, iv ii, iv ii, rv xx, rv xx, rv zz] [(.ref zz), (.ref xx)])) _
    exact k
  obtain ⟨cq20, kq20, qq20a, qq20b, qq20c⟩ := isOf hZ e17 a_0
  obtain ⟨_, _, ⟨T20, L20, kk20, nn20⟩, -, X20, ⟨Lc20, hQ20, l20, y20, z20⟩, st20⟩ := X17.interfaceBack hx (xi := (⟨"com/example/rulework/rulework/SchedulingRule", "contains", "(Lcom/example/rulework/rulework/SchedulingRule;)Z"⟩ : MethodName)) (y := (⟨"com/example/rulework/bench/Burst$SelfConflictingRule", "contains", "(Lcom/example/rulework/rulework/SchedulingRule;)Z"⟩ : MethodName)) hown (mvT hZ (hw _ (List.mem_of_getElem? (i := 45) rfl))) (mvT hZ (hw _ (List.mem_of_getElem? (i := 46) rfl))) (mvT hZ (hw _ (List.mem_of_getElem? (i := 47) rfl))) (mvT hZ (hw _ (List.mem_of_getElem? (i := 48) rfl))) (mvT hZ (hw _ (List.mem_of_getElem? (i := 49) rfl))) (mvT hZ (hw _ (List.mem_of_getElem? (i := 50) rfl))) (mvT hZ (hw _ (List.mem_of_getElem? (i := 51) rfl))) (mvT hZ (hw _ (List.mem_of_getElem? (i := 35) rfl))) (by decide) (backOf (W := 0) (containsF l Z a0 hw [] w_POOL w_NO_RULE w_ONE_RULE w_MANY_RULES G xx zz h0 n0 O0 (nez : ¬ (zz = xx))) hZ (hw _ (List.mem_of_getElem? (i := 52) rfl)) (hw _ (List.mem_of_getElem? (i := 28) rfl)) (by decide) (by decide)) qq20a qq20b qq20c (g := (mkF m 303 #[iv p1, iv p2, iv p3, iv p4, iv q4, rv w5, iv g6, iv g7, rv b8, rv b9, iv ii, iv ii, rv xx, rv xx, rv zz] [(.ref zz), (.ref xx)])) rfl (by rw [hml]; rfl) (Steps.refl _) (argsL := [(.ref zz)]) (rest := []) (lenOf pd_3 rfl) rfl (by show 2 * 0 + _ ≤ _; exact Nat.le_of_eq rfl) (hb hby at_303) (fun _ _ => ⟨rfl, e17, hcl, hsl⟩)
  dsimp only [Pt.U, Pt.locs, Pt.cells, Pt.slots] at X20 l20 y20 z20 st20 hQ20
  subst l20 y20 z20
  obtain ⟨rfl, Nq20, e20⟩ := hQ20
  have N20 := Fr.app N17 Nq20
  have k21 : Way p e below (T0.setTop (mkF m 173 #[iv p1, iv p2, iv p3, iv p4, iv q4, rv w5, iv g6, iv g7, rv b8, rv b9, iv ii, iv ii, rv xx, rv xx, rv zz] [])) T20 (mkF m 308 #[iv p1, iv p2, iv p3, iv p4, iv q4, rv w5, iv g6, iv g7, rv b8, rv b9, iv ii, iv ii, rv xx, rv xx, rv zz] [(.int (0 : Int32))]) := fun t k => k19 t (st20.trans k)
  have k22 : Way p e below (T0.setTop (mkF m 173 #[iv p1, iv p2, iv p3, iv p4, iv q4, rv w5, iv g6, iv g7, rv b8, rv b9, iv ii, iv ii, rv xx, rv xx, rv zz] [])) T20 (mkF m 314 #[iv p1, iv p2, iv p3, iv p4, iv q4, rv w5, iv g6, iv g7, rv b8, rv b9, iv ii, iv ii, rv xx, rv xx, rv zz] [(.int (1 : Int32))]) := by
    intro t k
    refine k21 t ?_
    refine XS.ifYes X20.here hx rfl (pc0 := 308) (pc' := 313) rfl (hb hby at_308) rfl ((if0 _ _).trans (teq ((by decide) : (0 : Int32) = (0 : Int32))).1) (by decide) (by decide) ?_
    show Steps p.tables e below (T20.setTop (mkF m 313 #[iv p1, iv p2, iv p3, iv p4, iv q4, rv w5, iv g6, iv g7, rv b8, rv b9, iv ii, iv ii, rv xx, rv xx, rv zz] [])) _
    refine XS.iconst X20.here hx rfl (hb hby at_313) ?_
    show Steps p.tables e below (T20.setTop (mkF m 314 #[iv p1, iv p2, iv p3, iv p4, iv q4, rv w5, iv g6, iv g7, rv b8, rv b9, iv ii, iv ii, rv xx, rv xx, rv zz] [(.int (1 : Int32))])) _
    exact k
  exact ⟨T20, _, X20, N20, e20, k22⟩
set_option maxRecDepth 65536 in
set_option maxHeartbeats 40000000 in
theorem tail_other {p : Program} {l : Launch} {e : Env} {s : State} {m : MethodId} {args : Array Value} {below : List Frame} {meth : Method} {c : Code} {T0 : State} {locs : List Loc} {cells slots : Nat} {Z : State} {a0 : Array Value} {h0 : Heap} {n0 : Nat} (w_POOL : Addr) (w_NO_RULE : Addr) (w_ONE_RULE : Addr) (w_MANY_RULES : Addr) (G : Gst Z w_POOL w_NO_RULE w_ONE_RULE w_MANY_RULES) (p1 : Int32) (p2 : Int32) (p3 : Int32) (p4 : Int32) (q4 : Int32) (w5 : Addr) (g6 : Int32) (g7 : Int32) (b8 : Addr) (b9 : Addr) (ii : Int32) (jj : Int32) (xx : Addr) (yy : Addr) (zz : Addr)
    (X0 : Stand p l e room_1 s m args below meth c T0 locs cells slots) (hx : p.tables.exec = Jvm.exec) (hZ : Z.Warmed39 s.vm) (hw : ∀ d ∈ tables_1, d.before a0 Z = true) (hby : c.code = code) (hml : c.maxLocals = 15) (hown : s.vm.findClass "com/example/rulework/bench/BurstMakeRulesPinLaw" = some m.cls) (O0 : Old Z n0 h0) (N0 : Fr n0 locs) (hcl : cells ≤ room_1.cells) (hsl : slots ≤ room_1.slots) (e0 : T0.heap = h0) (a_0 : Exa Z h0 xx "com/example/rulework/bench/Burst$SelfConflictingRule") (a_1 : Exa Z h0 zz "com/example/rulework/bench/Burst$SelfConflictingRule") (nez : zz ≠ xx) (a_3 : Exa Z h0 yy "com/example/rulework/bench/Burst$SelfConflictingRule") (ney : yy ≠ xx) (hij : ¬ (ii = jj)) :
    ∃ (T' : State) (locs' : List Loc), Stand p l e room_1 s m args below meth c T' locs' cells slots ∧ Fr n0 locs' ∧ T'.heap = h0 ∧ ∀ t, Steps p.tables e below (T'.setTop (mkF m 314 #[iv p1, iv p2, iv p3, iv p4, iv q4, rv w5, iv g6, iv g7, rv b8, rv b9, iv ii, iv jj, rv xx, rv yy, rv zz] [(.int (1 : Int32))])) t → Steps p.tables e below (T0.setTop (mkF m 173 #[iv p1, iv p2, iv p3, iv p4, iv q4, rv w5, iv g6, iv g7, rv b8, rv b9, iv ii, iv jj, rv xx, rv yy, rv zz] [])) t := by
  obtain ⟨S_w_POOL, E_w_POOL, F_w_POOL_ordinal, S_w_NO_RULE, E_w_NO_RULE, F_w_NO_RULE_ordinal, S_w_ONE_RULE, E_w_ONE_RULE, F_w_ONE_RULE_ordinal, S_w_MANY_RULES, E_w_MANY_RULES, F_w_MANY_RULES_ordinal⟩ := id G
  have k1 : Way p e below (T0.setTop (mkF m 173 #[iv p1, iv p2, iv p3, iv p4, iv q4, rv w5, iv g6, iv g7, rv b8, rv b9, iv ii, iv jj, rv xx, rv yy, rv zz] [])) T0 (mkF m 194 #[iv p1, iv p2, iv p3, iv p4, iv q4, rv w5, iv g6, iv g7, rv b8, rv b9, iv ii, iv jj, rv xx, rv yy, rv zz] [(.ref xx), (.ref xx)]) := by
    intro t k
    refine (fun t k => k) t ?_
    refine XS.aload X0.here hx rfl (hb hby at_173) rfl rfl ?_
    show Steps p.tables e below (T0.setTop (mkF m 175 #[iv p1, iv p2, iv p3, iv p4, iv q4, rv w5, iv g6, iv g7, rv b8, rv b9, iv ii, iv jj, rv xx, rv yy, rv zz] [(.ref xx)])) _
    refine XS.ifnullNo X0.here hx rfl (hb hby at_175) rfl ?_
    show Steps p.tables e below (T0.setTop (mkF m 178 #[iv p1, iv p2, iv p3, iv p4, iv q4, rv w5, iv g6, iv g7, rv b8, rv b9, iv ii, iv jj, rv xx, rv yy, rv zz] [])) _
    refine XS.aload X0.here hx rfl (hb hby at_178) rfl rfl ?_
    show Steps p.tables e below (T0.setTop (mkF m 180 #[iv p1, iv p2, iv p3, iv p4, iv q4, rv w5, iv g6, iv g7, rv b8, rv b9, iv ii, iv jj, rv xx, rv yy, rv zz] [(.ref yy)])) _
    refine XS.ifnullNo X0.here hx rfl (hb hby at_180) rfl ?_
    show Steps p.tables e below (T0.setTop (mkF m 183 #[iv p1, iv p2, iv p3, iv p4, iv q4, rv w5, iv g6, iv g7, rv b8, rv b9, iv ii, iv jj, rv xx, rv yy, rv zz] [])) _
    refine XS.aload X0.here hx rfl (hb hby at_183) rfl rfl ?_
    show Steps p.tables e below (T0.setTop (mkF m 185 #[iv p1, iv p2, iv p3, iv p4, iv q4, rv w5, iv g6, iv g7, rv b8, rv b9, iv ii, iv jj, rv xx, rv yy, rv zz] [(.ref zz)])) _
    refine XS.ifnonnullYes X0.here hx rfl (pc0 := 185) (pc' := 190) rfl (hb hby at_185) rfl (by decide) (by decide) ?_
    show Steps p.tables e below (T0.setTop (mkF m 190 #[iv p1, iv p2, iv p3, iv p4, iv q4, rv w5, iv g6, iv g7, rv b8, rv b9, iv ii, iv jj, rv xx, rv yy, rv zz] [])) _
    refine XS.aload X0.here hx rfl (hb hby at_190) rfl rfl ?_
    show Steps p.tables e below (T0.setTop (mkF m 192 #[iv p1, iv p2, iv p3, iv p4, iv q4, rv w5, iv g6, iv g7, rv b8, rv b9, iv ii, iv jj, rv xx, rv yy, rv zz] [(.ref xx)])) _
    refine XS.aload X0.here hx rfl (hb hby at_192) rfl rfl ?_
    show Steps p.tables e below (T0.setTop (mkF m 194 #[iv p1, iv p2, iv p3, iv p4, iv q4, rv w5, iv g6, iv g7, rv b8, rv b9, iv ii, iv jj, rv xx, rv yy, rv zz] [(.ref xx), (.ref xx)])) _
    exact k
  obtain ⟨cq2, kq2, qq2a, qq2b, qq2c⟩ := isOf hZ e0 a_0
  obtain ⟨_, _, ⟨T2, L2, kk2, nn2⟩, -, X2, ⟨Lc2, hQ2, l2, y2, z2⟩, st2⟩ := X0.interfaceBack hx (xi := (⟨"com/example/rulework/rulework/SchedulingRule", "isConflicting", "(Lcom/example/rulework/rulework/SchedulingRule;)Z"⟩ : MethodName)) (y := (⟨"com/example/rulework/bench/Burst$SelfConflictingRule", "isConflicting", "(Lcom/example/rulework/rulework/SchedulingRule;)Z"⟩ : MethodName)) hown (mvT hZ (hw _ (List.mem_of_getElem? (i := 37) rfl))) (mvT hZ (hw _ (List.mem_of_getElem? (i := 38) rfl))) (mvT hZ (hw _ (List.mem_of_getElem? (i := 39) rfl))) (mvT hZ (hw _ (List.mem_of_getElem? (i := 40) rfl))) (mvT hZ (hw _ (List.mem_of_getElem? (i := 41) rfl))) (mvT hZ (hw _ (List.mem_of_getElem? (i := 42) rfl))) (mvT hZ (hw _ (List.mem_of_getElem? (i := 43) rfl))) (mvT hZ (hw _ (List.mem_of_getElem? (i := 35) rfl))) (by decide) (backOf (W := 0) (isConflictingT l Z a0 hw [] w_POOL w_NO_RULE w_ONE_RULE w_MANY_RULES G xx h0 n0 O0 ) hZ (hw _ (List.mem_of_getElem? (i := 44) rfl)) (hw _ (List.mem_of_getElem? (i := 28) rfl)) (by decide) (by decide)) qq2a qq2b qq2c (g := (mkF m 194 #[iv p1, iv p2, iv p3, iv p4, iv q4, rv w5, iv g6, iv g7, rv b8, rv b9, iv ii, iv jj, rv xx, rv yy, rv zz] [(.ref xx), (.ref xx)])) rfl (by rw [hml]; rfl) (Steps.refl _) (argsL := [(.ref xx)]) (rest := []) (lenOf pd_3 rfl) rfl (by show 2 * 0 + _ ≤ _; exact Nat.le_of_eq rfl) (hb hby at_194) (fun _ _ => ⟨rfl, e0, hcl, hsl⟩)
  dsimp only [Pt.U, Pt.locs, Pt.cells, Pt.slots] at X2 l2 y2 z2 st2 hQ2
  subst l2 y2 z2
  obtain ⟨rfl, Nq2, e2⟩ := hQ2
  have N2 := Fr.app N0 Nq2
  have k3 : Way p e below (T0.setTop (mkF m 173 #[iv p1, iv p2, iv p3, iv p4, iv q4, rv w5, iv g6, iv g7, rv b8, rv b9, iv ii, iv jj, rv xx, rv yy, rv zz] [])) T2 (mkF m 199 #[iv p1, iv p2, iv p3, iv p4, iv q4, rv w5, iv g6, iv g7, rv b8, rv b9, iv ii, iv jj, rv xx, rv yy, rv zz] [(.int (1 : Int32))]) := fun t k => k1 t (st2.trans k)
  have k4 : Way p e below (T0.setTop (mkF m 173 #[iv p1, iv p2, iv p3, iv p4, iv q4, rv w5, iv g6, iv g7, rv b8, rv b9, iv ii, iv jj, rv xx, rv yy, rv zz] [])) T2 (mkF m 206 #[iv p1, iv p2, iv p3, iv p4, iv q4, rv w5, iv g6, iv g7, rv b8, rv b9, iv ii, iv jj, rv xx, rv yy, rv zz] [(.ref xx), (.ref xx)]) := by
    intro t k
    refine k3 t ?_
    refine XS.ifNo X2.here hx rfl (hb hby at_199) rfl ((if0 _ _).trans (feq ((by decide) : ¬ ((1 : Int32) = (0 : Int32)))).1) ?_
    show Steps p.tables e below (T2.setTop (mkF m 202 #[iv p1, iv p2, iv p3, iv p4, iv q4, rv w5, iv g6, iv g7, rv b8, rv b9, iv ii, iv jj, rv xx, rv yy, rv zz] [])) _
    refine XS.aload X2.here hx rfl (hb hby at_202) rfl rfl ?_
    show Steps p.tables e below (T2.setTop (mkF m 204 #[iv p1, iv p2, iv p3, iv p4, iv q4, rv w5, iv g6, iv g7, rv b8, rv b9, iv ii, iv jj, rv xx, rv yy, rv zz] [(.ref xx)])) _
    refine XS.aload X2.here hx rfl (hb hby at_204) rfl rfl ?_
    show Steps p.tables e below (T2.setTop (mkF m 206 #[iv p1, iv p2, iv p3, iv p4, iv q4, rv w5, iv g6, iv g7, rv b8, rv b9, iv ii, iv jj, rv xx, rv yy, rv zz] [(.ref xx), (.ref xx)])) _
    exact k
  obtain ⟨cq5, kq5, qq5a, qq5b, qq5c⟩ := isOf hZ e2 a_0
  obtain ⟨_, _, ⟨T5, L5, kk5, nn5⟩, -, X5, ⟨Lc5, hQ5, l5, y5, z5⟩, st5⟩ := X2.interfaceBack hx (xi := (⟨"com/example/rulework/rulework/SchedulingRule", "contains", "(Lcom/example/rulework/rulework/SchedulingRule;)Z"⟩ : MethodName)) (y := (⟨"com/example/rulework/bench/Burst$SelfConflictingRule", "contains", "(Lcom/example/rulework/rulework/SchedulingRule;)Z"⟩ : MethodName)) hown (mvT hZ (hw _ (List.mem_of_getElem? (i := 45) rfl))) (mvT hZ (hw _ (List.mem_of_getElem? (i := 46) rfl))) (mvT hZ (hw _ (List.mem_of_getElem? (i := 47) rfl))) (mvT hZ (hw _ (List.mem_of_getElem? (i := 48) rfl))) (mvT hZ (hw _ (List.mem_of_getElem? (i := 49) rfl))) (mvT hZ (hw _ (List.mem_of_getElem? (i := 50) rfl))) (mvT hZ (hw _ (List.mem_of_getElem? (i := 51) rfl))) (mvT hZ (hw _ (List.mem_of_getElem? (i := 35) rfl))) (by decide) (backOf (W := 0) (containsT l Z a0 hw [] w_POOL w_NO_RULE w_ONE_RULE w_MANY_RULES G xx h0 n0 O0 ) hZ (hw _ (List.mem_of_getElem? (i := 52) rfl)) (hw _ (List.mem_of_getElem? (i := 28) rfl)) (by decide) (by decide)) qq5a qq5b qq5c (g := (mkF m 206 #[iv p1, iv p2, iv p3, iv p4, iv q4, rv w5, iv g6, iv g7, rv b8, rv b9, iv ii, iv jj, rv xx, rv yy, rv zz] [(.ref xx), (.ref xx)])) rfl (by rw [hml]; rfl) (Steps.refl _) (argsL := [(.ref xx)]) (rest := []) (lenOf pd_3 rfl) rfl (by show 2 * 0 + _ ≤ _; exact Nat.le_of_eq rfl) (hb hby at_206) (fun _ _ => ⟨rfl, e2, hcl, hsl⟩)
  dsimp only [Pt.U, Pt.locs, Pt.cells, Pt.slots] at X5 l5 y5 z5 st5 hQ5
  subst l5 y5 z5
  obtain ⟨rfl, Nq5, e5⟩ := hQ5
  have N5 := Fr.app N2 Nq5
  have k6 : Way p e below (T0.setTop (mkF m 173 #[iv p1, iv p2, iv p3, iv p4, iv q4, rv w5, iv g6, iv g7, rv b8, rv b9, iv ii, iv jj, rv xx, rv yy, rv zz] [])) T5 (mkF m 211 #[iv p1, iv p2, iv p3, iv p4, iv q4, rv w5, iv g6, iv g7, rv b8, rv b9, iv ii, iv jj, rv xx, rv yy, rv zz] [(.int (1 : Int32))]) := fun t k => k4 t (st5.trans k)
  have k7 : Way p e below (T0.setTop (mkF m 173 #[iv p1, iv p2, iv p3, iv p4, iv q4, rv w5, iv g6, iv g7, rv b8, rv b9, iv ii, iv jj, rv xx, rv yy, rv zz] [])) T5 (mkF m 220 #[iv p1, iv p2, iv p3, iv p4, iv q4, rv w5, iv g6, iv g7, rv b8, rv b9, iv ii, iv jj, rv xx, rv yy, rv zz] [(.ref yy), (.ref xx)]) := by
    intro t k
    refine k6 t ?_
    refine XS.ifYes X5.here hx rfl (pc0 := 211) (pc' := 216) rfl (hb hby at_211) rfl ((if0 _ _).trans (feq ((by decide) : ¬ ((1 : Int32) = (0 : Int32)))).2) (by decide) (by decide) ?_
    show Steps p.tables e below (T5.setTop (mkF m 216 #[iv p1, iv p2, iv p3, iv p4, iv q4, rv w5, iv g6, iv g7, rv b8, rv b9, iv ii, iv jj, rv xx, rv yy, rv zz] [])) _
    refine XS.aload X5.here hx rfl (hb hby at_216) rfl rfl ?_
    show Steps p.tables e below (T5.setTop (mkF m 218 #[iv p1, iv p2, iv p3, iv p4, iv q4, rv w5, iv g6, iv g7, rv b8, rv b9, iv ii, iv jj, rv xx, rv yy, rv zz] [(.ref xx)])) _
    refine XS.aload X5.here hx rfl (hb hby at_218) rfl rfl ?_
    show Steps p.tables e below (T5.setTop (mkF m 220 #[iv p1, iv p2, iv p3, iv p4, iv q4, rv w5, iv g6, iv g7, rv b8, rv b9, iv ii, iv jj, rv xx, rv yy, rv zz] [(.ref yy), (.ref xx)])) _
    exact k
  obtain ⟨cq8, kq8, qq8a, qq8b, qq8c⟩ := isOf hZ e5 a_0
  obtain ⟨_, _, ⟨T8, L8, kk8, nn8⟩, -, X8, ⟨Lc8, hQ8, l8, y8, z8⟩, st8⟩ := X5.interfaceBack hx (xi := (⟨"com/example/rulework/rulework/SchedulingRule", "isConflicting", "(Lcom/example/rulework/rulework/SchedulingRule;)Z"⟩ : MethodName)) (y := (⟨"com/example/rulework/bench/Burst$SelfConflictingRule", "isConflicting", "(Lcom/example/rulework/rulework/SchedulingRule;)Z"⟩ : MethodName)) hown (mvT hZ (hw _ (List.mem_of_getElem? (i := 37) rfl))) (mvT hZ (hw _ (List.mem_of_getElem? (i := 38) rfl))) (mvT hZ (hw _ (List.mem_of_getElem? (i := 39) rfl))) (mvT hZ (hw _ (List.mem_of_getElem? (i := 40) rfl))) (mvT hZ (hw _ (List.mem_of_getElem? (i := 41) rfl))) (mvT hZ (hw _ (List.mem_of_getElem? (i := 42) rfl))) (mvT hZ (hw _ (List.mem_of_getElem? (i := 43) rfl))) (mvT hZ (hw _ (List.mem_of_getElem? (i := 35) rfl))) (by decide) (backOf (W := 0) (isConflictingF l Z a0 hw [] w_POOL w_NO_RULE w_ONE_RULE w_MANY_RULES G xx yy h0 n0 O0 (ney : ¬ (yy = xx))) hZ (hw _ (List.mem_of_getElem? (i := 44) rfl)) (hw _ (List.mem_of_getElem? (i := 28) rfl)) (by decide) (by decide)) qq8a qq8b qq8c (g := (mkF m 220 #[iv p1, iv p2, iv p3, iv p4, iv q4, rv w5, iv g6, iv g7, rv b8, rv b9, iv ii, iv jj, rv xx, rv yy, rv zz] [(.ref yy), (.ref xx)])) rfl (by rw [hml]; rfl) (Steps.refl _) (argsL := [(.ref yy)]) (rest := []) (lenOf pd_3 rfl) rfl (by show 2 * 0 + _ ≤ _; exact Nat.le_of_eq rfl) (hb hby at_220) (fun _ _ => ⟨rfl, e5, hcl, hsl⟩)
  dsimp only [Pt.U, Pt.locs, Pt.cells, Pt.slots] at X8 l8 y8 z8 st8 hQ8
  subst l8 y8 z8
  obtain ⟨rfl, Nq8, e8⟩ := hQ8
  have N8 := Fr.app N5 Nq8
  have k9 : Way p e below (T0.setTop (mkF m 173 #[iv p1, iv p2, iv p3, iv p4, iv q4, rv w5, iv g6, iv g7, rv b8, rv b9, iv ii, iv jj, rv xx, rv yy, rv zz] [])) T8 (mkF m 225 #[iv p1, iv p2, iv p3, iv p4, iv q4, rv w5, iv g6, iv g7, rv b8, rv b9, iv ii, iv jj, rv xx, rv yy, rv zz] [(.int (0 : Int32))]) := fun t k => k7 t (st8.trans k)
  have k10 : Way p e below (T0.setTop (mkF m 173 #[iv p1, iv p2, iv p3, iv p4, iv q4, rv w5, iv g6, iv g7, rv b8, rv b9, iv ii, iv jj, rv xx, rv yy, rv zz] [])) T8 (mkF m 246 #[iv p1, iv p2, iv p3, iv p4, iv q4, rv w5, iv g6, iv g7, rv b8, rv b9, iv ii, iv jj, rv xx, rv yy, rv zz] [(.ref yy), (.ref xx)]) := by
    intro t k
    refine k9 t ?_
    refine XS.iload X8.here hx rfl (hb hby at_225) rfl ?_
    show Steps p.tables e below (T8.setTop (mkF m 227 #[iv p1, iv p2, iv p3, iv p4, iv q4, rv w5, iv g6, iv g7, rv b8, rv b9, iv ii, iv jj, rv xx, rv yy, rv zz] [(.int ii), (.int (0 : Int32))])) _
    refine XS.iload X8.here hx rfl (hb hby at_227) rfl ?_
    show Steps p.tables e below (T8.setTop (mkF m 229 #[iv p1, iv p2, iv p3, iv p4, iv q4, rv w5, iv g6, iv g7, rv b8, rv b9, iv ii, iv jj, rv xx, rv yy, rv zz] [(.int jj), (.int ii), (.int (0 : Int32))])) _
    refine XS.icmpYes X8.here hx rfl (pc0 := 229) (pc' := 236) rfl (hb hby at_229) rfl (feq (hij : ¬ (ii = jj))).2 (by decide) (by decide) ?_
    show Steps p.tables e below (T8.setTop (mkF m 236 #[iv p1, iv p2, iv p3, iv p4, iv q4, rv w5, iv g6, iv g7, rv b8, rv b9, iv ii, iv jj, rv xx, rv yy, rv zz] [(.int (0 : Int32))])) _
    refine XS.iconst X8.here hx rfl (hb hby at_236) ?_
    show Steps p.tables e below (T8.setTop (mkF m 237 #[iv p1, iv p2, iv p3, iv p4, iv q4, rv w5, iv g6, iv g7, rv b8, rv b9, iv ii, iv jj, rv xx, rv yy, rv zz] [(.int (0 : Int32)), (.int (0 : Int32))])) _
    refine XS.icmpYes X8.here hx rfl (pc0 := 237) (pc' := 242) rfl (hb hby at_237) rfl (teq ((by decide) : (0 : Int32) = (0 : Int32))).1 (by decide) (by decide) ?_
    show Steps p.tables e below (T8.setTop (mkF m 242 #[iv p1, iv p2, iv p3, iv p4, iv q4, rv w5, iv g6, iv g7, rv b8, rv b9, iv ii, iv jj, rv xx, rv yy, rv zz] [])) _
    refine XS.aload X8.here hx rfl (hb hby at_242) rfl rfl ?_
    show Steps p.tables e below (T8.setTop (mkF m 244 #[iv p1, iv p2, iv p3, iv p4, iv q4, rv w5, iv g6, iv g7, rv b8, rv b9, iv ii, iv jj, rv xx, rv yy, rv zz] [(.ref xx)])) _
    refine XS.aload X8.here hx rfl (hb hby at_244) rfl rfl ?_
    show Steps p.tables e below (T8.setTop (mkF m 246 #[iv p1, iv p2, iv p3, iv p4, iv q4, rv w5, iv g6, iv g7, rv b8, rv b9, iv ii, iv jj, rv xx, rv yy, rv zz] [(.ref yy), (.ref xx)])) _
    exact k
  obtain ⟨cq11, kq11, qq11a, qq11b, qq11c⟩ := isOf hZ e8 a_0
  obtain ⟨_, _, ⟨T11, L11, kk11, nn11⟩, -, X11, ⟨Lc11, hQ11, l11, y11, z11⟩, st11⟩ := X8.interfaceBack hx (xi := (⟨"com/example/rulework/rulework/SchedulingRule", "contains", "(Lcom/example/rulework/rulework/SchedulingRule;)Z"⟩ : MethodName)) (y := (⟨"com/example/rulework/bench/Burst$SelfConflictingRule", "contains", "(Lcom/example/rulework/rulework/SchedulingRule;)Z"⟩ : MethodName)) hown (mvT hZ (hw _ (List.mem_of_getElem? (i := 45) rfl))) (mvT hZ (hw _ (List.mem_of_getElem? (i := 46) rfl))) (mvT hZ (hw _ (List.mem_of_getElem? (i := 47) rfl))) (mvT hZ (hw _ (List.mem_of_getElem? (i := 48) rfl))) (mvT hZ (hw _ (List.mem_of_getElem? (i := 49) rfl))) (mvT hZ (hw _ (List.mem_of_getElem? (i := 50) rfl))) (mvT hZ (hw _ (List.mem_of_getElem? (i := 51) rfl))) (mvT hZ (hw _ (List.mem_of_getElem? (i := 35) rfl))) (by decide) (backOf (W := 0) (containsF l Z a0 hw [] w_POOL w_NO_RULE w_ONE_RULE w_MANY_RULES G xx yy h0 n0 O0 (ney : ¬ (yy = xx))) hZ (hw _ (List.mem_of_getElem? (i := 52) rfl)) (hw _ (List.mem_of_getElem? (i := 28) rfl)) (by decide) (by decide)) qq11a qq11b qq11c (g := (mkF m 246 #[iv p1, iv p2, iv p3, iv p4, iv q4, rv w5, iv g6, iv g7, rv b8, rv b9, iv ii, iv jj, rv xx, rv yy, rv zz] [(.ref yy), (.ref xx)])) rfl (by rw [hml]; rfl) (Steps.refl _) (argsL := [(.ref yy)]) (rest := []) (lenOf pd_3 rfl) rfl (by show 2 * 0 + _ ≤ _; exact Nat.le_of_eq rfl) (hb hby at_246) (fun _ _ => ⟨rfl, e8, hcl, hsl⟩)
  dsimp only [Pt.U, Pt.locs, Pt.cells, Pt.slots] at X11 l11 y11 z11 st11 hQ11
  subst l11 y11 z11
  obtain ⟨rfl, Nq11, e11⟩ := hQ11
  have N11 := Fr.app N8 Nq11
  have k12 : Way p e below (T0.setTop (mkF m 173 #[iv p1, iv p2, iv p3, iv p4, iv q4, rv w5, iv g6, iv g7, rv b8, rv b9, iv ii, iv jj, rv xx, rv yy, rv zz] [])) T11 (mkF m 251 #[iv p1, iv p2, iv p3, iv p4, iv q4, rv w5, iv g6, iv g7, rv b8, rv b9, iv ii, iv jj, rv xx, rv yy, rv zz] [(.int (0 : Int32))]) := fun t k => k10 t (st11.trans k)
  have k13 : Way p e below (T0.setTop (mkF m 173 #[iv p1, iv p2, iv p3, iv p4, iv q4, rv w5, iv g6, iv g7, rv b8, rv b9, iv ii, iv jj, rv xx, rv yy, rv zz] [])) T11 (mkF m 279 #[iv p1, iv p2, iv p3, iv p4, iv q4, rv w5, iv g6, iv g7, rv b8, rv b9, iv ii, iv jj, rv xx, rv yy, rv zz] [(.ref zz), (.ref xx)]) := by
    intro t k
    refine k12 t ?_
    refine XS.iload X11.here hx rfl (hb hby at_251) rfl ?_
    show Steps p.tables e below (T11.setTop (mkF m 253 #[iv p1, iv p2, iv p3, iv p4, iv q4, rv w5, iv g6, iv g7, rv b8, rv b9, iv ii, iv jj, rv xx, rv yy, rv zz] [(.int ii), (.int (0 : Int32))])) _
    refine XS.iload X11.here hx rfl (hb hby at_253) rfl ?_
    show Steps p.tables e below (T11.setTop (mkF m 255 #[iv p1, iv p2, iv p3, iv p4, iv q4, rv w5, iv g6, iv g7, rv b8, rv b9, iv ii, iv jj, rv xx, rv yy, rv zz] [(.int jj), (.int ii), (.int (0 : Int32))])) _
    refine XS.icmpYes X11.here hx rfl (pc0 := 255) (pc' := 262) rfl (hb hby at_255) rfl (feq (hij : ¬ (ii = jj))).2 (by decide) (by decide) ?_
    show Steps p.tables e below (T11.setTop (mkF m 262 #[iv p1, iv p2, iv p3, iv p4, iv q4, rv w5, iv g6, iv g7, rv b8, rv b9, iv ii, iv jj, rv xx, rv yy, rv zz] [(.int (0 : Int32))])) _
    refine XS.iconst X11.here hx rfl (hb hby at_262) ?_
    show Steps p.tables e below (T11.setTop (mkF m 263 #[iv p1, iv p2, iv p3, iv p4, iv q4, rv w5, iv g6, iv g7, rv b8, rv b9, iv ii, iv jj, rv xx, rv yy, rv zz] [(.int (0 : Int32)), (.int (0 : Int32))])) _
    refine XS.icmpYes X11.here hx rfl (pc0 := 263) (pc' := 268) rfl (hb hby at_263) rfl (teq ((by decide) : (0 : Int32) = (0 : Int32))).1 (by decide) (by decide) ?_
    show Steps p.tables e below (T11.setTop (mkF m 268 #[iv p1, iv p2, iv p3, iv p4, iv q4, rv w5, iv g6, iv g7, rv b8, rv b9, iv ii, iv jj, rv xx, rv yy, rv zz] [])) _
    refine XS.aload X11.here hx rfl (hb hby at_268) rfl rfl ?_
    show Steps p.tables e below (T11.setTop (mkF m 270 #[iv p1, iv p2, iv p3, iv p4, iv q4, rv w5, iv g6, iv g7, rv b8, rv b9, iv ii, iv jj, rv xx, rv yy, rv zz] [(.ref zz)])) _
    refine XS.aload X11.here hx rfl (hb hby at_270) rfl rfl ?_
    show Steps p.tables e below (T11.setTop (mkF m 272 #[iv p1, iv p2, iv p3, iv p4, iv q4, rv w5, iv g6, iv g7, rv b8, rv b9, iv ii, iv jj, rv xx, rv yy, rv zz] [(.ref xx), (.ref zz)])) _
    refine Jvm.RoadKit.acmp (g := (mkF m 272 #[iv p1, iv p2, iv p3, iv p4, iv q4, rv w5, iv g6, iv g7, rv b8, rv b9, iv ii, iv jj, rv xx, rv yy, rv zz] [(.ref xx), (.ref zz)])) X11 hx rfl rfl rfl (pc0 := 272) (pc' := 275) (same := false) rfl (hb hby at_272) rfl (decide_eq_false fun q => absurd (Value.ref.inj q) nez) (by decide) (by decide) ?_
    show Steps p.tables e below (T11.setTop (mkF m 275 #[iv p1, iv p2, iv p3, iv p4, iv q4, rv w5, iv g6, iv g7, rv b8, rv b9, iv ii, iv jj, rv xx, rv yy, rv zz] [])) _
    refine XS.aload X11.here hx rfl (hb hby at_275) rfl rfl ?_
    show Steps p.tables e below (T11.setTop (mkF m 277 #[iv p1, iv p2, iv p3, iv p4, iv q4, rv w5, iv g6, iv g7, rv b8, rv b9, iv ii, iv jj, rv xx, rv yy, rv zz] [(.ref xx)])) _
    refine XS.aload X11.here hx rfl (hb hby at_277) rfl rfl ?_
    show Steps p.tables e below (T11.setTop (mkF m 279 #[iv p1, iv p2, iv p3, iv p4, iv q4, rv w5, iv g6, iv g7, rv b8, rv b9, iv ii, iv jj, rv xx, rv yy, rv zz] [(.ref zz), (.ref xx)])) _
    exact k
  obtain ⟨cq14, kq14, qq14a, qq14b, qq14c⟩ := isOf hZ e11 a_0
  obtain ⟨_, _, ⟨T14, L14, kk14, nn14⟩, -, X14, ⟨Lc14, hQ14, l14, y14, z14⟩, st14⟩ := X11.interfaceBack hx (xi := (⟨"com/example/rulework/rulework/SchedulingRule", "isConflicting", "(Lcom/example/rulework/rulework/SchedulingRule;)Z"⟩ : MethodName)) (y := (⟨"com/example/rulework/bench/Burst$SelfConflictingRule", "isConflicting", "(Lcom/example/rulework/rulework/SchedulingRule;)Z"⟩ : MethodName)) hown (mvT hZ (hw _ (List.mem_of_getElem? (i := 37) rfl))) (mvT hZ (hw _ (List.mem_of_getElem? (i := 38) rfl))) (mvT hZ (hw _ (List.mem_of_getElem? (i := 39) rfl))) (mvT hZ (hw _ (List.mem_of_getElem? (i := 40) rfl))) (mvT hZ (hw _ (List.mem_of_getElem? (i := 41) rfl))) (mvT hZ (hw _ (List.mem_of_getElem? (i := 42) rfl))) (mvT hZ (hw _ (List.mem_of_getElem? (i := 43) rfl))) (mvT hZ (hw _ (List.mem_of_getElem? (i := 35) rfl))) (by decide) (backOf (W := 0) (isConflictingF l Z a0 hw [] w_POOL w_NO_RULE w_ONE_RULE w_MANY_RULES G xx zz h0 n0 O0 (nez : ¬ (zz = xx))) hZ (hw _ (List.mem_of_getElem? (i := 44) rfl)) (hw _ (List.mem_of_getElem? (i := 28) rfl)) (by decide) (by decide)) qq14a qq14b qq14c (g := (mkF m 279 #[iv p1, iv p2, iv p3, iv p4, iv q4, rv w5, iv g6, iv g7, rv b8, rv b9, iv ii, iv jj, rv xx, rv yy, rv zz] [(.ref zz), (.ref xx)])) rfl (by rw [hml]; rfl) (Steps.refl _) (argsL := [(.ref zz)]) (rest := []) (lenOf pd_3 rfl) rfl (by show 2 * 0 + _ ≤ _; exact Nat.le_of_eq rfl) (hb hby at_279) (fun _ _ => ⟨rfl, e11, hcl, hsl⟩)
  dsimp only [Pt.U, Pt.locs, Pt.cells, Pt.slots] at X14 l14 y14 z14 st14 hQ14
  subst l14 y14 z14
  obtain ⟨rfl, Nq14, e14⟩ := hQ14
  have N14 := Fr.app N11 Nq14
  have k15 : Way p e below (T0.setTop (mkF m 173 #[iv p1, iv p2, iv p3, iv p4, iv q4, rv w5, iv g6, iv g7, rv b8, rv b9, iv ii, iv jj, rv xx, rv yy, rv zz] [])) T14 (mkF m 284 #[iv p1, iv p2, iv p3, iv p4, iv q4, rv w5, iv g6, iv g7, rv b8, rv b9, iv ii, iv jj, rv xx, rv yy, rv zz] [(.int (0 : Int32))]) := fun t k => k13 t (st14.trans k)
  have k16 : Way p e below (T0.setTop (mkF m 173 #[iv p1, iv p2, iv p3, iv p4, iv q4, rv w5, iv g6, iv g7, rv b8, rv b9, iv ii, iv jj, rv xx, rv yy, rv zz] [])) T14 (mkF m 291 #[iv p1, iv p2, iv p3, iv p4, iv q4, rv w5, iv g6, iv g7, rv b8, rv b9, iv ii, iv jj, rv xx, rv yy, rv zz] [(.ref xx), (.ref zz)]) := by
    intro t k
    refine k15 t ?_
    refine XS.ifNo X14.here hx rfl (hb hby at_284) rfl ((if0 _ _).trans (teq ((by decide) : (0 : Int32) = (0 : Int32))).2) ?_
    show Steps p.tables e below (T14.setTop (mkF m 287 #[iv p1, iv p2, iv p3, iv p4, iv q4, rv w5, iv g6, iv g7, rv b8, rv b9, iv ii, iv jj, rv xx, rv yy, rv zz] [])) _
    refine XS.aload X14.here hx rfl (hb hby at_287) rfl rfl ?_
    show Steps p.tables e below (T14.setTop (mkF m 289 #[iv p1, iv p2, iv p3, iv p4, iv q4, rv w5, iv g6, iv g7, rv b8, rv b9, iv ii, iv jj, rv xx, rv yy, rv zz] [(.ref zz)])) _
    refine XS.aload X14.here hx rfl (hb hby at_289) rfl rfl ?_
    show Steps p.tables e below (T14.setTop (mkF m 291 #[iv p1, iv p2, iv p3, iv p4, iv q4, rv w5, iv g6, iv g7, rv b8, rv b9, iv ii, iv jj, rv xx, rv yy, rv zz] [(.ref xx), (.ref zz)])) _
    exact k
  obtain ⟨cq17, kq17, qq17a, qq17b, qq17c⟩ := isOf hZ e14 a_1
  obtain ⟨_, _, ⟨T17, L17, kk17, nn17⟩, -, X17, ⟨Lc17, hQ17, l17, y17, z17⟩, st17⟩ := X14.interfaceBack hx (xi := (⟨"com/example/rulework/rulework/SchedulingRule", "isConflicting", "(Lcom/example/rulework/rulework/SchedulingRule;)Z"⟩ : MethodName)) (y := (⟨"com/example/rulework/bench/Burst$SelfConflictingRule", "isConflicting", "(Lcom/example/rulework/rulework/SchedulingRule;)Z"⟩ : MethodName)) hown (mvT hZ (hw _ (List.mem_of_getElem? (i := 37) rfl))) (mvT hZ (hw _ (List.mem_of_getElem? (i := 38) rfl))) (mvT hZ (hw _ (List.mem_of_getElem? (i := 39) rfl))) (mvT hZ (hw _ (List.mem_of_getElem? (i := 40) rfl))) (mvT hZ (hw _ (List.mem_of_getElem? (i := 41) rfl))) (mvT hZ (hw _ (List.mem_of_getElem? (i := 42) rfl))) (mvT hZ (hw _ (List.mem_of_getElem? (i := 43) rfl))) (mvT hZ (hw _ (List.mem_of_getElem? (i := 35) rfl))) (by decide) (backOf (W := 0) (isConflictingF l Z a0 hw [] w_POOL w_NO_RULE w_ONE_RULE w_MANY_RULES G zz xx h0 n0 O0 ((Ne.symm nez) : ¬ (xx = zz))) hZ (hw _ (List.mem_of_getElem? (i := 44) rfl)) (hw _ (List.mem_of_getElem? (i := 28) rfl)) (by decide) (by decide)) qq17a qq17b qq17c (g := (mkF m 291 #[iv p1, iv p2, iv p3, iv p4, iv q4, rv w5, iv g6, iv g7, rv b8, rv b9, iv ii, iv jj, rv xx, rv yy, rv zz] [(.ref xx), (.ref zz)])) rfl (by rw [hml]; rfl) (Steps.refl _) (argsL := [(.ref xx)]) (rest := []) (lenOf pd_3 rfl) rfl (by show 2 * 0 + _ ≤ _; exact Nat.le_of_eq rfl) (hb hby at_291) (fun _ _ => ⟨rfl, e14, hcl, hsl⟩)
  dsimp only [Pt.U, Pt.locs, Pt.cells, Pt.slots] at X17 l17 y17 z17 st17 hQ17
  subst l17 y17 z17
  obtain ⟨rfl, Nq17, e17⟩ := hQ17
  have N17 := Fr.app N14 Nq17
  have k18 : Way p e below (T0.setTop (mkF m 173 #[iv p1, iv p2, iv p3, iv p4, iv q4, rv w5, iv g6, iv g7, rv b8, rv b9, iv ii, iv jj, rv xx, rv yy, rv zz] [])) T17 (mkF m 296 #[iv p1, iv p2, iv p3, iv p4, iv q4, rv w5, iv g6, iv g7, rv b8, rv b9, iv ii, iv jj, rv xx, rv yy, rv zz] [(.int (0 : Int32))]) := fun t k => k16 t (st17.trans k)
  have k19 : Way p e below (T0.setTop (mkF m 173 #[iv p1, iv p2, iv p3, iv p4, iv q4, rv w5, iv g6, iv g7, rv b8, rv b9, iv ii, iv jj, rv xx, rv yy, rv zz] [])) T17 (mkF m 303 #[iv p1, iv p2, iv p3, iv p4, iv q4, rv w5, iv g6, iv g7, rv b8, rv b9, iv ii, iv jj, rv xx, rv yy, rv zz] [(.ref zz), (.ref xx)]) := by
    intro t k
    refine k18 t ?_
    refine XS.ifNo X17.here hx rfl (hb hby at_296) rfl ((if0 _ _).trans (teq ((by decide) : (0 : Int32) = (0 : Int32))).2) ?_
    show Steps p.tables e below (T17.setTop (mkF m 299 #[iv p1, iv p2, iv p3, iv p4, iv q4, rv w5, iv g6, iv g7, rv b8, rv b9, iv ii, iv jj, rv xx, rv yy, rv zz] [])) _
    refine XS.aload X17.here hx rfl (hb hby at_299) rfl rfl ?_
    show Steps p.tables e below (T17.setTop (mkF m 301 #[iv p1, iv p2, iv p3, iv p4, iv q4, rv w5, iv g6, iv g7, rv b8, rv b9, iv ii, iv jj, rv xx, rv yy, rv zz] [(.ref xx)])) _
    refine XS.aload X17.here hx rfl (hb hby at_301) rfl rfl ?_
    show Steps p.tables e below (T17.setTop (mkF m 303 #[iv p1, iv p2, iv p3, iv p4, iv q4, rv w5, iv g6, iv g7, rv b8, rv b9, iv ii, iv jj, rv xx, rv yy, rv zz] [(.ref zz), (.ref xx)])) _
    exact k
  obtain ⟨cq20, kq20, qq20a, qq20b, qq20c⟩ := isOf hZ e17 a_0
  obtain ⟨_, _, ⟨T20, L20, kk20, nn20⟩, -, X20, ⟨Lc20, hQ20, l20, y20, z20⟩, st20⟩ := X17.interfaceBack hx (xi := (⟨"com/example/rulework/rulework/SchedulingRule", "contains", "(Lcom/example/rulework/rulework/SchedulingRule;)Z"⟩ : MethodName)) (y := (⟨"com/example/rulework/bench/Burst$SelfConflictingRule", "contains", "(Lcom/example/rulework/rulework/SchedulingRule;)Z"⟩ : MethodName)) hown (mvT hZ (hw _ (List.mem_of_getElem? (i := 45) rfl))) (mvT hZ (hw _ (List.mem_of_getElem? (i := 46) rfl))) (mvT hZ (hw _ (List.mem_of_getElem? (i := 47) rfl))) (mvT hZ (hw _ (List.mem_of_getElem? (i := 48) rfl))) (mvT hZ (hw _ (List.mem_of_getElem? (i := 49) rfl))) (mvT hZ (hw _ (List.mem_of_getElem? (i := 50) rfl))) (mvT hZ (hw _ (List.mem_of_getElem? (i := 51) rfl))) (mvT hZ (hw _ (List.mem_of_getElem? (i := 35) rfl))) (by decide) (backOf (W := 0) (containsF l Z a0 hw [] w_POOL w_NO_RULE w_ONE_RULE w_MANY_RULES G xx zz h0 n0 O0 (nez : ¬ (zz = xx))) hZ (hw _ (List.mem_of_getElem? (i := 52) rfl)) (hw _ (List.mem_of_getElem? (i := 28) rfl)) (by decide) (by decide)) qq20a qq20b qq20c (g := (mkF m 303 #[iv p1, iv p2, iv p3, iv p4, iv q4, rv w5, iv g6, iv g7, rv b8, rv b9, iv ii, iv jj, rv xx, rv yy, rv zz] [(.ref zz), (.ref xx)])) rfl (by rw [hml]; rfl) (Steps.refl _) (argsL := [(.ref zz)]) (rest := []) (lenOf pd_3 rfl) rfl (by show 2 * 0 + _ ≤ _; exact Nat.le_of_eq rfl) (hb hby at_303) (fun _ _ => ⟨rfl, e17, hcl, hsl⟩)
  dsimp only [Pt.U, Pt.locs, Pt.cells, Pt.slots] at X20 l20 y20 z20 st20 hQ20
  subst l20 y20 z20
  obtain ⟨rfl, Nq20, e20⟩ := hQ20
  have N20 := Fr.app N17 Nq20
  have k21 : Way p e below (T0.setTop (mkF m 173 #[iv p1, iv p2, iv p3, iv p4, iv q4, rv w5, iv g6, iv g7, rv b8, rv b9, iv ii, iv jj, rv xx, rv yy, rv zz] [])) T20 (mkF m 308 #[iv p1, iv p2, iv p3, iv p4, iv q4, rv w5, iv g6, iv g7, rv b8, rv b9, iv ii, iv jj, rv xx, rv yy, rv zz] [(.int (0 : Int32))]) := fun t k => k19 t (st20.trans k)
  have k22 : Way p e below (T0.setTop (mkF m 173 #[iv p1, iv p2, iv p3, iv p4, iv q4, rv w5, iv g6, iv g7, rv b8, rv b9, iv ii, iv jj, rv xx, rv yy, rv zz] [])) T20 (mkF m 314 #[iv p1, iv p2, iv p3, iv p4, iv q4, rv w5, iv g6, iv g7, rv b8, rv b9, iv ii, iv jj, rv xx, rv yy, rv zz] [(.int (1 : Int32))]) := by
    intro t k
    refine k21 t ?_
    refine XS.ifYes X20.here hx rfl (pc0 := 308) (pc' := 313) rfl (hb hby at_308) rfl ((if0 _ _).trans (teq ((by decide) : (0 : Int32) = (0 : Int32))).1) (by decide) (by decide) ?_
    show Steps p.tables e below (T20.setTop (mkF m 313 #[iv p1, iv p2, iv p3, iv p4, iv q4, rv w5, iv g6, iv g7, rv b8, rv b9, iv ii, iv jj, rv xx, rv yy, rv zz] [])) _
    refine XS.iconst X20.here hx rfl (hb hby at_313) ?_
    show Steps p.tables e below (T20.setTop (mkF m 314 #[iv p1, iv p2, iv p3, iv p4, iv q4, rv w5, iv g6, iv g7, rv b8, rv b9, iv ii, iv jj, rv xx, rv yy, rv zz] [(.int (1 : Int32))])) _
    exact k
  exact ⟨T20, _, X20, N20, e20, k22⟩
def Q_law_met (Z : State) (w_POOL : Addr) (w_NO_RULE : Addr) (w_ONE_RULE : Addr) (w_MANY_RULES : Addr) (p1 : Int32) (p2 : Int32) (p3 : Int32) (p4 : Int32) (h0 : Heap) (n0 : Nat) (v : Option Value) (h : Heap) (L : List Loc) : Prop := (v = some (.int (1 : Int32))) ∧ (Fr n0 L)
set_option maxRecDepth 65536 in
set_option maxHeartbeats 40000000 in
theorem law_met (l : Launch) (Z : State) (a0 : Array Value) (hw : ∀ d ∈ tables_1, d.before a0 Z = true) (ws : List Jvm.Cond) (w_POOL : Addr) (w_NO_RULE : Addr) (w_ONE_RULE : Addr) (w_MANY_RULES : Addr) (G : Gst Z w_POOL w_NO_RULE w_ONE_RULE w_MANY_RULES) (p1 : Int32) (p2 : Int32) (p3 : Int32) (p4 : Int32) (h0 : Heap) (n0 : Nat) (O0 : Old Z n0 h0) :
    MetFree l x (head1 (Jvm.Cond.code x code maxLocals ret :: ws) room_1) (fun a U => a = #[(.int p1), (.int p2), (.int p3), (.int p4)] ∧ Z.Warmed39 U.vm ∧ U.heap = h0) (fun _ _ _ _ _ => True) (fun _ U o U' => ∃ v L, o = .returned v ∧ Q_law_met Z w_POOL w_NO_RULE w_ONE_RULE w_MANY_RULES p1 p2 p3 p4 h0 n0 v U'.heap L ∧ FrameEnd U o U' L 40 128) := by
  refine MetFree.of_bodySF (plainFor_of_name pn_3) hisR ?_
  intro p e s m args below meth c s₁ Bd hml0 hP hK
  obtain ⟨rfl, hZ, hh⟩ := hP
  have hx := Bd.exec
  have hby := Bd.bytes
  have hml : c.maxLocals = 15 := hml0
  have hown : s.vm.findClass "com/example/rulework/bench/BurstMakeRulesPinLaw" = some m.cls := findClass_of_methodNamed Bd.named
  have hnm := (name_of_methodNamed Bd.named Bd.method).1
  have X0 : Stand p l e room_1 s m #[(.int p1), (.int p2), (.int p3), (.int p4)] below meth c s₁ [] 0 0 := Stand.of_body Bd
  have e0 : s₁.heap = h0 := by rw [← hh, Bd.state]; rfl
  have N0 := Fr.nil n0
  obtain ⟨S_w_POOL, E_w_POOL, F_w_POOL_ordinal, S_w_NO_RULE, E_w_NO_RULE, F_w_NO_RULE_ordinal, S_w_ONE_RULE, E_w_ONE_RULE, F_w_ONE_RULE_ordinal, S_w_MANY_RULES, E_w_MANY_RULES, F_w_MANY_RULES_ordinal⟩ := id G
  have k0 : Way p e below (s₁.setTop (entryFrame m #[(.int p1), (.int p2), (.int p3), (.int p4)] maxLocals)) s₁ (mkF m 0 #[iv p1, iv p2, iv p3, iv p4, .unset, .unset, .unset, .unset, .unset, .unset, .unset, .unset, .unset, .unset, .unset] []) := fun t k => castTop (by first | (simp [entryFrame, mkF, argsToLocals, Value.category, maxLocals]; done) | rfl) k
  generalize s₁.setTop (entryFrame m #[(.int p1), (.int p2), (.int p3), (.int p4)] maxLocals) = S0 at k0 ⊢
  have k1 : Way p e below S0 s₁ (mkF m 5 #[iv p1, iv p2, iv p3, iv p4, iv (p1 &&& (3 : Int32)), .unset, .unset, .unset, .unset, .unset, .unset, .unset, .unset, .unset, .unset] []) := by
    intro t k
    refine k0 t ?_
    refine XS.iloadN X0.here hx rfl (hb hby at_0) rfl ?_
    show Steps p.tables e below (s₁.setTop (mkF m 1 #[iv p1, iv p2, iv p3, iv p4, .unset, .unset, .unset, .unset, .unset, .unset, .unset, .unset, .unset, .unset, .unset] [(.int p1)])) _
    refine XS.iconst X0.here hx rfl (hb hby at_1) ?_
    show Steps p.tables e below (s₁.setTop (mkF m 2 #[iv p1, iv p2, iv p3, iv p4, .unset, .unset, .unset, .unset, .unset, .unset, .unset, .unset, .unset, .unset, .unset] [(.int (3 : Int32)), (.int p1)])) _
    refine XS.iand X0.here hx rfl (hb hby at_2) rfl ?_
    show Steps p.tables e below (s₁.setTop (mkF m 3 #[iv p1, iv p2, iv p3, iv p4, .unset, .unset, .unset, .unset, .unset, .unset, .unset, .unset, .unset, .unset, .unset] [(.int (p1 &&& (3 : Int32)))])) _
    refine XS.istore X0.here hx rfl (hb hby at_3) rfl (l' := #[iv p1, iv p2, iv p3, iv p4, iv (p1 &&& (3 : Int32)), .unset, .unset, .unset, .unset, .unset, .unset, .unset, .unset, .unset, .unset]) rfl ?_
    show Steps p.tables e below (s₁.setTop (mkF m 5 #[iv p1, iv p2, iv p3, iv p4, iv (p1 &&& (3 : Int32)), .unset, .unset, .unset, .unset, .unset, .unset, .unset, .unset, .unset, .unset] [])) _
    exact k
  have hr2 : (p1 &&& (3 : Int32)) = (0 : Int32) ∨ (p1 &&& (3 : Int32)) = (1 : Int32) ∨ (p1 &&& (3 : Int32)) = (2 : Int32) ∨ (p1 &&& (3 : Int32)) = (3 : Int32) := own_mask3 p1
  rcases hr2 with hi2 | hi2 | hi2 | hi2
  · have k3 : Way p e below S0 s₁ (mkF m 5 #[iv p1, iv p2, iv p3, iv p4, iv (0 : Int32), .unset, .unset, .unset, .unset, .unset, .unset, .unset, .unset, .unset, .unset] []) := by have q := k1; rw [hi2] at q; exact q
    have k4 : Way p e below S0 s₁ (mkF m 10 #[iv p1, iv p2, iv p3, iv p4, iv (0 : Int32), .unset, .unset, .unset, .unset, .unset, .unset, .unset, .unset, .unset, .unset] []) := by
      intro t k
      refine k3 t ?_
      refine XS.iload X0.here hx rfl (hb hby at_5) rfl ?_
      show Steps p.tables e below (s₁.setTop (mkF m 7 #[iv p1, iv p2, iv p3, iv p4, iv (0 : Int32), .unset, .unset, .unset, .unset, .unset, .unset, .unset, .unset, .unset, .unset] [(.int (0 : Int32))])) _
      refine XS.ifNo X0.here hx rfl (hb hby at_7) rfl ((if0 _ _).trans (teq ((by decide) : (0 : Int32) = (0 : Int32))).2) ?_
      show Steps p.tables e below (s₁.setTop (mkF m 10 #[iv p1, iv p2, iv p3, iv p4, iv (0 : Int32), .unset, .unset, .unset, .unset, .unset, .unset, .unset, .unset, .unset, .unset] [])) _
      exact k
    obtain ⟨T5, X5, e5, st5⟩ := getS2 X0 hx hZ hown (host := "") (Or.inl (hw _ (List.mem_of_getElem? (i := 0) rfl))) Via.refl e0 (S_w_POOL.ext O0.2) (g := (mkF m 10 #[iv p1, iv p2, iv p3, iv p4, iv (0 : Int32), .unset, .unset, .unset, .unset, .unset, .unset, .unset, .unset, .unset, .unset] [])) rfl (hb hby at_10)
    have k6 : Way p e below S0 T5 (mkF m 13 #[iv p1, iv p2, iv p3, iv p4, iv (0 : Int32), .unset, .unset, .unset, .unset, .unset, .unset, .unset, .unset, .unset, .unset] [(.ref w_POOL)]) := fun t k => k4 t (st5 _ k)
    have k7 : Way p e below S0 T5 (mkF m 83 #[iv p1, iv p2, iv p3, iv p4, iv (0 : Int32), rv w_POOL, iv p2, iv (0 : Int32), .unset, .unset, .unset, .unset, .unset, .unset, .unset] [(.int p2), (.ref w_POOL)]) := by
      intro t k
      refine k6 t ?_
      refine XS.astore X5.here hx rfl (hb hby at_13) rfl rfl (l' := #[iv p1, iv p2, iv p3, iv p4, iv (0 : Int32), rv w_POOL, .unset, .unset, .unset, .unset, .unset, .unset, .unset, .unset, .unset]) rfl ?_
      show Steps p.tables e below (T5.setTop (mkF m 15 #[iv p1, iv p2, iv p3, iv p4, iv (0 : Int32), rv w_POOL, .unset, .unset, .unset, .unset, .unset, .unset, .unset, .unset, .unset] [])) _
      refine XS.iloadN X5.here hx rfl (hb hby at_15) rfl ?_
      show Steps p.tables e below (T5.setTop (mkF m 16 #[iv p1, iv p2, iv p3, iv p4, iv (0 : Int32), rv w_POOL, .unset, .unset, .unset, .unset, .unset, .unset, .unset, .unset, .unset] [(.int p2)])) _
      refine XS.istore X5.here hx rfl (hb hby at_16) rfl (l' := #[iv p1, iv p2, iv p3, iv p4, iv (0 : Int32), rv w_POOL, iv p2, .unset, .unset, .unset, .unset, .unset, .unset, .unset, .unset]) rfl ?_
      show Steps p.tables e below (T5.setTop (mkF m 18 #[iv p1, iv p2, iv p3, iv p4, iv (0 : Int32), rv w_POOL, iv p2, .unset, .unset, .unset, .unset, .unset, .unset, .unset, .unset] [])) _
      refine XS.iconst X5.here hx rfl (hb hby at_18) ?_
      show Steps p.tables e below (T5.setTop (mkF m 19 #[iv p1, iv p2, iv p3, iv p4, iv (0 : Int32), rv w_POOL, iv p2, .unset, .unset, .unset, .unset, .unset, .unset, .unset, .unset] [(.int (0 : Int32))])) _
      refine XS.istore X5.here hx rfl (hb hby at_19) rfl (l' := #[iv p1, iv p2, iv p3, iv p4, iv (0 : Int32), rv w_POOL, iv p2, iv (0 : Int32), .unset, .unset, .unset, .unset, .unset, .unset, .unset]) rfl ?_
      show Steps p.tables e below (T5.setTop (mkF m 21 #[iv p1, iv p2, iv p3, iv p4, iv (0 : Int32), rv w_POOL, iv p2, iv (0 : Int32), .unset, .unset, .unset, .unset, .unset, .unset, .unset] [])) _
      refine XS.goto X5.here hx rfl (pc0 := 21) (pc' := 79) rfl (hb hby at_21) (by decide) (by decide) ?_
      show Steps p.tables e below (T5.setTop (mkF m 79 #[iv p1, iv p2, iv p3, iv p4, iv (0 : Int32), rv w_POOL, iv p2, iv (0 : Int32), .unset, .unset, .unset, .unset, .unset, .unset, .unset] [])) _
      refine XS.aload X5.here hx rfl (hb hby at_79) rfl rfl ?_
      show Steps p.tables e below (T5.setTop (mkF m 81 #[iv p1, iv p2, iv p3, iv p4, iv (0 : Int32), rv w_POOL, iv p2, iv (0 : Int32), .unset, .unset, .unset, .unset, .unset, .unset, .unset] [(.ref w_POOL)])) _
      refine XS.iload X5.here hx rfl (hb hby at_81) rfl ?_
      show Steps p.tables e below (T5.setTop (mkF m 83 #[iv p1, iv p2, iv p3, iv p4, iv (0 : Int32), rv w_POOL, iv p2, iv (0 : Int32), .unset, .unset, .unset, .unset, .unset, .unset, .unset] [(.int p2), (.ref w_POOL)])) _
      exact k
    obtain ⟨cq8, kq8, qq8a, qq8b, qq8c⟩ := isOf hZ e5 (E_w_POOL.ext O0.2)
    obtain ⟨_, _, ⟨T8, L8, kk8, nn8⟩, -, X8, ⟨Lc8, hQ8, l8, y8, z8⟩, st8⟩ := X5.virtualBack hx (y := (⟨"com/example/rulework/bench/Burst", "makeRules", "(I)[Lcom/example/rulework/rulework/SchedulingRule;"⟩ : MethodName)) (z := (⟨"com/example/rulework/bench/Burst", "makeRules", "(I)[Lcom/example/rulework/rulework/SchedulingRule;"⟩ : MethodName)) hown (mvT hZ (hw _ (List.mem_of_getElem? (i := 3) rfl))) (mvT hZ (hw _ (List.mem_of_getElem? (i := 4) rfl))) (notFace_of_selects (args := #[]) (mvT hZ (hw _ (List.mem_of_getElem? (i := 6) rfl)))) (mvT hZ (hw _ (List.mem_of_getElem? (i := 6) rfl))) (mvT hZ (hw _ (List.mem_of_getElem? (i := 5) rfl))) (by decide) (backOf (W := 0) (mk0 l Z a0 hw [] w_POOL w_NO_RULE w_ONE_RULE w_MANY_RULES G p2 h0 n0 O0 ) hZ (hw _ (List.mem_of_getElem? (i := 7) rfl)) (hw _ (List.mem_of_getElem? (i := 1) rfl)) (by decide) (by decide)) qq8a qq8c (g := (mkF m 83 #[iv p1, iv p2, iv p3, iv p4, iv (0 : Int32), rv w_POOL, iv p2, iv (0 : Int32), .unset, .unset, .unset, .unset, .unset, .unset, .unset] [(.int p2), (.ref w_POOL)])) rfl (by rw [hml]; rfl) (Steps.refl _) (argsL := [(.int p2)]) (rest := []) (lenOf pd_4 rfl) rfl (by show 2 * 0 + _ ≤ _; exact Nat.le_of_eq rfl) (hb hby at_83) (fun _ _ => ⟨rfl, e5, (by decide : 0 + 1 ≤ _), (by decide : 0 + 0 ≤ _)⟩)
    dsimp only [Pt.U, Pt.locs, Pt.cells, Pt.slots] at X8 l8 y8 z8 st8 hQ8
    subst l8 y8 z8
    obtain ⟨b1_8, kc_8, rfl, Nq8, Kq8, po8_0, po8_1⟩ := hQ8
    have N8 := Fr.app N0 Nq8
    have O8 := O0.keep Kq8 all0
    have k9 : Way p e below S0 T8 (mkF m 86 #[iv p1, iv p2, iv p3, iv p4, iv (0 : Int32), rv w_POOL, iv p2, iv (0 : Int32), .unset, .unset, .unset, .unset, .unset, .unset, .unset] [(.ref b1_8)]) := fun t k => k7 t (st8.trans k)
    have k10 : Way p e below S0 T8 (mkF m 92 #[iv p1, iv p2, iv p3, iv p4, iv (0 : Int32), rv w_POOL, iv p2, iv (0 : Int32), rv b1_8, .unset, .unset, .unset, .unset, .unset, .unset] [(.int p2), (.ref w_POOL)]) := by
      intro t k
      refine k9 t ?_
      refine XS.astore X8.here hx rfl (hb hby at_86) rfl rfl (l' := #[iv p1, iv p2, iv p3, iv p4, iv (0 : Int32), rv w_POOL, iv p2, iv (0 : Int32), rv b1_8, .unset, .unset, .unset, .unset, .unset, .unset]) rfl ?_
      show Steps p.tables e below (T8.setTop (mkF m 88 #[iv p1, iv p2, iv p3, iv p4, iv (0 : Int32), rv w_POOL, iv p2, iv (0 : Int32), rv b1_8, .unset, .unset, .unset, .unset, .unset, .unset] [])) _
      refine XS.aload X8.here hx rfl (hb hby at_88) rfl rfl ?_
      show Steps p.tables e below (T8.setTop (mkF m 90 #[iv p1, iv p2, iv p3, iv p4, iv (0 : Int32), rv w_POOL, iv p2, iv (0 : Int32), rv b1_8, .unset, .unset, .unset, .unset, .unset, .unset] [(.ref w_POOL)])) _
      refine XS.iload X8.here hx rfl (hb hby at_90) rfl ?_
      show Steps p.tables e below (T8.setTop (mkF m 92 #[iv p1, iv p2, iv p3, iv p4, iv (0 : Int32), rv w_POOL, iv p2, iv (0 : Int32), rv b1_8, .unset, .unset, .unset, .unset, .unset, .unset] [(.int p2), (.ref w_POOL)])) _
      exact k
    obtain ⟨cq11, kq11, qq11a, qq11b, qq11c⟩ := isOf hZ rfl (E_w_POOL.ext O8.2)
    obtain ⟨_, _, ⟨T11, L11, kk11, nn11⟩, -, X11, ⟨Lc11, hQ11, l11, y11, z11⟩, st11⟩ := X8.virtualBack hx (y := (⟨"com/example/rulework/bench/Burst", "makeRules", "(I)[Lcom/example/rulework/rulework/SchedulingRule;"⟩ : MethodName)) (z := (⟨"com/example/rulework/bench/Burst", "makeRules", "(I)[Lcom/example/rulework/rulework/SchedulingRule;"⟩ : MethodName)) hown (mvT hZ (hw _ (List.mem_of_getElem? (i := 3) rfl))) (mvT hZ (hw _ (List.mem_of_getElem? (i := 4) rfl))) (notFace_of_selects (args := #[]) (mvT hZ (hw _ (List.mem_of_getElem? (i := 6) rfl)))) (mvT hZ (hw _ (List.mem_of_getElem? (i := 6) rfl))) (mvT hZ (hw _ (List.mem_of_getElem? (i := 5) rfl))) (by decide) (backOf (W := 0) (mk0 l Z a0 hw [] w_POOL w_NO_RULE w_ONE_RULE w_MANY_RULES G p2 T8.heap n0 O8 ) hZ (hw _ (List.mem_of_getElem? (i := 7) rfl)) (hw _ (List.mem_of_getElem? (i := 1) rfl)) (by decide) (by decide)) qq11a qq11c (g := (mkF m 92 #[iv p1, iv p2, iv p3, iv p4, iv (0 : Int32), rv w_POOL, iv p2, iv (0 : Int32), rv b1_8, .unset, .unset, .unset, .unset, .unset, .unset] [(.int p2), (.ref w_POOL)])) rfl (by rw [hml]; rfl) (Steps.refl _) (argsL := [(.int p2)]) (rest := []) (lenOf pd_4 rfl) rfl (by show 2 * 0 + _ ≤ _; exact Nat.le_of_eq rfl) (hb hby at_92) (fun _ _ => ⟨rfl, rfl, (by decide : 1 + 1 ≤ _), (by decide : 0 + 0 ≤ _)⟩)
    dsimp only [Pt.U, Pt.locs, Pt.cells, Pt.slots] at X11 l11 y11 z11 st11 hQ11
    subst l11 y11 z11
    obtain ⟨b1_11, kc_11, rfl, Nq11, Kq11, po11_0, po11_1⟩ := hQ11
    have N11 := Fr.app N8 Nq11
    have O11 := O8.keep Kq11 all0
    have k12 : Way p e below S0 T11 (mkF m 95 #[iv p1, iv p2, iv p3, iv p4, iv (0 : Int32), rv w_POOL, iv p2, iv (0 : Int32), rv b1_8, .unset, .unset, .unset, .unset, .unset, .unset] [(.ref b1_11)]) := fun t k => k10 t (st11.trans k)
    have k13 : Way p e below S0 T11 (mkF m 111 #[iv p1, iv p2, iv p3, iv p4, iv (0 : Int32), rv w_POOL, iv p2, iv (0 : Int32), rv b1_8, rv b1_11, .unset, .unset, .unset, .unset, .unset] [(.ref b1_8)]) := by
      intro t k
      refine k12 t ?_
      refine XS.astore X11.here hx rfl (hb hby at_95) rfl rfl (l' := #[iv p1, iv p2, iv p3, iv p4, iv (0 : Int32), rv w_POOL, iv p2, iv (0 : Int32), rv b1_8, rv b1_11, .unset, .unset, .unset, .unset, .unset]) rfl ?_
      show Steps p.tables e below (T11.setTop (mkF m 97 #[iv p1, iv p2, iv p3, iv p4, iv (0 : Int32), rv w_POOL, iv p2, iv (0 : Int32), rv b1_8, rv b1_11, .unset, .unset, .unset, .unset, .unset] [])) _
      refine XS.aload X11.here hx rfl (hb hby at_97) rfl rfl ?_
      show Steps p.tables e below (T11.setTop (mkF m 99 #[iv p1, iv p2, iv p3, iv p4, iv (0 : Int32), rv w_POOL, iv p2, iv (0 : Int32), rv b1_8, rv b1_11, .unset, .unset, .unset, .unset, .unset] [(.ref b1_8)])) _
      refine XS.ifnullNo X11.here hx rfl (hb hby at_99) rfl ?_
      show Steps p.tables e below (T11.setTop (mkF m 102 #[iv p1, iv p2, iv p3, iv p4, iv (0 : Int32), rv w_POOL, iv p2, iv (0 : Int32), rv b1_8, rv b1_11, .unset, .unset, .unset, .unset, .unset] [])) _
      refine XS.aload X11.here hx rfl (hb hby at_102) rfl rfl ?_
      show Steps p.tables e below (T11.setTop (mkF m 104 #[iv p1, iv p2, iv p3, iv p4, iv (0 : Int32), rv w_POOL, iv p2, iv (0 : Int32), rv b1_8, rv b1_11, .unset, .unset, .unset, .unset, .unset] [(.ref b1_11)])) _
      refine XS.ifnonnullYes X11.here hx rfl (pc0 := 104) (pc' := 109) rfl (hb hby at_104) rfl (by decide) (by decide) ?_
      show Steps p.tables e below (T11.setTop (mkF m 109 #[iv p1, iv p2, iv p3, iv p4, iv (0 : Int32), rv w_POOL, iv p2, iv (0 : Int32), rv b1_8, rv b1_11, .unset, .unset, .unset, .unset, .unset] [])) _
      refine XS.aload X11.here hx rfl (hb hby at_109) rfl rfl ?_
      show Steps p.tables e below (T11.setTop (mkF m 111 #[iv p1, iv p2, iv p3, iv p4, iv (0 : Int32), rv w_POOL, iv p2, iv (0 : Int32), rv b1_8, rv b1_11, .unset, .unset, .unset, .unset, .unset] [(.ref b1_8)])) _
      exact k
    have f14 : Arv Z T11.heap b1_8 kc_8 (.object "com/example/rulework/rulework/SchedulingRule") (0 : Int32) [] .null := (po8_1.keep Kq11 nin0)
    obtain ⟨cl15, Ar15, -, S15, M15, -, -⟩ := id (f14)
    have k16 : Way p e below S0 T11 (mkF m 112 #[iv p1, iv p2, iv p3, iv p4, iv (0 : Int32), rv w_POOL, iv p2, iv (0 : Int32), rv b1_8, rv b1_11, .unset, .unset, .unset, .unset, .unset] [(.int (0 : Int32))]) := fun t k => k13 t (X11.arraylength hx (Ar15.1) (State.isArrayOf_alike hZ.alike Ar15.2.1) (g := (mkF m 111 #[iv p1, iv p2, iv p3, iv p4, iv (0 : Int32), rv w_POOL, iv p2, iv (0 : Int32), rv b1_8, rv b1_11, .unset, .unset, .unset, .unset, .unset] [(.ref b1_8)])) rfl rfl (hb hby at_111) _ (by rw [len_of S15 M15]; exact k))
    have k17 : Way p e below S0 T11 (mkF m 119 #[iv p1, iv p2, iv p3, iv p4, iv (0 : Int32), rv w_POOL, iv p2, iv (0 : Int32), rv b1_8, rv b1_11, .unset, .unset, .unset, .unset, .unset] [(.ref b1_11)]) := by
      intro t k
      refine k16 t ?_
      refine XS.iload X11.here hx rfl (hb hby at_112) rfl ?_
      show Steps p.tables e below (T11.setTop (mkF m 114 #[iv p1, iv p2, iv p3, iv p4, iv (0 : Int32), rv w_POOL, iv p2, iv (0 : Int32), rv b1_8, rv b1_11, .unset, .unset, .unset, .unset, .unset] [(.int (0 : Int32)), (.int (0 : Int32))])) _
      refine XS.icmpNo X11.here hx rfl (hb hby at_114) rfl (teq ((by decide) : (0 : Int32) = (0 : Int32))).2 ?_
      show Steps p.tables e below (T11.setTop (mkF m 117 #[iv p1, iv p2, iv p3, iv p4, iv (0 : Int32), rv w_POOL, iv p2, iv (0 : Int32), rv b1_8, rv b1_11, .unset, .unset, .unset, .unset, .unset] [])) _
      refine XS.aload X11.here hx rfl (hb hby at_117) rfl rfl ?_
      show Steps p.tables e below (T11.setTop (mkF m 119 #[iv p1, iv p2, iv p3, iv p4, iv (0 : Int32), rv w_POOL, iv p2, iv (0 : Int32), rv b1_8, rv b1_11, .unset, .unset, .unset, .unset, .unset] [(.ref b1_11)])) _
      exact k
    obtain ⟨cl18, Ar18, -, S18, M18, -, -⟩ := id (po11_1)
    have k19 : Way p e below S0 T11 (mkF m 120 #[iv p1, iv p2, iv p3, iv p4, iv (0 : Int32), rv w_POOL, iv p2, iv (0 : Int32), rv b1_8, rv b1_11, .unset, .unset, .unset, .unset, .unset] [(.int (0 : Int32))]) := fun t k => k17 t (X11.arraylength hx (Ar18.1) (State.isArrayOf_alike hZ.alike Ar18.2.1) (g := (mkF m 119 #[iv p1, iv p2, iv p3, iv p4, iv (0 : Int32), rv w_POOL, iv p2, iv (0 : Int32), rv b1_8, rv b1_11, .unset, .unset, .unset, .unset, .unset] [(.ref b1_11)])) rfl rfl (hb hby at_119) _ (by rw [len_of S18 M18]; exact k))
    have k20 : Way p e below S0 T11 (mkF m 133 #[iv p1, iv p2, iv p3, iv p4, iv (0 : Int32), rv w_POOL, iv p2, iv (0 : Int32), rv b1_8, rv b1_11, .unset, .unset, .unset, .unset, .unset] [(.int (1 : Int32))]) := by
      intro t k
      refine k19 t ?_
      refine XS.iload X11.here hx rfl (hb hby at_120) rfl ?_
      show Steps p.tables e below (T11.setTop (mkF m 122 #[iv p1, iv p2, iv p3, iv p4, iv (0 : Int32), rv w_POOL, iv p2, iv (0 : Int32), rv b1_8, rv b1_11, .unset, .unset, .unset, .unset, .unset] [(.int (0 : Int32)), (.int (0 : Int32))])) _
      refine XS.icmpYes X11.here hx rfl (pc0 := 122) (pc' := 127) rfl (hb hby at_122) rfl (teq ((by decide) : (0 : Int32) = (0 : Int32))).1 (by decide) (by decide) ?_
      show Steps p.tables e below (T11.setTop (mkF m 127 #[iv p1, iv p2, iv p3, iv p4, iv (0 : Int32), rv w_POOL, iv p2, iv (0 : Int32), rv b1_8, rv b1_11, .unset, .unset, .unset, .unset, .unset] [])) _
      refine XS.iload X11.here hx rfl (hb hby at_127) rfl ?_
      show Steps p.tables e below (T11.setTop (mkF m 129 #[iv p1, iv p2, iv p3, iv p4, iv (0 : Int32), rv w_POOL, iv p2, iv (0 : Int32), rv b1_8, rv b1_11, .unset, .unset, .unset, .unset, .unset] [(.int (0 : Int32))])) _
      refine XS.ifNo X11.here hx rfl (hb hby at_129) rfl ((if0 _ _).trans (teq ((by decide) : (0 : Int32) = (0 : Int32))).2) ?_
      show Steps p.tables e below (T11.setTop (mkF m 132 #[iv p1, iv p2, iv p3, iv p4, iv (0 : Int32), rv w_POOL, iv p2, iv (0 : Int32), rv b1_8, rv b1_11, .unset, .unset, .unset, .unset, .unset] [])) _
      refine XS.iconst X11.here hx rfl (hb hby at_132) ?_
      show Steps p.tables e below (T11.setTop (mkF m 133 #[iv p1, iv p2, iv p3, iv p4, iv (0 : Int32), rv w_POOL, iv p2, iv (0 : Int32), rv b1_8, rv b1_11, .unset, .unset, .unset, .unset, .unset] [(.int (1 : Int32))])) _
      exact k
    obtain ⟨fs, hr, hrun, hended, hW, hsame⟩ := X11.leave (v := some (.int (1 : Int32))) (fun h => by rw [Bd.returns] at h; cases h)
    refine ⟨_, _, k20 _ (retN X11 hx (t := .boolean) Bd.returns (by simp) (hb hby at_133) hr), hrun, hended, _, _, rfl, ?_, ⟨_, rfl⟩, hW, hsame.mono (by decide) (by decide)⟩
    show Q_law_met Z w_POOL w_NO_RULE w_ONE_RULE w_MANY_RULES p1 p2 p3 p4 h0 n0 _ T11.heap _
    exact ⟨rfl, N11⟩
  · have k21 : Way p e below S0 s₁ (mkF m 5 #[iv p1, iv p2, iv p3, iv p4, iv (1 : Int32), .unset, .unset, .unset, .unset, .unset, .unset, .unset, .unset, .unset, .unset] []) := by have q := k1; rw [hi2] at q; exact q
    have k22 : Way p e below S0 s₁ (mkF m 30 #[iv p1, iv p2, iv p3, iv p4, iv (1 : Int32), .unset, .unset, .unset, .unset, .unset, .unset, .unset, .unset, .unset, .unset] []) := by
      intro t k
      refine k21 t ?_
      refine XS.iload X0.here hx rfl (hb hby at_5) rfl ?_
      show Steps p.tables e below (s₁.setTop (mkF m 7 #[iv p1, iv p2, iv p3, iv p4, iv (1 : Int32), .unset, .unset, .unset, .unset, .unset, .unset, .unset, .unset, .unset, .unset] [(.int (1 : Int32))])) _
      refine XS.ifYes X0.here hx rfl (pc0 := 7) (pc' := 24) rfl (hb hby at_7) rfl ((if0 _ _).trans (feq ((by decide) : ¬ ((1 : Int32) = (0 : Int32)))).2) (by decide) (by decide) ?_
      show Steps p.tables e below (s₁.setTop (mkF m 24 #[iv p1, iv p2, iv p3, iv p4, iv (1 : Int32), .unset, .unset, .unset, .unset, .unset, .unset, .unset, .unset, .unset, .unset] [])) _
      refine XS.iload X0.here hx rfl (hb hby at_24) rfl ?_
      show Steps p.tables e below (s₁.setTop (mkF m 26 #[iv p1, iv p2, iv p3, iv p4, iv (1 : Int32), .unset, .unset, .unset, .unset, .unset, .unset, .unset, .unset, .unset, .unset] [(.int (1 : Int32))])) _
      refine XS.iconst X0.here hx rfl (hb hby at_26) ?_
      show Steps p.tables e below (s₁.setTop (mkF m 27 #[iv p1, iv p2, iv p3, iv p4, iv (1 : Int32), .unset, .unset, .unset, .unset, .unset, .unset, .unset, .unset, .unset, .unset] [(.int (1 : Int32)), (.int (1 : Int32))])) _
      refine XS.icmpNo X0.here hx rfl (hb hby at_27) rfl (teq ((by decide) : (1 : Int32) = (1 : Int32))).2 ?_
      show Steps p.tables e below (s₁.setTop (mkF m 30 #[iv p1, iv p2, iv p3, iv p4, iv (1 : Int32), .unset, .unset, .unset, .unset, .unset, .unset, .unset, .unset, .unset, .unset] [])) _
      exact k
    obtain ⟨T23, X23, e23, st23⟩ := getS2 X0 hx hZ hown (host := "") (Or.inl (hw _ (List.mem_of_getElem? (i := 55) rfl))) Via.refl e0 (S_w_NO_RULE.ext O0.2) (g := (mkF m 30 #[iv p1, iv p2, iv p3, iv p4, iv (1 : Int32), .unset, .unset, .unset, .unset, .unset, .unset, .unset, .unset, .unset, .unset] [])) rfl (hb hby at_30)
    have k24 : Way p e below S0 T23 (mkF m 33 #[iv p1, iv p2, iv p3, iv p4, iv (1 : Int32), .unset, .unset, .unset, .unset, .unset, .unset, .unset, .unset, .unset, .unset] [(.ref w_NO_RULE)]) := fun t k => k22 t (st23 _ k)
    have k25 : Way p e below S0 T23 (mkF m 83 #[iv p1, iv p2, iv p3, iv p4, iv (1 : Int32), rv w_NO_RULE, iv p2, iv (0 : Int32), .unset, .unset, .unset, .unset, .unset, .unset, .unset] [(.int p2), (.ref w_NO_RULE)]) := by
      intro t k
      refine k24 t ?_
      refine XS.astore X23.here hx rfl (hb hby at_33) rfl rfl (l' := #[iv p1, iv p2, iv p3, iv p4, iv (1 : Int32), rv w_NO_RULE, .unset, .unset, .unset, .unset, .unset, .unset, .unset, .unset, .unset]) rfl ?_
      show Steps p.tables e below (T23.setTop (mkF m 35 #[iv p1, iv p2, iv p3, iv p4, iv (1 : Int32), rv w_NO_RULE, .unset, .unset, .unset, .unset, .unset, .unset, .unset, .unset, .unset] [])) _
      refine XS.iloadN X23.here hx rfl (hb hby at_35) rfl ?_
      show Steps p.tables e below (T23.setTop (mkF m 36 #[iv p1, iv p2, iv p3, iv p4, iv (1 : Int32), rv w_NO_RULE, .unset, .unset, .unset, .unset, .unset, .unset, .unset, .unset, .unset] [(.int p2)])) _
      refine XS.istore X23.here hx rfl (hb hby at_36) rfl (l' := #[iv p1, iv p2, iv p3, iv p4, iv (1 : Int32), rv w_NO_RULE, iv p2, .unset, .unset, .unset, .unset, .unset, .unset, .unset, .unset]) rfl ?_
      show Steps p.tables e below (T23.setTop (mkF m 38 #[iv p1, iv p2, iv p3, iv p4, iv (1 : Int32), rv w_NO_RULE, iv p2, .unset, .unset, .unset, .unset, .unset, .unset, .unset, .unset] [])) _
      refine XS.iconst X23.here hx rfl (hb hby at_38) ?_
      show Steps p.tables e below (T23.setTop (mkF m 39 #[iv p1, iv p2, iv p3, iv p4, iv (1 : Int32), rv w_NO_RULE, iv p2, .unset, .unset, .unset, .unset, .unset, .unset, .unset, .unset] [(.int (0 : Int32))])) _
      refine XS.istore X23.here hx rfl (hb hby at_39) rfl (l' := #[iv p1, iv p2, iv p3, iv p4, iv (1 : Int32), rv w_NO_RULE, iv p2, iv (0 : Int32), .unset, .unset, .unset, .unset, .unset, .unset, .unset]) rfl ?_
      show Steps p.tables e below (T23.setTop (mkF m 41 #[iv p1, iv p2, iv p3, iv p4, iv (1 : Int32), rv w_NO_RULE, iv p2, iv (0 : Int32), .unset, .unset, .unset, .unset, .unset, .unset, .unset] [])) _
      refine XS.goto X23.here hx rfl (pc0 := 41) (pc' := 79) rfl (hb hby at_41) (by decide) (by decide) ?_
      show Steps p.tables e below (T23.setTop (mkF m 79 #[iv p1, iv p2, iv p3, iv p4, iv (1 : Int32), rv w_NO_RULE, iv p2, iv (0 : Int32), .unset, .unset, .unset, .unset, .unset, .unset, .unset] [])) _
      refine XS.aload X23.here hx rfl (hb hby at_79) rfl rfl ?_
      show Steps p.tables e below (T23.setTop (mkF m 81 #[iv p1, iv p2, iv p3, iv p4, iv (1 : Int32), rv w_NO_RULE, iv p2, iv (0 : Int32), .unset, .unset, .unset, .unset, .unset, .unset, .unset] [(.ref w_NO_RULE)])) _
      refine XS.iload X23.here hx rfl (hb hby at_81) rfl ?_
      show Steps p.tables e below (T23.setTop (mkF m 83 #[iv p1, iv p2, iv p3, iv p4, iv (1 : Int32), rv w_NO_RULE, iv p2, iv (0 : Int32), .unset, .unset, .unset, .unset, .unset, .unset, .unset] [(.int p2), (.ref w_NO_RULE)])) _
      exact k
    obtain ⟨cq26, kq26, qq26a, qq26b, qq26c⟩ := isOf hZ e23 (E_w_NO_RULE.ext O0.2)
    obtain ⟨_, _, ⟨T26, L26, kk26, nn26⟩, -, X26, ⟨Lc26, hQ26, l26, y26, z26⟩, st26⟩ := X23.virtualBack hx (y := (⟨"com/example/rulework/bench/Burst", "makeRules", "(I)[Lcom/example/rulework/rulework/SchedulingRule;"⟩ : MethodName)) (z := (⟨"com/example/rulework/bench/Burst", "makeRules", "(I)[Lcom/example/rulework/rulework/SchedulingRule;"⟩ : MethodName)) hown (mvT hZ (hw _ (List.mem_of_getElem? (i := 3) rfl))) (mvT hZ (hw _ (List.mem_of_getElem? (i := 4) rfl))) (notFace_of_selects (args := #[]) (mvT hZ (hw _ (List.mem_of_getElem? (i := 6) rfl)))) (mvT hZ (hw _ (List.mem_of_getElem? (i := 6) rfl))) (mvT hZ (hw _ (List.mem_of_getElem? (i := 5) rfl))) (by decide) (backOf (W := 0) (mk1 l Z a0 hw [] w_POOL w_NO_RULE w_ONE_RULE w_MANY_RULES G p2 h0 n0 O0 ) hZ (hw _ (List.mem_of_getElem? (i := 7) rfl)) (hw _ (List.mem_of_getElem? (i := 1) rfl)) (by decide) (by decide)) qq26a qq26c (g := (mkF m 83 #[iv p1, iv p2, iv p3, iv p4, iv (1 : Int32), rv w_NO_RULE, iv p2, iv (0 : Int32), .unset, .unset, .unset, .unset, .unset, .unset, .unset] [(.int p2), (.ref w_NO_RULE)])) rfl (by rw [hml]; rfl) (Steps.refl _) (argsL := [(.int p2)]) (rest := []) (lenOf pd_4 rfl) rfl (by show 2 * 0 + _ ≤ _; exact Nat.le_of_eq rfl) (hb hby at_83) (fun _ _ => ⟨rfl, e23, (by decide : 0 + 1 ≤ _), (by decide : 0 + 0 ≤ _)⟩)
    dsimp only [Pt.U, Pt.locs, Pt.cells, Pt.slots] at X26 l26 y26 z26 st26 hQ26
    subst l26 y26 z26
    obtain ⟨b1_26, kc_26, rfl, Nq26, Kq26, po26_0, po26_1⟩ := hQ26
    have N26 := Fr.app N0 Nq26
    have O26 := O0.keep Kq26 all0
    have k27 : Way p e below S0 T26 (mkF m 86 #[iv p1, iv p2, iv p3, iv p4, iv (1 : Int32), rv w_NO_RULE, iv p2, iv (0 : Int32), .unset, .unset, .unset, .unset, .unset, .unset, .unset] [(.ref b1_26)]) := fun t k => k25 t (st26.trans k)
    have k28 : Way p e below S0 T26 (mkF m 92 #[iv p1, iv p2, iv p3, iv p4, iv (1 : Int32), rv w_NO_RULE, iv p2, iv (0 : Int32), rv b1_26, .unset, .unset, .unset, .unset, .unset, .unset] [(.int p2), (.ref w_NO_RULE)]) := by
      intro t k
      refine k27 t ?_
      refine XS.astore X26.here hx rfl (hb hby at_86) rfl rfl (l' := #[iv p1, iv p2, iv p3, iv p4, iv (1 : Int32), rv w_NO_RULE, iv p2, iv (0 : Int32), rv b1_26, .unset, .unset, .unset, .unset, .unset, .unset]) rfl ?_
      show Steps p.tables e below (T26.setTop (mkF m 88 #[iv p1, iv p2, iv p3, iv p4, iv (1 : Int32), rv w_NO_RULE, iv p2, iv (0 : Int32), rv b1_26, .unset, .unset, .unset, .unset, .unset, .unset] [])) _
      refine XS.aload X26.here hx rfl (hb hby at_88) rfl rfl ?_
      show Steps p.tables e below (T26.setTop (mkF m 90 #[iv p1, iv p2, iv p3, iv p4, iv (1 : Int32), rv w_NO_RULE, iv p2, iv (0 : Int32), rv b1_26, .unset, .unset, .unset, .unset, .unset, .unset] [(.ref w_NO_RULE)])) _
      refine XS.iload X26.here hx rfl (hb hby at_90) rfl ?_
      show Steps p.tables e below (T26.setTop (mkF m 92 #[iv p1, iv p2, iv p3, iv p4, iv (1 : Int32), rv w_NO_RULE, iv p2, iv (0 : Int32), rv b1_26, .unset, .unset, .unset, .unset, .unset, .unset] [(.int p2), (.ref w_NO_RULE)])) _
      exact k
    obtain ⟨cq29, kq29, qq29a, qq29b, qq29c⟩ := isOf hZ rfl (E_w_NO_RULE.ext O26.2)
    obtain ⟨_, _, ⟨T29, L29, kk29, nn29⟩, -, X29, ⟨Lc29, hQ29, l29, y29, z29⟩, st29⟩ := X26.virtualBack hx (y := (⟨"com/example/rulework/bench/Burst", "makeRules", "(I)[Lcom/example/rulework/rulework/SchedulingRule;"⟩ : MethodName)) (z := (⟨"com/example/rulework/bench/Burst", "makeRules", "(I)[Lcom/example/rulework/rulework/SchedulingRule;"⟩ : MethodName)) hown (mvT hZ (hw _ (List.mem_of_getElem? (i := 3) rfl))) (mvT hZ (hw _ (List.mem_of_getElem? (i := 4) rfl))) (notFace_of_selects (args := #[]) (mvT hZ (hw _ (List.mem_of_getElem? (i := 6) rfl)))) (mvT hZ (hw _ (List.mem_of_getElem? (i := 6) rfl))) (mvT hZ (hw _ (List.mem_of_getElem? (i := 5) rfl))) (by decide) (backOf (W := 0) (mk1 l Z a0 hw [] w_POOL w_NO_RULE w_ONE_RULE w_MANY_RULES G p2 T26.heap n0 O26 ) hZ (hw _ (List.mem_of_getElem? (i := 7) rfl)) (hw _ (List.mem_of_getElem? (i := 1) rfl)) (by decide) (by decide)) qq29a qq29c (g := (mkF m 92 #[iv p1, iv p2, iv p3, iv p4, iv (1 : Int32), rv w_NO_RULE, iv p2, iv (0 : Int32), rv b1_26, .unset, .unset, .unset, .unset, .unset, .unset] [(.int p2), (.ref w_NO_RULE)])) rfl (by rw [hml]; rfl) (Steps.refl _) (argsL := [(.int p2)]) (rest := []) (lenOf pd_4 rfl) rfl (by show 2 * 0 + _ ≤ _; exact Nat.le_of_eq rfl) (hb hby at_92) (fun _ _ => ⟨rfl, rfl, (by decide : 1 + 1 ≤ _), (by decide : 0 + 0 ≤ _)⟩)
    dsimp only [Pt.U, Pt.locs, Pt.cells, Pt.slots] at X29 l29 y29 z29 st29 hQ29
    subst l29 y29 z29
    obtain ⟨b1_29, kc_29, rfl, Nq29, Kq29, po29_0, po29_1⟩ := hQ29
    have N29 := Fr.app N26 Nq29
    have O29 := O26.keep Kq29 all0
    have k30 : Way p e below S0 T29 (mkF m 95 #[iv p1, iv p2, iv p3, iv p4, iv (1 : Int32), rv w_NO_RULE, iv p2, iv (0 : Int32), rv b1_26, .unset, .unset, .unset, .unset, .unset, .unset] [(.ref b1_29)]) := fun t k => k28 t (st29.trans k)
    have k31 : Way p e below S0 T29 (mkF m 111 #[iv p1, iv p2, iv p3, iv p4, iv (1 : Int32), rv w_NO_RULE, iv p2, iv (0 : Int32), rv b1_26, rv b1_29, .unset, .unset, .unset, .unset, .unset] [(.ref b1_26)]) := by
      intro t k
      refine k30 t ?_
      refine XS.astore X29.here hx rfl (hb hby at_95) rfl rfl (l' := #[iv p1, iv p2, iv p3, iv p4, iv (1 : Int32), rv w_NO_RULE, iv p2, iv (0 : Int32), rv b1_26, rv b1_29, .unset, .unset, .unset, .unset, .unset]) rfl ?_
      show Steps p.tables e below (T29.setTop (mkF m 97 #[iv p1, iv p2, iv p3, iv p4, iv (1 : Int32), rv w_NO_RULE, iv p2, iv (0 : Int32), rv b1_26, rv b1_29, .unset, .unset, .unset, .unset, .unset] [])) _
      refine XS.aload X29.here hx rfl (hb hby at_97) rfl rfl ?_
      show Steps p.tables e below (T29.setTop (mkF m 99 #[iv p1, iv p2, iv p3, iv p4, iv (1 : Int32), rv w_NO_RULE, iv p2, iv (0 : Int32), rv b1_26, rv b1_29, .unset, .unset, .unset, .unset, .unset] [(.ref b1_26)])) _
      refine XS.ifnullNo X29.here hx rfl (hb hby at_99) rfl ?_
      show Steps p.tables e below (T29.setTop (mkF m 102 #[iv p1, iv p2, iv p3, iv p4, iv (1 : Int32), rv w_NO_RULE, iv p2, iv (0 : Int32), rv b1_26, rv b1_29, .unset, .unset, .unset, .unset, .unset] [])) _
      refine XS.aload X29.here hx rfl (hb hby at_102) rfl rfl ?_
      show Steps p.tables e below (T29.setTop (mkF m 104 #[iv p1, iv p2, iv p3, iv p4, iv (1 : Int32), rv w_NO_RULE, iv p2, iv (0 : Int32), rv b1_26, rv b1_29, .unset, .unset, .unset, .unset, .unset] [(.ref b1_29)])) _
      refine XS.ifnonnullYes X29.here hx rfl (pc0 := 104) (pc' := 109) rfl (hb hby at_104) rfl (by decide) (by decide) ?_
      show Steps p.tables e below (T29.setTop (mkF m 109 #[iv p1, iv p2, iv p3, iv p4, iv (1 : Int32), rv w_NO_RULE, iv p2, iv (0 : Int32), rv b1_26, rv b1_29, .unset, .unset, .unset, .unset, .unset] [])) _
      refine XS.aload X29.here hx rfl (hb hby at_109) rfl rfl ?_
      show Steps p.tables e below (T29.setTop (mkF m 111 #[iv p1, iv p2, iv p3, iv p4, iv (1 : Int32), rv w_NO_RULE, iv p2, iv (0 : Int32), rv b1_26, rv b1_29, .unset, .unset, .unset, .unset, .unset] [(.ref b1_26)])) _
      exact k
    have f32 : Arv Z T29.heap b1_26 kc_26 (.object "com/example/rulework/rulework/SchedulingRule") (0 : Int32) [] .null := (po26_1.keep Kq29 nin0)
    obtain ⟨cl33, Ar33, -, S33, M33, -, -⟩ := id (f32)
    have k34 : Way p e below S0 T29 (mkF m 112 #[iv p1, iv p2, iv p3, iv p4, iv (1 : Int32), rv w_NO_RULE, iv p2, iv (0 : Int32), rv b1_26, rv b1_29, .unset, .unset, .unset, .unset, .unset] [(.int (0 : Int32))]) := fun t k => k31 t (X29.arraylength hx (Ar33.1) (State.isArrayOf_alike hZ.alike Ar33.2.1) (g := (mkF m 111 #[iv p1, iv p2, iv p3, iv p4, iv (1 : Int32), rv w_NO_RULE, iv p2, iv (0 : Int32), rv b1_26, rv b1_29, .unset, .unset, .unset, .unset, .unset] [(.ref b1_26)])) rfl rfl (hb hby at_111) _ (by rw [len_of S33 M33]; exact k))
    have k35 : Way p e below S0 T29 (mkF m 119 #[iv p1, iv p2, iv p3, iv p4, iv (1 : Int32), rv w_NO_RULE, iv p2, iv (0 : Int32), rv b1_26, rv b1_29, .unset, .unset, .unset, .unset, .unset] [(.ref b1_29)]) := by
      intro t k
      refine k34 t ?_
      refine XS.iload X29.here hx rfl (hb hby at_112) rfl ?_
      show Steps p.tables e below (T29.setTop (mkF m 114 #[iv p1, iv p2, iv p3, iv p4, iv (1 : Int32), rv w_NO_RULE, iv p2, iv (0 : Int32), rv b1_26, rv b1_29, .unset, .unset, .unset, .unset, .unset] [(.int (0 : Int32)), (.int (0 : Int32))])) _
      refine XS.icmpNo X29.here hx rfl (hb hby at_114) rfl (teq ((by decide) : (0 : Int32) = (0 : Int32))).2 ?_
      show Steps p.tables e below (T29.setTop (mkF m 117 #[iv p1, iv p2, iv p3, iv p4, iv (1 : Int32), rv w_NO_RULE, iv p2, iv (0 : Int32), rv b1_26, rv b1_29, .unset, .unset, .unset, .unset, .unset] [])) _
      refine XS.aload X29.here hx rfl (hb hby at_117) rfl rfl ?_
      show Steps p.tables e below (T29.setTop (mkF m 119 #[iv p1, iv p2, iv p3, iv p4, iv (1 : Int32), rv w_NO_RULE, iv p2, iv (0 : Int32), rv b1_26, rv b1_29, .unset, .unset, .unset, .unset, .unset] [(.ref b1_29)])) _
      exact k
    obtain ⟨cl36, Ar36, -, S36, M36, -, -⟩ := id (po29_1)
    have k37 : Way p e below S0 T29 (mkF m 120 #[iv p1, iv p2, iv p3, iv p4, iv (1 : Int32), rv w_NO_RULE, iv p2, iv (0 : Int32), rv b1_26, rv b1_29, .unset, .unset, .unset, .unset, .unset] [(.int (0 : Int32))]) := fun t k => k35 t (X29.arraylength hx (Ar36.1) (State.isArrayOf_alike hZ.alike Ar36.2.1) (g := (mkF m 119 #[iv p1, iv p2, iv p3, iv p4, iv (1 : Int32), rv w_NO_RULE, iv p2, iv (0 : Int32), rv b1_26, rv b1_29, .unset, .unset, .unset, .unset, .unset] [(.ref b1_29)])) rfl rfl (hb hby at_119) _ (by rw [len_of S36 M36]; exact k))
    have k38 : Way p e below S0 T29 (mkF m 133 #[iv p1, iv p2, iv p3, iv p4, iv (1 : Int32), rv w_NO_RULE, iv p2, iv (0 : Int32), rv b1_26, rv b1_29, .unset, .unset, .unset, .unset, .unset] [(.int (1 : Int32))]) := by
      intro t k
      refine k37 t ?_
      refine XS.iload X29.here hx rfl (hb hby at_120) rfl ?_
      show Steps p.tables e below (T29.setTop (mkF m 122 #[iv p1, iv p2, iv p3, iv p4, iv (1 : Int32), rv w_NO_RULE, iv p2, iv (0 : Int32), rv b1_26, rv b1_29, .unset, .unset, .unset, .unset, .unset] [(.int (0 : Int32)), (.int (0 : Int32))])) _
      refine XS.icmpYes X29.here hx rfl (pc0 := 122) (pc' := 127) rfl (hb hby at_122) rfl (teq ((by decide) : (0 : Int32) = (0 : Int32))).1 (by decide) (by decide) ?_
      show Steps p.tables e below (T29.setTop (mkF m 127 #[iv p1, iv p2, iv p3, iv p4, iv (1 : Int32), rv w_NO_RULE, iv p2, iv (0 : Int32), rv b1_26, rv b1_29, .unset, .unset, .unset, .unset, .unset] [])) _
      refine XS.iload X29.here hx rfl (hb hby at_127) rfl ?_
      show Steps p.tables e below (T29.setTop (mkF m 129 #[iv p1, iv p2, iv p3, iv p4, iv (1 : Int32), rv w_NO_RULE, iv p2, iv (0 : Int32), rv b1_26, rv b1_29, .unset, .unset, .unset, .unset, .unset] [(.int (0 : Int32))])) _
      refine XS.ifNo X29.here hx rfl (hb hby at_129) rfl ((if0 _ _).trans (teq ((by decide) : (0 : Int32) = (0 : Int32))).2) ?_
      show Steps p.tables e below (T29.setTop (mkF m 132 #[iv p1, iv p2, iv p3, iv p4, iv (1 : Int32), rv w_NO_RULE, iv p2, iv (0 : Int32), rv b1_26, rv b1_29, .unset, .unset, .unset, .unset, .unset] [])) _
      refine XS.iconst X29.here hx rfl (hb hby at_132) ?_
      show Steps p.tables e below (T29.setTop (mkF m 133 #[iv p1, iv p2, iv p3, iv p4, iv (1 : Int32), rv w_NO_RULE, iv p2, iv (0 : Int32), rv b1_26, rv b1_29, .unset, .unset, .unset, .unset, .unset] [(.int (1 : Int32))])) _
      exact k
    obtain ⟨fs, hr, hrun, hended, hW, hsame⟩ := X29.leave (v := some (.int (1 : Int32))) (fun h => by rw [Bd.returns] at h; cases h)
    refine ⟨_, _, k38 _ (retN X29 hx (t := .boolean) Bd.returns (by simp) (hb hby at_133) hr), hrun, hended, _, _, rfl, ?_, ⟨_, rfl⟩, hW, hsame.mono (by decide) (by decide)⟩
    show Q_law_met Z w_POOL w_NO_RULE w_ONE_RULE w_MANY_RULES p1 p2 p3 p4 h0 n0 _ T29.heap _
    exact ⟨rfl, N29⟩
  · have k39 : Way p e below S0 s₁ (mkF m 5 #[iv p1, iv p2, iv p3, iv p4, iv (2 : Int32), .unset, .unset, .unset, .unset, .unset, .unset, .unset, .unset, .unset, .unset] []) := by have q := k1; rw [hi2] at q; exact q
    have k40 : Way p e below S0 s₁ (mkF m 50 #[iv p1, iv p2, iv p3, iv p4, iv (2 : Int32), .unset, .unset, .unset, .unset, .unset, .unset, .unset, .unset, .unset, .unset] []) := by
      intro t k
      refine k39 t ?_
      refine XS.iload X0.here hx rfl (hb hby at_5) rfl ?_
      show Steps p.tables e below (s₁.setTop (mkF m 7 #[iv p1, iv p2, iv p3, iv p4, iv (2 : Int32), .unset, .unset, .unset, .unset, .unset, .unset, .unset, .unset, .unset, .unset] [(.int (2 : Int32))])) _
      refine XS.ifYes X0.here hx rfl (pc0 := 7) (pc' := 24) rfl (hb hby at_7) rfl ((if0 _ _).trans (feq ((by decide) : ¬ ((2 : Int32) = (0 : Int32)))).2) (by decide) (by decide) ?_
      show Steps p.tables e below (s₁.setTop (mkF m 24 #[iv p1, iv p2, iv p3, iv p4, iv (2 : Int32), .unset, .unset, .unset, .unset, .unset, .unset, .unset, .unset, .unset, .unset] [])) _
      refine XS.iload X0.here hx rfl (hb hby at_24) rfl ?_
      show Steps p.tables e below (s₁.setTop (mkF m 26 #[iv p1, iv p2, iv p3, iv p4, iv (2 : Int32), .unset, .unset, .unset, .unset, .unset, .unset, .unset, .unset, .unset, .unset] [(.int (2 : Int32))])) _
      refine XS.iconst X0.here hx rfl (hb hby at_26) ?_
      show Steps p.tables e below (s₁.setTop (mkF m 27 #[iv p1, iv p2, iv p3, iv p4, iv (2 : Int32), .unset, .unset, .unset, .unset, .unset, .unset, .unset, .unset, .unset, .unset] [(.int (1 : Int32)), (.int (2 : Int32))])) _
      refine XS.icmpYes X0.here hx rfl (pc0 := 27) (pc' := 44) rfl (hb hby at_27) rfl (feq ((by decide) : ¬ ((2 : Int32) = (1 : Int32)))).2 (by decide) (by decide) ?_
      show Steps p.tables e below (s₁.setTop (mkF m 44 #[iv p1, iv p2, iv p3, iv p4, iv (2 : Int32), .unset, .unset, .unset, .unset, .unset, .unset, .unset, .unset, .unset, .unset] [])) _
      refine XS.iload X0.here hx rfl (hb hby at_44) rfl ?_
      show Steps p.tables e below (s₁.setTop (mkF m 46 #[iv p1, iv p2, iv p3, iv p4, iv (2 : Int32), .unset, .unset, .unset, .unset, .unset, .unset, .unset, .unset, .unset, .unset] [(.int (2 : Int32))])) _
      refine XS.iconst X0.here hx rfl (hb hby at_46) ?_
      show Steps p.tables e below (s₁.setTop (mkF m 47 #[iv p1, iv p2, iv p3, iv p4, iv (2 : Int32), .unset, .unset, .unset, .unset, .unset, .unset, .unset, .unset, .unset, .unset] [(.int (2 : Int32)), (.int (2 : Int32))])) _
      refine XS.icmpNo X0.here hx rfl (hb hby at_47) rfl (teq ((by decide) : (2 : Int32) = (2 : Int32))).2 ?_
      show Steps p.tables e below (s₁.setTop (mkF m 50 #[iv p1, iv p2, iv p3, iv p4, iv (2 : Int32), .unset, .unset, .unset, .unset, .unset, .unset, .unset, .unset, .unset, .unset] [])) _
      exact k
    obtain ⟨T41, X41, e41, st41⟩ := getS2 X0 hx hZ hown (host := "") (Or.inl (hw _ (List.mem_of_getElem? (i := 53) rfl))) Via.refl e0 (S_w_ONE_RULE.ext O0.2) (g := (mkF m 50 #[iv p1, iv p2, iv p3, iv p4, iv (2 : Int32), .unset, .unset, .unset, .unset, .unset, .unset, .unset, .unset, .unset, .unset] [])) rfl (hb hby at_50)
    have k42 : Way p e below S0 T41 (mkF m 53 #[iv p1, iv p2, iv p3, iv p4, iv (2 : Int32), .unset, .unset, .unset, .unset, .unset, .unset, .unset, .unset, .unset, .unset] [(.ref w_ONE_RULE)]) := fun t k => k40 t (st41 _ k)
    have k43 : Way p e below S0 T41 (mkF m 83 #[iv p1, iv p2, iv p3, iv p4, iv (2 : Int32), rv w_ONE_RULE, iv p2, iv (1 : Int32), .unset, .unset, .unset, .unset, .unset, .unset, .unset] [(.int p2), (.ref w_ONE_RULE)]) := by
      intro t k
      refine k42 t ?_
      refine XS.astore X41.here hx rfl (hb hby at_53) rfl rfl (l' := #[iv p1, iv p2, iv p3, iv p4, iv (2 : Int32), rv w_ONE_RULE, .unset, .unset, .unset, .unset, .unset, .unset, .unset, .unset, .unset]) rfl ?_
      show Steps p.tables e below (T41.setTop (mkF m 55 #[iv p1, iv p2, iv p3, iv p4, iv (2 : Int32), rv w_ONE_RULE, .unset, .unset, .unset, .unset, .unset, .unset, .unset, .unset, .unset] [])) _
      refine XS.iloadN X41.here hx rfl (hb hby at_55) rfl ?_
      show Steps p.tables e below (T41.setTop (mkF m 56 #[iv p1, iv p2, iv p3, iv p4, iv (2 : Int32), rv w_ONE_RULE, .unset, .unset, .unset, .unset, .unset, .unset, .unset, .unset, .unset] [(.int p2)])) _
      refine XS.istore X41.here hx rfl (hb hby at_56) rfl (l' := #[iv p1, iv p2, iv p3, iv p4, iv (2 : Int32), rv w_ONE_RULE, iv p2, .unset, .unset, .unset, .unset, .unset, .unset, .unset, .unset]) rfl ?_
      show Steps p.tables e below (T41.setTop (mkF m 58 #[iv p1, iv p2, iv p3, iv p4, iv (2 : Int32), rv w_ONE_RULE, iv p2, .unset, .unset, .unset, .unset, .unset, .unset, .unset, .unset] [])) _
      refine XS.iconst X41.here hx rfl (hb hby at_58) ?_
      show Steps p.tables e below (T41.setTop (mkF m 59 #[iv p1, iv p2, iv p3, iv p4, iv (2 : Int32), rv w_ONE_RULE, iv p2, .unset, .unset, .unset, .unset, .unset, .unset, .unset, .unset] [(.int (1 : Int32))])) _
      refine XS.istore X41.here hx rfl (hb hby at_59) rfl (l' := #[iv p1, iv p2, iv p3, iv p4, iv (2 : Int32), rv w_ONE_RULE, iv p2, iv (1 : Int32), .unset, .unset, .unset, .unset, .unset, .unset, .unset]) rfl ?_
      show Steps p.tables e below (T41.setTop (mkF m 61 #[iv p1, iv p2, iv p3, iv p4, iv (2 : Int32), rv w_ONE_RULE, iv p2, iv (1 : Int32), .unset, .unset, .unset, .unset, .unset, .unset, .unset] [])) _
      refine XS.goto X41.here hx rfl (pc0 := 61) (pc' := 79) rfl (hb hby at_61) (by decide) (by decide) ?_
      show Steps p.tables e below (T41.setTop (mkF m 79 #[iv p1, iv p2, iv p3, iv p4, iv (2 : Int32), rv w_ONE_RULE, iv p2, iv (1 : Int32), .unset, .unset, .unset, .unset, .unset, .unset, .unset] [])) _
      refine XS.aload X41.here hx rfl (hb hby at_79) rfl rfl ?_
      show Steps p.tables e below (T41.setTop (mkF m 81 #[iv p1, iv p2, iv p3, iv p4, iv (2 : Int32), rv w_ONE_RULE, iv p2, iv (1 : Int32), .unset, .unset, .unset, .unset, .unset, .unset, .unset] [(.ref w_ONE_RULE)])) _
      refine XS.iload X41.here hx rfl (hb hby at_81) rfl ?_
      show Steps p.tables e below (T41.setTop (mkF m 83 #[iv p1, iv p2, iv p3, iv p4, iv (2 : Int32), rv w_ONE_RULE, iv p2, iv (1 : Int32), .unset, .unset, .unset, .unset, .unset, .unset, .unset] [(.int p2), (.ref w_ONE_RULE)])) _
      exact k
    obtain ⟨cq44, kq44, qq44a, qq44b, qq44c⟩ := isOf hZ e41 (E_w_ONE_RULE.ext O0.2)
    obtain ⟨_, _, ⟨T44, L44, kk44, nn44⟩, -, X44, ⟨Lc44, hQ44, l44, y44, z44⟩, st44⟩ := X41.virtualBack hx (y := (⟨"com/example/rulework/bench/Burst", "makeRules", "(I)[Lcom/example/rulework/rulework/SchedulingRule;"⟩ : MethodName)) (z := (⟨"com/example/rulework/bench/Burst", "makeRules", "(I)[Lcom/example/rulework/rulework/SchedulingRule;"⟩ : MethodName)) hown (mvT hZ (hw _ (List.mem_of_getElem? (i := 3) rfl))) (mvT hZ (hw _ (List.mem_of_getElem? (i := 4) rfl))) (notFace_of_selects (args := #[]) (mvT hZ (hw _ (List.mem_of_getElem? (i := 6) rfl)))) (mvT hZ (hw _ (List.mem_of_getElem? (i := 6) rfl))) (mvT hZ (hw _ (List.mem_of_getElem? (i := 5) rfl))) (by decide) (backOf (W := 0) (mk2 l Z a0 hw [] w_POOL w_NO_RULE w_ONE_RULE w_MANY_RULES G p2 h0 n0 O0 ) hZ (hw _ (List.mem_of_getElem? (i := 7) rfl)) (hw _ (List.mem_of_getElem? (i := 1) rfl)) (by decide) (by decide)) qq44a qq44c (g := (mkF m 83 #[iv p1, iv p2, iv p3, iv p4, iv (2 : Int32), rv w_ONE_RULE, iv p2, iv (1 : Int32), .unset, .unset, .unset, .unset, .unset, .unset, .unset] [(.int p2), (.ref w_ONE_RULE)])) rfl (by rw [hml]; rfl) (Steps.refl _) (argsL := [(.int p2)]) (rest := []) (lenOf pd_4 rfl) rfl (by show 2 * 0 + _ ≤ _; exact Nat.le_of_eq rfl) (hb hby at_83) (fun _ _ => ⟨rfl, e41, (by decide : 0 + 2 ≤ _), (by decide : 0 + 1 ≤ _)⟩)
    dsimp only [Pt.U, Pt.locs, Pt.cells, Pt.slots] at X44 l44 y44 z44 st44 hQ44
    subst l44 y44 z44
    obtain ⟨b1_44, kc_44, x0_44, rfl, Nq44, Kq44, po44_0, po44_1, po44_2, po44_3⟩ := hQ44
    have N44 := Fr.app N0 Nq44
    have O44 := O0.keep Kq44 all0
    have k45 : Way p e below S0 T44 (mkF m 86 #[iv p1, iv p2, iv p3, iv p4, iv (2 : Int32), rv w_ONE_RULE, iv p2, iv (1 : Int32), .unset, .unset, .unset, .unset, .unset, .unset, .unset] [(.ref b1_44)]) := fun t k => k43 t (st44.trans k)
    have k46 : Way p e below S0 T44 (mkF m 92 #[iv p1, iv p2, iv p3, iv p4, iv (2 : Int32), rv w_ONE_RULE, iv p2, iv (1 : Int32), rv b1_44, .unset, .unset, .unset, .unset, .unset, .unset] [(.int p2), (.ref w_ONE_RULE)]) := by
      intro t k
      refine k45 t ?_
      refine XS.astore X44.here hx rfl (hb hby at_86) rfl rfl (l' := #[iv p1, iv p2, iv p3, iv p4, iv (2 : Int32), rv w_ONE_RULE, iv p2, iv (1 : Int32), rv b1_44, .unset, .unset, .unset, .unset, .unset, .unset]) rfl ?_
      show Steps p.tables e below (T44.setTop (mkF m 88 #[iv p1, iv p2, iv p3, iv p4, iv (2 : Int32), rv w_ONE_RULE, iv p2, iv (1 : Int32), rv b1_44, .unset, .unset, .unset, .unset, .unset, .unset] [])) _
      refine XS.aload X44.here hx rfl (hb hby at_88) rfl rfl ?_
      show Steps p.tables e below (T44.setTop (mkF m 90 #[iv p1, iv p2, iv p3, iv p4, iv (2 : Int32), rv w_ONE_RULE, iv p2, iv (1 : Int32), rv b1_44, .unset, .unset, .unset, .unset, .unset, .unset] [(.ref w_ONE_RULE)])) _
      refine XS.iload X44.here hx rfl (hb hby at_90) rfl ?_
      show Steps p.tables e below (T44.setTop (mkF m 92 #[iv p1, iv p2, iv p3, iv p4, iv (2 : Int32), rv w_ONE_RULE, iv p2, iv (1 : Int32), rv b1_44, .unset, .unset, .unset, .unset, .unset, .unset] [(.int p2), (.ref w_ONE_RULE)])) _
      exact k
    obtain ⟨cq47, kq47, qq47a, qq47b, qq47c⟩ := isOf hZ rfl (E_w_ONE_RULE.ext O44.2)
    obtain ⟨_, _, ⟨T47, L47, kk47, nn47⟩, -, X47, ⟨Lc47, hQ47, l47, y47, z47⟩, st47⟩ := X44.virtualBack hx (y := (⟨"com/example/rulework/bench/Burst", "makeRules", "(I)[Lcom/example/rulework/rulework/SchedulingRule;"⟩ : MethodName)) (z := (⟨"com/example/rulework/bench/Burst", "makeRules", "(I)[Lcom/example/rulework/rulework/SchedulingRule;"⟩ : MethodName)) hown (mvT hZ (hw _ (List.mem_of_getElem? (i := 3) rfl))) (mvT hZ (hw _ (List.mem_of_getElem? (i := 4) rfl))) (notFace_of_selects (args := #[]) (mvT hZ (hw _ (List.mem_of_getElem? (i := 6) rfl)))) (mvT hZ (hw _ (List.mem_of_getElem? (i := 6) rfl))) (mvT hZ (hw _ (List.mem_of_getElem? (i := 5) rfl))) (by decide) (backOf (W := 0) (mk2 l Z a0 hw [] w_POOL w_NO_RULE w_ONE_RULE w_MANY_RULES G p2 T44.heap n0 O44 ) hZ (hw _ (List.mem_of_getElem? (i := 7) rfl)) (hw _ (List.mem_of_getElem? (i := 1) rfl)) (by decide) (by decide)) qq47a qq47c (g := (mkF m 92 #[iv p1, iv p2, iv p3, iv p4, iv (2 : Int32), rv w_ONE_RULE, iv p2, iv (1 : Int32), rv b1_44, .unset, .unset, .unset, .unset, .unset, .unset] [(.int p2), (.ref w_ONE_RULE)])) rfl (by rw [hml]; rfl) (Steps.refl _) (argsL := [(.int p2)]) (rest := []) (lenOf pd_4 rfl) rfl (by show 2 * 0 + _ ≤ _; exact Nat.le_of_eq rfl) (hb hby at_92) (fun _ _ => ⟨rfl, rfl, (by decide : 2 + 2 ≤ _), (by decide : 1 + 1 ≤ _)⟩)
    dsimp only [Pt.U, Pt.locs, Pt.cells, Pt.slots] at X47 l47 y47 z47 st47 hQ47
    subst l47 y47 z47
    obtain ⟨b1_47, kc_47, x0_47, rfl, Nq47, Kq47, po47_0, po47_1, po47_2, po47_3⟩ := hQ47
    have N47 := Fr.app N44 Nq47
    have O47 := O44.keep Kq47 all0
    have k48 : Way p e below S0 T47 (mkF m 95 #[iv p1, iv p2, iv p3, iv p4, iv (2 : Int32), rv w_ONE_RULE, iv p2, iv (1 : Int32), rv b1_44, .unset, .unset, .unset, .unset, .unset, .unset] [(.ref b1_47)]) := fun t k => k46 t (st47.trans k)
    have k49 : Way p e below S0 T47 (mkF m 111 #[iv p1, iv p2, iv p3, iv p4, iv (2 : Int32), rv w_ONE_RULE, iv p2, iv (1 : Int32), rv b1_44, rv b1_47, .unset, .unset, .unset, .unset, .unset] [(.ref b1_44)]) := by
      intro t k
      refine k48 t ?_
      refine XS.astore X47.here hx rfl (hb hby at_95) rfl rfl (l' := #[iv p1, iv p2, iv p3, iv p4, iv (2 : Int32), rv w_ONE_RULE, iv p2, iv (1 : Int32), rv b1_44, rv b1_47, .unset, .unset, .unset, .unset, .unset]) rfl ?_
      show Steps p.tables e below (T47.setTop (mkF m 97 #[iv p1, iv p2, iv p3, iv p4, iv (2 : Int32), rv w_ONE_RULE, iv p2, iv (1 : Int32), rv b1_44, rv b1_47, .unset, .unset, .unset, .unset, .unset] [])) _
      refine XS.aload X47.here hx rfl (hb hby at_97) rfl rfl ?_
      show Steps p.tables e below (T47.setTop (mkF m 99 #[iv p1, iv p2, iv p3, iv p4, iv (2 : Int32), rv w_ONE_RULE, iv p2, iv (1 : Int32), rv b1_44, rv b1_47, .unset, .unset, .unset, .unset, .unset] [(.ref b1_44)])) _
      refine XS.ifnullNo X47.here hx rfl (hb hby at_99) rfl ?_
      show Steps p.tables e below (T47.setTop (mkF m 102 #[iv p1, iv p2, iv p3, iv p4, iv (2 : Int32), rv w_ONE_RULE, iv p2, iv (1 : Int32), rv b1_44, rv b1_47, .unset, .unset, .unset, .unset, .unset] [])) _
      refine XS.aload X47.here hx rfl (hb hby at_102) rfl rfl ?_
      show Steps p.tables e below (T47.setTop (mkF m 104 #[iv p1, iv p2, iv p3, iv p4, iv (2 : Int32), rv w_ONE_RULE, iv p2, iv (1 : Int32), rv b1_44, rv b1_47, .unset, .unset, .unset, .unset, .unset] [(.ref b1_47)])) _
      refine XS.ifnonnullYes X47.here hx rfl (pc0 := 104) (pc' := 109) rfl (hb hby at_104) rfl (by decide) (by decide) ?_
      show Steps p.tables e below (T47.setTop (mkF m 109 #[iv p1, iv p2, iv p3, iv p4, iv (2 : Int32), rv w_ONE_RULE, iv p2, iv (1 : Int32), rv b1_44, rv b1_47, .unset, .unset, .unset, .unset, .unset] [])) _
      refine XS.aload X47.here hx rfl (hb hby at_109) rfl rfl ?_
      show Steps p.tables e below (T47.setTop (mkF m 111 #[iv p1, iv p2, iv p3, iv p4, iv (2 : Int32), rv w_ONE_RULE, iv p2, iv (1 : Int32), rv b1_44, rv b1_47, .unset, .unset, .unset, .unset, .unset] [(.ref b1_44)])) _
      exact k
    have f50 : Arv Z T47.heap b1_44 kc_44 (.object "com/example/rulework/rulework/SchedulingRule") (1 : Int32) [(.ref x0_44)] .null := (po44_1.keep Kq47 nin0)
    obtain ⟨cl51, Ar51, -, S51, M51, -, -⟩ := id (f50)
    have k52 : Way p e below S0 T47 (mkF m 112 #[iv p1, iv p2, iv p3, iv p4, iv (2 : Int32), rv w_ONE_RULE, iv p2, iv (1 : Int32), rv b1_44, rv b1_47, .unset, .unset, .unset, .unset, .unset] [(.int (1 : Int32))]) := fun t k => k49 t (X47.arraylength hx (Ar51.1) (State.isArrayOf_alike hZ.alike Ar51.2.1) (g := (mkF m 111 #[iv p1, iv p2, iv p3, iv p4, iv (2 : Int32), rv w_ONE_RULE, iv p2, iv (1 : Int32), rv b1_44, rv b1_47, .unset, .unset, .unset, .unset, .unset] [(.ref b1_44)])) rfl rfl (hb hby at_111) _ (by rw [len_of S51 M51]; exact k))
    have k53 : Way p e below S0 T47 (mkF m 119 #[iv p1, iv p2, iv p3, iv p4, iv (2 : Int32), rv w_ONE_RULE, iv p2, iv (1 : Int32), rv b1_44, rv b1_47, .unset, .unset, .unset, .unset, .unset] [(.ref b1_47)]) := by
      intro t k
      refine k52 t ?_
      refine XS.iload X47.here hx rfl (hb hby at_112) rfl ?_
      show Steps p.tables e below (T47.setTop (mkF m 114 #[iv p1, iv p2, iv p3, iv p4, iv (2 : Int32), rv w_ONE_RULE, iv p2, iv (1 : Int32), rv b1_44, rv b1_47, .unset, .unset, .unset, .unset, .unset] [(.int (1 : Int32)), (.int (1 : Int32))])) _
      refine XS.icmpNo X47.here hx rfl (hb hby at_114) rfl (teq ((by decide) : (1 : Int32) = (1 : Int32))).2 ?_
      show Steps p.tables e below (T47.setTop (mkF m 117 #[iv p1, iv p2, iv p3, iv p4, iv (2 : Int32), rv w_ONE_RULE, iv p2, iv (1 : Int32), rv b1_44, rv b1_47, .unset, .unset, .unset, .unset, .unset] [])) _
      refine XS.aload X47.here hx rfl (hb hby at_117) rfl rfl ?_
      show Steps p.tables e below (T47.setTop (mkF m 119 #[iv p1, iv p2, iv p3, iv p4, iv (2 : Int32), rv w_ONE_RULE, iv p2, iv (1 : Int32), rv b1_44, rv b1_47, .unset, .unset, .unset, .unset, .unset] [(.ref b1_47)])) _
      exact k
    obtain ⟨cl54, Ar54, -, S54, M54, -, -⟩ := id (po47_1)
    have k55 : Way p e below S0 T47 (mkF m 120 #[iv p1, iv p2, iv p3, iv p4, iv (2 : Int32), rv w_ONE_RULE, iv p2, iv (1 : Int32), rv b1_44, rv b1_47, .unset, .unset, .unset, .unset, .unset] [(.int (1 : Int32))]) := fun t k => k53 t (X47.arraylength hx (Ar54.1) (State.isArrayOf_alike hZ.alike Ar54.2.1) (g := (mkF m 119 #[iv p1, iv p2, iv p3, iv p4, iv (2 : Int32), rv w_ONE_RULE, iv p2, iv (1 : Int32), rv b1_44, rv b1_47, .unset, .unset, .unset, .unset, .unset] [(.ref b1_47)])) rfl rfl (hb hby at_119) _ (by rw [len_of S54 M54]; exact k))
    have k56 : Way p e below S0 T47 (mkF m 152 #[iv p1, iv p2, iv p3, iv p4, iv (2 : Int32), rv w_ONE_RULE, iv p2, iv (1 : Int32), rv b1_44, rv b1_47, iv ((p3 &&& (2147483647 : Int32)) % (1 : Int32)), iv ((p4 &&& (2147483647 : Int32)) % (1 : Int32)), .unset, .unset, .unset] []) := by
      intro t k
      refine k55 t ?_
      refine XS.iload X47.here hx rfl (hb hby at_120) rfl ?_
      show Steps p.tables e below (T47.setTop (mkF m 122 #[iv p1, iv p2, iv p3, iv p4, iv (2 : Int32), rv w_ONE_RULE, iv p2, iv (1 : Int32), rv b1_44, rv b1_47, .unset, .unset, .unset, .unset, .unset] [(.int (1 : Int32)), (.int (1 : Int32))])) _
      refine XS.icmpYes X47.here hx rfl (pc0 := 122) (pc' := 127) rfl (hb hby at_122) rfl (teq ((by decide) : (1 : Int32) = (1 : Int32))).1 (by decide) (by decide) ?_
      show Steps p.tables e below (T47.setTop (mkF m 127 #[iv p1, iv p2, iv p3, iv p4, iv (2 : Int32), rv w_ONE_RULE, iv p2, iv (1 : Int32), rv b1_44, rv b1_47, .unset, .unset, .unset, .unset, .unset] [])) _
      refine XS.iload X47.here hx rfl (hb hby at_127) rfl ?_
      show Steps p.tables e below (T47.setTop (mkF m 129 #[iv p1, iv p2, iv p3, iv p4, iv (2 : Int32), rv w_ONE_RULE, iv p2, iv (1 : Int32), rv b1_44, rv b1_47, .unset, .unset, .unset, .unset, .unset] [(.int (1 : Int32))])) _
      refine XS.ifYes X47.here hx rfl (pc0 := 129) (pc' := 134) rfl (hb hby at_129) rfl ((if0 _ _).trans (feq ((by decide) : ¬ ((1 : Int32) = (0 : Int32)))).2) (by decide) (by decide) ?_
      show Steps p.tables e below (T47.setTop (mkF m 134 #[iv p1, iv p2, iv p3, iv p4, iv (2 : Int32), rv w_ONE_RULE, iv p2, iv (1 : Int32), rv b1_44, rv b1_47, .unset, .unset, .unset, .unset, .unset] [])) _
      refine XS.iloadN X47.here hx rfl (hb hby at_134) rfl ?_
      show Steps p.tables e below (T47.setTop (mkF m 135 #[iv p1, iv p2, iv p3, iv p4, iv (2 : Int32), rv w_ONE_RULE, iv p2, iv (1 : Int32), rv b1_44, rv b1_47, .unset, .unset, .unset, .unset, .unset] [(.int p3)])) _
      refine X47.ldcInt hx hown (mvT hZ (hw _ (List.mem_of_getElem? (i := 36) rfl))) (g := (mkF m 135 #[iv p1, iv p2, iv p3, iv p4, iv (2 : Int32), rv w_ONE_RULE, iv p2, iv (1 : Int32), rv b1_44, rv b1_47, .unset, .unset, .unset, .unset, .unset] [(.int p3)])) rfl (hb hby at_135) _ ?_
      show Steps p.tables e below (T47.setTop (mkF m 137 #[iv p1, iv p2, iv p3, iv p4, iv (2 : Int32), rv w_ONE_RULE, iv p2, iv (1 : Int32), rv b1_44, rv b1_47, .unset, .unset, .unset, .unset, .unset] [(.int (2147483647 : Int32)), (.int p3)])) _
      refine XS.iand X47.here hx rfl (hb hby at_137) rfl ?_
      show Steps p.tables e below (T47.setTop (mkF m 138 #[iv p1, iv p2, iv p3, iv p4, iv (2 : Int32), rv w_ONE_RULE, iv p2, iv (1 : Int32), rv b1_44, rv b1_47, .unset, .unset, .unset, .unset, .unset] [(.int (p3 &&& (2147483647 : Int32)))])) _
      refine XS.iload X47.here hx rfl (hb hby at_138) rfl ?_
      show Steps p.tables e below (T47.setTop (mkF m 140 #[iv p1, iv p2, iv p3, iv p4, iv (2 : Int32), rv w_ONE_RULE, iv p2, iv (1 : Int32), rv b1_44, rv b1_47, .unset, .unset, .unset, .unset, .unset] [(.int (1 : Int32)), (.int (p3 &&& (2147483647 : Int32)))])) _
      refine iremM (g := (mkF m 140 #[iv p1, iv p2, iv p3, iv p4, iv (2 : Int32), rv w_ONE_RULE, iv p2, iv (1 : Int32), rv b1_44, rv b1_47, .unset, .unset, .unset, .unset, .unset] [(.int (1 : Int32)), (.int (p3 &&& (2147483647 : Int32)))])) X47 hx rfl (hb hby at_140) rfl (by decide) ?_
      show Steps p.tables e below (T47.setTop (mkF m 141 #[iv p1, iv p2, iv p3, iv p4, iv (2 : Int32), rv w_ONE_RULE, iv p2, iv (1 : Int32), rv b1_44, rv b1_47, .unset, .unset, .unset, .unset, .unset] [(.int ((p3 &&& (2147483647 : Int32)) % (1 : Int32)))])) _
      refine XS.istore X47.here hx rfl (hb hby at_141) rfl (l' := #[iv p1, iv p2, iv p3, iv p4, iv (2 : Int32), rv w_ONE_RULE, iv p2, iv (1 : Int32), rv b1_44, rv b1_47, iv ((p3 &&& (2147483647 : Int32)) % (1 : Int32)), .unset, .unset, .unset, .unset]) rfl ?_
      show Steps p.tables e below (T47.setTop (mkF m 143 #[iv p1, iv p2, iv p3, iv p4, iv (2 : Int32), rv w_ONE_RULE, iv p2, iv (1 : Int32), rv b1_44, rv b1_47, iv ((p3 &&& (2147483647 : Int32)) % (1 : Int32)), .unset, .unset, .unset, .unset] [])) _
      refine XS.iloadN X47.here hx rfl (hb hby at_143) rfl ?_
      show Steps p.tables e below (T47.setTop (mkF m 144 #[iv p1, iv p2, iv p3, iv p4, iv (2 : Int32), rv w_ONE_RULE, iv p2, iv (1 : Int32), rv b1_44, rv b1_47, iv ((p3 &&& (2147483647 : Int32)) % (1 : Int32)), .unset, .unset, .unset, .unset] [(.int p4)])) _
      refine X47.ldcInt hx hown (mvT hZ (hw _ (List.mem_of_getElem? (i := 36) rfl))) (g := (mkF m 144 #[iv p1, iv p2, iv p3, iv p4, iv (2 : Int32), rv w_ONE_RULE, iv p2, iv (1 : Int32), rv b1_44, rv b1_47, iv ((p3 &&& (2147483647 : Int32)) % (1 : Int32)), .unset, .unset, .unset, .unset] [(.int p4)])) rfl (hb hby at_144) _ ?_
      show Steps p.tables e below (T47.setTop (mkF m 146 #[iv p1, iv p2, iv p3, iv p4, iv (2 : Int32), rv w_ONE_RULE, iv p2, iv (1 : Int32), rv b1_44, rv b1_47, iv ((p3 &&& (2147483647 : Int32)) % (1 : Int32)), .unset, .unset, .unset, .unset] [(.int (2147483647 : Int32)), (.int p4)])) _
      refine XS.iand X47.here hx rfl (hb hby at_146) rfl ?_
      show Steps p.tables e below (T47.setTop (mkF m 147 #[iv p1, iv p2, iv p3, iv p4, iv (2 : Int32), rv w_ONE_RULE, iv p2, iv (1 : Int32), rv b1_44, rv b1_47, iv ((p3 &&& (2147483647 : Int32)) % (1 : Int32)), .unset, .unset, .unset, .unset] [(.int (p4 &&& (2147483647 : Int32)))])) _
      refine XS.iload X47.here hx rfl (hb hby at_147) rfl ?_
      show Steps p.tables e below (T47.setTop (mkF m 149 #[iv p1, iv p2, iv p3, iv p4, iv (2 : Int32), rv w_ONE_RULE, iv p2, iv (1 : Int32), rv b1_44, rv b1_47, iv ((p3 &&& (2147483647 : Int32)) % (1 : Int32)), .unset, .unset, .unset, .unset] [(.int (1 : Int32)), (.int (p4 &&& (2147483647 : Int32)))])) _
      refine iremM (g := (mkF m 149 #[iv p1, iv p2, iv p3, iv p4, iv (2 : Int32), rv w_ONE_RULE, iv p2, iv (1 : Int32), rv b1_44, rv b1_47, iv ((p3 &&& (2147483647 : Int32)) % (1 : Int32)), .unset, .unset, .unset, .unset] [(.int (1 : Int32)), (.int (p4 &&& (2147483647 : Int32)))])) X47 hx rfl (hb hby at_149) rfl (by decide) ?_
      show Steps p.tables e below (T47.setTop (mkF m 150 #[iv p1, iv p2, iv p3, iv p4, iv (2 : Int32), rv w_ONE_RULE, iv p2, iv (1 : Int32), rv b1_44, rv b1_47, iv ((p3 &&& (2147483647 : Int32)) % (1 : Int32)), .unset, .unset, .unset, .unset] [(.int ((p4 &&& (2147483647 : Int32)) % (1 : Int32)))])) _
      refine XS.istore X47.here hx rfl (hb hby at_150) rfl (l' := #[iv p1, iv p2, iv p3, iv p4, iv (2 : Int32), rv w_ONE_RULE, iv p2, iv (1 : Int32), rv b1_44, rv b1_47, iv ((p3 &&& (2147483647 : Int32)) % (1 : Int32)), iv ((p4 &&& (2147483647 : Int32)) % (1 : Int32)), .unset, .unset, .unset]) rfl ?_
      show Steps p.tables e below (T47.setTop (mkF m 152 #[iv p1, iv p2, iv p3, iv p4, iv (2 : Int32), rv w_ONE_RULE, iv p2, iv (1 : Int32), rv b1_44, rv b1_47, iv ((p3 &&& (2147483647 : Int32)) % (1 : Int32)), iv ((p4 &&& (2147483647 : Int32)) % (1 : Int32)), .unset, .unset, .unset] [])) _
      exact k
    have hr57 : ((p3 &&& (2147483647 : Int32)) % (1 : Int32)) = (0 : Int32) := own_rem1 p3
    have hi57 := hr57
    · have k58 : Way p e below S0 T47 (mkF m 152 #[iv p1, iv p2, iv p3, iv p4, iv (2 : Int32), rv w_ONE_RULE, iv p2, iv (1 : Int32), rv b1_44, rv b1_47, iv (0 : Int32), iv ((p4 &&& (2147483647 : Int32)) % (1 : Int32)), .unset, .unset, .unset] []) := by have q := k56; rw [hi57] at q; exact q
      have hr59 : ((p4 &&& (2147483647 : Int32)) % (1 : Int32)) = (0 : Int32) := own_rem1 p4
      have hi59 := hr59
      · have k60 : Way p e below S0 T47 (mkF m 152 #[iv p1, iv p2, iv p3, iv p4, iv (2 : Int32), rv w_ONE_RULE, iv p2, iv (1 : Int32), rv b1_44, rv b1_47, iv (0 : Int32), iv (0 : Int32), .unset, .unset, .unset] []) := by have q := k58; rw [hi59] at q; exact q
        have k61 : Way p e below S0 T47 (mkF m 156 #[iv p1, iv p2, iv p3, iv p4, iv (2 : Int32), rv w_ONE_RULE, iv p2, iv (1 : Int32), rv b1_44, rv b1_47, iv (0 : Int32), iv (0 : Int32), .unset, .unset, .unset] [(.int (0 : Int32)), (.ref b1_44)]) := by
          intro t k
          refine k60 t ?_
          refine XS.aload X47.here hx rfl (hb hby at_152) rfl rfl ?_
          show Steps p.tables e below (T47.setTop (mkF m 154 #[iv p1, iv p2, iv p3, iv p4, iv (2 : Int32), rv w_ONE_RULE, iv p2, iv (1 : Int32), rv b1_44, rv b1_47, iv (0 : Int32), iv (0 : Int32), .unset, .unset, .unset] [(.ref b1_44)])) _
          refine XS.iload X47.here hx rfl (hb hby at_154) rfl ?_
          show Steps p.tables e below (T47.setTop (mkF m 156 #[iv p1, iv p2, iv p3, iv p4, iv (2 : Int32), rv w_ONE_RULE, iv p2, iv (1 : Int32), rv b1_44, rv b1_47, iv (0 : Int32), iv (0 : Int32), .unset, .unset, .unset] [(.int (0 : Int32)), (.ref b1_44)])) _
          exact k
        obtain ⟨cl62, Ar62, qc62, S62, M62, U62, G62⟩ := id (f50)
        have hin62 : ¬ ((0 : Int32) < 0 ∨ cl62.slots.size ≤ ((0 : Int32)).toNatClampNeg) := inb_of S62 ⟨by decide, by decide⟩
        have hat62 : cl62.slots[((0 : Int32)).toNatClampNeg]? = some (.ref x0_44) := Has.at U62 hin62 rfl
        have k63 : Way p e below S0 T47 (mkF m 157 #[iv p1, iv p2, iv p3, iv p4, iv (2 : Int32), rv w_ONE_RULE, iv p2, iv (1 : Int32), rv b1_44, rv b1_47, iv (0 : Int32), iv (0 : Int32), .unset, .unset, .unset] [(.ref x0_44)]) := fun t k => k61 t (X47.aaload hx (j := (0 : Int32)) (v := (.ref x0_44)) Ar62.1 (State.isArrayOf_alike hZ.alike Ar62.2.1) rfl Ar62.2.2 hin62 hat62 (g := (mkF m 156 #[iv p1, iv p2, iv p3, iv p4, iv (2 : Int32), rv w_ONE_RULE, iv p2, iv (1 : Int32), rv b1_44, rv b1_47, iv (0 : Int32), iv (0 : Int32), .unset, .unset, .unset] [(.int (0 : Int32)), (.ref b1_44)])) rfl rfl (hb hby at_156) _ k)
        have k64 : Way p e below S0 T47 (mkF m 163 #[iv p1, iv p2, iv p3, iv p4, iv (2 : Int32), rv w_ONE_RULE, iv p2, iv (1 : Int32), rv b1_44, rv b1_47, iv (0 : Int32), iv (0 : Int32), rv x0_44, .unset, .unset] [(.int (0 : Int32)), (.ref b1_44)]) := by
          intro t k
          refine k63 t ?_
          refine XS.astore X47.here hx rfl (hb hby at_157) rfl rfl (l' := #[iv p1, iv p2, iv p3, iv p4, iv (2 : Int32), rv w_ONE_RULE, iv p2, iv (1 : Int32), rv b1_44, rv b1_47, iv (0 : Int32), iv (0 : Int32), rv x0_44, .unset, .unset]) rfl ?_
          show Steps p.tables e below (T47.setTop (mkF m 159 #[iv p1, iv p2, iv p3, iv p4, iv (2 : Int32), rv w_ONE_RULE, iv p2, iv (1 : Int32), rv b1_44, rv b1_47, iv (0 : Int32), iv (0 : Int32), rv x0_44, .unset, .unset] [])) _
          refine XS.aload X47.here hx rfl (hb hby at_159) rfl rfl ?_
          show Steps p.tables e below (T47.setTop (mkF m 161 #[iv p1, iv p2, iv p3, iv p4, iv (2 : Int32), rv w_ONE_RULE, iv p2, iv (1 : Int32), rv b1_44, rv b1_47, iv (0 : Int32), iv (0 : Int32), rv x0_44, .unset, .unset] [(.ref b1_44)])) _
          refine XS.iload X47.here hx rfl (hb hby at_161) rfl ?_
          show Steps p.tables e below (T47.setTop (mkF m 163 #[iv p1, iv p2, iv p3, iv p4, iv (2 : Int32), rv w_ONE_RULE, iv p2, iv (1 : Int32), rv b1_44, rv b1_47, iv (0 : Int32), iv (0 : Int32), rv x0_44, .unset, .unset] [(.int (0 : Int32)), (.ref b1_44)])) _
          exact k
        obtain ⟨cl65, Ar65, qc65, S65, M65, U65, G65⟩ := id (f50)
        have hin65 : ¬ ((0 : Int32) < 0 ∨ cl65.slots.size ≤ ((0 : Int32)).toNatClampNeg) := inb_of S65 ⟨by decide, by decide⟩
        have hat65 : cl65.slots[((0 : Int32)).toNatClampNeg]? = some (.ref x0_44) := Has.at U65 hin65 rfl
        have k66 : Way p e below S0 T47 (mkF m 164 #[iv p1, iv p2, iv p3, iv p4, iv (2 : Int32), rv w_ONE_RULE, iv p2, iv (1 : Int32), rv b1_44, rv b1_47, iv (0 : Int32), iv (0 : Int32), rv x0_44, .unset, .unset] [(.ref x0_44)]) := fun t k => k64 t (X47.aaload hx (j := (0 : Int32)) (v := (.ref x0_44)) Ar65.1 (State.isArrayOf_alike hZ.alike Ar65.2.1) rfl Ar65.2.2 hin65 hat65 (g := (mkF m 163 #[iv p1, iv p2, iv p3, iv p4, iv (2 : Int32), rv w_ONE_RULE, iv p2, iv (1 : Int32), rv b1_44, rv b1_47, iv (0 : Int32), iv (0 : Int32), rv x0_44, .unset, .unset] [(.int (0 : Int32)), (.ref b1_44)])) rfl rfl (hb hby at_163) _ k)
        have k67 : Way p e below S0 T47 (mkF m 170 #[iv p1, iv p2, iv p3, iv p4, iv (2 : Int32), rv w_ONE_RULE, iv p2, iv (1 : Int32), rv b1_44, rv b1_47, iv (0 : Int32), iv (0 : Int32), rv x0_44, rv x0_44, .unset] [(.int (0 : Int32)), (.ref b1_47)]) := by
          intro t k
          refine k66 t ?_
          refine XS.astore X47.here hx rfl (hb hby at_164) rfl rfl (l' := #[iv p1, iv p2, iv p3, iv p4, iv (2 : Int32), rv w_ONE_RULE, iv p2, iv (1 : Int32), rv b1_44, rv b1_47, iv (0 : Int32), iv (0 : Int32), rv x0_44, rv x0_44, .unset]) rfl ?_
          show Steps p.tables e below (T47.setTop (mkF m 166 #[iv p1, iv p2, iv p3, iv p4, iv (2 : Int32), rv w_ONE_RULE, iv p2, iv (1 : Int32), rv b1_44, rv b1_47, iv (0 : Int32), iv (0 : Int32), rv x0_44, rv x0_44, .unset] [])) _
          refine XS.aload X47.here hx rfl (hb hby at_166) rfl rfl ?_
          show Steps p.tables e below (T47.setTop (mkF m 168 #[iv p1, iv p2, iv p3, iv p4, iv (2 : Int32), rv w_ONE_RULE, iv p2, iv (1 : Int32), rv b1_44, rv b1_47, iv (0 : Int32), iv (0 : Int32), rv x0_44, rv x0_44, .unset] [(.ref b1_47)])) _
          refine XS.iload X47.here hx rfl (hb hby at_168) rfl ?_
          show Steps p.tables e below (T47.setTop (mkF m 170 #[iv p1, iv p2, iv p3, iv p4, iv (2 : Int32), rv w_ONE_RULE, iv p2, iv (1 : Int32), rv b1_44, rv b1_47, iv (0 : Int32), iv (0 : Int32), rv x0_44, rv x0_44, .unset] [(.int (0 : Int32)), (.ref b1_47)])) _
          exact k
        obtain ⟨cl68, Ar68, qc68, S68, M68, U68, G68⟩ := id (po47_1)
        have hin68 : ¬ ((0 : Int32) < 0 ∨ cl68.slots.size ≤ ((0 : Int32)).toNatClampNeg) := inb_of S68 ⟨by decide, by decide⟩
        have hat68 : cl68.slots[((0 : Int32)).toNatClampNeg]? = some (.ref x0_47) := Has.at U68 hin68 rfl
        have k69 : Way p e below S0 T47 (mkF m 171 #[iv p1, iv p2, iv p3, iv p4, iv (2 : Int32), rv w_ONE_RULE, iv p2, iv (1 : Int32), rv b1_44, rv b1_47, iv (0 : Int32), iv (0 : Int32), rv x0_44, rv x0_44, .unset] [(.ref x0_47)]) := fun t k => k67 t (X47.aaload hx (j := (0 : Int32)) (v := (.ref x0_47)) Ar68.1 (State.isArrayOf_alike hZ.alike Ar68.2.1) rfl Ar68.2.2 hin68 hat68 (g := (mkF m 170 #[iv p1, iv p2, iv p3, iv p4, iv (2 : Int32), rv w_ONE_RULE, iv p2, iv (1 : Int32), rv b1_44, rv b1_47, iv (0 : Int32), iv (0 : Int32), rv x0_44, rv x0_44, .unset] [(.int (0 : Int32)), (.ref b1_47)])) rfl rfl (hb hby at_170) _ k)
        have k70 : Way p e below S0 T47 (mkF m 173 #[iv p1, iv p2, iv p3, iv p4, iv (2 : Int32), rv w_ONE_RULE, iv p2, iv (1 : Int32), rv b1_44, rv b1_47, iv (0 : Int32), iv (0 : Int32), rv x0_44, rv x0_44, rv x0_47] []) := by
          intro t k
          refine k69 t ?_
          refine XS.astore X47.here hx rfl (hb hby at_171) rfl rfl (l' := #[iv p1, iv p2, iv p3, iv p4, iv (2 : Int32), rv w_ONE_RULE, iv p2, iv (1 : Int32), rv b1_44, rv b1_47, iv (0 : Int32), iv (0 : Int32), rv x0_44, rv x0_44, rv x0_47]) rfl ?_
          show Steps p.tables e below (T47.setTop (mkF m 173 #[iv p1, iv p2, iv p3, iv p4, iv (2 : Int32), rv w_ONE_RULE, iv p2, iv (1 : Int32), rv b1_44, rv b1_47, iv (0 : Int32), iv (0 : Int32), rv x0_44, rv x0_44, rv x0_47] [])) _
          exact k
        have f71 : Exa Z T47.heap x0_44 "com/example/rulework/bench/Burst$SelfConflictingRule" := (po44_3.keep Kq47)
        obtain ⟨T72, lc72, X72, N72, e72, st72⟩ := tail_same w_POOL w_NO_RULE w_ONE_RULE w_MANY_RULES G p1 p2 p3 p4 (2 : Int32) w_ONE_RULE p2 (1 : Int32) b1_44 b1_47 (0 : Int32) x0_44 x0_47 X47 hx hZ hw hby hml hown O47 N47 (by decide) (by decide) rfl f71 po47_3 ((Ne.symm (Nat.ne_of_lt (Nat.lt_of_lt_of_le po44_3.lt po47_2))) : x0_47 ≠ x0_44)
        have k73 : Way p e below S0 T72 (mkF m 314 #[iv p1, iv p2, iv p3, iv p4, iv (2 : Int32), rv w_ONE_RULE, iv p2, iv (1 : Int32), rv b1_44, rv b1_47, iv (0 : Int32), iv (0 : Int32), rv x0_44, rv x0_44, rv x0_47] [(.int (1 : Int32))]) := fun t k => k70 t (st72 _ k)
        obtain ⟨fs, hr, hrun, hended, hW, hsame⟩ := X72.leave (v := some (.int (1 : Int32))) (fun h => by rw [Bd.returns] at h; cases h)
        refine ⟨_, _, k73 _ (retN X72 hx (t := .boolean) Bd.returns (by simp) (hb hby at_314) hr), hrun, hended, _, _, rfl, ?_, ⟨_, rfl⟩, hW, hsame.mono (by decide) (by decide)⟩
        show Q_law_met Z w_POOL w_NO_RULE w_ONE_RULE w_MANY_RULES p1 p2 p3 p4 h0 n0 _ T72.heap _
        rw [e72]
        exact ⟨rfl, N72⟩
  · have k74 : Way p e below S0 s₁ (mkF m 5 #[iv p1, iv p2, iv p3, iv p4, iv (3 : Int32), .unset, .unset, .unset, .unset, .unset, .unset, .unset, .unset, .unset, .unset] []) := by have q := k1; rw [hi2] at q; exact q
    have k75 : Way p e below S0 s₁ (mkF m 64 #[iv p1, iv p2, iv p3, iv p4, iv (3 : Int32), .unset, .unset, .unset, .unset, .unset, .unset, .unset, .unset, .unset, .unset] []) := by
      intro t k
      refine k74 t ?_
      refine XS.iload X0.here hx rfl (hb hby at_5) rfl ?_
      show Steps p.tables e below (s₁.setTop (mkF m 7 #[iv p1, iv p2, iv p3, iv p4, iv (3 : Int32), .unset, .unset, .unset, .unset, .unset, .unset, .unset, .unset, .unset, .unset] [(.int (3 : Int32))])) _
      refine XS.ifYes X0.here hx rfl (pc0 := 7) (pc' := 24) rfl (hb hby at_7) rfl ((if0 _ _).trans (feq ((by decide) : ¬ ((3 : Int32) = (0 : Int32)))).2) (by decide) (by decide) ?_
      show Steps p.tables e below (s₁.setTop (mkF m 24 #[iv p1, iv p2, iv p3, iv p4, iv (3 : Int32), .unset, .unset, .unset, .unset, .unset, .unset, .unset, .unset, .unset, .unset] [])) _
      refine XS.iload X0.here hx rfl (hb hby at_24) rfl ?_
      show Steps p.tables e below (s₁.setTop (mkF m 26 #[iv p1, iv p2, iv p3, iv p4, iv (3 : Int32), .unset, .unset, .unset, .unset, .unset, .unset, .unset, .unset, .unset, .unset] [(.int (3 : Int32))])) _
      refine XS.iconst X0.here hx rfl (hb hby at_26) ?_
      show Steps p.tables e below (s₁.setTop (mkF m 27 #[iv p1, iv p2, iv p3, iv p4, iv (3 : Int32), .unset, .unset, .unset, .unset, .unset, .unset, .unset, .unset, .unset, .unset] [(.int (1 : Int32)), (.int (3 : Int32))])) _
      refine XS.icmpYes X0.here hx rfl (pc0 := 27) (pc' := 44) rfl (hb hby at_27) rfl (feq ((by decide) : ¬ ((3 : Int32) = (1 : Int32)))).2 (by decide) (by decide) ?_
      show Steps p.tables e below (s₁.setTop (mkF m 44 #[iv p1, iv p2, iv p3, iv p4, iv (3 : Int32), .unset, .unset, .unset, .unset, .unset, .unset, .unset, .unset, .unset, .unset] [])) _
      refine XS.iload X0.here hx rfl (hb hby at_44) rfl ?_
      show Steps p.tables e below (s₁.setTop (mkF m 46 #[iv p1, iv p2, iv p3, iv p4, iv (3 : Int32), .unset, .unset, .unset, .unset, .unset, .unset, .unset, .unset, .unset, .unset] [(.int (3 : Int32))])) _
      refine XS.iconst X0.here hx rfl (hb hby at_46) ?_
      show Steps p.tables e below (s₁.setTop (mkF m 47 #[iv p1, iv p2, iv p3, iv p4, iv (3 : Int32), .unset, .unset, .unset, .unset, .unset, .unset, .unset, .unset, .unset, .unset] [(.int (2 : Int32)), (.int (3 : Int32))])) _
      refine XS.icmpYes X0.here hx rfl (pc0 := 47) (pc' := 64) rfl (hb hby at_47) rfl (feq ((by decide) : ¬ ((3 : Int32) = (2 : Int32)))).2 (by decide) (by decide) ?_
      show Steps p.tables e below (s₁.setTop (mkF m 64 #[iv p1, iv p2, iv p3, iv p4, iv (3 : Int32), .unset, .unset, .unset, .unset, .unset, .unset, .unset, .unset, .unset, .unset] [])) _
      exact k
    obtain ⟨T76, X76, e76, st76⟩ := getS2 X0 hx hZ hown (host := "") (Or.inl (hw _ (List.mem_of_getElem? (i := 24) rfl))) Via.refl e0 (S_w_MANY_RULES.ext O0.2) (g := (mkF m 64 #[iv p1, iv p2, iv p3, iv p4, iv (3 : Int32), .unset, .unset, .unset, .unset, .unset, .unset, .unset, .unset, .unset, .unset] [])) rfl (hb hby at_64)
    have k77 : Way p e below S0 T76 (mkF m 67 #[iv p1, iv p2, iv p3, iv p4, iv (3 : Int32), .unset, .unset, .unset, .unset, .unset, .unset, .unset, .unset, .unset, .unset] [(.ref w_MANY_RULES)]) := fun t k => k75 t (st76 _ k)
    have k78 : Way p e below S0 T76 (mkF m 75 #[iv p1, iv p2, iv p3, iv p4, iv (3 : Int32), rv w_MANY_RULES, iv (p2 &&& (7 : Int32)), .unset, .unset, .unset, .unset, .unset, .unset, .unset, .unset] []) := by
      intro t k
      refine k77 t ?_
      refine XS.astore X76.here hx rfl (hb hby at_67) rfl rfl (l' := #[iv p1, iv p2, iv p3, iv p4, iv (3 : Int32), rv w_MANY_RULES, .unset, .unset, .unset, .unset, .unset, .unset, .unset, .unset, .unset]) rfl ?_
      show Steps p.tables e below (T76.setTop (mkF m 69 #[iv p1, iv p2, iv p3, iv p4, iv (3 : Int32), rv w_MANY_RULES, .unset, .unset, .unset, .unset, .unset, .unset, .unset, .unset, .unset] [])) _
      refine XS.iloadN X76.here hx rfl (hb hby at_69) rfl ?_
      show Steps p.tables e below (T76.setTop (mkF m 70 #[iv p1, iv p2, iv p3, iv p4, iv (3 : Int32), rv w_MANY_RULES, .unset, .unset, .unset, .unset, .unset, .unset, .unset, .unset, .unset] [(.int p2)])) _
      refine XS.bipush X76.here hx rfl (hb hby at_70) ?_
      show Steps p.tables e below (T76.setTop (mkF m 72 #[iv p1, iv p2, iv p3, iv p4, iv (3 : Int32), rv w_MANY_RULES, .unset, .unset, .unset, .unset, .unset, .unset, .unset, .unset, .unset] [(.int (7 : Int32)), (.int p2)])) _
      refine XS.iand X76.here hx rfl (hb hby at_72) rfl ?_
      show Steps p.tables e below (T76.setTop (mkF m 73 #[iv p1, iv p2, iv p3, iv p4, iv (3 : Int32), rv w_MANY_RULES, .unset, .unset, .unset, .unset, .unset, .unset, .unset, .unset, .unset] [(.int (p2 &&& (7 : Int32)))])) _
      refine XS.istore X76.here hx rfl (hb hby at_73) rfl (l' := #[iv p1, iv p2, iv p3, iv p4, iv (3 : Int32), rv w_MANY_RULES, iv (p2 &&& (7 : Int32)), .unset, .unset, .unset, .unset, .unset, .unset, .unset, .unset]) rfl ?_
      show Steps p.tables e below (T76.setTop (mkF m 75 #[iv p1, iv p2, iv p3, iv p4, iv (3 : Int32), rv w_MANY_RULES, iv (p2 &&& (7 : Int32)), .unset, .unset, .unset, .unset, .unset, .unset, .unset, .unset] [])) _
      exact k
    have hr79 : (p2 &&& (7 : Int32)) = (0 : Int32) ∨ (p2 &&& (7 : Int32)) = (1 : Int32) ∨ (p2 &&& (7 : Int32)) = (2 : Int32) ∨ (p2 &&& (7 : Int32)) = (3 : Int32) ∨ (p2 &&& (7 : Int32)) = (4 : Int32) ∨ (p2 &&& (7 : Int32)) = (5 : Int32) ∨ (p2 &&& (7 : Int32)) = (6 : Int32) ∨ (p2 &&& (7 : Int32)) = (7 : Int32) := own_mask7 p2
    rcases hr79 with hi79 | hi79 | hi79 | hi79 | hi79 | hi79 | hi79 | hi79
    · have k80 : Way p e below S0 T76 (mkF m 75 #[iv p1, iv p2, iv p3, iv p4, iv (3 : Int32), rv w_MANY_RULES, iv (0 : Int32), .unset, .unset, .unset, .unset, .unset, .unset, .unset, .unset] []) := by have q := k78; rw [hi79] at q; exact q
      have k81 : Way p e below S0 T76 (mkF m 83 #[iv p1, iv p2, iv p3, iv p4, iv (3 : Int32), rv w_MANY_RULES, iv (0 : Int32), iv (0 : Int32), .unset, .unset, .unset, .unset, .unset, .unset, .unset] [(.int (0 : Int32)), (.ref w_MANY_RULES)]) := by
        intro t k
        refine k80 t ?_
        refine XS.iload X76.here hx rfl (hb hby at_75) rfl ?_
        show Steps p.tables e below (T76.setTop (mkF m 77 #[iv p1, iv p2, iv p3, iv p4, iv (3 : Int32), rv w_MANY_RULES, iv (0 : Int32), .unset, .unset, .unset, .unset, .unset, .unset, .unset, .unset] [(.int (0 : Int32))])) _
        refine XS.istore X76.here hx rfl (hb hby at_77) rfl (l' := #[iv p1, iv p2, iv p3, iv p4, iv (3 : Int32), rv w_MANY_RULES, iv (0 : Int32), iv (0 : Int32), .unset, .unset, .unset, .unset, .unset, .unset, .unset]) rfl ?_
        show Steps p.tables e below (T76.setTop (mkF m 79 #[iv p1, iv p2, iv p3, iv p4, iv (3 : Int32), rv w_MANY_RULES, iv (0 : Int32), iv (0 : Int32), .unset, .unset, .unset, .unset, .unset, .unset, .unset] [])) _
        refine XS.aload X76.here hx rfl (hb hby at_79) rfl rfl ?_
        show Steps p.tables e below (T76.setTop (mkF m 81 #[iv p1, iv p2, iv p3, iv p4, iv (3 : Int32), rv w_MANY_RULES, iv (0 : Int32), iv (0 : Int32), .unset, .unset, .unset, .unset, .unset, .unset, .unset] [(.ref w_MANY_RULES)])) _
        refine XS.iload X76.here hx rfl (hb hby at_81) rfl ?_
        show Steps p.tables e below (T76.setTop (mkF m 83 #[iv p1, iv p2, iv p3, iv p4, iv (3 : Int32), rv w_MANY_RULES, iv (0 : Int32), iv (0 : Int32), .unset, .unset, .unset, .unset, .unset, .unset, .unset] [(.int (0 : Int32)), (.ref w_MANY_RULES)])) _
        exact k
      obtain ⟨cq82, kq82, qq82a, qq82b, qq82c⟩ := isOf hZ e76 (E_w_MANY_RULES.ext O0.2)
      obtain ⟨_, _, ⟨T82, L82, kk82, nn82⟩, -, X82, ⟨Lc82, hQ82, l82, y82, z82⟩, st82⟩ := X76.virtualBack hx (y := (⟨"com/example/rulework/bench/Burst", "makeRules", "(I)[Lcom/example/rulework/rulework/SchedulingRule;"⟩ : MethodName)) (z := (⟨"com/example/rulework/bench/Burst", "makeRules", "(I)[Lcom/example/rulework/rulework/SchedulingRule;"⟩ : MethodName)) hown (mvT hZ (hw _ (List.mem_of_getElem? (i := 3) rfl))) (mvT hZ (hw _ (List.mem_of_getElem? (i := 4) rfl))) (notFace_of_selects (args := #[]) (mvT hZ (hw _ (List.mem_of_getElem? (i := 6) rfl)))) (mvT hZ (hw _ (List.mem_of_getElem? (i := 6) rfl))) (mvT hZ (hw _ (List.mem_of_getElem? (i := 5) rfl))) (by decide) (backOf (W := 0) (mkm0 l Z a0 hw [] w_POOL w_NO_RULE w_ONE_RULE w_MANY_RULES G  h0 n0 O0 ) hZ (hw _ (List.mem_of_getElem? (i := 7) rfl)) (hw _ (List.mem_of_getElem? (i := 1) rfl)) (by decide) (by decide)) qq82a qq82c (g := (mkF m 83 #[iv p1, iv p2, iv p3, iv p4, iv (3 : Int32), rv w_MANY_RULES, iv (0 : Int32), iv (0 : Int32), .unset, .unset, .unset, .unset, .unset, .unset, .unset] [(.int (0 : Int32)), (.ref w_MANY_RULES)])) rfl (by rw [hml]; rfl) (Steps.refl _) (argsL := [(.int (0 : Int32))]) (rest := []) (lenOf pd_4 rfl) rfl (by show 2 * 0 + _ ≤ _; exact Nat.le_of_eq rfl) (hb hby at_83) (fun _ _ => ⟨rfl, e76, (by decide : 0 + 1 ≤ _), (by decide : 0 + 0 ≤ _)⟩)
      dsimp only [Pt.U, Pt.locs, Pt.cells, Pt.slots] at X82 l82 y82 z82 st82 hQ82
      subst l82 y82 z82
      obtain ⟨b1_82, kc_82, rfl, Nq82, Kq82, po82_0, po82_1⟩ := hQ82
      have N82 := Fr.app N0 Nq82
      have O82 := O0.keep Kq82 all0
      have k83 : Way p e below S0 T82 (mkF m 86 #[iv p1, iv p2, iv p3, iv p4, iv (3 : Int32), rv w_MANY_RULES, iv (0 : Int32), iv (0 : Int32), .unset, .unset, .unset, .unset, .unset, .unset, .unset] [(.ref b1_82)]) := fun t k => k81 t (st82.trans k)
      have k84 : Way p e below S0 T82 (mkF m 92 #[iv p1, iv p2, iv p3, iv p4, iv (3 : Int32), rv w_MANY_RULES, iv (0 : Int32), iv (0 : Int32), rv b1_82, .unset, .unset, .unset, .unset, .unset, .unset] [(.int (0 : Int32)), (.ref w_MANY_RULES)]) := by
        intro t k
        refine k83 t ?_
        refine XS.astore X82.here hx rfl (hb hby at_86) rfl rfl (l' := #[iv p1, iv p2, iv p3, iv p4, iv (3 : Int32), rv w_MANY_RULES, iv (0 : Int32), iv (0 : Int32), rv b1_82, .unset, .unset, .unset, .unset, .unset, .unset]) rfl ?_
        show Steps p.tables e below (T82.setTop (mkF m 88 #[iv p1, iv p2, iv p3, iv p4, iv (3 : Int32), rv w_MANY_RULES, iv (0 : Int32), iv (0 : Int32), rv b1_82, .unset, .unset, .unset, .unset, .unset, .unset] [])) _
        refine XS.aload X82.here hx rfl (hb hby at_88) rfl rfl ?_
        show Steps p.tables e below (T82.setTop (mkF m 90 #[iv p1, iv p2, iv p3, iv p4, iv (3 : Int32), rv w_MANY_RULES, iv (0 : Int32), iv (0 : Int32), rv b1_82, .unset, .unset, .unset, .unset, .unset, .unset] [(.ref w_MANY_RULES)])) _
        refine XS.iload X82.here hx rfl (hb hby at_90) rfl ?_
        show Steps p.tables e below (T82.setTop (mkF m 92 #[iv p1, iv p2, iv p3, iv p4, iv (3 : Int32), rv w_MANY_RULES, iv (0 : Int32), iv (0 : Int32), rv b1_82, .unset, .unset, .unset, .unset, .unset, .unset] [(.int (0 : Int32)), (.ref w_MANY_RULES)])) _
        exact k
      obtain ⟨cq85, kq85, qq85a, qq85b, qq85c⟩ := isOf hZ rfl (E_w_MANY_RULES.ext O82.2)
      obtain ⟨_, _, ⟨T85, L85, kk85, nn85⟩, -, X85, ⟨Lc85, hQ85, l85, y85, z85⟩, st85⟩ := X82.virtualBack hx (y := (⟨"com/example/rulework/bench/Burst", "makeRules", "(I)[Lcom/example/rulework/rulework/SchedulingRule;"⟩ : MethodName)) (z := (⟨"com/example/rulework/bench/Burst", "makeRules", "(I)[Lcom/example/rulework/rulework/SchedulingRule;"⟩ : MethodName)) hown (mvT hZ (hw _ (List.mem_of_getElem? (i := 3) rfl))) (mvT hZ (hw _ (List.mem_of_getElem? (i := 4) rfl))) (notFace_of_selects (args := #[]) (mvT hZ (hw _ (List.mem_of_getElem? (i := 6) rfl)))) (mvT hZ (hw _ (List.mem_of_getElem? (i := 6) rfl))) (mvT hZ (hw _ (List.mem_of_getElem? (i := 5) rfl))) (by decide) (backOf (W := 0) (mkm0 l Z a0 hw [] w_POOL w_NO_RULE w_ONE_RULE w_MANY_RULES G  T82.heap n0 O82 ) hZ (hw _ (List.mem_of_getElem? (i := 7) rfl)) (hw _ (List.mem_of_getElem? (i := 1) rfl)) (by decide) (by decide)) qq85a qq85c (g := (mkF m 92 #[iv p1, iv p2, iv p3, iv p4, iv (3 : Int32), rv w_MANY_RULES, iv (0 : Int32), iv (0 : Int32), rv b1_82, .unset, .unset, .unset, .unset, .unset, .unset] [(.int (0 : Int32)), (.ref w_MANY_RULES)])) rfl (by rw [hml]; rfl) (Steps.refl _) (argsL := [(.int (0 : Int32))]) (rest := []) (lenOf pd_4 rfl) rfl (by show 2 * 0 + _ ≤ _; exact Nat.le_of_eq rfl) (hb hby at_92) (fun _ _ => ⟨rfl, rfl, (by decide : 1 + 1 ≤ _), (by decide : 0 + 0 ≤ _)⟩)
      dsimp only [Pt.U, Pt.locs, Pt.cells, Pt.slots] at X85 l85 y85 z85 st85 hQ85
      subst l85 y85 z85
      obtain ⟨b1_85, kc_85, rfl, Nq85, Kq85, po85_0, po85_1⟩ := hQ85
      have N85 := Fr.app N82 Nq85
      have O85 := O82.keep Kq85 all0
      have k86 : Way p e below S0 T85 (mkF m 95 #[iv p1, iv p2, iv p3, iv p4, iv (3 : Int32), rv w_MANY_RULES, iv (0 : Int32), iv (0 : Int32), rv b1_82, .unset, .unset, .unset, .unset, .unset, .unset] [(.ref b1_85)]) := fun t k => k84 t (st85.trans k)
      have k87 : Way p e below S0 T85 (mkF m 111 #[iv p1, iv p2, iv p3, iv p4, iv (3 : Int32), rv w_MANY_RULES, iv (0 : Int32), iv (0 : Int32), rv b1_82, rv b1_85, .unset, .unset, .unset, .unset, .unset] [(.ref b1_82)]) := by
        intro t k
        refine k86 t ?_
        refine XS.astore X85.here hx rfl (hb hby at_95) rfl rfl (l' := #[iv p1, iv p2, iv p3, iv p4, iv (3 : Int32), rv w_MANY_RULES, iv (0 : Int32), iv (0 : Int32), rv b1_82, rv b1_85, .unset, .unset, .unset, .unset, .unset]) rfl ?_
        show Steps p.tables e below (T85.setTop (mkF m 97 #[iv p1, iv p2, iv p3, iv p4, iv (3 : Int32), rv w_MANY_RULES, iv (0 : Int32), iv (0 : Int32), rv b1_82, rv b1_85, .unset, .unset, .unset, .unset, .unset] [])) _
        refine XS.aload X85.here hx rfl (hb hby at_97) rfl rfl ?_
        show Steps p.tables e below (T85.setTop (mkF m 99 #[iv p1, iv p2, iv p3, iv p4, iv (3 : Int32), rv w_MANY_RULES, iv (0 : Int32), iv (0 : Int32), rv b1_82, rv b1_85, .unset, .unset, .unset, .unset, .unset] [(.ref b1_82)])) _
        refine XS.ifnullNo X85.here hx rfl (hb hby at_99) rfl ?_
        show Steps p.tables e below (T85.setTop (mkF m 102 #[iv p1, iv p2, iv p3, iv p4, iv (3 : Int32), rv w_MANY_RULES, iv (0 : Int32), iv (0 : Int32), rv b1_82, rv b1_85, .unset, .unset, .unset, .unset, .unset] [])) _
        refine XS.aload X85.here hx rfl (hb hby at_102) rfl rfl ?_
        show Steps p.tables e below (T85.setTop (mkF m 104 #[iv p1, iv p2, iv p3, iv p4, iv (3 : Int32), rv w_MANY_RULES, iv (0 : Int32), iv (0 : Int32), rv b1_82, rv b1_85, .unset, .unset, .unset, .unset, .unset] [(.ref b1_85)])) _
        refine XS.ifnonnullYes X85.here hx rfl (pc0 := 104) (pc' := 109) rfl (hb hby at_104) rfl (by decide) (by decide) ?_
        show Steps p.tables e below (T85.setTop (mkF m 109 #[iv p1, iv p2, iv p3, iv p4, iv (3 : Int32), rv w_MANY_RULES, iv (0 : Int32), iv (0 : Int32), rv b1_82, rv b1_85, .unset, .unset, .unset, .unset, .unset] [])) _
        refine XS.aload X85.here hx rfl (hb hby at_109) rfl rfl ?_
        show Steps p.tables e below (T85.setTop (mkF m 111 #[iv p1, iv p2, iv p3, iv p4, iv (3 : Int32), rv w_MANY_RULES, iv (0 : Int32), iv (0 : Int32), rv b1_82, rv b1_85, .unset, .unset, .unset, .unset, .unset] [(.ref b1_82)])) _
        exact k
      have f88 : Arv Z T85.heap b1_82 kc_82 (.object "com/example/rulework/rulework/SchedulingRule") (0 : Int32) [] .null := (po82_1.keep Kq85 nin0)
      obtain ⟨cl89, Ar89, -, S89, M89, -, -⟩ := id (f88)
      have k90 : Way p e below S0 T85 (mkF m 112 #[iv p1, iv p2, iv p3, iv p4, iv (3 : Int32), rv w_MANY_RULES, iv (0 : Int32), iv (0 : Int32), rv b1_82, rv b1_85, .unset, .unset, .unset, .unset, .unset] [(.int (0 : Int32))]) := fun t k => k87 t (X85.arraylength hx (Ar89.1) (State.isArrayOf_alike hZ.alike Ar89.2.1) (g := (mkF m 111 #[iv p1, iv p2, iv p3, iv p4, iv (3 : Int32), rv w_MANY_RULES, iv (0 : Int32), iv (0 : Int32), rv b1_82, rv b1_85, .unset, .unset, .unset, .unset, .unset] [(.ref b1_82)])) rfl rfl (hb hby at_111) _ (by rw [len_of S89 M89]; exact k))
      have k91 : Way p e below S0 T85 (mkF m 119 #[iv p1, iv p2, iv p3, iv p4, iv (3 : Int32), rv w_MANY_RULES, iv (0 : Int32), iv (0 : Int32), rv b1_82, rv b1_85, .unset, .unset, .unset, .unset, .unset] [(.ref b1_85)]) := by
        intro t k
        refine k90 t ?_
        refine XS.iload X85.here hx rfl (hb hby at_112) rfl ?_
        show Steps p.tables e below (T85.setTop (mkF m 114 #[iv p1, iv p2, iv p3, iv p4, iv (3 : Int32), rv w_MANY_RULES, iv (0 : Int32), iv (0 : Int32), rv b1_82, rv b1_85, .unset, .unset, .unset, .unset, .unset] [(.int (0 : Int32)), (.int (0 : Int32))])) _
        refine XS.icmpNo X85.here hx rfl (hb hby at_114) rfl (teq ((by decide) : (0 : Int32) = (0 : Int32))).2 ?_
        show Steps p.tables e below (T85.setTop (mkF m 117 #[iv p1, iv p2, iv p3, iv p4, iv (3 : Int32), rv w_MANY_RULES, iv (0 : Int32), iv (0 : Int32), rv b1_82, rv b1_85, .unset, .unset, .unset, .unset, .unset] [])) _
        refine XS.aload X85.here hx rfl (hb hby at_117) rfl rfl ?_
        show Steps p.tables e below (T85.setTop (mkF m 119 #[iv p1, iv p2, iv p3, iv p4, iv (3 : Int32), rv w_MANY_RULES, iv (0 : Int32), iv (0 : Int32), rv b1_82, rv b1_85, .unset, .unset, .unset, .unset, .unset] [(.ref b1_85)])) _
        exact k
      obtain ⟨cl92, Ar92, -, S92, M92, -, -⟩ := id (po85_1)
      have k93 : Way p e below S0 T85 (mkF m 120 #[iv p1, iv p2, iv p3, iv p4, iv (3 : Int32), rv w_MANY_RULES, iv (0 : Int32), iv (0 : Int32), rv b1_82, rv b1_85, .unset, .unset, .unset, .unset, .unset] [(.int (0 : Int32))]) := fun t k => k91 t (X85.arraylength hx (Ar92.1) (State.isArrayOf_alike hZ.alike Ar92.2.1) (g := (mkF m 119 #[iv p1, iv p2, iv p3, iv p4, iv (3 : Int32), rv w_MANY_RULES, iv (0 : Int32), iv (0 : Int32), rv b1_82, rv b1_85, .unset, .unset, .unset, .unset, .unset] [(.ref b1_85)])) rfl rfl (hb hby at_119) _ (by rw [len_of S92 M92]; exact k))
      have k94 : Way p e below S0 T85 (mkF m 133 #[iv p1, iv p2, iv p3, iv p4, iv (3 : Int32), rv w_MANY_RULES, iv (0 : Int32), iv (0 : Int32), rv b1_82, rv b1_85, .unset, .unset, .unset, .unset, .unset] [(.int (1 : Int32))]) := by
        intro t k
        refine k93 t ?_
        refine XS.iload X85.here hx rfl (hb hby at_120) rfl ?_
        show Steps p.tables e below (T85.setTop (mkF m 122 #[iv p1, iv p2, iv p3, iv p4, iv (3 : Int32), rv w_MANY_RULES, iv (0 : Int32), iv (0 : Int32), rv b1_82, rv b1_85, .unset, .unset, .unset, .unset, .unset] [(.int (0 : Int32)), (.int (0 : Int32))])) _
        refine XS.icmpYes X85.here hx rfl (pc0 := 122) (pc' := 127) rfl (hb hby at_122) rfl (teq ((by decide) : (0 : Int32) = (0 : Int32))).1 (by decide) (by decide) ?_
        show Steps p.tables e below (T85.setTop (mkF m 127 #[iv p1, iv p2, iv p3, iv p4, iv (3 : Int32), rv w_MANY_RULES, iv (0 : Int32), iv (0 : Int32), rv b1_82, rv b1_85, .unset, .unset, .unset, .unset, .unset] [])) _
        refine XS.iload X85.here hx rfl (hb hby at_127) rfl ?_
        show Steps p.tables e below (T85.setTop (mkF m 129 #[iv p1, iv p2, iv p3, iv p4, iv (3 : Int32), rv w_MANY_RULES, iv (0 : Int32), iv (0 : Int32), rv b1_82, rv b1_85, .unset, .unset, .unset, .unset, .unset] [(.int (0 : Int32))])) _
        refine XS.ifNo X85.here hx rfl (hb hby at_129) rfl ((if0 _ _).trans (teq ((by decide) : (0 : Int32) = (0 : Int32))).2) ?_
        show Steps p.tables e below (T85.setTop (mkF m 132 #[iv p1, iv p2, iv p3, iv p4, iv (3 : Int32), rv w_MANY_RULES, iv (0 : Int32), iv (0 : Int32), rv b1_82, rv b1_85, .unset, .unset, .unset, .unset, .unset] [])) _
        refine XS.iconst X85.here hx rfl (hb hby at_132) ?_
        show Steps p.tables e below (T85.setTop (mkF m 133 #[iv p1, iv p2, iv p3, iv p4, iv (3 : Int32), rv w_MANY_RULES, iv (0 : Int32), iv (0 : Int32), rv b1_82, rv b1_85, .unset, .unset, .unset, .unset, .unset] [(.int (1 : Int32))])) _
        exact k
      obtain ⟨fs, hr, hrun, hended, hW, hsame⟩ := X85.leave (v := some (.int (1 : Int32))) (fun h => by rw [Bd.returns] at h; cases h)
      refine ⟨_, _, k94 _ (retN X85 hx (t := .boolean) Bd.returns (by simp) (hb hby at_133) hr), hrun, hended, _, _, rfl, ?_, ⟨_, rfl⟩, hW, hsame.mono (by decide) (by decide)⟩
      show Q_law_met Z w_POOL w_NO_RULE w_ONE_RULE w_MANY_RULES p1 p2 p3 p4 h0 n0 _ T85.heap _
      exact ⟨rfl, N85⟩
    · have k95 : Way p e below S0 T76 (mkF m 75 #[iv p1, iv p2, iv p3, iv p4, iv (3 : Int32), rv w_MANY_RULES, iv (1 : Int32), .unset, .unset, .unset, .unset, .unset, .unset, .unset, .unset] []) := by have q := k78; rw [hi79] at q; exact q
      have k96 : Way p e below S0 T76 (mkF m 83 #[iv p1, iv p2, iv p3, iv p4, iv (3 : Int32), rv w_MANY_RULES, iv (1 : Int32), iv (1 : Int32), .unset, .unset, .unset, .unset, .unset, .unset, .unset] [(.int (1 : Int32)), (.ref w_MANY_RULES)]) := by
        intro t k
        refine k95 t ?_
        refine XS.iload X76.here hx rfl (hb hby at_75) rfl ?_
        show Steps p.tables e below (T76.setTop (mkF m 77 #[iv p1, iv p2, iv p3, iv p4, iv (3 : Int32), rv w_MANY_RULES, iv (1 : Int32), .unset, .unset, .unset, .unset, .unset, .unset, .unset, .unset] [(.int (1 : Int32))])) _
        refine XS.istore X76.here hx rfl (hb hby at_77) rfl (l' := #[iv p1, iv p2, iv p3, iv p4, iv (3 : Int32), rv w_MANY_RULES, iv (1 : Int32), iv (1 : Int32), .unset, .unset, .unset, .unset, .unset, .unset, .unset]) rfl ?_
        show Steps p.tables e below (T76.setTop (mkF m 79 #[iv p1, iv p2, iv p3, iv p4, iv (3 : Int32), rv w_MANY_RULES, iv (1 : Int32), iv (1 : Int32), .unset, .unset, .unset, .unset, .unset, .unset, .unset] [])) _
        refine XS.aload X76.here hx rfl (hb hby at_79) rfl rfl ?_
        show Steps p.tables e below (T76.setTop (mkF m 81 #[iv p1, iv p2, iv p3, iv p4, iv (3 : Int32), rv w_MANY_RULES, iv (1 : Int32), iv (1 : Int32), .unset, .unset, .unset, .unset, .unset, .unset, .unset] [(.ref w_MANY_RULES)])) _
        refine XS.iload X76.here hx rfl (hb hby at_81) rfl ?_
        show Steps p.tables e below (T76.setTop (mkF m 83 #[iv p1, iv p2, iv p3, iv p4, iv (3 : Int32), rv w_MANY_RULES, iv (1 : Int32), iv (1 : Int32), .unset, .unset, .unset, .unset, .unset, .unset, .unset] [(.int (1 : Int32)), (.ref w_MANY_RULES)])) _
        exact k
      obtain ⟨cq97, kq97, qq97a, qq97b, qq97c⟩ := isOf hZ e76 (E_w_MANY_RULES.ext O0.2)
      obtain ⟨_, _, ⟨T97, L97, kk97, nn97⟩, -, X97, ⟨Lc97, hQ97, l97, y97, z97⟩, st97⟩ := X76.virtualBack hx (y := (⟨"com/example/rulework/bench/Burst", "makeRules", "(I)[Lcom/example/rulework/rulework/SchedulingRule;"⟩ : MethodName)) (z := (⟨"com/example/rulework/bench/Burst", "makeRules", "(I)[Lcom/example/rulework/rulework/SchedulingRule;"⟩ : MethodName)) hown (mvT hZ (hw _ (List.mem_of_getElem? (i := 3) rfl))) (mvT hZ (hw _ (List.mem_of_getElem? (i := 4) rfl))) (notFace_of_selects (args := #[]) (mvT hZ (hw _ (List.mem_of_getElem? (i := 6) rfl)))) (mvT hZ (hw _ (List.mem_of_getElem? (i := 6) rfl))) (mvT hZ (hw _ (List.mem_of_getElem? (i := 5) rfl))) (by decide) (backOf (W := 0) (mkm1 l Z a0 hw [] w_POOL w_NO_RULE w_ONE_RULE w_MANY_RULES G  h0 n0 O0 ) hZ (hw _ (List.mem_of_getElem? (i := 7) rfl)) (hw _ (List.mem_of_getElem? (i := 1) rfl)) (by decide) (by decide)) qq97a qq97c (g := (mkF m 83 #[iv p1, iv p2, iv p3, iv p4, iv (3 : Int32), rv w_MANY_RULES, iv (1 : Int32), iv (1 : Int32), .unset, .unset, .unset, .unset, .unset, .unset, .unset] [(.int (1 : Int32)), (.ref w_MANY_RULES)])) rfl (by rw [hml]; rfl) (Steps.refl _) (argsL := [(.int (1 : Int32))]) (rest := []) (lenOf pd_4 rfl) rfl (by show 2 * 0 + _ ≤ _; exact Nat.le_of_eq rfl) (hb hby at_83) (fun _ _ => ⟨rfl, e76, (by decide : 0 + 2 ≤ _), (by decide : 0 + 1 ≤ _)⟩)
      dsimp only [Pt.U, Pt.locs, Pt.cells, Pt.slots] at X97 l97 y97 z97 st97 hQ97
      subst l97 y97 z97
      obtain ⟨b1_97, kc_97, x0_97, rfl, Nq97, Kq97, po97_0, po97_1, po97_2, po97_3⟩ := hQ97
      have N97 := Fr.app N0 Nq97
      have O97 := O0.keep Kq97 all0
      have k98 : Way p e below S0 T97 (mkF m 86 #[iv p1, iv p2, iv p3, iv p4, iv (3 : Int32), rv w_MANY_RULES, iv (1 : Int32), iv (1 : Int32), .unset, .unset, .unset, .unset, .unset, .unset, .unset] [(.ref b1_97)]) := fun t k => k96 t (st97.trans k)
      have k99 : Way p e below S0 T97 (mkF m 92 #[iv p1, iv p2, iv p3, iv p4, iv (3 : Int32), rv w_MANY_RULES, iv (1 : Int32), iv (1 : Int32), rv b1_97, .unset, .unset, .unset, .unset, .unset, .unset] [(.int (1 : Int32)), (.ref w_MANY_RULES)]) := by
        intro t k
        refine k98 t ?_
        refine XS.astore X97.here hx rfl (hb hby at_86) rfl rfl (l' := #[iv p1, iv p2, iv p3, iv p4, iv (3 : Int32), rv w_MANY_RULES, iv (1 : Int32), iv (1 : Int32), rv b1_97, .unset, .unset, .unset, .unset, .unset, .unset]) rfl ?_
        show Steps p.tables e below (T97.setTop (mkF m 88 #[iv p1, iv p2, iv p3, iv p4, iv (3 : Int32), rv w_MANY_RULES, iv (1 : Int32), iv (1 : Int32), rv b1_97, .unset, .unset, .unset, .unset, .unset, .unset] [])) _
        refine XS.aload X97.here hx rfl (hb hby at_88) rfl rfl ?_
        show Steps p.tables e below (T97.setTop (mkF m 90 #[iv p1, iv p2, iv p3, iv p4, iv (3 : Int32), rv w_MANY_RULES, iv (1 : Int32), iv (1 : Int32), rv b1_97, .unset, .unset, .unset, .unset, .unset, .unset] [(.ref w_MANY_RULES)])) _
        refine XS.iload X97.here hx rfl (hb hby at_90) rfl ?_
        show Steps p.tables e below (T97.setTop (mkF m 92 #[iv p1, iv p2, iv p3, iv p4, iv (3 : Int32), rv w_MANY_RULES, iv (1 : Int32), iv (1 : Int32), rv b1_97, .unset, .unset, .unset, .unset, .unset, .unset] [(.int (1 : Int32)), (.ref w_MANY_RULES)])) _
        exact k
      obtain ⟨cq100, kq100, qq100a, qq100b, qq100c⟩ := isOf hZ rfl (E_w_MANY_RULES.ext O97.2)
      obtain ⟨_, _, ⟨T100, L100, kk100, nn100⟩, -, X100, ⟨Lc100, hQ100, l100, y100, z100⟩, st100⟩ := X97.virtualBack hx (y := (⟨"com/example/rulework/bench/Burst", "makeRules", "(I)[Lcom/example/rulework/rulework/SchedulingRule;"⟩ : MethodName)) (z := (⟨"com/example/rulework/bench/Burst", "makeRules", "(I)[Lcom/example/rulework/rulework/SchedulingRule;"⟩ : MethodName)) hown (mvT hZ (hw _ (List.mem_of_getElem? (i := 3) rfl))) (mvT hZ (hw _ (List.mem_of_getElem? (i := 4) rfl))) (notFace_of_selects (args := #[]) (mvT hZ (hw _ (List.mem_of_getElem? (i := 6) rfl)))) (mvT hZ (hw _ (List.mem_of_getElem? (i := 6) rfl))) (mvT hZ (hw _ (List.mem_of_getElem? (i := 5) rfl))) (by decide) (backOf (W := 0) (mkm1 l Z a0 hw [] w_POOL w_NO_RULE w_ONE_RULE w_MANY_RULES G  T97.heap n0 O97 ) hZ (hw _ (List.mem_of_getElem? (i := 7) rfl)) (hw _ (List.mem_of_getElem? (i := 1) rfl)) (by decide) (by decide)) qq100a qq100c (g := (mkF m 92 #[iv p1, iv p2, iv p3, iv p4, iv (3 : Int32), rv w_MANY_RULES, iv (1 : Int32), iv (1 : Int32), rv b1_97, .unset, .unset, .unset, .unset, .unset, .unset] [(.int (1 : Int32)), (.ref w_MANY_RULES)])) rfl (by rw [hml]; rfl) (Steps.refl _) (argsL := [(.int (1 : Int32))]) (rest := []) (lenOf pd_4 rfl) rfl (by show 2 * 0 + _ ≤ _; exact Nat.le_of_eq rfl) (hb hby at_92) (fun _ _ => ⟨rfl, rfl, (by decide : 2 + 2 ≤ _), (by decide : 1 + 1 ≤ _)⟩)
      dsimp only [Pt.U, Pt.locs, Pt.cells, Pt.slots] at X100 l100 y100 z100 st100 hQ100
      subst l100 y100 z100
      obtain ⟨b1_100, kc_100, x0_100, rfl, Nq100, Kq100, po100_0, po100_1, po100_2, po100_3⟩ := hQ100
      have N100 := Fr.app N97 Nq100
      have O100 := O97.keep Kq100 all0
      have k101 : Way p e below S0 T100 (mkF m 95 #[iv p1, iv p2, iv p3, iv p4, iv (3 : Int32), rv w_MANY_RULES, iv (1 : Int32), iv (1 : Int32), rv b1_97, .unset, .unset, .unset, .unset, .unset, .unset] [(.ref b1_100)]) := fun t k => k99 t (st100.trans k)
      have k102 : Way p e below S0 T100 (mkF m 111 #[iv p1, iv p2, iv p3, iv p4, iv (3 : Int32), rv w_MANY_RULES, iv (1 : Int32), iv (1 : Int32), rv b1_97, rv b1_100, .unset, .unset, .unset, .unset, .unset] [(.ref b1_97)]) := by
        intro t k
        refine k101 t ?_
        refine XS.astore X100.here hx rfl (hb hby at_95) rfl rfl (l' := #[iv p1, iv p2, iv p3, iv p4, iv (3 : Int32), rv w_MANY_RULES, iv (1 : Int32), iv (1 : Int32), rv b1_97, rv b1_100, .unset, .unset, .unset, .unset, .unset]) rfl ?_
        show Steps p.tables e below (T100.setTop (mkF m 97 #[iv p1, iv p2, iv p3, iv p4, iv (3 : Int32), rv w_MANY_RULES, iv (1 : Int32), iv (1 : Int32), rv b1_97, rv b1_100, .unset, .unset, .unset, .unset, .unset] [])) _
        refine XS.aload X100.here hx rfl (hb hby at_97) rfl rfl ?_
        show Steps p.tables e below (T100.setTop (mkF m 99 #[iv p1, iv p2, iv p3, iv p4, iv (3 : Int32), rv w_MANY_RULES, iv (1 : Int32), iv (1 : Int32), rv b1_97, rv b1_100, .unset, .unset, .unset, .unset, .unset] [(.ref b1_97)])) _
        refine XS.ifnullNo X100.here hx rfl (hb hby at_99) rfl ?_
        show Steps p.tables e below (T100.setTop (mkF m 102 #[iv p1, iv p2, iv p3, iv p4, iv (3 : Int32), rv w_MANY_RULES, iv (1 : Int32), iv (1 : Int32), rv b1_97, rv b1_100, .unset, .unset, .unset, .unset, .unset] [])) _
        refine XS.aload X100.here hx rfl (hb hby at_102) rfl rfl ?_
        show Steps p.tables e below (T100.setTop (mkF m 104 #[iv p1, iv p2, iv p3, iv p4, iv (3 : Int32), rv w_MANY_RULES, iv (1 : Int32), iv (1 : Int32), rv b1_97, rv b1_100, .unset, .unset, .unset, .unset, .unset] [(.ref b1_100)])) _
        refine XS.ifnonnullYes X100.here hx rfl (pc0 := 104) (pc' := 109) rfl (hb hby at_104) rfl (by decide) (by decide) ?_
        show Steps p.tables e below (T100.setTop (mkF m 109 #[iv p1, iv p2, iv p3, iv p4, iv (3 : Int32), rv w_MANY_RULES, iv (1 : Int32), iv (1 : Int32), rv b1_97, rv b1_100, .unset, .unset, .unset, .unset, .unset] [])) _
        refine XS.aload X100.here hx rfl (hb hby at_109) rfl rfl ?_
        show Steps p.tables e below (T100.setTop (mkF m 111 #[iv p1, iv p2, iv p3, iv p4, iv (3 : Int32), rv w_MANY_RULES, iv (1 : Int32), iv (1 : Int32), rv b1_97, rv b1_100, .unset, .unset, .unset, .unset, .unset] [(.ref b1_97)])) _
        exact k
      have f103 : Arv Z T100.heap b1_97 kc_97 (.object "com/example/rulework/rulework/SchedulingRule") (1 : Int32) [(.ref x0_97)] .null := (po97_1.keep Kq100 nin0)
      obtain ⟨cl104, Ar104, -, S104, M104, -, -⟩ := id (f103)
      have k105 : Way p e below S0 T100 (mkF m 112 #[iv p1, iv p2, iv p3, iv p4, iv (3 : Int32), rv w_MANY_RULES, iv (1 : Int32), iv (1 : Int32), rv b1_97, rv b1_100, .unset, .unset, .unset, .unset, .unset] [(.int (1 : Int32))]) := fun t k => k102 t (X100.arraylength hx (Ar104.1) (State.isArrayOf_alike hZ.alike Ar104.2.1) (g := (mkF m 111 #[iv p1, iv p2, iv p3, iv p4, iv (3 : Int32), rv w_MANY_RULES, iv (1 : Int32), iv (1 : Int32), rv b1_97, rv b1_100, .unset, .unset, .unset, .unset, .unset] [(.ref b1_97)])) rfl rfl (hb hby at_111) _ (by rw [len_of S104 M104]; exact k))
      have k106 : Way p e below S0 T100 (mkF m 119 #[iv p1, iv p2, iv p3, iv p4, iv (3 : Int32), rv w_MANY_RULES, iv (1 : Int32), iv (1 : Int32), rv b1_97, rv b1_100, .unset, .unset, .unset, .unset, .unset] [(.ref b1_100)]) := by
        intro t k
        refine k105 t ?_
        refine XS.iload X100.here hx rfl (hb hby at_112) rfl ?_
        show Steps p.tables e below (T100.setTop (mkF m 114 #[iv p1, iv p2, iv p3, iv p4, iv (3 : Int32), rv w_MANY_RULES, iv (1 : Int32), iv (1 : Int32), rv b1_97, rv b1_100, .unset, .unset, .unset, .unset, .unset] [(.int (1 : Int32)), (.int (1 : Int32))])) _
        refine XS.icmpNo X100.here hx rfl (hb hby at_114) rfl (teq ((by decide) : (1 : Int32) = (1 : Int32))).2 ?_
        show Steps p.tables e below (T100.setTop (mkF m 117 #[iv p1, iv p2, iv p3, iv p4, iv (3 : Int32), rv w_MANY_RULES, iv (1 : Int32), iv (1 : Int32), rv b1_97, rv b1_100, .unset, .unset, .unset, .unset, .unset] [])) _
        refine XS.aload X100.here hx rfl (hb hby at_117) rfl rfl ?_
        show Steps p.tables e below (T100.setTop (mkF m 119 #[iv p1, iv p2, iv p3, iv p4, iv (3 : Int32), rv w_MANY_RULES, iv (1 : Int32), iv (1 : Int32), rv b1_97, rv b1_100, .unset, .unset, .unset, .unset, .unset] [(.ref b1_100)])) _
        exact k
      obtain ⟨cl107, Ar107, -, S107, M107, -, -⟩ := id (po100_1)
      have k108 : Way p e below S0 T100 (mkF m 120 #[iv p1, iv p2, iv p3, iv p4, iv (3 : Int32), rv w_MANY_RULES, iv (1 : Int32), iv (1 : Int32), rv b1_97, rv b1_100, .unset, .unset, .unset, .unset, .unset] [(.int (1 : Int32))]) := fun t k => k106 t (X100.arraylength hx (Ar107.1) (State.isArrayOf_alike hZ.alike Ar107.2.1) (g := (mkF m 119 #[iv p1, iv p2, iv p3, iv p4, iv (3 : Int32), rv w_MANY_RULES, iv (1 : Int32), iv (1 : Int32), rv b1_97, rv b1_100, .unset, .unset, .unset, .unset, .unset] [(.ref b1_100)])) rfl rfl (hb hby at_119) _ (by rw [len_of S107 M107]; exact k))
      have k109 : Way p e below S0 T100 (mkF m 152 #[iv p1, iv p2, iv p3, iv p4, iv (3 : Int32), rv w_MANY_RULES, iv (1 : Int32), iv (1 : Int32), rv b1_97, rv b1_100, iv ((p3 &&& (2147483647 : Int32)) % (1 : Int32)), iv ((p4 &&& (2147483647 : Int32)) % (1 : Int32)), .unset, .unset, .unset] []) := by
        intro t k
        refine k108 t ?_
        refine XS.iload X100.here hx rfl (hb hby at_120) rfl ?_
        show Steps p.tables e below (T100.setTop (mkF m 122 #[iv p1, iv p2, iv p3, iv p4, iv (3 : Int32), rv w_MANY_RULES, iv (1 : Int32), iv (1 : Int32), rv b1_97, rv b1_100, .unset, .unset, .unset, .unset, .unset] [(.int (1 : Int32)), (.int (1 : Int32))])) _
        refine XS.icmpYes X100.here hx rfl (pc0 := 122) (pc' := 127) rfl (hb hby at_122) rfl (teq ((by decide) : (1 : Int32) = (1 : Int32))).1 (by decide) (by decide) ?_
        show Steps p.tables e below (T100.setTop (mkF m 127 #[iv p1, iv p2, iv p3, iv p4, iv (3 : Int32), rv w_MANY_RULES, iv (1 : Int32), iv (1 : Int32), rv b1_97, rv b1_100, .unset, .unset, .unset, .unset, .unset] [])) _
        refine XS.iload X100.here hx rfl (hb hby at_127) rfl ?_
        show Steps p.tables e below (T100.setTop (mkF m 129 #[iv p1, iv p2, iv p3, iv p4, iv (3 : Int32), rv w_MANY_RULES, iv (1 : Int32), iv (1 : Int32), rv b1_97, rv b1_100, .unset, .unset, .unset, .unset, .unset] [(.int (1 : Int32))])) _
        refine XS.ifYes X100.here hx rfl (pc0 := 129) (pc' := 134) rfl (hb hby at_129) rfl ((if0 _ _).trans (feq ((by decide) : ¬ ((1 : Int32) = (0 : Int32)))).2) (by decide) (by decide) ?_
        show Steps p.tables e below (T100.setTop (mkF m 134 #[iv p1, iv p2, iv p3, iv p4, iv (3 : Int32), rv w_MANY_RULES, iv (1 : Int32), iv (1 : Int32), rv b1_97, rv b1_100, .unset, .unset, .unset, .unset, .unset] [])) _
        refine XS.iloadN X100.here hx rfl (hb hby at_134) rfl ?_
        show Steps p.tables e below (T100.setTop (mkF m 135 #[iv p1, iv p2, iv p3, iv p4, iv (3 : Int32), rv w_MANY_RULES, iv (1 : Int32), iv (1 : Int32), rv b1_97, rv b1_100, .unset, .unset, .unset, .unset, .unset] [(.int p3)])) _
        refine X100.ldcInt hx hown (mvT hZ (hw _ (List.mem_of_getElem? (i := 36) rfl))) (g := (mkF m 135 #[iv p1, iv p2, iv p3, iv p4, iv (3 : Int32), rv w_MANY_RULES, iv (1 : Int32), iv (1 : Int32), rv b1_97, rv b1_100, .unset, .unset, .unset, .unset, .unset] [(.int p3)])) rfl (hb hby at_135) _ ?_
        show Steps p.tables e below (T100.setTop (mkF m 137 #[iv p1, iv p2, iv p3, iv p4, iv (3 : Int32), rv w_MANY_RULES, iv (1 : Int32), iv (1 : Int32), rv b1_97, rv b1_100, .unset, .unset, .unset, .unset, .unset] [(.int (2147483647 : Int32)), (.int p3)])) _
        refine XS.iand X100.here hx rfl (hb hby at_137) rfl ?_
        show Steps p.tables e below (T100.setTop (mkF m 138 #[iv p1, iv p2, iv p3, iv p4, iv (3 : Int32), rv w_MANY_RULES, iv (1 : Int32), iv (1 : Int32), rv b1_97, rv b1_100, .unset, .unset, .unset, .unset, .unset] [(.int (p3 &&& (2147483647 : Int32)))])) _
        refine XS.iload X100.here hx rfl (hb hby at_138) rfl ?_
        show Steps p.tables e below (T100.setTop (mkF m 140 #[iv p1, iv p2, iv p3, iv p4, iv (3 : Int32), rv w_MANY_RULES, iv (1 : Int32), iv (1 : Int32), rv b1_97, rv b1_100, .unset, .unset, .unset, .unset, .unset] [(.int (1 : Int32)), (.int (p3 &&& (2147483647 : Int32)))])) _
        refine iremM (g := (mkF m 140 #[iv p1, iv p2, iv p3, iv p4, iv (3 : Int32), rv w_MANY_RULES, iv (1 : Int32), iv (1 : Int32), rv b1_97, rv b1_100, .unset, .unset, .unset, .unset, .unset] [(.int (1 : Int32)), (.int (p3 &&& (2147483647 : Int32)))])) X100 hx rfl (hb hby at_140) rfl (by decide) ?_
        show Steps p.tables e below (T100.setTop (mkF m 141 #[iv p1, iv p2, iv p3, iv p4, iv (3 : Int32), rv w_MANY_RULES, iv (1 : Int32), iv (1 : Int32), rv b1_97, rv b1_100, .unset, .unset, .unset, .unset, .unset] [(.int ((p3 &&& (2147483647 : Int32)) % (1 : Int32)))])) _
        refine XS.istore X100.here hx rfl (hb hby at_141) rfl (l' := #[iv p1, iv p2, iv p3, iv p4, iv (3 : Int32), rv w_MANY_RULES, iv (1 : Int32), iv (1 : Int32), rv b1_97, rv b1_100, iv ((p3 &&& (2147483647 : Int32)) % (1 : Int32)), .unset, .unset, .unset, .unset]) rfl ?_
        show Steps p.tables e below (T100.setTop (mkF m 143 #[iv p1, iv p2, iv p3, iv p4, iv (3 : Int32), rv w_MANY_RULES, iv (1 : Int32), iv (1 : Int32), rv b1_97, rv b1_100, iv ((p3 &&& (2147483647 : Int32)) % (1 : Int32)), .unset, .unset, .unset, .unset] [])) _
        refine XS.iloadN X100.here hx rfl (hb hby at_143) rfl ?_
        show Steps p.tables e below (T100.setTop (mkF m 144 #[iv p1, iv p2, iv p3, iv p4, iv (3 : Int32), rv w_MANY_RULES, iv (1 : Int32), iv (1 : Int32), rv b1_97, rv b1_100, iv ((p3 &&& (2147483647 : Int32)) % (1 : Int32)), .unset, .unset, .unset, .unset] [(.int p4)])) _
        refine X100.ldcInt hx hown (mvT hZ (hw _ (List.mem_of_getElem? (i := 36) rfl))) (g := (mkF m 144 #[iv p1, iv p2, iv p3, iv p4, iv (3 : Int32), rv w_MANY_RULES, iv (1 : Int32), iv (1 : Int32), rv b1_97, rv b1_100, iv ((p3 &&& (2147483647 : Int32)) % (1 : Int32)), .unset, .unset, .unset, .unset] [(.int p4)])) rfl (hb hby at_144) _ ?_
        show Steps p.tables e below (T100.setTop (mkF m 146 #[iv p1, iv p2, iv p3, iv p4, iv (3 : Int32), rv w_MANY_RULES, iv (1 : Int32), iv (1 : Int32), rv b1_97, rv b1_100, iv ((p3 &&& (2147483647 : Int32)) % (1 : Int32)), .unset, .unset, .unset, .unset] [(.int (2147483647 : Int32)), (.int p4)])) _
        refine XS.iand X100.here hx rfl (hb hby at_146) rfl ?_
        show Steps p.tables e below (T100.setTop (mkF m 147 #[iv p1, iv p2, iv p3, iv p4, iv (3 : Int32), rv w_MANY_RULES, iv (1 : Int32), iv (1 : Int32), rv b1_97, rv b1_100, iv ((p3 &&& (2147483647 : Int32)) % (1 : Int32)), .unset, .unset, .unset, .unset] [(.int (p4 &&& (2147483647 : Int32)))])) _
        refine XS.iload X100.here hx rfl (hb hby at_147) rfl ?_
        show Steps p.tables e below (T100.setTop (mkF m 149 #[iv p1, iv p2, iv p3, iv p4, iv (3 : Int32), rv w_MANY_RULES, iv (1 : Int32), iv (1 : Int32), rv b1_97, rv b1_100, iv ((p3 &&& (2147483647 : Int32)) % (1 : Int32)), .unset, .unset, .unset, .unset] [(.int (1 : Int32)), (.int (p4 &&& (2147483647 : Int32)))])) _
        refine iremM (g := (mkF m 149 #[iv p1, iv p2, iv p3, iv p4, iv (3 : Int32), rv w_MANY_RULES, iv (1 : Int32), iv (1 : Int32), rv b1_97, rv b1_100, iv ((p3 &&& (2147483647 : Int32)) % (1 : Int32)), .unset, .unset, .unset, .unset] [(.int (1 : Int32)), (.int (p4 &&& (2147483647 : Int32)))])) X100 hx rfl (hb hby at_149) rfl (by decide) ?_
        show Steps p.tables e below (T100.setTop (mkF m 150 #[iv p1, iv p2, iv p3, iv p4, iv (3 : Int32), rv w_MANY_RULES, iv (1 : Int32), iv (1 : Int32), rv b1_97, rv b1_100, iv ((p3 &&& (2147483647 : Int32)) % (1 : Int32)), .unset, .unset, .unset, .unset] [(.int ((p4 &&& (2147483647 : Int32)) % (1 : Int32)))])) _
        refine XS.istore X100.here hx rfl (hb hby at_150) rfl (l' := #[iv p1, iv p2, iv p3, iv p4, iv (3 : Int32), rv w_MANY_RULES, iv (1 : Int32), iv (1 : Int32), rv b1_97, rv b1_100, iv ((p3 &&& (2147483647 : Int32)) % (1 : Int32)), iv ((p4 &&& (2147483647 : Int32)) % (1 : Int32)), .unset, .unset, .unset]) rfl ?_
        show Steps p.tables e below (T100.setTop (mkF m 152 #[iv p1, iv p2, iv p3, iv p4, iv (3 : Int32), rv w_MANY_RULES, iv (1 : Int32), iv (1 : Int32), rv b1_97, rv b1_100, iv ((p3 &&& (2147483647 : Int32)) % (1 : Int32)), iv ((p4 &&& (2147483647 : Int32)) % (1 : Int32)), .unset, .unset, .unset] [])) _
        exact k
      have hr110 : ((p3 &&& (2147483647 : Int32)) % (1 : Int32)) = (0 : Int32) := own_rem1 p3
      have hi110 := hr110
      · have k111 : Way p e below S0 T100 (mkF m 152 #[iv p1, iv p2, iv p3, iv p4, iv (3 : Int32), rv w_MANY_RULES, iv (1 : Int32), iv (1 : Int32), rv b1_97, rv b1_100, iv (0 : Int32), iv ((p4 &&& (2147483647 : Int32)) % (1 : Int32)), .unset, .unset, .unset] []) := by have q := k109; rw [hi110] at q; exact q
        have hr112 : ((p4 &&& (2147483647 : Int32)) % (1 : Int32)) = (0 : Int32) := own_rem1 p4
        have hi112 := hr112
        · have k113 : Way p e below S0 T100 (mkF m 152 #[iv p1, iv p2, iv p3, iv p4, iv (3 : Int32), rv w_MANY_RULES, iv (1 : Int32), iv (1 : Int32), rv b1_97, rv b1_100, iv (0 : Int32), iv (0 : Int32), .unset, .unset, .unset] []) := by have q := k111; rw [hi112] at q; exact q
          have k114 : Way p e below S0 T100 (mkF m 156 #[iv p1, iv p2, iv p3, iv p4, iv (3 : Int32), rv w_MANY_RULES, iv (1 : Int32), iv (1 : Int32), rv b1_97, rv b1_100, iv (0 : Int32), iv (0 : Int32), .unset, .unset, .unset] [(.int (0 : Int32)), (.ref b1_97)]) := by
            intro t k
            refine k113 t ?_
            refine XS.aload X100.here hx rfl (hb hby at_152) rfl rfl ?_
            show Steps p.tables e below (T100.setTop (mkF m 154 #[iv p1, iv p2, iv p3, iv p4, iv (3 : Int32), rv w_MANY_RULES, iv (1 : Int32), iv (1 : Int32), rv b1_97, rv b1_100, iv (0 : Int32), iv (0 : Int32), .unset, .unset, .unset] [(.ref b1_97)])) _
            refine XS.iload X100.here hx rfl (hb hby at_154) rfl ?_
            show Steps p.tables e below (T100.setTop (mkF m 156 #[iv p1, iv p2, iv p3, iv p4, iv (3 : Int32), rv w_MANY_RULES, iv (1 : Int32), iv (1 : Int32), rv b1_97, rv b1_100, iv (0 : Int32), iv (0 : Int32), .unset, .unset, .unset] [(.int (0 : Int32)), (.ref b1_97)])) _
            exact k
          obtain ⟨cl115, Ar115, qc115, S115, M115, U115, G115⟩ := id (f103)
          have hin115 : ¬ ((0 : Int32) < 0 ∨ cl115.slots.size ≤ ((0 : Int32)).toNatClampNeg) := inb_of S115 ⟨by decide, by decide⟩
          have hat115 : cl115.slots[((0 : Int32)).toNatClampNeg]? = some (.ref x0_97) := Has.at U115 hin115 rfl
          have k116 : Way p e below S0 T100 (mkF m 157 #[iv p1, iv p2, iv p3, iv p4, iv (3 : Int32), rv w_MANY_RULES, iv (1 : Int32), iv (1 : Int32), rv b1_97, rv b1_100, iv (0 : Int32), iv (0 : Int32), .unset, .unset, .unset] [(.ref x0_97)]) := fun t k => k114 t (X100.aaload hx (j := (0 : Int32)) (v := (.ref x0_97)) Ar115.1 (State.isArrayOf_alike hZ.alike Ar115.2.1) rfl Ar115.2.2 hin115 hat115 (g := (mkF m 156 #[iv p1, iv p2, iv p3, iv p4, iv (3 : Int32), rv w_MANY_RULES, iv (1 : Int32), iv (1 : Int32), rv b1_97, rv b1_100, iv (0 : Int32), iv (0 : Int32), .unset, .unset, .unset] [(.int (0 : Int32)), (.ref b1_97)])) rfl rfl (hb hby at_156) _ k)
          have k117 : Way p e below S0 T100 (mkF m 163 #[iv p1, iv p2, iv p3, iv p4, iv (3 : Int32), rv w_MANY_RULES, iv (1 : Int32), iv (1 : Int32), rv b1_97, rv b1_100, iv (0 : Int32), iv (0 : Int32), rv x0_97, .unset, .unset] [(.int (0 : Int32)), (.ref b1_97)]) := by
            intro t k
            refine k116 t ?_
            refine XS.astore X100.here hx rfl (hb hby at_157) rfl rfl (l' := #[iv p1, iv p2, iv p3, iv p4, iv (3 : Int32), rv w_MANY_RULES, iv (1 : Int32), iv (1 : Int32), rv b1_97, rv b1_100, iv (0 : Int32), iv (0 : Int32), rv x0_97, .unset, .unset]) rfl ?_
            show Steps p.tables e below (T100.setTop (mkF m 159 #[iv p1, iv p2, iv p3, iv p4, iv (3 : Int32), rv w_MANY_RULES, iv (1 : Int32), iv (1 : Int32), rv b1_97, rv b1_100, iv (0 : Int32), iv (0 : Int32), rv x0_97, .unset, .unset] [])) _
            refine XS.aload X100.here hx rfl (hb hby at_159) rfl rfl ?_
            show Steps p.tables e below (T100.setTop (mkF m 161 #[iv p1, iv p2, iv p3, iv p4, iv (3 : Int32), rv w_MANY_RULES, iv (1 : Int32), iv (1 : Int32), rv b1_97, rv b1_100, iv (0 : Int32), iv (0 : Int32), rv x0_97, .unset, .unset] [(.ref b1_97)])) _
            refine XS.iload X100.here hx rfl (hb hby at_161) rfl ?_
            show Steps p.tables e below (T100.setTop (mkF m 163 #[iv p1, iv p2, iv p3, iv p4, iv (3 : Int32), rv w_MANY_RULES, iv (1 : Int32), iv (1 : Int32), rv b1_97, rv b1_100, iv (0 : Int32), iv (0 : Int32), rv x0_97, .unset, .unset] [(.int (0 : Int32)), (.ref b1_97)])) _
            exact k
          obtain ⟨cl118, Ar118, qc118, S118, M118, U118, G118⟩ := id (f103)
          have hin118 : ¬ ((0 : Int32) < 0 ∨ cl118.slots.size ≤ ((0 : Int32)).toNatClampNeg) := inb_of S118 ⟨by decide, by decide⟩
          have hat118 : cl118.slots[((0 : Int32)).toNatClampNeg]? = some (.ref x0_97) := Has.at U118 hin118 rfl
          have k119 : Way p e below S0 T100 (mkF m 164 #[iv p1, iv p2, iv p3, iv p4, iv (3 : Int32), rv w_MANY_RULES, iv (1 : Int32), iv (1 : Int32), rv b1_97, rv b1_100, iv (0 : Int32), iv (0 : Int32), rv x0_97, .unset, .unset] [(.ref x0_97)]) := fun t k => k117 t (X100.aaload hx (j := (0 : Int32)) (v := (.ref x0_97)) Ar118.1 (State.isArrayOf_alike hZ.alike Ar118.2.1) rfl Ar118.2.2 hin118 hat118 (g := (mkF m 163 #[iv p1, iv p2, iv p3, iv p4, iv (3 : Int32), rv w_MANY_RULES, iv (1 : Int32), iv (1 : Int32), rv b1_97, rv b1_100, iv (0 : Int32), iv (0 : Int32), rv x0_97, .unset, .unset] [(.int (0 : Int32)), (.ref b1_97)])) rfl rfl (hb hby at_163) _ k)
          have k120 : Way p e below S0 T100 (mkF m 170 #[iv p1, iv p2, iv p3, iv p4, iv (3 : Int32), rv w_MANY_RULES, iv (1 : Int32), iv (1 : Int32), rv b1_97, rv b1_100, iv (0 : Int32), iv (0 : Int32), rv x0_97, rv x0_97, .unset] [(.int (0 : Int32)), (.ref b1_100)]) := by
            intro t k
            refine k119 t ?_
            refine XS.astore X100.here hx rfl (hb hby at_164) rfl rfl (l' := #[iv p1, iv p2, iv p3, iv p4, iv (3 : Int32), rv w_MANY_RULES, iv (1 : Int32), iv (1 : Int32), rv b1_97, rv b1_100, iv (0 : Int32), iv (0 : Int32), rv x0_97, rv x0_97, .unset]) rfl ?_
            show Steps p.tables e below (T100.setTop (mkF m 166 #[iv p1, iv p2, iv p3, iv p4, iv (3 : Int32), rv w_MANY_RULES, iv (1 : Int32), iv (1 : Int32), rv b1_97, rv b1_100, iv (0 : Int32), iv (0 : Int32), rv x0_97, rv x0_97, .unset] [])) _
            refine XS.aload X100.here hx rfl (hb hby at_166) rfl rfl ?_
            show Steps p.tables e below (T100.setTop (mkF m 168 #[iv p1, iv p2, iv p3, iv p4, iv (3 : Int32), rv w_MANY_RULES, iv (1 : Int32), iv (1 : Int32), rv b1_97, rv b1_100, iv (0 : Int32), iv (0 : Int32), rv x0_97, rv x0_97, .unset] [(.ref b1_100)])) _
            refine XS.iload X100.here hx rfl (hb hby at_168) rfl ?_
            show Steps p.tables e below (T100.setTop (mkF m 170 #[iv p1, iv p2, iv p3, iv p4, iv (3 : Int32), rv w_MANY_RULES, iv (1 : Int32), iv (1 : Int32), rv b1_97, rv b1_100, iv (0 : Int32), iv (0 : Int32), rv x0_97, rv x0_97, .unset] [(.int (0 : Int32)), (.ref b1_100)])) _
            exact k
          obtain ⟨cl121, Ar121, qc121, S121, M121, U121, G121⟩ := id (po100_1)
          have hin121 : ¬ ((0 : Int32) < 0 ∨ cl121.slots.size ≤ ((0 : Int32)).toNatClampNeg) := inb_of S121 ⟨by decide, by decide⟩
          have hat121 : cl121.slots[((0 : Int32)).toNatClampNeg]? = some (.ref x0_100) := Has.at U121 hin121 rfl
          have k122 : Way p e below S0 T100 (mkF m 171 #[iv p1, iv p2, iv p3, iv p4, iv (3 : Int32), rv w_MANY_RULES, iv (1 : Int32), iv (1 : Int32), rv b1_97, rv b1_100, iv (0 : Int32), iv (0 : Int32), rv x0_97, rv x0_97, .unset] [(.ref x0_100)]) := fun t k => k120 t (X100.aaload hx (j := (0 : Int32)) (v := (.ref x0_100)) Ar121.1 (State.isArrayOf_alike hZ.alike Ar121.2.1) rfl Ar121.2.2 hin121 hat121 (g := (mkF m 170 #[iv p1, iv p2, iv p3, iv p4, iv (3 : Int32), rv w_MANY_RULES, iv (1 : Int32), iv (1 : Int32), rv b1_97, rv b1_100, iv (0 : Int32), iv (0 : Int32), rv x0_97, rv x0_97, .unset] [(.int (0 : Int32)), (.ref b1_100)])) rfl rfl (hb hby at_170) _ k)
          have k123 : Way p e below S0 T100 (mkF m 173 #[iv p1, iv p2, iv p3, iv p4, iv (3 : Int32), rv w_MANY_RULES, iv (1 : Int32), iv (1 : Int32), rv b1_97, rv b1_100, iv (0 : Int32), iv (0 : Int32), rv x0_97, rv x0_97, rv x0_100] []) := by
            intro t k
            refine k122 t ?_
            refine XS.astore X100.here hx rfl (hb hby at_171) rfl rfl (l' := #[iv p1, iv p2, iv p3, iv p4, iv (3 : Int32), rv w_MANY_RULES, iv (1 : Int32), iv (1 : Int32), rv b1_97, rv b1_100, iv (0 : Int32), iv (0 : Int32), rv x0_97, rv x0_97, rv x0_100]) rfl ?_
            show Steps p.tables e below (T100.setTop (mkF m 173 #[iv p1, iv p2, iv p3, iv p4, iv (3 : Int32), rv w_MANY_RULES, iv (1 : Int32), iv (1 : Int32), rv b1_97, rv b1_100, iv (0 : Int32), iv (0 : Int32), rv x0_97, rv x0_97, rv x0_100] [])) _
            exact k
          have f124 : Exa Z T100.heap x0_97 "com/example/rulework/bench/Burst$SelfConflictingRule" := (po97_3.keep Kq100)
          obtain ⟨T125, lc125, X125, N125, e125, st125⟩ := tail_same w_POOL w_NO_RULE w_ONE_RULE w_MANY_RULES G p1 p2 p3 p4 (3 : Int32) w_MANY_RULES (1 : Int32) (1 : Int32) b1_97 b1_100 (0 : Int32) x0_97 x0_100 X100 hx hZ hw hby hml hown O100 N100 (by decide) (by decide) rfl f124 po100_3 ((Ne.symm (Nat.ne_of_lt (Nat.lt_of_lt_of_le po97_3.lt po100_2))) : x0_100 ≠ x0_97)
          have k126 : Way p e below S0 T125 (mkF m 314 #[iv p1, iv p2, iv p3, iv p4, iv (3 : Int32), rv w_MANY_RULES, iv (1 : Int32), iv (1 : Int32), rv b1_97, rv b1_100, iv (0 : Int32), iv (0 : Int32), rv x0_97, rv x0_97, rv x0_100] [(.int (1 : Int32))]) := fun t k => k123 t (st125 _ k)
          obtain ⟨fs, hr, hrun, hended, hW, hsame⟩ := X125.leave (v := some (.int (1 : Int32))) (fun h => by rw [Bd.returns] at h; cases h)
          refine ⟨_, _, k126 _ (retN X125 hx (t := .boolean) Bd.returns (by simp) (hb hby at_314) hr), hrun, hended, _, _, rfl, ?_, ⟨_, rfl⟩, hW, hsame.mono (by decide) (by decide)⟩
          show Q_law_met Z w_POOL w_NO_RULE w_ONE_RULE w_MANY_RULES p1 p2 p3 p4 h0 n0 _ T125.heap _
          rw [e125]
          exact ⟨rfl, N125⟩
    · have k127 : Way p e below S0 T76 (mkF m 75 #[iv p1, iv p2, iv p3, iv p4, iv (3 : Int32), rv w_MANY_RULES, iv (2 : Int32), .unset, .unset, .unset, .unset, .unset, .unset, .unset, .unset] []) := by have q := k78; rw [hi79] at q; exact q
      have k128 : Way p e below S0 T76 (mkF m 83 #[iv p1, iv p2, iv p3, iv p4, iv (3 : Int32), rv w_MANY_RULES, iv (2 : Int32), iv (2 : Int32), .unset, .unset, .unset, .unset, .unset, .unset, .unset] [(.int (2 : Int32)), (.ref w_MANY_RULES)]) := by
        intro t k
        refine k127 t ?_
        refine XS.iload X76.here hx rfl (hb hby at_75) rfl ?_
        show Steps p.tables e below (T76.setTop (mkF m 77 #[iv p1, iv p2, iv p3, iv p4, iv (3 : Int32), rv w_MANY_RULES, iv (2 : Int32), .unset, .unset, .unset, .unset, .unset, .unset, .unset, .unset] [(.int (2 : Int32))])) _
        refine XS.istore X76.here hx rfl (hb hby at_77) rfl (l' := #[iv p1, iv p2, iv p3, iv p4, iv (3 : Int32), rv w_MANY_RULES, iv (2 : Int32), iv (2 : Int32), .unset, .unset, .unset, .unset, .unset, .unset, .unset]) rfl ?_
        show Steps p.tables e below (T76.setTop (mkF m 79 #[iv p1, iv p2, iv p3, iv p4, iv (3 : Int32), rv w_MANY_RULES, iv (2 : Int32), iv (2 : Int32), .unset, .unset, .unset, .unset, .unset, .unset, .unset] [])) _
        refine XS.aload X76.here hx rfl (hb hby at_79) rfl rfl ?_
        show Steps p.tables e below (T76.setTop (mkF m 81 #[iv p1, iv p2, iv p3, iv p4, iv (3 : Int32), rv w_MANY_RULES, iv (2 : Int32), iv (2 : Int32), .unset, .unset, .unset, .unset, .unset, .unset, .unset] [(.ref w_MANY_RULES)])) _
        refine XS.iload X76.here hx rfl (hb hby at_81) rfl ?_
        show Steps p.tables e below (T76.setTop (mkF m 83 #[iv p1, iv p2, iv p3, iv p4, iv (3 : Int32), rv w_MANY_RULES, iv (2 : Int32), iv (2 : Int32), .unset, .unset, .unset, .unset, .unset, .unset, .unset] [(.int (2 : Int32)), (.ref w_MANY_RULES)])) _
        exact k
      obtain ⟨cq129, kq129, qq129a, qq129b, qq129c⟩ := isOf hZ e76 (E_w_MANY_RULES.ext O0.2)
      obtain ⟨_, _, ⟨T129, L129, kk129, nn129⟩, -, X129, ⟨Lc129, hQ129, l129, y129, z129⟩, st129⟩ := X76.virtualBack hx (y := (⟨"com/example/rulework/bench/Burst", "makeRules", "(I)[Lcom/example/rulework/rulework/SchedulingRule;"⟩ : MethodName)) (z := (⟨"com/example/rulework/bench/Burst", "makeRules", "(I)[Lcom/example/rulework/rulework/SchedulingRule;"⟩ : MethodName)) hown (mvT hZ (hw _ (List.mem_of_getElem? (i := 3) rfl))) (mvT hZ (hw _ (List.mem_of_getElem? (i := 4) rfl))) (notFace_of_selects (args := #[]) (mvT hZ (hw _ (List.mem_of_getElem? (i := 6) rfl)))) (mvT hZ (hw _ (List.mem_of_getElem? (i := 6) rfl))) (mvT hZ (hw _ (List.mem_of_getElem? (i := 5) rfl))) (by decide) (backOf (W := 0) (mkm2 l Z a0 hw [] w_POOL w_NO_RULE w_ONE_RULE w_MANY_RULES G  h0 n0 O0 ) hZ (hw _ (List.mem_of_getElem? (i := 7) rfl)) (hw _ (List.mem_of_getElem? (i := 1) rfl)) (by decide) (by decide)) qq129a qq129c (g := (mkF m 83 #[iv p1, iv p2, iv p3, iv p4, iv (3 : Int32), rv w_MANY_RULES, iv (2 : Int32), iv (2 : Int32), .unset, .unset, .unset, .unset, .unset, .unset, .unset] [(.int (2 : Int32)), (.ref w_MANY_RULES)])) rfl (by rw [hml]; rfl) (Steps.refl _) (argsL := [(.int (2 : Int32))]) (rest := []) (lenOf pd_4 rfl) rfl (by show 2 * 0 + _ ≤ _; exact Nat.le_of_eq rfl) (hb hby at_83) (fun _ _ => ⟨rfl, e76, (by decide : 0 + 3 ≤ _), (by decide : 0 + 2 ≤ _)⟩)
      dsimp only [Pt.U, Pt.locs, Pt.cells, Pt.slots] at X129 l129 y129 z129 st129 hQ129
      subst l129 y129 z129
      obtain ⟨b1_129, kc_129, x0_129, x1_129, rfl, Nq129, Kq129, po129_0, po129_1, po129_2, po129_3, po129_4, po129_5, po129_6⟩ := hQ129
      have N129 := Fr.app N0 Nq129
      have O129 := O0.keep Kq129 all0
      have k130 : Way p e below S0 T129 (mkF m 86 #[iv p1, iv p2, iv p3, iv p4, iv (3 : Int32), rv w_MANY_RULES, iv (2 : Int32), iv (2 : Int32), .unset, .unset, .unset, .unset, .unset, .unset, .unset] [(.ref b1_129)]) := fun t k => k128 t (st129.trans k)
      have k131 : Way p e below S0 T129 (mkF m 92 #[iv p1, iv p2, iv p3, iv p4, iv (3 : Int32), rv w_MANY_RULES, iv (2 : Int32), iv (2 : Int32), rv b1_129, .unset, .unset, .unset, .unset, .unset, .unset] [(.int (2 : Int32)), (.ref w_MANY_RULES)]) := by
        intro t k
        refine k130 t ?_
        refine XS.astore X129.here hx rfl (hb hby at_86) rfl rfl (l' := #[iv p1, iv p2, iv p3, iv p4, iv (3 : Int32), rv w_MANY_RULES, iv (2 : Int32), iv (2 : Int32), rv b1_129, .unset, .unset, .unset, .unset, .unset, .unset]) rfl ?_
        show Steps p.tables e below (T129.setTop (mkF m 88 #[iv p1, iv p2, iv p3, iv p4, iv (3 : Int32), rv w_MANY_RULES, iv (2 : Int32), iv (2 : Int32), rv b1_129, .unset, .unset, .unset, .unset, .unset, .unset] [])) _
        refine XS.aload X129.here hx rfl (hb hby at_88) rfl rfl ?_
        show Steps p.tables e below (T129.setTop (mkF m 90 #[iv p1, iv p2, iv p3, iv p4, iv (3 : Int32), rv w_MANY_RULES, iv (2 : Int32), iv (2 : Int32), rv b1_129, .unset, .unset, .unset, .unset, .unset, .unset] [(.ref w_MANY_RULES)])) _
        refine XS.iload X129.here hx rfl (hb hby at_90) rfl ?_
        show Steps p.tables e below (T129.setTop (mkF m 92 #[iv p1, iv p2, iv p3, iv p4, iv (3 : Int32), rv w_MANY_RULES, iv (2 : Int32), iv (2 : Int32), rv b1_129, .unset, .unset, .unset, .unset, .unset, .unset] [(.int (2 : Int32)), (.ref w_MANY_RULES)])) _
        exact k
      obtain ⟨cq132, kq132, qq132a, qq132b, qq132c⟩ := isOf hZ rfl (E_w_MANY_RULES.ext O129.2)
      obtain ⟨_, _, ⟨T132, L132, kk132, nn132⟩, -, X132, ⟨Lc132, hQ132, l132, y132, z132⟩, st132⟩ := X129.virtualBack hx (y := (⟨"com/example/rulework/bench/Burst", "makeRules", "(I)[Lcom/example/rulework/rulework/SchedulingRule;"⟩ : MethodName)) (z := (⟨"com/example/rulework/bench/Burst", "makeRules", "(I)[Lcom/example/rulework/rulework/SchedulingRule;"⟩ : MethodName)) hown (mvT hZ (hw _ (List.mem_of_getElem? (i := 3) rfl))) (mvT hZ (hw _ (List.mem_of_getElem? (i := 4) rfl))) (notFace_of_selects (args := #[]) (mvT hZ (hw _ (List.mem_of_getElem? (i := 6) rfl)))) (mvT hZ (hw _ (List.mem_of_getElem? (i := 6) rfl))) (mvT hZ (hw _ (List.mem_of_getElem? (i := 5) rfl))) (by decide) (backOf (W := 0) (mkm2 l Z a0 hw [] w_POOL w_NO_RULE w_ONE_RULE w_MANY_RULES G  T129.heap n0 O129 ) hZ (hw _ (List.mem_of_getElem? (i := 7) rfl)) (hw _ (List.mem_of_getElem? (i := 1) rfl)) (by decide) (by decide)) qq132a qq132c (g := (mkF m 92 #[iv p1, iv p2, iv p3, iv p4, iv (3 : Int32), rv w_MANY_RULES, iv (2 : Int32), iv (2 : Int32), rv b1_129, .unset, .unset, .unset, .unset, .unset, .unset] [(.int (2 : Int32)), (.ref w_MANY_RULES)])) rfl (by rw [hml]; rfl) (Steps.refl _) (argsL := [(.int (2 : Int32))]) (rest := []) (lenOf pd_4 rfl) rfl (by show 2 * 0 + _ ≤ _; exact Nat.le_of_eq rfl) (hb hby at_92) (fun _ _ => ⟨rfl, rfl, (by decide : 3 + 3 ≤ _), (by decide : 2 + 2 ≤ _)⟩)
      dsimp only [Pt.U, Pt.locs, Pt.cells, Pt.slots] at X132 l132 y132 z132 st132 hQ132
      subst l132 y132 z132
      obtain ⟨b1_132, kc_132, x0_132, x1_132, rfl, Nq132, Kq132, po132_0, po132_1, po132_2, po132_3, po132_4, po132_5, po132_6⟩ := hQ132
      have N132 := Fr.app N129 Nq132
      have O132 := O129.keep Kq132 all0
      have k133 : Way p e below S0 T132 (mkF m 95 #[iv p1, iv p2, iv p3, iv p4, iv (3 : Int32), rv w_MANY_RULES, iv (2 : Int32), iv (2 : Int32), rv b1_129, .unset, .unset, .unset, .unset, .unset, .unset] [(.ref b1_132)]) := fun t k => k131 t (st132.trans k)
      have k134 : Way p e below S0 T132 (mkF m 111 #[iv p1, iv p2, iv p3, iv p4, iv (3 : Int32), rv w_MANY_RULES, iv (2 : Int32), iv (2 : Int32), rv b1_129, rv b1_132, .unset, .unset, .unset, .unset, .unset] [(.ref b1_129)]) := by
        intro t k
        refine k133 t ?_
        refine XS.astore X132.here hx rfl (hb hby at_95) rfl rfl (l' := #[iv p1, iv p2, iv p3, iv p4, iv (3 : Int32), rv w_MANY_RULES, iv (2 : Int32), iv (2 : Int32), rv b1_129, rv b1_132, .unset, .unset, .unset, .unset, .unset]) rfl ?_
        show Steps p.tables e below (T132.setTop (mkF m 97 #[iv p1, iv p2, iv p3, iv p4, iv (3 : Int32), rv w_MANY_RULES, iv (2 : Int32), iv (2 : Int32), rv b1_129, rv b1_132, .unset, .unset, .unset, .unset, .unset] [])) _
        refine XS.aload X132.here hx rfl (hb hby at_97) rfl rfl ?_
        show Steps p.tables e below (T132.setTop (mkF m 99 #[iv p1, iv p2, iv p3, iv p4, iv (3 : Int32), rv w_MANY_RULES, iv (2 : Int32), iv (2 : Int32), rv b1_129, rv b1_132, .unset, .unset, .unset, .unset, .unset] [(.ref b1_129)])) _
        refine XS.ifnullNo X132.here hx rfl (hb hby at_99) rfl ?_
        show Steps p.tables e below (T132.setTop (mkF m 102 #[iv p1, iv p2, iv p3, iv p4, iv (3 : Int32), rv w_MANY_RULES, iv (2 : Int32), iv (2 : Int32), rv b1_129, rv b1_132, .unset, .unset, .unset, .unset, .unset] [])) _
        refine XS.aload X132.here hx rfl (hb hby at_102) rfl rfl ?_
        show Steps p.tables e below (T132.setTop (mkF m 104 #[iv p1, iv p2, iv p3, iv p4, iv (3 : Int32), rv w_MANY_RULES, iv (2 : Int32), iv (2 : Int32), rv b1_129, rv b1_132, .unset, .unset, .unset, .unset, .unset] [(.ref b1_132)])) _
        refine XS.ifnonnullYes X132.here hx rfl (pc0 := 104) (pc' := 109) rfl (hb hby at_104) rfl (by decide) (by decide) ?_
        show Steps p.tables e below (T132.setTop (mkF m 109 #[iv p1, iv p2, iv p3, iv p4, iv (3 : Int32), rv w_MANY_RULES, iv (2 : Int32), iv (2 : Int32), rv b1_129, rv b1_132, .unset, .unset, .unset, .unset, .unset] [])) _
        refine XS.aload X132.here hx rfl (hb hby at_109) rfl rfl ?_
        show Steps p.tables e below (T132.setTop (mkF m 111 #[iv p1, iv p2, iv p3, iv p4, iv (3 : Int32), rv w_MANY_RULES, iv (2 : Int32), iv (2 : Int32), rv b1_129, rv b1_132, .unset, .unset, .unset, .unset, .unset] [(.ref b1_129)])) _
        exact k
      have f135 : Arv Z T132.heap b1_129 kc_129 (.object "com/example/rulework/rulework/SchedulingRule") (2 : Int32) [(.ref x0_129), (.ref x1_129)] .null := (po129_1.keep Kq132 nin0)
      obtain ⟨cl136, Ar136, -, S136, M136, -, -⟩ := id (f135)
      have k137 : Way p e below S0 T132 (mkF m 112 #[iv p1, iv p2, iv p3, iv p4, iv (3 : Int32), rv w_MANY_RULES, iv (2 : Int32), iv (2 : Int32), rv b1_129, rv b1_132, .unset, .unset, .unset, .unset, .unset] [(.int (2 : Int32))]) := fun t k => k134 t (X132.arraylength hx (Ar136.1) (State.isArrayOf_alike hZ.alike Ar136.2.1) (g := (mkF m 111 #[iv p1, iv p2, iv p3, iv p4, iv (3 : Int32), rv w_MANY_RULES, iv (2 : Int32), iv (2 : Int32), rv b1_129, rv b1_132, .unset, .unset, .unset, .unset, .unset] [(.ref b1_129)])) rfl rfl (hb hby at_111) _ (by rw [len_of S136 M136]; exact k))
      have k138 : Way p e below S0 T132 (mkF m 119 #[iv p1, iv p2, iv p3, iv p4, iv (3 : Int32), rv w_MANY_RULES, iv (2 : Int32), iv (2 : Int32), rv b1_129, rv b1_132, .unset, .unset, .unset, .unset, .unset] [(.ref b1_132)]) := by
        intro t k
        refine k137 t ?_
        refine XS.iload X132.here hx rfl (hb hby at_112) rfl ?_
        show Steps p.tables e below (T132.setTop (mkF m 114 #[iv p1, iv p2, iv p3, iv p4, iv (3 : Int32), rv w_MANY_RULES, iv (2 : Int32), iv (2 : Int32), rv b1_129, rv b1_132, .unset, .unset, .unset, .unset, .unset] [(.int (2 : Int32)), (.int (2 : Int32))])) _
        refine XS.icmpNo X132.here hx rfl (hb hby at_114) rfl (teq ((by decide) : (2 : Int32) = (2 : Int32))).2 ?_
        show Steps p.tables e below (T132.setTop (mkF m 117 #[iv p1, iv p2, iv p3, iv p4, iv (3 : Int32), rv w_MANY_RULES, iv (2 : Int32), iv (2 : Int32), rv b1_129, rv b1_132, .unset, .unset, .unset, .unset, .unset] [])) _
        refine XS.aload X132.here hx rfl (hb hby at_117) rfl rfl ?_
        show Steps p.tables e below (T132.setTop (mkF m 119 #[iv p1, iv p2, iv p3, iv p4, iv (3 : Int32), rv w_MANY_RULES, iv (2 : Int32), iv (2 : Int32), rv b1_129, rv b1_132, .unset, .unset, .unset, .unset, .unset] [(.ref b1_132)])) _
        exact k
      obtain ⟨cl139, Ar139, -, S139, M139, -, -⟩ := id (po132_1)
      have k140 : Way p e below S0 T132 (mkF m 120 #[iv p1, iv p2, iv p3, iv p4, iv (3 : Int32), rv w_MANY_RULES, iv (2 : Int32), iv (2 : Int32), rv b1_129, rv b1_132, .unset, .unset, .unset, .unset, .unset] [(.int (2 : Int32))]) := fun t k => k138 t (X132.arraylength hx (Ar139.1) (State.isArrayOf_alike hZ.alike Ar139.2.1) (g := (mkF m 119 #[iv p1, iv p2, iv p3, iv p4, iv (3 : Int32), rv w_MANY_RULES, iv (2 : Int32), iv (2 : Int32), rv b1_129, rv b1_132, .unset, .unset, .unset, .unset, .unset] [(.ref b1_132)])) rfl rfl (hb hby at_119) _ (by rw [len_of S139 M139]; exact k))
      have k141 : Way p e below S0 T132 (mkF m 152 #[iv p1, iv p2, iv p3, iv p4, iv (3 : Int32), rv w_MANY_RULES, iv (2 : Int32), iv (2 : Int32), rv b1_129, rv b1_132, iv ((p3 &&& (2147483647 : Int32)) % (2 : Int32)), iv ((p4 &&& (2147483647 : Int32)) % (2 : Int32)), .unset, .unset, .unset] []) := by
        intro t k
        refine k140 t ?_
        refine XS.iload X132.here hx rfl (hb hby at_120) rfl ?_
        show Steps p.tables e below (T132.setTop (mkF m 122 #[iv p1, iv p2, iv p3, iv p4, iv (3 : Int32), rv w_MANY_RULES, iv (2 : Int32), iv (2 : Int32), rv b1_129, rv b1_132, .unset, .unset, .unset, .unset, .unset] [(.int (2 : Int32)), (.int (2 : Int32))])) _
        refine XS.icmpYes X132.here hx rfl (pc0 := 122) (pc' := 127) rfl (hb hby at_122) rfl (teq ((by decide) : (2 : Int32) = (2 : Int32))).1 (by decide) (by decide) ?_
        show Steps p.tables e below (T132.setTop (mkF m 127 #[iv p1, iv p2, iv p3, iv p4, iv (3 : Int32), rv w_MANY_RULES, iv (2 : Int32), iv (2 : Int32), rv b1_129, rv b1_132, .unset, .unset, .unset, .unset, .unset] [])) _
        refine XS.iload X132.here hx rfl (hb hby at_127) rfl ?_
        show Steps p.tables e below (T132.setTop (mkF m 129 #[iv p1, iv p2, iv p3, iv p4, iv (3 : Int32), rv w_MANY_RULES, iv (2 : Int32), iv (2 : Int32), rv b1_129, rv b1_132, .unset, .unset, .unset, .unset, .unset] [(.int (2 : Int32))])) _
        refine XS.ifYes X132.here hx rfl (pc0 := 129) (pc' := 134) rfl (hb hby at_129) rfl ((if0 _ _).trans (feq ((by decide) : ¬ ((2 : Int32) = (0 : Int32)))).2) (by decide) (by decide) ?_
        show Steps p.tables e below (T132.setTop (mkF m 134 #[iv p1, iv p2, iv p3, iv p4, iv (3 : Int32), rv w_MANY_RULES, iv (2 : Int32), iv (2 : Int32), rv b1_129, rv b1_132, .unset, .unset, .unset, .unset, .unset] [])) _
        refine XS.iloadN X132.here hx rfl (hb hby at_134) rfl ?_
        show Steps p.tables e below (T132.setTop (mkF m 135 #[iv p1, iv p2, iv p3, iv p4, iv (3 : Int32), rv w_MANY_RULES, iv (2 : Int32), iv (2 : Int32), rv b1_129, rv b1_132, .unset, .unset, .unset, .unset, .unset] [(.int p3)])) _
        refine X132.ldcInt hx hown (mvT hZ (hw _ (List.mem_of_getElem? (i := 36) rfl))) (g := (mkF m 135 #[iv p1, iv p2, iv p3, iv p4, iv (3 : Int32), rv w_MANY_RULES, iv (2 : Int32), iv (2 : Int32), rv b1_129, rv b1_132, .unset, .unset, .unset, .unset, .unset] [(.int p3)])) rfl (hb hby at_135) _ ?_
        show Steps p.tables e below (T132.setTop (mkF m 137 #[iv p1, iv p2, iv p3, iv p4, iv (3 : Int32), rv w_MANY_RULES, iv (2 : Int32), iv (2 : Int32), rv b1_129, rv b1_132, .unset, .unset, .unset, .unset, .unset] [(.int (2147483647 : Int32)), (.int p3)])) _
        refine XS.iand X132.here hx rfl (hb hby at_137) rfl ?_
        show Steps p.tables e below (T132.setTop (mkF m 138 #[iv p1, iv p2, iv p3, iv p4, iv (3 : Int32), rv w_MANY_RULES, iv (2 : Int32), iv (2 : Int32), rv b1_129, rv b1_132, .unset, .unset, .unset, .unset, .unset] [(.int (p3 &&& (2147483647 : Int32)))])) _
        refine XS.iload X132.here hx rfl (hb hby at_138) rfl ?_
        show Steps p.tables e below (T132.setTop (mkF m 140 #[iv p1, iv p2, iv p3, iv p4, iv (3 : Int32), rv w_MANY_RULES, iv (2 : Int32), iv (2 : Int32), rv b1_129, rv b1_132, .unset, .unset, .unset, .unset, .unset] [(.int (2 : Int32)), (.int (p3 &&& (2147483647 : Int32)))])) _
        refine iremM (g := (mkF m 140 #[iv p1, iv p2, iv p3, iv p4, iv (3 : Int32), rv w_MANY_RULES, iv (2 : Int32), iv (2 : Int32), rv b1_129, rv b1_132, .unset, .unset, .unset, .unset, .unset] [(.int (2 : Int32)), (.int (p3 &&& (2147483647 : Int32)))])) X132 hx rfl (hb hby at_140) rfl (by decide) ?_
        show Steps p.tables e below (T132.setTop (mkF m 141 #[iv p1, iv p2, iv p3, iv p4, iv (3 : Int32), rv w_MANY_RULES, iv (2 : Int32), iv (2 : Int32), rv b1_129, rv b1_132, .unset, .unset, .unset, .unset, .unset] [(.int ((p3 &&& (2147483647 : Int32)) % (2 : Int32)))])) _
        refine XS.istore X132.here hx rfl (hb hby at_141) rfl (l' := #[iv p1, iv p2, iv p3, iv p4, iv (3 : Int32), rv w_MANY_RULES, iv (2 : Int32), iv (2 : Int32), rv b1_129, rv b1_132, iv ((p3 &&& (2147483647 : Int32)) % (2 : Int32)), .unset, .unset, .unset, .unset]) rfl ?_
        show Steps p.tables e below (T132.setTop (mkF m 143 #[iv p1, iv p2, iv p3, iv p4, iv (3 : Int32), rv w_MANY_RULES, iv (2 : Int32), iv (2 : Int32), rv b1_129, rv b1_132, iv ((p3 &&& (2147483647 : Int32)) % (2 : Int32)), .unset, .unset, .unset, .unset] [])) _
        refine XS.iloadN X132.here hx rfl (hb hby at_143) rfl ?_
        show Steps p.tables e below (T132.setTop (mkF m 144 #[iv p1, iv p2, iv p3, iv p4, iv (3 : Int32), rv w_MANY_RULES, iv (2 : Int32), iv (2 : Int32), rv b1_129, rv b1_132, iv ((p3 &&& (2147483647 : Int32)) % (2 : Int32)), .unset, .unset, .unset, .unset] [(.int p4)])) _
        refine X132.ldcInt hx hown (mvT hZ (hw _ (List.mem_of_getElem? (i := 36) rfl))) (g := (mkF m 144 #[iv p1, iv p2, iv p3, iv p4, iv (3 : Int32), rv w_MANY_RULES, iv (2 : Int32), iv (2 : Int32), rv b1_129, rv b1_132, iv ((p3 &&& (2147483647 : Int32)) % (2 : Int32)), .unset, .unset, .unset, .unset] [(.int p4)])) rfl (hb hby at_144) _ ?_
        show Steps p.tables e below (T132.setTop (mkF m 146 #[iv p1, iv p2, iv p3, iv p4, iv (3 : Int32), rv w_MANY_RULES, iv (2 : Int32), iv (2 : Int32), rv b1_129, rv b1_132, iv ((p3 &&& (2147483647 : Int32)) % (2 : Int32)), .unset, .unset, .unset, .unset] [(.int (2147483647 : Int32)), (.int p4)])) _
        refine XS.iand X132.here hx rfl (hb hby at_146) rfl ?_
        show Steps p.tables e below (T132.setTop (mkF m 147 #[iv p1, iv p2, iv p3, iv p4, iv (3 : Int32), rv w_MANY_RULES, iv (2 : Int32), iv (2 : Int32), rv b1_129, rv b1_132, iv ((p3 &&& (2147483647 : Int32)) % (2 : Int32)), .unset, .unset, .unset, .unset] [(.int (p4 &&& (2147483647 : Int32)))])) _
        refine XS.iload X132.here hx rfl (hb hby at_147) rfl ?_
        show Steps p.tables e below (T132.setTop (mkF m 149 #[iv p1, iv p2, iv p3, iv p4, iv (3 : Int32), rv w_MANY_RULES, iv (2 : Int32), iv (2 : Int32), rv b1_129, rv b1_132, iv ((p3 &&& (2147483647 : Int32)) % (2 : Int32)), .unset, .unset, .unset, .unset] [(.int (2 : Int32)), (.int (p4 &&& (2147483647 : Int32)))])) _
        refine iremM (g := (mkF m 149 #[iv p1, iv p2, iv p3, iv p4, iv (3 : Int32), rv w_MANY_RULES, iv (2 : Int32), iv (2 : Int32), rv b1_129, rv b1_132, iv ((p3 &&& (2147483647 : Int32)) % (2 : Int32)), .unset, .unset, .unset, .unset] [(.int (2 : Int32)), (.int (p4 &&& (2147483647 : Int32)))])) X132 hx rfl (hb hby at_149) rfl (by decide) ?_
        show Steps p.tables e below (T132.setTop (mkF m 150 #[iv p1, iv p2, iv p3, iv p4, iv (3 : Int32), rv w_MANY_RULES, iv (2 : Int32), iv (2 : Int32), rv b1_129, rv b1_132, iv ((p3 &&& (2147483647 : Int32)) % (2 : Int32)), .unset, .unset, .unset, .unset] [(.int ((p4 &&& (2147483647 : Int32)) % (2 : Int32)))])) _
        refine XS.istore X132.here hx rfl (hb hby at_150) rfl (l' := #[iv p1, iv p2, iv p3, iv p4, iv (3 : Int32), rv w_MANY_RULES, iv (2 : Int32), iv (2 : Int32), rv b1_129, rv b1_132, iv ((p3 &&& (2147483647 : Int32)) % (2 : Int32)), iv ((p4 &&& (2147483647 : Int32)) % (2 : Int32)), .unset, .unset, .unset]) rfl ?_
        show Steps p.tables e below (T132.setTop (mkF m 152 #[iv p1, iv p2, iv p3, iv p4, iv (3 : Int32), rv w_MANY_RULES, iv (2 : Int32), iv (2 : Int32), rv b1_129, rv b1_132, iv ((p3 &&& (2147483647 : Int32)) % (2 : Int32)), iv ((p4 &&& (2147483647 : Int32)) % (2 : Int32)), .unset, .unset, .unset] [])) _
        exact k
      obtain ⟨ii, hii⟩ : ∃ z, ((p3 &&& (2147483647 : Int32)) % (2 : Int32)) = z := ⟨_, rfl⟩
      have k142 : Way p e below S0 T132 (mkF m 152 #[iv p1, iv p2, iv p3, iv p4, iv (3 : Int32), rv w_MANY_RULES, iv (2 : Int32), iv (2 : Int32), rv b1_129, rv b1_132, iv ii, iv ((p4 &&& (2147483647 : Int32)) % (2 : Int32)), .unset, .unset, .unset] []) := by have q := k141; rw [hii] at q; exact q
      obtain ⟨jj, hjj⟩ : ∃ z, ((p4 &&& (2147483647 : Int32)) % (2 : Int32)) = z := ⟨_, rfl⟩
      have k143 : Way p e below S0 T132 (mkF m 152 #[iv p1, iv p2, iv p3, iv p4, iv (3 : Int32), rv w_MANY_RULES, iv (2 : Int32), iv (2 : Int32), rv b1_129, rv b1_132, iv ii, iv jj, .unset, .unset, .unset] []) := by have q := k142; rw [hjj] at q; exact q
      have hrii : ii = (0 : Int32) ∨ ii = (1 : Int32) := by rw [← hii]; exact own_rem2 p3
      have hbii : ¬ (ii < 0) ∧ ii < (2 : Int32) := by rcases hrii with rfl | rfl <;> decide
      have hrjj : jj = (0 : Int32) ∨ jj = (1 : Int32) := by rw [← hjj]; exact own_rem2 p4
      have hbjj : ¬ (jj < 0) ∧ jj < (2 : Int32) := by rcases hrjj with rfl | rfl <;> decide
      have f144 : Exa Z T132.heap x0_129 "com/example/rulework/bench/Burst$SelfConflictingRule" := (po129_3.keep Kq132)
      have f145 : Exa Z T132.heap x1_129 "com/example/rulework/bench/Burst$SelfConflictingRule" := (po129_5.keep Kq132)
      by_cases hc146 : ii = jj
      · subst hc146
        obtain ⟨xx, zz, gx, gz, Ex, Ez, nez⟩ : ∃ x z : Addr, ([(.ref x0_129), (.ref x1_129)] : List Value).getD ii.toNatClampNeg .null = .ref x ∧ ([(.ref x0_132), (.ref x1_132)] : List Value).getD ii.toNatClampNeg .null = .ref z ∧ Exa Z T132.heap x "com/example/rulework/bench/Burst$SelfConflictingRule" ∧ Exa Z T132.heap z "com/example/rulework/bench/Burst$SelfConflictingRule" ∧ z ≠ x := by
          rcases hrii with rfl | rfl
          · exact ⟨x0_129, x0_132, rfl, rfl, f144, po132_3, (Ne.symm (Nat.ne_of_lt (Nat.lt_of_lt_of_le po129_3.lt po132_2)))⟩
          · exact ⟨x1_129, x1_132, rfl, rfl, f145, po132_5, (Ne.symm (Nat.ne_of_lt (Nat.lt_of_lt_of_le po129_5.lt po132_4)))⟩
        have k147 : Way p e below S0 T132 (mkF m 156 #[iv p1, iv p2, iv p3, iv p4, iv (3 : Int32), rv w_MANY_RULES, iv (2 : Int32), iv (2 : Int32), rv b1_129, rv b1_132, iv ii, iv ii, .unset, .unset, .unset] [(.int ii), (.ref b1_129)]) := by
          intro t k
          refine k143 t ?_
          refine XS.aload X132.here hx rfl (hb hby at_152) rfl rfl ?_
          show Steps p.tables e below (T132.setTop (mkF m 154 #[iv p1, iv p2, iv p3, iv p4, iv (3 : Int32), rv w_MANY_RULES, iv (2 : Int32), iv (2 : Int32), rv b1_129, rv b1_132, iv ii, iv ii, .unset, .unset, .unset] [(.ref b1_129)])) _
          refine XS.iload X132.here hx rfl (hb hby at_154) rfl ?_
          show Steps p.tables e below (T132.setTop (mkF m 156 #[iv p1, iv p2, iv p3, iv p4, iv (3 : Int32), rv w_MANY_RULES, iv (2 : Int32), iv (2 : Int32), rv b1_129, rv b1_132, iv ii, iv ii, .unset, .unset, .unset] [(.int ii), (.ref b1_129)])) _
          exact k
        obtain ⟨cl148, Ar148, qc148, S148, M148, U148, G148⟩ := id (f135)
        have hin148 : ¬ (ii < 0 ∨ cl148.slots.size ≤ (ii).toNatClampNeg) := inb_of S148 hbii
        have hat148 : cl148.slots[(ii).toNatClampNeg]? = some (.ref xx) := Has.at U148 hin148 gx
        have k149 : Way p e below S0 T132 (mkF m 157 #[iv p1, iv p2, iv p3, iv p4, iv (3 : Int32), rv w_MANY_RULES, iv (2 : Int32), iv (2 : Int32), rv b1_129, rv b1_132, iv ii, iv ii, .unset, .unset, .unset] [(.ref xx)]) := fun t k => k147 t (X132.aaload hx (j := ii) (v := (.ref xx)) Ar148.1 (State.isArrayOf_alike hZ.alike Ar148.2.1) rfl Ar148.2.2 hin148 hat148 (g := (mkF m 156 #[iv p1, iv p2, iv p3, iv p4, iv (3 : Int32), rv w_MANY_RULES, iv (2 : Int32), iv (2 : Int32), rv b1_129, rv b1_132, iv ii, iv ii, .unset, .unset, .unset] [(.int ii), (.ref b1_129)])) rfl rfl (hb hby at_156) _ k)
        have k150 : Way p e below S0 T132 (mkF m 163 #[iv p1, iv p2, iv p3, iv p4, iv (3 : Int32), rv w_MANY_RULES, iv (2 : Int32), iv (2 : Int32), rv b1_129, rv b1_132, iv ii, iv ii, rv xx, .unset, .unset] [(.int ii), (.ref b1_129)]) := by
          intro t k
          refine k149 t ?_
          refine XS.astore X132.here hx rfl (hb hby at_157) rfl rfl (l' := #[iv p1, iv p2, iv p3, iv p4, iv (3 : Int32), rv w_MANY_RULES, iv (2 : Int32), iv (2 : Int32), rv b1_129, rv b1_132, iv ii, iv ii, rv xx, .unset, .unset]) rfl ?_
          show Steps p.tables e below (T132.setTop (mkF m 159 #[iv p1, iv p2, iv p3, iv p4, iv (3 : Int32), rv w_MANY_RULES, iv (2 : Int32), iv (2 : Int32), rv b1_129, rv b1_132, iv ii, iv ii, rv xx, .unset, .unset] [])) _
          refine XS.aload X132.here hx rfl (hb hby at_159) rfl rfl ?_
          show Steps p.tables e below (T132.setTop (mkF m 161 #[iv p1, iv p2, iv p3, iv p4, iv (3 : Int32), rv w_MANY_RULES, iv (2 : Int32), iv (2 : Int32), rv b1_129, rv b1_132, iv ii, iv ii, rv xx, .unset, .unset] [(.ref b1_129)])) _
          refine XS.iload X132.here hx rfl (hb hby at_161) rfl ?_
          show Steps p.tables e below (T132.setTop (mkF m 163 #[iv p1, iv p2, iv p3, iv p4, iv (3 : Int32), rv w_MANY_RULES, iv (2 : Int32), iv (2 : Int32), rv b1_129, rv b1_132, iv ii, iv ii, rv xx, .unset, .unset] [(.int ii), (.ref b1_129)])) _
          exact k
        obtain ⟨cl151, Ar151, qc151, S151, M151, U151, G151⟩ := id (f135)
        have hin151 : ¬ (ii < 0 ∨ cl151.slots.size ≤ (ii).toNatClampNeg) := inb_of S151 hbii
        have hat151 : cl151.slots[(ii).toNatClampNeg]? = some (.ref xx) := Has.at U151 hin151 gx
        have k152 : Way p e below S0 T132 (mkF m 164 #[iv p1, iv p2, iv p3, iv p4, iv (3 : Int32), rv w_MANY_RULES, iv (2 : Int32), iv (2 : Int32), rv b1_129, rv b1_132, iv ii, iv ii, rv xx, .unset, .unset] [(.ref xx)]) := fun t k => k150 t (X132.aaload hx (j := ii) (v := (.ref xx)) Ar151.1 (State.isArrayOf_alike hZ.alike Ar151.2.1) rfl Ar151.2.2 hin151 hat151 (g := (mkF m 163 #[iv p1, iv p2, iv p3, iv p4, iv (3 : Int32), rv w_MANY_RULES, iv (2 : Int32), iv (2 : Int32), rv b1_129, rv b1_132, iv ii, iv ii, rv xx, .unset, .unset] [(.int ii), (.ref b1_129)])) rfl rfl (hb hby at_163) _ k)
        have k153 : Way p e below S0 T132 (mkF m 170 #[iv p1, iv p2, iv p3, iv p4, iv (3 : Int32), rv w_MANY_RULES, iv (2 : Int32), iv (2 : Int32), rv b1_129, rv b1_132, iv ii, iv ii, rv xx, rv xx, .unset] [(.int ii), (.ref b1_132)]) := by
          intro t k
          refine k152 t ?_
          refine XS.astore X132.here hx rfl (hb hby at_164) rfl rfl (l' := #[iv p1, iv p2, iv p3, iv p4, iv (3 : Int32), rv w_MANY_RULES, iv (2 : Int32), iv (2 : Int32), rv b1_129, rv b1_132, iv ii, iv ii, rv xx, rv xx, .unset]) rfl ?_
          show Steps p.tables e below (T132.setTop (mkF m 166 #[iv p1, iv p2, iv p3, iv p4, iv (3 : Int32), rv w_MANY_RULES, iv (2 : Int32), iv (2 : Int32), rv b1_129, rv b1_132, iv ii, iv ii, rv xx, rv xx, .unset] [])) _
          refine XS.aload X132.here hx rfl (hb hby at_166) rfl rfl ?_
          show Steps p.tables e below (T132.setTop (mkF m 168 #[iv p1, iv p2, iv p3, iv p4, iv (3 : Int32), rv w_MANY_RULES, iv (2 : Int32), iv (2 : Int32), rv b1_129, rv b1_132, iv ii, iv ii, rv xx, rv xx, .unset] [(.ref b1_132)])) _
          refine XS.iload X132.here hx rfl (hb hby at_168) rfl ?_
          show Steps p.tables e below (T132.setTop (mkF m 170 #[iv p1, iv p2, iv p3, iv p4, iv (3 : Int32), rv w_MANY_RULES, iv (2 : Int32), iv (2 : Int32), rv b1_129, rv b1_132, iv ii, iv ii, rv xx, rv xx, .unset] [(.int ii), (.ref b1_132)])) _
          exact k
        obtain ⟨cl154, Ar154, qc154, S154, M154, U154, G154⟩ := id (po132_1)
        have hin154 : ¬ (ii < 0 ∨ cl154.slots.size ≤ (ii).toNatClampNeg) := inb_of S154 hbii
        have hat154 : cl154.slots[(ii).toNatClampNeg]? = some (.ref zz) := Has.at U154 hin154 gz
        have k155 : Way p e below S0 T132 (mkF m 171 #[iv p1, iv p2, iv p3, iv p4, iv (3 : Int32), rv w_MANY_RULES, iv (2 : Int32), iv (2 : Int32), rv b1_129, rv b1_132, iv ii, iv ii, rv xx, rv xx, .unset] [(.ref zz)]) := fun t k => k153 t (X132.aaload hx (j := ii) (v := (.ref zz)) Ar154.1 (State.isArrayOf_alike hZ.alike Ar154.2.1) rfl Ar154.2.2 hin154 hat154 (g := (mkF m 170 #[iv p1, iv p2, iv p3, iv p4, iv (3 : Int32), rv w_MANY_RULES, iv (2 : Int32), iv (2 : Int32), rv b1_129, rv b1_132, iv ii, iv ii, rv xx, rv xx, .unset] [(.int ii), (.ref b1_132)])) rfl rfl (hb hby at_170) _ k)
        have k156 : Way p e below S0 T132 (mkF m 173 #[iv p1, iv p2, iv p3, iv p4, iv (3 : Int32), rv w_MANY_RULES, iv (2 : Int32), iv (2 : Int32), rv b1_129, rv b1_132, iv ii, iv ii, rv xx, rv xx, rv zz] []) := by
          intro t k
          refine k155 t ?_
          refine XS.astore X132.here hx rfl (hb hby at_171) rfl rfl (l' := #[iv p1, iv p2, iv p3, iv p4, iv (3 : Int32), rv w_MANY_RULES, iv (2 : Int32), iv (2 : Int32), rv b1_129, rv b1_132, iv ii, iv ii, rv xx, rv xx, rv zz]) rfl ?_
          show Steps p.tables e below (T132.setTop (mkF m 173 #[iv p1, iv p2, iv p3, iv p4, iv (3 : Int32), rv w_MANY_RULES, iv (2 : Int32), iv (2 : Int32), rv b1_129, rv b1_132, iv ii, iv ii, rv xx, rv xx, rv zz] [])) _
          exact k
        obtain ⟨T157, lc157, X157, N157, e157, st157⟩ := tail_same w_POOL w_NO_RULE w_ONE_RULE w_MANY_RULES G p1 p2 p3 p4 (3 : Int32) w_MANY_RULES (2 : Int32) (2 : Int32) b1_129 b1_132 ii xx zz X132 hx hZ hw hby hml hown O132 N132 (by decide) (by decide) rfl Ex Ez (nez : zz ≠ xx)
        have k158 : Way p e below S0 T157 (mkF m 314 #[iv p1, iv p2, iv p3, iv p4, iv (3 : Int32), rv w_MANY_RULES, iv (2 : Int32), iv (2 : Int32), rv b1_129, rv b1_132, iv ii, iv ii, rv xx, rv xx, rv zz] [(.int (1 : Int32))]) := fun t k => k156 t (st157 _ k)
        obtain ⟨fs, hr, hrun, hended, hW, hsame⟩ := X157.leave (v := some (.int (1 : Int32))) (fun h => by rw [Bd.returns] at h; cases h)
        refine ⟨_, _, k158 _ (retN X157 hx (t := .boolean) Bd.returns (by simp) (hb hby at_314) hr), hrun, hended, _, _, rfl, ?_, ⟨_, rfl⟩, hW, hsame.mono (by decide) (by decide)⟩
        show Q_law_met Z w_POOL w_NO_RULE w_ONE_RULE w_MANY_RULES p1 p2 p3 p4 h0 n0 _ T157.heap _
        rw [e157]
        exact ⟨rfl, N157⟩
      · obtain ⟨xx, yy, zz, gx, gy, gz, Ex, Ey, Ez, nez, ney⟩ : ∃ x y z : Addr, ([(.ref x0_129), (.ref x1_129)] : List Value).getD ii.toNatClampNeg .null = .ref x ∧ ([(.ref x0_129), (.ref x1_129)] : List Value).getD jj.toNatClampNeg .null = .ref y ∧ ([(.ref x0_132), (.ref x1_132)] : List Value).getD ii.toNatClampNeg .null = .ref z ∧ Exa Z T132.heap x "com/example/rulework/bench/Burst$SelfConflictingRule" ∧ Exa Z T132.heap y "com/example/rulework/bench/Burst$SelfConflictingRule" ∧ Exa Z T132.heap z "com/example/rulework/bench/Burst$SelfConflictingRule" ∧ z ≠ x ∧ y ≠ x := by
          rcases hrii with rfl | rfl
          · rcases hrjj with rfl | rfl
            · exact absurd rfl hc146
            · exact ⟨x0_129, x1_129, x0_132, rfl, rfl, rfl, f144, f145, po132_3, (Ne.symm (Nat.ne_of_lt (Nat.lt_of_lt_of_le po129_3.lt po132_2))), (Ne.symm po129_6)⟩
          · rcases hrjj with rfl | rfl
            · exact ⟨x1_129, x0_129, x1_132, rfl, rfl, rfl, f145, f144, po132_5, (Ne.symm (Nat.ne_of_lt (Nat.lt_of_lt_of_le po129_5.lt po132_4))), po129_6⟩
            · exact absurd rfl hc146
        have k159 : Way p e below S0 T132 (mkF m 156 #[iv p1, iv p2, iv p3, iv p4, iv (3 : Int32), rv w_MANY_RULES, iv (2 : Int32), iv (2 : Int32), rv b1_129, rv b1_132, iv ii, iv jj, .unset, .unset, .unset] [(.int ii), (.ref b1_129)]) := by
          intro t k
          refine k143 t ?_
          refine XS.aload X132.here hx rfl (hb hby at_152) rfl rfl ?_
          show Steps p.tables e below (T132.setTop (mkF m 154 #[iv p1, iv p2, iv p3, iv p4, iv (3 : Int32), rv w_MANY_RULES, iv (2 : Int32), iv (2 : Int32), rv b1_129, rv b1_132, iv ii, iv jj, .unset, .unset, .unset] [(.ref b1_129)])) _
          refine XS.iload X132.here hx rfl (hb hby at_154) rfl ?_
          show Steps p.tables e below (T132.setTop (mkF m 156 #[iv p1, iv p2, iv p3, iv p4, iv (3 : Int32), rv w_MANY_RULES, iv (2 : Int32), iv (2 : Int32), rv b1_129, rv b1_132, iv ii, iv jj, .unset, .unset, .unset] [(.int ii), (.ref b1_129)])) _
          exact k
        obtain ⟨cl160, Ar160, qc160, S160, M160, U160, G160⟩ := id (f135)
        have hin160 : ¬ (ii < 0 ∨ cl160.slots.size ≤ (ii).toNatClampNeg) := inb_of S160 hbii
        have hat160 : cl160.slots[(ii).toNatClampNeg]? = some (.ref xx) := Has.at U160 hin160 gx
        have k161 : Way p e below S0 T132 (mkF m 157 #[iv p1, iv p2, iv p3, iv p4, iv (3 : Int32), rv w_MANY_RULES, iv (2 : Int32), iv (2 : Int32), rv b1_129, rv b1_132, iv ii, iv jj, .unset, .unset, .unset] [(.ref xx)]) := fun t k => k159 t (X132.aaload hx (j := ii) (v := (.ref xx)) Ar160.1 (State.isArrayOf_alike hZ.alike Ar160.2.1) rfl Ar160.2.2 hin160 hat160 (g := (mkF m 156 #[iv p1, iv p2, iv p3, iv p4, iv (3 : Int32), rv w_MANY_RULES, iv (2 : Int32), iv (2 : Int32), rv b1_129, rv b1_132, iv ii, iv jj, .unset, .unset, .unset] [(.int ii), (.ref b1_129)])) rfl rfl (hb hby at_156) _ k)
        have k162 : Way p e below S0 T132 (mkF m 163 #[iv p1, iv p2, iv p3, iv p4, iv (3 : Int32), rv w_MANY_RULES, iv (2 : Int32), iv (2 : Int32), rv b1_129, rv b1_132, iv ii, iv jj, rv xx, .unset, .unset] [(.int jj), (.ref b1_129)]) := by
          intro t k
          refine k161 t ?_
          refine XS.astore X132.here hx rfl (hb hby at_157) rfl rfl (l' := #[iv p1, iv p2, iv p3, iv p4, iv (3 : Int32), rv w_MANY_RULES, iv (2 : Int32), iv (2 : Int32), rv b1_129, rv b1_132, iv ii, iv jj, rv xx, .unset, .unset]) rfl ?_
          show Steps p.tables e below (T132.setTop (mkF m 159 #[iv p1, iv p2, iv p3, iv p4, iv (3 : Int32), rv w_MANY_RULES, iv (2 : Int32), iv (2 : Int32), rv b1_129, rv b1_132, iv ii, iv jj, rv xx, .unset, .unset] [])) _
          refine XS.aload X132.here hx rfl (hb hby at_159) rfl rfl ?_
          show Steps p.tables e below (T132.setTop (mkF m 161 #[iv p1, iv p2, iv p3, iv p4, iv (3 : Int32), rv w_MANY_RULES, iv (2 : Int32), iv (2 : Int32), rv b1_129, rv b1_132, iv ii, iv jj, rv xx, .unset, .unset] [(.ref b1_129)])) _
          refine XS.iload X132.here hx rfl (hb hby at_161) rfl ?_
          show Steps p.tables e below (T132.setTop (mkF m 163 #[iv p1, iv p2, iv p3, iv p4, iv (3 : Int32), rv w_MANY_RULES, iv (2 : Int32), iv (2 : Int32), rv b1_129, rv b1_132, iv ii, iv jj, rv xx, .unset, .unset] [(.int jj), (.ref b1_129)])) _
          exact k
        obtain ⟨cl163, Ar163, qc163, S163, M163, U163, G163⟩ := id (f135)
        have hin163 : ¬ (jj < 0 ∨ cl163.slots.size ≤ (jj).toNatClampNeg) := inb_of S163 hbjj
        have hat163 : cl163.slots[(jj).toNatClampNeg]? = some (.ref yy) := Has.at U163 hin163 gy
        have k164 : Way p e below S0 T132 (mkF m 164 #[iv p1, iv p2, iv p3, iv p4, iv (3 : Int32), rv w_MANY_RULES, iv (2 : Int32), iv (2 : Int32), rv b1_129, rv b1_132, iv ii, iv jj, rv xx, .unset, .unset] [(.ref yy)]) := fun t k => k162 t (X132.aaload hx (j := jj) (v := (.ref yy)) Ar163.1 (State.isArrayOf_alike hZ.alike Ar163.2.1) rfl Ar163.2.2 hin163 hat163 (g := (mkF m 163 #[iv p1, iv p2, iv p3, iv p4, iv (3 : Int32), rv w_MANY_RULES, iv (2 : Int32), iv (2 : Int32), rv b1_129, rv b1_132, iv ii, iv jj, rv xx, .unset, .unset] [(.int jj), (.ref b1_129)])) rfl rfl (hb hby at_163) _ k)
        have k165 : Way p e below S0 T132 (mkF m 170 #[iv p1, iv p2, iv p3, iv p4, iv (3 : Int32), rv w_MANY_RULES, iv (2 : Int32), iv (2 : Int32), rv b1_129, rv b1_132, iv ii, iv jj, rv xx, rv yy, .unset] [(.int ii), (.ref b1_132)]) := by
          intro t k
          refine k164 t ?_
          refine XS.astore X132.here hx rfl (hb hby at_164) rfl rfl (l' := #[iv p1, iv p2, iv p3, iv p4, iv (3 : Int32), rv w_MANY_RULES, iv (2 : Int32), iv (2 : Int32), rv b1_129, rv b1_132, iv ii, iv jj, rv xx, rv yy, .unset]) rfl ?_
          show Steps p.tables e below (T132.setTop (mkF m 166 #[iv p1, iv p2, iv p3, iv p4, iv (3 : Int32), rv w_MANY_RULES, iv (2 : Int32), iv (2 : Int32), rv b1_129, rv b1_132, iv ii, iv jj, rv xx, rv yy, .unset] [])) _
          refine XS.aload X132.here hx rfl (hb hby at_166) rfl rfl ?_
          show Steps p.tables e below (T132.setTop (mkF m 168 #[iv p1, iv p2, iv p3, iv p4, iv (3 : Int32), rv w_MANY_RULES, iv (2 : Int32), iv (2 : Int32), rv b1_129, rv b1_132, iv ii, iv jj, rv xx, rv yy, .unset] [(.ref b1_132)])) _
          refine XS.iload X132.here hx rfl (hb hby at_168) rfl ?_
          show Steps p.tables e below (T132.setTop (mkF m 170 #[iv p1, iv p2, iv p3, iv p4, iv (3 : Int32), rv w_MANY_RULES, iv (2 : Int32), iv (2 : Int32), rv b1_129, rv b1_132, iv ii, iv jj, rv xx, rv yy, .unset] [(.int ii), (.ref b1_132)])) _
          exact k
        obtain ⟨cl166, Ar166, qc166, S166, M166, U166, G166⟩ := id (po132_1)
        have hin166 : ¬ (ii < 0 ∨ cl166.slots.size ≤ (ii).toNatClampNeg) := inb_of S166 hbii
        have hat166 : cl166.slots[(ii).toNatClampNeg]? = some (.ref zz) := Has.at U166 hin166 gz
        have k167 : Way p e below S0 T132 (mkF m 171 #[iv p1, iv p2, iv p3, iv p4, iv (3 : Int32), rv w_MANY_RULES, iv (2 : Int32), iv (2 : Int32), rv b1_129, rv b1_132, iv ii, iv jj, rv xx, rv yy, .unset] [(.ref zz)]) := fun t k => k165 t (X132.aaload hx (j := ii) (v := (.ref zz)) Ar166.1 (State.isArrayOf_alike hZ.alike Ar166.2.1) rfl Ar166.2.2 hin166 hat166 (g := (mkF m 170 #[iv p1, iv p2, iv p3, iv p4, iv (3 : Int32), rv w_MANY_RULES, iv (2 : Int32), iv (2 : Int32), rv b1_129, rv b1_132, iv ii, iv jj, rv xx, rv yy, .unset] [(.int ii), (.ref b1_132)])) rfl rfl (hb hby at_170) _ k)
        have k168 : Way p e below S0 T132 (mkF m 173 #[iv p1, iv p2, iv p3, iv p4, iv (3 : Int32), rv w_MANY_RULES, iv (2 : Int32), iv (2 : Int32), rv b1_129, rv b1_132, iv ii, iv jj, rv xx, rv yy, rv zz] []) := by
          intro t k
          refine k167 t ?_
          refine XS.astore X132.here hx rfl (hb hby at_171) rfl rfl (l' := #[iv p1, iv p2, iv p3, iv p4, iv (3 : Int32), rv w_MANY_RULES, iv (2 : Int32), iv (2 : Int32), rv b1_129, rv b1_132, iv ii, iv jj, rv xx, rv yy, rv zz]) rfl ?_
          show Steps p.tables e below (T132.setTop (mkF m 173 #[iv p1, iv p2, iv p3, iv p4, iv (3 : Int32), rv w_MANY_RULES, iv (2 : Int32), iv (2 : Int32), rv b1_129, rv b1_132, iv ii, iv jj, rv xx, rv yy, rv zz] [])) _
          exact k
        obtain ⟨T169, lc169, X169, N169, e169, st169⟩ := tail_other w_POOL w_NO_RULE w_ONE_RULE w_MANY_RULES G p1 p2 p3 p4 (3 : Int32) w_MANY_RULES (2 : Int32) (2 : Int32) b1_129 b1_132 ii jj xx yy zz X132 hx hZ hw hby hml hown O132 N132 (by decide) (by decide) rfl Ex Ez (nez : zz ≠ xx) Ey (ney : yy ≠ xx) (hc146 : ¬ (ii = jj))
        have k170 : Way p e below S0 T169 (mkF m 314 #[iv p1, iv p2, iv p3, iv p4, iv (3 : Int32), rv w_MANY_RULES, iv (2 : Int32), iv (2 : Int32), rv b1_129, rv b1_132, iv ii, iv jj, rv xx, rv yy, rv zz] [(.int (1 : Int32))]) := fun t k => k168 t (st169 _ k)
        obtain ⟨fs, hr, hrun, hended, hW, hsame⟩ := X169.leave (v := some (.int (1 : Int32))) (fun h => by rw [Bd.returns] at h; cases h)
        refine ⟨_, _, k170 _ (retN X169 hx (t := .boolean) Bd.returns (by simp) (hb hby at_314) hr), hrun, hended, _, _, rfl, ?_, ⟨_, rfl⟩, hW, hsame.mono (by decide) (by decide)⟩
        show Q_law_met Z w_POOL w_NO_RULE w_ONE_RULE w_MANY_RULES p1 p2 p3 p4 h0 n0 _ T169.heap _
        rw [e169]
        exact ⟨rfl, N169⟩
    · have k171 : Way p e below S0 T76 (mkF m 75 #[iv p1, iv p2, iv p3, iv p4, iv (3 : Int32), rv w_MANY_RULES, iv (3 : Int32), .unset, .unset, .unset, .unset, .unset, .unset, .unset, .unset] []) := by have q := k78; rw [hi79] at q; exact q
      have k172 : Way p e below S0 T76 (mkF m 83 #[iv p1, iv p2, iv p3, iv p4, iv (3 : Int32), rv w_MANY_RULES, iv (3 : Int32), iv (3 : Int32), .unset, .unset, .unset, .unset, .unset, .unset, .unset] [(.int (3 : Int32)), (.ref w_MANY_RULES)]) := by
        intro t k
        refine k171 t ?_
        refine XS.iload X76.here hx rfl (hb hby at_75) rfl ?_
        show Steps p.tables e below (T76.setTop (mkF m 77 #[iv p1, iv p2, iv p3, iv p4, iv (3 : Int32), rv w_MANY_RULES, iv (3 : Int32), .unset, .unset, .unset, .unset, .unset, .unset, .unset, .unset] [(.int (3 : Int32))])) _
        refine XS.istore X76.here hx rfl (hb hby at_77) rfl (l' := #[iv p1, iv p2, iv p3, iv p4, iv (3 : Int32), rv w_MANY_RULES, iv (3 : Int32), iv (3 : Int32), .unset, .unset, .unset, .unset, .unset, .unset, .unset]) rfl ?_
        show Steps p.tables e below (T76.setTop (mkF m 79 #[iv p1, iv p2, iv p3, iv p4, iv (3 : Int32), rv w_MANY_RULES, iv (3 : Int32), iv (3 : Int32), .unset, .unset, .unset, .unset, .unset, .unset, .unset] [])) _
        refine XS.aload X76.here hx rfl (hb hby at_79) rfl rfl ?_
        show Steps p.tables e below (T76.setTop (mkF m 81 #[iv p1, iv p2, iv p3, iv p4, iv (3 : Int32), rv w_MANY_RULES, iv (3 : Int32), iv (3 : Int32), .unset, .unset, .unset, .unset, .unset, .unset, .unset] [(.ref w_MANY_RULES)])) _
        refine XS.iload X76.here hx rfl (hb hby at_81) rfl ?_
        show Steps p.tables e below (T76.setTop (mkF m 83 #[iv p1, iv p2, iv p3, iv p4, iv (3 : Int32), rv w_MANY_RULES, iv (3 : Int32), iv (3 : Int32), .unset, .unset, .unset, .unset, .unset, .unset, .unset] [(.int (3 : Int32)), (.ref w_MANY_RULES)])) _
        exact k
      obtain ⟨cq173, kq173, qq173a, qq173b, qq173c⟩ := isOf hZ e76 (E_w_MANY_RULES.ext O0.2)
      obtain ⟨_, _, ⟨T173, L173, kk173, nn173⟩, -, X173, ⟨Lc173, hQ173, l173, y173, z173⟩, st173⟩ := X76.virtualBack hx (y := (⟨"com/example/rulework/bench/Burst", "makeRules", "(I)[Lcom/example/rulework/rulework/SchedulingRule;"⟩ : MethodName)) (z := (⟨"com/example/rulework/bench/Burst", "makeRules", "(I)[Lcom/example/rulework/rulework/SchedulingRule;"⟩ : MethodName)) hown (mvT hZ (hw _ (List.mem_of_getElem? (i := 3) rfl))) (mvT hZ (hw _ (List.mem_of_getElem? (i := 4) rfl))) (notFace_of_selects (args := #[]) (mvT hZ (hw _ (List.mem_of_getElem? (i := 6) rfl)))) (mvT hZ (hw _ (List.mem_of_getElem? (i := 6) rfl))) (mvT hZ (hw _ (List.mem_of_getElem? (i := 5) rfl))) (by decide) (backOf (W := 0) (mkm3 l Z a0 hw [] w_POOL w_NO_RULE w_ONE_RULE w_MANY_RULES G  h0 n0 O0 ) hZ (hw _ (List.mem_of_getElem? (i := 7) rfl)) (hw _ (List.mem_of_getElem? (i := 1) rfl)) (by decide) (by decide)) qq173a qq173c (g := (mkF m 83 #[iv p1, iv p2, iv p3, iv p4, iv (3 : Int32), rv w_MANY_RULES, iv (3 : Int32), iv (3 : Int32), .unset, .unset, .unset, .unset, .unset, .unset, .unset] [(.int (3 : Int32)), (.ref w_MANY_RULES)])) rfl (by rw [hml]; rfl) (Steps.refl _) (argsL := [(.int (3 : Int32))]) (rest := []) (lenOf pd_4 rfl) rfl (by show 2 * 0 + _ ≤ _; exact Nat.le_of_eq rfl) (hb hby at_83) (fun _ _ => ⟨rfl, e76, (by decide : 0 + 4 ≤ _), (by decide : 0 + 3 ≤ _)⟩)
      dsimp only [Pt.U, Pt.locs, Pt.cells, Pt.slots] at X173 l173 y173 z173 st173 hQ173
      subst l173 y173 z173
      obtain ⟨b1_173, kc_173, x0_173, x1_173, x2_173, rfl, Nq173, Kq173, po173_0, po173_1, po173_2, po173_3, po173_4, po173_5, po173_6, po173_7, po173_8, po173_9, po173_10⟩ := hQ173
      have N173 := Fr.app N0 Nq173
      have O173 := O0.keep Kq173 all0
      have k174 : Way p e below S0 T173 (mkF m 86 #[iv p1, iv p2, iv p3, iv p4, iv (3 : Int32), rv w_MANY_RULES, iv (3 : Int32), iv (3 : Int32), .unset, .unset, .unset, .unset, .unset, .unset, .unset] [(.ref b1_173)]) := fun t k => k172 t (st173.trans k)
      have k175 : Way p e below S0 T173 (mkF m 92 #[iv p1, iv p2, iv p3, iv p4, iv (3 : Int32), rv w_MANY_RULES, iv (3 : Int32), iv (3 : Int32), rv b1_173, .unset, .unset, .unset, .unset, .unset, .unset] [(.int (3 : Int32)), (.ref w_MANY_RULES)]) := by
        intro t k
        refine k174 t ?_
        refine XS.astore X173.here hx rfl (hb hby at_86) rfl rfl (l' := #[iv p1, iv p2, iv p3, iv p4, iv (3 : Int32), rv w_MANY_RULES, iv (3 : Int32), iv (3 : Int32), rv b1_173, .unset, .unset, .unset, .unset, .unset, .unset]) rfl ?_
        show Steps p.tables e below (T173.setTop (mkF m 88 #[iv p1, iv p2, iv p3, iv p4, iv (3 : Int32), rv w_MANY_RULES, iv (3 : Int32), iv (3 : Int32), rv b1_173, .unset, .unset, .unset, .unset, .unset, .unset] [])) _
        refine XS.aload X173.here hx rfl (hb hby at_88) rfl rfl ?_
        show Steps p.tables e below (T173.setTop (mkF m 90 #[iv p1, iv p2, iv p3, iv p4, iv (3 : Int32), rv w_MANY_RULES, iv (3 : Int32), iv (3 : Int32), rv b1_173, .unset, .unset, .unset, .unset, .unset, .unset] [(.ref w_MANY_RULES)])) _
        refine XS.iload X173.here hx rfl (hb hby at_90) rfl ?_
        show Steps p.tables e below (T173.setTop (mkF m 92 #[iv p1, iv p2, iv p3, iv p4, iv (3 : Int32), rv w_MANY_RULES, iv (3 : Int32), iv (3 : Int32), rv b1_173, .unset, .unset, .unset, .unset, .unset, .unset] [(.int (3 : Int32)), (.ref w_MANY_RULES)])) _
        exact k
      obtain ⟨cq176, kq176, qq176a, qq176b, qq176c⟩ := isOf hZ rfl (E_w_MANY_RULES.ext O173.2)
      obtain ⟨_, _, ⟨T176, L176, kk176, nn176⟩, -, X176, ⟨Lc176, hQ176, l176, y176, z176⟩, st176⟩ := X173.virtualBack hx (y := (⟨"com/example/rulework/bench/Burst", "makeRules", "(I)[Lcom/example/rulework/rulework/SchedulingRule;"⟩ : MethodName)) (z := (⟨"com/example/rulework/bench/Burst", "makeRules", "(I)[Lcom/example/rulework/rulework/SchedulingRule;"⟩ : MethodName)) hown (mvT hZ (hw _ (List.mem_of_getElem? (i := 3) rfl))) (mvT hZ (hw _ (List.mem_of_getElem? (i := 4) rfl))) (notFace_of_selects (args := #[]) (mvT hZ (hw _ (List.mem_of_getElem? (i := 6) rfl)))) (mvT hZ (hw _ (List.mem_of_getElem? (i := 6) rfl))) (mvT hZ (hw _ (List.mem_of_getElem? (i := 5) rfl))) (by decide) (backOf (W := 0) (mkm3 l Z a0 hw [] w_POOL w_NO_RULE w_ONE_RULE w_MANY_RULES G  T173.heap n0 O173 ) hZ (hw _ (List.mem_of_getElem? (i := 7) rfl)) (hw _ (List.mem_of_getElem? (i := 1) rfl)) (by decide) (by decide)) qq176a qq176c (g := (mkF m 92 #[iv p1, iv p2, iv p3, iv p4, iv (3 : Int32), rv w_MANY_RULES, iv (3 : Int32), iv (3 : Int32), rv b1_173, .unset, .unset, .unset, .unset, .unset, .unset] [(.int (3 : Int32)), (.ref w_MANY_RULES)])) rfl (by rw [hml]; rfl) (Steps.refl _) (argsL := [(.int (3 : Int32))]) (rest := []) (lenOf pd_4 rfl) rfl (by show 2 * 0 + _ ≤ _; exact Nat.le_of_eq rfl) (hb hby at_92) (fun _ _ => ⟨rfl, rfl, (by decide : 4 + 4 ≤ _), (by decide : 3 + 3 ≤ _)⟩)
      dsimp only [Pt.U, Pt.locs, Pt.cells, Pt.slots] at X176 l176 y176 z176 st176 hQ176
      subst l176 y176 z176
      obtain ⟨b1_176, kc_176, x0_176, x1_176, x2_176, rfl, Nq176, Kq176, po176_0, po176_1, po176_2, po176_3, po176_4, po176_5, po176_6, po176_7, po176_8, po176_9, po176_10⟩ := hQ176
      have N176 := Fr.app N173 Nq176
      have O176 := O173.keep Kq176 all0
      have k177 : Way p e below S0 T176 (mkF m 95 #[iv p1, iv p2, iv p3, iv p4, iv (3 : Int32), rv w_MANY_RULES, iv (3 : Int32), iv (3 : Int32), rv b1_173, .unset, .unset, .unset, .unset, .unset, .unset] [(.ref b1_176)]) := fun t k => k175 t (st176.trans k)
      have k178 : Way p e below S0 T176 (mkF m 111 #[iv p1, iv p2, iv p3, iv p4, iv (3 : Int32), rv w_MANY_RULES, iv (3 : Int32), iv (3 : Int32), rv b1_173, rv b1_176, .unset, .unset, .unset, .unset, .unset] [(.ref b1_173)]) := by
        intro t k
        refine k177 t ?_
        refine XS.astore X176.here hx rfl (hb hby at_95) rfl rfl (l' := #[iv p1, iv p2, iv p3, iv p4, iv (3 : Int32), rv w_MANY_RULES, iv (3 : Int32), iv (3 : Int32), rv b1_173, rv b1_176, .unset, .unset, .unset, .unset, .unset]) rfl ?_
        show Steps p.tables e below (T176.setTop (mkF m 97 #[iv p1, iv p2, iv p3, iv p4, iv (3 : Int32), rv w_MANY_RULES, iv (3 : Int32), iv (3 : Int32), rv b1_173, rv b1_176, .unset, .unset, .unset, .unset, .unset] [])) _
        refine XS.aload X176.here hx rfl (hb hby at_97) rfl rfl ?_
        show Steps p.tables e below (T176.setTop (mkF m 99 #[iv p1, iv p2, iv p3, iv p4, iv (3 : Int32), rv w_MANY_RULES, iv (3 : Int32), iv (3 : Int32), rv b1_173, rv b1_176, .unset, .unset, .unset, .unset, .unset] [(.ref b1_173)])) _
        refine XS.ifnullNo X176.here hx rfl (hb hby at_99) rfl ?_
        show Steps p.tables e below (T176.setTop (mkF m 102 #[iv p1, iv p2, iv p3, iv p4, iv (3 : Int32), rv w_MANY_RULES, iv (3 : Int32), iv (3 : Int32), rv b1_173, rv b1_176, .unset, .unset, .unset, .unset, .unset] [])) _
        refine XS.aload X176.here hx rfl (hb hby at_102) rfl rfl ?_
        show Steps p.tables e below (T176.setTop (mkF m 104 #[iv p1, iv p2, iv p3, iv p4, iv (3 : Int32), rv w_MANY_RULES, iv (3 : Int32), iv (3 : Int32), rv b1_173, rv b1_176, .unset, .unset, .unset, .unset, .unset] [(.ref b1_176)])) _
        refine XS.ifnonnullYes X176.here hx rfl (pc0 := 104) (pc' := 109) rfl (hb hby at_104) rfl (by decide) (by decide) ?_
        show Steps p.tables e below (T176.setTop (mkF m 109 #[iv p1, iv p2, iv p3, iv p4, iv (3 : Int32), rv w_MANY_RULES, iv (3 : Int32), iv (3 : Int32), rv b1_173, rv b1_176, .unset, .unset, .unset, .unset, .unset] [])) _
        refine XS.aload X176.here hx rfl (hb hby at_109) rfl rfl ?_
        show Steps p.tables e below (T176.setTop (mkF m 111 #[iv p1, iv p2, iv p3, iv p4, iv (3 : Int32), rv w_MANY_RULES, iv (3 : Int32), iv (3 : Int32), rv b1_173, rv b1_176, .unset, .unset, .unset, .unset, .unset] [(.ref b1_173)])) _
        exact k
      have f179 : Arv Z T176.heap b1_173 kc_173 (.object "com/example/rulework/rulework/SchedulingRule") (3 : Int32) [(.ref x0_173), (.ref x1_173), (.ref x2_173)] .null := (po173_1.keep Kq176 nin0)
      obtain ⟨cl180, Ar180, -, S180, M180, -, -⟩ := id (f179)
      have k181 : Way p e below S0 T176 (mkF m 112 #[iv p1, iv p2, iv p3, iv p4, iv (3 : Int32), rv w_MANY_RULES, iv (3 : Int32), iv (3 : Int32), rv b1_173, rv b1_176, .unset, .unset, .unset, .unset, .unset] [(.int (3 : Int32))]) := fun t k => k178 t (X176.arraylength hx (Ar180.1) (State.isArrayOf_alike hZ.alike Ar180.2.1) (g := (mkF m 111 #[iv p1, iv p2, iv p3, iv p4, iv (3 : Int32), rv w_MANY_RULES, iv (3 : Int32), iv (3 : Int32), rv b1_173, rv b1_176, .unset, .unset, .unset, .unset, .unset] [(.ref b1_173)])) rfl rfl (hb hby at_111) _ (by rw [len_of S180 M180]; exact k))
      have k182 : Way p e below S0 T176 (mkF m 119 #[iv p1, iv p2, iv p3, iv p4, iv (3 : Int32), rv w_MANY_RULES, iv (3 : Int32), iv (3 : Int32), rv b1_173, rv b1_176, .unset, .unset, .unset, .unset, .unset] [(.ref b1_176)]) := by
        intro t k
        refine k181 t ?_
        refine XS.iload X176.here hx rfl (hb hby at_112) rfl ?_
        show Steps p.tables e below (T176.setTop (mkF m 114 #[iv p1, iv p2, iv p3, iv p4, iv (3 : Int32), rv w_MANY_RULES, iv (3 : Int32), iv (3 : Int32), rv b1_173, rv b1_176, .unset, .unset, .unset, .unset, .unset] [(.int (3 : Int32)), (.int (3 : Int32))])) _
        refine XS.icmpNo X176.here hx rfl (hb hby at_114) rfl (teq ((by decide) : (3 : Int32) = (3 : Int32))).2 ?_
        show Steps p.tables e below (T176.setTop (mkF m 117 #[iv p1, iv p2, iv p3, iv p4, iv (3 : Int32), rv w_MANY_RULES, iv (3 : Int32), iv (3 : Int32), rv b1_173, rv b1_176, .unset, .unset, .unset, .unset, .unset] [])) _
        refine XS.aload X176.here hx rfl (hb hby at_117) rfl rfl ?_
        show Steps p.tables e below (T176.setTop (mkF m 119 #[iv p1, iv p2, iv p3, iv p4, iv (3 : Int32), rv w_MANY_RULES, iv (3 : Int32), iv (3 : Int32), rv b1_173, rv b1_176, .unset, .unset, .unset, .unset, .unset] [(.ref b1_176)])) _
        exact k
      obtain ⟨cl183, Ar183, -, S183, M183, -, -⟩ := id (po176_1)
      have k184 : Way p e below S0 T176 (mkF m 120 #[iv p1, iv p2, iv p3, iv p4, iv (3 : Int32), rv w_MANY_RULES, iv (3 : Int32), iv (3 : Int32), rv b1_173, rv b1_176, .unset, .unset, .unset, .unset, .unset] [(.int (3 : Int32))]) := fun t k => k182 t (X176.arraylength hx (Ar183.1) (State.isArrayOf_alike hZ.alike Ar183.2.1) (g := (mkF m 119 #[iv p1, iv p2, iv p3, iv p4, iv (3 : Int32), rv w_MANY_RULES, iv (3 : Int32), iv (3 : Int32), rv b1_173, rv b1_176, .unset, .unset, .unset, .unset, .unset] [(.ref b1_176)])) rfl rfl (hb hby at_119) _ (by rw [len_of S183 M183]; exact k))
      have k185 : Way p e below S0 T176 (mkF m 152 #[iv p1, iv p2, iv p3, iv p4, iv (3 : Int32), rv w_MANY_RULES, iv (3 : Int32), iv (3 : Int32), rv b1_173, rv b1_176, iv ((p3 &&& (2147483647 : Int32)) % (3 : Int32)), iv ((p4 &&& (2147483647 : Int32)) % (3 : Int32)), .unset, .unset, .unset] []) := by
        intro t k
        refine k184 t ?_
        refine XS.iload X176.here hx rfl (hb hby at_120) rfl ?_
        show Steps p.tables e below (T176.setTop (mkF m 122 #[iv p1, iv p2, iv p3, iv p4, iv (3 : Int32), rv w_MANY_RULES, iv (3 : Int32), iv (3 : Int32), rv b1_173, rv b1_176, .unset, .unset, .unset, .unset, .unset] [(.int (3 : Int32)), (.int (3 : Int32))])) _
        refine XS.icmpYes X176.here hx rfl (pc0 := 122) (pc' := 127) rfl (hb hby at_122) rfl (teq ((by decide) : (3 : Int32) = (3 : Int32))).1 (by decide) (by decide) ?_
        show Steps p.tables e below (T176.setTop (mkF m 127 #[iv p1, iv p2, iv p3, iv p4, iv (3 : Int32), rv w_MANY_RULES, iv (3 : Int32), iv (3 : Int32), rv b1_173, rv b1_176, .unset, .unset, .unset, .unset, .unset] [])) _
        refine XS.iload X176.here hx rfl (hb hby at_127) rfl ?_
        show Steps p.tables e below (T176.setTop (mkF m 129 #[iv p1, iv p2, iv p3, iv p4, iv (3 : Int32), rv w_MANY_RULES, iv (3 : Int32), iv (3 : Int32), rv b1_173, rv b1_176, .unset, .unset, .unset, .unset, .unset] [(.int (3 : Int32))])) _
        refine XS.ifYes X176.here hx rfl (pc0 := 129) (pc' := 134) rfl (hb hby at_129) rfl ((if0 _ _).trans (feq ((by decide) : ¬ ((3 : Int32) = (0 : Int32)))).2) (by decide) (by decide) ?_
        show Steps p.tables e below (T176.setTop (mkF m 134 #[iv p1, iv p2, iv p3, iv p4, iv (3 : Int32), rv w_MANY_RULES, iv (3 : Int32), iv (3 : Int32), rv b1_173, rv b1_176, .unset, .unset, .unset, .unset, .unset] [])) _
        refine XS.iloadN X176.here hx rfl (hb hby at_134) rfl ?_
        show Steps p.tables e below (T176.setTop (mkF m 135 #[iv p1, iv p2, iv p3, iv p4, iv (3 : Int32), rv w_MANY_RULES, iv (3 : Int32), iv (3 : Int32), rv b1_173, rv b1_176, .unset, .unset, .unset, .unset, .unset] [(.int p3)])) _
        refine X176.ldcInt hx hown (mvT hZ (hw _ (List.mem_of_getElem? (i := 36) rfl))) (g := (mkF m 135 #[iv p1, iv p2, iv p3, iv p4, iv (3 : Int32), rv w_MANY_RULES, iv (3 : Int32), iv (3 : Int32), rv b1_173, rv b1_176, .unset, .unset, .unset, .unset, .unset] [(.int p3)])) rfl (hb hby at_135) _ ?_
        show Steps p.tables e below (T176.setTop (mkF m 137 #[iv p1, iv p2, iv p3, iv p4, iv (3 : Int32), rv w_MANY_RULES, iv (3 : Int32), iv (3 : Int32), rv b1_173, rv b1_176, .unset, .unset, .unset, .unset, .unset] [(.int (2147483647 : Int32)), (.int p3)])) _
        refine XS.iand X176.here hx rfl (hb hby at_137) rfl ?_
        show Steps p.tables e below (T176.setTop (mkF m 138 #[iv p1, iv p2, iv p3, iv p4, iv (3 : Int32), rv w_MANY_RULES, iv (3 : Int32), iv (3 : Int32), rv b1_173, rv b1_176, .unset, .unset, .unset, .unset, .unset] [(.int (p3 &&& (2147483647 : Int32)))])) _
        refine XS.iload X176.here hx rfl (hb hby at_138) rfl ?_
        show Steps p.tables e below (T176.setTop (mkF m 140 #[iv p1, iv p2, iv p3, iv p4, iv (3 : Int32), rv w_MANY_RULES, iv (3 : Int32), iv (3 : Int32), rv b1_173, rv b1_176, .unset, .unset, .unset, .unset, .unset] [(.int (3 : Int32)), (.int (p3 &&& (2147483647 : Int32)))])) _
        refine iremM (g := (mkF m 140 #[iv p1, iv p2, iv p3, iv p4, iv (3 : Int32), rv w_MANY_RULES, iv (3 : Int32), iv (3 : Int32), rv b1_173, rv b1_176, .unset, .unset, .unset, .unset, .unset] [(.int (3 : Int32)), (.int (p3 &&& (2147483647 : Int32)))])) X176 hx rfl (hb hby at_140) rfl (by decide) ?_
        show Steps p.tables e below (T176.setTop (mkF m 141 #[iv p1, iv p2, iv p3, iv p4, iv (3 : Int32), rv w_MANY_RULES, iv (3 : Int32), iv (3 : Int32), rv b1_173, rv b1_176, .unset, .unset, .unset, .unset, .unset] [(.int ((p3 &&& (2147483647 : Int32)) % (3 : Int32)))])) _
        refine XS.istore X176.here hx rfl (hb hby at_141) rfl (l' := #[iv p1, iv p2, iv p3, iv p4, iv (3 : Int32), rv w_MANY_RULES, iv (3 : Int32), iv (3 : Int32), rv b1_173, rv b1_176, iv ((p3 &&& (2147483647 : Int32)) % (3 : Int32)), .unset, .unset, .unset, .unset]) rfl ?_
        show Steps p.tables e below (T176.setTop (mkF m 143 #[iv p1, iv p2, iv p3, iv p4, iv (3 : Int32), rv w_MANY_RULES, iv (3 : Int32), iv (3 : Int32), rv b1_173, rv b1_176, iv ((p3 &&& (2147483647 : Int32)) % (3 : Int32)), .unset, .unset, .unset, .unset] [])) _
        refine XS.iloadN X176.here hx rfl (hb hby at_143) rfl ?_
        show Steps p.tables e below (T176.setTop (mkF m 144 #[iv p1, iv p2, iv p3, iv p4, iv (3 : Int32), rv w_MANY_RULES, iv (3 : Int32), iv (3 : Int32), rv b1_173, rv b1_176, iv ((p3 &&& (2147483647 : Int32)) % (3 : Int32)), .unset, .unset, .unset, .unset] [(.int p4)])) _
        refine X176.ldcInt hx hown (mvT hZ (hw _ (List.mem_of_getElem? (i := 36) rfl))) (g := (mkF m 144 #[iv p1, iv p2, iv p3, iv p4, iv (3 : Int32), rv w_MANY_RULES, iv (3 : Int32), iv (3 : Int32), rv b1_173, rv b1_176, iv ((p3 &&& (2147483647 : Int32)) % (3 : Int32)), .unset, .unset, .unset, .unset] [(.int p4)])) rfl (hb hby at_144) _ ?_
        show Steps p.tables e below (T176.setTop (mkF m 146 #[iv p1, iv p2, iv p3, iv p4, iv (3 : Int32), rv w_MANY_RULES, iv (3 : Int32), iv (3 : Int32), rv b1_173, rv b1_176, iv ((p3 &&& (2147483647 : Int32)) % (3 : Int32)), .unset, .unset, .unset, .unset] [(.int (2147483647 : Int32)), (.int p4)])) _
        refine XS.iand X176.here hx rfl (hb hby at_146) rfl ?_
        show Steps p.tables e below (T176.setTop (mkF m 147 #[iv p1, iv p2, iv p3, iv p4, iv (3 : Int32), rv w_MANY_RULES, iv (3 : Int32), iv (3 : Int32), rv b1_173, rv b1_176, iv ((p3 &&& (2147483647 : Int32)) % (3 : Int32)), .unset, .unset, .unset, .unset] [(.int (p4 &&& (2147483647 : Int32)))])) _
        refine XS.iload X176.here hx rfl (hb hby at_147) rfl ?_
        show Steps p.tables e below (T176.setTop (mkF m 149 #[iv p1, iv p2, iv p3, iv p4, iv (3 : Int32), rv w_MANY_RULES, iv (3 : Int32), iv (3 : Int32), rv b1_173, rv b1_176, iv ((p3 &&& (2147483647 : Int32)) % (3 : Int32)), .unset, .unset, .unset, .unset] [(.int (3 : Int32)), (.int (p4 &&& (2147483647 : Int32)))])) _
        refine iremM (g := (mkF m 149 #[iv p1, iv p2, iv p3, iv p4, iv (3 : Int32), rv w_MANY_RULES, iv (3 : Int32), iv (3 : Int32), rv b1_173, rv b1_176, iv ((p3 &&& (2147483647 : Int32)) % (3 : Int32)), .unset, .unset, .unset, .unset] [(.int (3 : Int32)), (.int (p4 &&& (2147483647 : Int32)))])) X176 hx rfl (hb hby at_149) rfl (by decide) ?_
        show Steps p.tables e below (T176.setTop (mkF m 150 #[iv p1, iv p2, iv p3, iv p4, iv (3 : Int32), rv w_MANY_RULES, iv (3 : Int32), iv (3 : Int32), rv b1_173, rv b1_176, iv ((p3 &&& (2147483647 : Int32)) % (3 : Int32)), .unset, .unset, .unset, .unset] [(.int ((p4 &&& (2147483647 : Int32)) % (3 : Int32)))])) _
        refine XS.istore X176.here hx rfl (hb hby at_150) rfl (l' := #[iv p1, iv p2, iv p3, iv p4, iv (3 : Int32), rv w_MANY_RULES, iv (3 : Int32), iv (3 : Int32), rv b1_173, rv b1_176, iv ((p3 &&& (2147483647 : Int32)) % (3 : Int32)), iv ((p4 &&& (2147483647 : Int32)) % (3 : Int32)), .unset, .unset, .unset]) rfl ?_
        show Steps p.tables e below (T176.setTop (mkF m 152 #[iv p1, iv p2, iv p3, iv p4, iv (3 : Int32), rv w_MANY_RULES, iv (3 : Int32), iv (3 : Int32), rv b1_173, rv b1_176, iv ((p3 &&& (2147483647 : Int32)) % (3 : Int32)), iv ((p4 &&& (2147483647 : Int32)) % (3 : Int32)), .unset, .unset, .unset] [])) _
        exact k
      obtain ⟨ii, hii⟩ : ∃ z, ((p3 &&& (2147483647 : Int32)) % (3 : Int32)) = z := ⟨_, rfl⟩
      have k186 : Way p e below S0 T176 (mkF m 152 #[iv p1, iv p2, iv p3, iv p4, iv (3 : Int32), rv w_MANY_RULES, iv (3 : Int32), iv (3 : Int32), rv b1_173, rv b1_176, iv ii, iv ((p4 &&& (2147483647 : Int32)) % (3 : Int32)), .unset, .unset, .unset] []) := by have q := k185; rw [hii] at q; exact q
      obtain ⟨jj, hjj⟩ : ∃ z, ((p4 &&& (2147483647 : Int32)) % (3 : Int32)) = z := ⟨_, rfl⟩
      have k187 : Way p e below S0 T176 (mkF m 152 #[iv p1, iv p2, iv p3, iv p4, iv (3 : Int32), rv w_MANY_RULES, iv (3 : Int32), iv (3 : Int32), rv b1_173, rv b1_176, iv ii, iv jj, .unset, .unset, .unset] []) := by have q := k186; rw [hjj] at q; exact q
      have hrii : ii = (0 : Int32) ∨ ii = (1 : Int32) ∨ ii = (2 : Int32) := by rw [← hii]; exact own_rem3 p3
      have hbii : ¬ (ii < 0) ∧ ii < (3 : Int32) := by rcases hrii with rfl | rfl | rfl <;> decide
      have hrjj : jj = (0 : Int32) ∨ jj = (1 : Int32) ∨ jj = (2 : Int32) := by rw [← hjj]; exact own_rem3 p4
      have hbjj : ¬ (jj < 0) ∧ jj < (3 : Int32) := by rcases hrjj with rfl | rfl | rfl <;> decide
      have f188 : Exa Z T176.heap x0_173 "com/example/rulework/bench/Burst$SelfConflictingRule" := (po173_3.keep Kq176)
      have f189 : Exa Z T176.heap x1_173 "com/example/rulework/bench/Burst$SelfConflictingRule" := (po173_5.keep Kq176)
      have f190 : Exa Z T176.heap x2_173 "com/example/rulework/bench/Burst$SelfConflictingRule" := (po173_7.keep Kq176)
      by_cases hc191 : ii = jj
      · subst hc191
        obtain ⟨xx, zz, gx, gz, Ex, Ez, nez⟩ : ∃ x z : Addr, ([(.ref x0_173), (.ref x1_173), (.ref x2_173)] : List Value).getD ii.toNatClampNeg .null = .ref x ∧ ([(.ref x0_176), (.ref x1_176), (.ref x2_176)] : List Value).getD ii.toNatClampNeg .null = .ref z ∧ Exa Z T176.heap x "com/example/rulework/bench/Burst$SelfConflictingRule" ∧ Exa Z T176.heap z "com/example/rulework/bench/Burst$SelfConflictingRule" ∧ z ≠ x := by
          rcases hrii with rfl | rfl | rfl
          · exact ⟨x0_173, x0_176, rfl, rfl, f188, po176_3, (Ne.symm (Nat.ne_of_lt (Nat.lt_of_lt_of_le po173_3.lt po176_2)))⟩
          · exact ⟨x1_173, x1_176, rfl, rfl, f189, po176_5, (Ne.symm (Nat.ne_of_lt (Nat.lt_of_lt_of_le po173_5.lt po176_4)))⟩
          · exact ⟨x2_173, x2_176, rfl, rfl, f190, po176_7, (Ne.symm (Nat.ne_of_lt (Nat.lt_of_lt_of_le po173_7.lt po176_6)))⟩
        have k192 : Way p e below S0 T176 (mkF m 156 #[iv p1, iv p2, iv p3, iv p4, iv (3 : Int32), rv w_MANY_RULES, iv (3 : Int32), iv (3 : Int32), rv b1_173, rv b1_176, iv ii, iv ii, .unset, .unset, .unset] [(.int ii), (.ref b1_173)]) := by
          intro t k
          refine k187 t ?_
          refine XS.aload X176.here hx rfl (hb hby at_152) rfl rfl ?_
          show Steps p.tables e below (T176.setTop (mkF m 154 #[iv p1, iv p2, iv p3, iv p4, iv (3 : Int32), rv w_MANY_RULES, iv (3 : Int32), iv (3 : Int32), rv b1_173, rv b1_176, iv ii, iv ii, .unset, .unset, .unset] [(.ref b1_173)])) _
          refine XS.iload X176.here hx rfl (hb hby at_154) rfl ?_
          show Steps p.tables e below (T176.setTop (mkF m 156 #[iv p1, iv p2, iv p3, iv p4, iv (3 : Int32), rv w_MANY_RULES, iv (3 : Int32), iv (3 : Int32), rv b1_173, rv b1_176, iv ii, iv ii, .unset, .unset, .unset] [(.int ii), (.ref b1_173)])) _
          exact k
        obtain ⟨cl193, Ar193, qc193, S193, M193, U193, G193⟩ := id (f179)
        have hin193 : ¬ (ii < 0 ∨ cl193.slots.size ≤ (ii).toNatClampNeg) := inb_of S193 hbii
        have hat193 : cl193.slots[(ii).toNatClampNeg]? = some (.ref xx) := Has.at U193 hin193 gx
        have k194 : Way p e below S0 T176 (mkF m 157 #[iv p1, iv p2, iv p3, iv p4, iv (3 : Int32), rv w_MANY_RULES, iv (3 : Int32), iv (3 : Int32), rv b1_173, rv b1_176, iv ii, iv ii, .unset, .unset, .unset] [(.ref xx)]) := fun t k => k192 t (X176.aaload hx (j := ii) (v := (.ref xx)) Ar193.1 (State.isArrayOf_alike hZ.alike Ar193.2.1) rfl Ar193.2.2 hin193 hat193 (g := (mkF m 156 #[iv p1, iv p2, iv p3, iv p4, iv (3 : Int32), rv w_MANY_RULES, iv (3 : Int32), iv (3 : Int32), rv b1_173, rv b1_176, iv ii, iv ii, .unset, .unset, .unset] [(.int ii), (.ref b1_173)])) rfl rfl (hb hby at_156) _ k)
        have k195 : Way p e below S0 T176 (mkF m 163 #[iv p1, iv p2, iv p3, iv p4, iv (3 : Int32), rv w_MANY_RULES, iv (3 : Int32), iv (3 : Int32), rv b1_173, rv b1_176, iv ii, iv ii, rv xx, .unset, .unset] [(.int ii), (.ref b1_173)]) := by
          intro t k
          refine k194 t ?_
          refine XS.astore X176.here hx rfl (hb hby at_157) rfl rfl (l' := #[iv p1, iv p2, iv p3, iv p4, iv (3 : Int32), rv w_MANY_RULES, iv (3 : Int32), iv (3 : Int32), rv b1_173, rv b1_176, iv ii, iv ii, rv xx, .unset, .unset]) rfl ?_
          show Steps p.tables e below (T176.setTop (mkF m 159 #[iv p1, iv p2, iv p3, iv p4, iv (3 : Int32), rv w_MANY_RULES, iv (3 : Int32), iv (3 : Int32), rv b1_173, rv b1_176, iv ii, iv ii, rv xx, .unset, .unset] [])) _
          refine XS.aload X176.here hx rfl (hb hby at_159) rfl rfl ?_
          show Steps p.tables e below (T176.setTop (mkF m 161 #[iv p1, iv p2, iv p3, iv p4, iv (3 : Int32), rv w_MANY_RULES, iv (3 : Int32), iv (3 : Int32), rv b1_173, rv b1_176, iv ii, iv ii, rv xx, .unset, .unset] [(.ref b1_173)])) _
          refine XS.iload X176.here hx rfl (hb hby at_161) rfl ?_
          show Steps p.tables e below (T176.setTop (mkF m 163 #[iv p1, iv p2, iv p3, iv p4, iv (3 : Int32), rv w_MANY_RULES, iv (3 : Int32), iv (3 : Int32), rv b1_173, rv b1_176, iv ii, iv ii, rv xx, .unset, .unset] [(.int ii), (.ref b1_173)])) _
          exact k
        obtain ⟨cl196, Ar196, qc196, S196, M196, U196, G196⟩ := id (f179)
        have hin196 : ¬ (ii < 0 ∨ cl196.slots.size ≤ (ii).toNatClampNeg) := inb_of S196 hbii
        have hat196 : cl196.slots[(ii).toNatClampNeg]? = some (.ref xx) := Has.at U196 hin196 gx
        have k197 : Way p e below S0 T176 (mkF m 164 #[iv p1, iv p2, iv p3, iv p4, iv (3 : Int32), rv w_MANY_RULES, iv (3 : Int32), iv (3 : Int32), rv b1_173, rv b1_176, iv ii, iv ii, rv xx, .unset, .unset] [(.ref xx)]) := fun t k => k195 t (X176.aaload hx (j := ii) (v := (.ref xx)) Ar196.1 (State.isArrayOf_alike hZ.alike Ar196.2.1) rfl Ar196.2.2 hin196 hat196 (g := (mkF m 163 #[iv p1, iv p2, iv p3, iv p4, iv (3 : Int32), rv w_MANY_RULES, iv (3 : Int32), iv (3 : Int32), rv b1_173, rv b1_176, iv ii, iv ii, rv xx, .unset, .unset] [(.int ii), (.ref b1_173)])) rfl rfl (hb hby at_163) _ k)
        have k198 : Way p e below S0 T176 (mkF m 170 #[iv p1, iv p2, iv p3, iv p4, iv (3 : Int32), rv w_MANY_RULES, iv (3 : Int32), iv (3 : Int32), rv b1_173, rv b1_176, iv ii, iv ii, rv xx, rv xx, .unset] [(.int ii), (.ref b1_176)]) := by
          intro t k
          refine k197 t ?_
          refine XS.astore X176.here hx rfl (hb hby at_164) rfl rfl (l' := #[iv p1, iv p2, iv p3, iv p4, iv (3 : Int32), rv w_MANY_RULES, iv (3 : Int32), iv (3 : Int32), rv b1_173, rv b1_176, iv ii, iv ii, rv xx, rv xx, .unset]) rfl ?_
          show Steps p.tables e below (T176.setTop (mkF m 166 #[iv p1, iv p2, iv p3, iv p4, iv (3 : Int32), rv w_MANY_RULES, iv (3 : Int32), iv (3 : Int32), rv b1_173, rv b1_176, iv ii, iv ii, rv xx, rv xx, .unset] [])) _
          refine XS.aload X176.here hx rfl (hb hby at_166) rfl rfl ?_
          show Steps p.tables e below (T176.setTop (mkF m 168 #[iv p1, iv p2, iv p3, iv p4, iv (3 : Int32), rv w_MANY_RULES, iv (3 : Int32), iv (3 : Int32), rv b1_173, rv b1_176, iv ii, iv ii, rv xx, rv xx, .unset] [(.ref b1_176)])) _
          refine XS.iload X176.here hx rfl (hb hby at_168) rfl ?_
          show Steps p.tables e below (T176.setTop (mkF m 170 #[iv p1, iv p2, iv p3, iv p4, iv (3 : Int32), rv w_MANY_RULES, iv (3 : Int32), iv (3 : Int32), rv b1_173, rv b1_176, iv ii, iv ii, rv xx, rv xx, .unset] [(.int ii), (.ref b1_176)])) _
          exact k
        obtain ⟨cl199, Ar199, qc199, S199, M199, U199, G199⟩ := id (po176_1)
        have hin199 : ¬ (ii < 0 ∨ cl199.slots.size ≤ (ii).toNatClampNeg) := inb_of S199 hbii
        have hat199 : cl199.slots[(ii).toNatClampNeg]? = some (.ref zz) := Has.at U199 hin199 gz
        have k200 : Way p e below S0 T176 (mkF m 171 #[iv p1, iv p2, iv p3, iv p4, iv (3 : Int32), rv w_MANY_RULES, iv (3 : Int32), iv (3 : Int32), rv b1_173, rv b1_176, iv ii, iv ii, rv xx, rv xx, .unset] [(.ref zz)]) := fun t k => k198 t (X176.aaload hx (j := ii) (v := (.ref zz)) Ar199.1 (State.isArrayOf_alike hZ.alike Ar199.2.1) rfl Ar199.2.2 hin199 hat199 (g := (mkF m 170 #[iv p1, iv p2, iv p3, iv p4, iv (3 : Int32), rv w_MANY_RULES, iv (3 : Int32), iv (3 : Int32), rv b1_173, rv b1_176, iv ii, iv ii, rv xx, rv xx, .unset] [(.int ii), (.ref b1_176)])) rfl rfl (hb hby at_170) _ k)
        have k201 : Way p e below S0 T176 (mkF m 173 #[iv p1, iv p2, iv p3, iv p4, iv (3 : Int32), rv w_MANY_RULES, iv (3 : Int32), iv (3 : Int32), rv b1_173, rv b1_176, iv ii, iv ii, rv xx, rv xx, rv zz] []) := by
          intro t k
          refine k200 t ?_
          refine XS.astore X176.here hx rfl (hb hby at_171) rfl rfl (l' := #[iv p1, iv p2, iv p3, iv p4, iv (3 : Int32), rv w_MANY_RULES, iv (3 : Int32), iv (3 : Int32), rv b1_173, rv b1_176, iv ii, iv ii, rv xx, rv xx, rv zz]) rfl ?_
          show Steps p.tables e below (T176.setTop (mkF m 173 #[iv p1, iv p2, iv p3, iv p4, iv (3 : Int32), rv w_MANY_RULES, iv (3 : Int32), iv (3 : Int32), rv b1_173, rv b1_176, iv ii, iv ii, rv xx, rv xx, rv zz] [])) _
          exact k
        obtain ⟨T202, lc202, X202, N202, e202, st202⟩ := tail_same w_POOL w_NO_RULE w_ONE_RULE w_MANY_RULES G p1 p2 p3 p4 (3 : Int32) w_MANY_RULES (3 : Int32) (3 : Int32) b1_173 b1_176 ii xx zz X176 hx hZ hw hby hml hown O176 N176 (by decide) (by decide) rfl Ex Ez (nez : zz ≠ xx)
        have k203 : Way p e below S0 T202 (mkF m 314 #[iv p1, iv p2, iv p3, iv p4, iv (3 : Int32), rv w_MANY_RULES, iv (3 : Int32), iv (3 : Int32), rv b1_173, rv b1_176, iv ii, iv ii, rv xx, rv xx, rv zz] [(.int (1 : Int32))]) := fun t k => k201 t (st202 _ k)
        obtain ⟨fs, hr, hrun, hended, hW, hsame⟩ := X202.leave (v := some (.int (1 : Int32))) (fun h => by rw [Bd.returns] at h; cases h)
        refine ⟨_, _, k203 _ (retN X202 hx (t := .boolean) Bd.returns (by simp) (hb hby at_314) hr), hrun, hended, _, _, rfl, ?_, ⟨_, rfl⟩, hW, hsame.mono (by decide) (by decide)⟩
        show Q_law_met Z w_POOL w_NO_RULE w_ONE_RULE w_MANY_RULES p1 p2 p3 p4 h0 n0 _ T202.heap _
        rw [e202]
        exact ⟨rfl, N202⟩
      · obtain ⟨xx, yy, zz, gx, gy, gz, Ex, Ey, Ez, nez, ney⟩ : ∃ x y z : Addr, ([(.ref x0_173), (.ref x1_173), (.ref x2_173)] : List Value).getD ii.toNatClampNeg .null = .ref x ∧ ([(.ref x0_173), (.ref x1_173), (.ref x2_173)] : List Value).getD jj.toNatClampNeg .null = .ref y ∧ ([(.ref x0_176), (.ref x1_176), (.ref x2_176)] : List Value).getD ii.toNatClampNeg .null = .ref z ∧ Exa Z T176.heap x "com/example/rulework/bench/Burst$SelfConflictingRule" ∧ Exa Z T176.heap y "com/example/rulework/bench/Burst$SelfConflictingRule" ∧ Exa Z T176.heap z "com/example/rulework/bench/Burst$SelfConflictingRule" ∧ z ≠ x ∧ y ≠ x := by
          rcases hrii with rfl | rfl | rfl
          · rcases hrjj with rfl | rfl | rfl
            · exact absurd rfl hc191
            · exact ⟨x0_173, x1_173, x0_176, rfl, rfl, rfl, f188, f189, po176_3, (Ne.symm (Nat.ne_of_lt (Nat.lt_of_lt_of_le po173_3.lt po176_2))), (Ne.symm po173_8)⟩
            · exact ⟨x0_173, x2_173, x0_176, rfl, rfl, rfl, f188, f190, po176_3, (Ne.symm (Nat.ne_of_lt (Nat.lt_of_lt_of_le po173_3.lt po176_2))), (Ne.symm po173_9)⟩
          · rcases hrjj with rfl | rfl | rfl
            · exact ⟨x1_173, x0_173, x1_176, rfl, rfl, rfl, f189, f188, po176_5, (Ne.symm (Nat.ne_of_lt (Nat.lt_of_lt_of_le po173_5.lt po176_4))), po173_8⟩
            · exact absurd rfl hc191
            · exact ⟨x1_173, x2_173, x1_176, rfl, rfl, rfl, f189, f190, po176_5, (Ne.symm (Nat.ne_of_lt (Nat.lt_of_lt_of_le po173_5.lt po176_4))), (Ne.symm po173_10)⟩
          · rcases hrjj with rfl | rfl | rfl
            · exact ⟨x2_173, x0_173, x2_176, rfl, rfl, rfl, f190, f188, po176_7, (Ne.symm (Nat.ne_of_lt (Nat.lt_of_lt_of_le po173_7.lt po176_6))), po173_9⟩
            · exact ⟨x2_173, x1_173, x2_176, rfl, rfl, rfl, f190, f189, po176_7, (Ne.symm (Nat.ne_of_lt (Nat.lt_of_lt_of_le po173_7.lt po176_6))), po173_10⟩
            · exact absurd rfl hc191
        have k204 : Way p e below S0 T176 (mkF m 156 #[iv p1, iv p2, iv p3, iv p4, iv (3 : Int32), rv w_MANY_RULES, iv (3 : Int32), iv (3 : Int32), rv b1_173, rv b1_176, iv ii, iv jj, .unset, .unset, .unset] [(.int ii), (.ref b1_173)]) := by
          intro t k
          refine k187 t ?_
          refine XS.aload X176.here hx rfl (hb hby at_152) rfl rfl ?_
          show Steps p.tables e below (T176.setTop (mkF m 154 #[iv p1, iv p2, iv p3, iv p4, iv (3 : Int32), rv w_MANY_RULES, iv (3 : Int32), iv (3 : Int32), rv b1_173, rv b1_176, iv ii, iv jj, .unset, .unset, .unset] [(.ref b1_173)])) _
          refine XS.iload X176.here hx rfl (hb hby at_154) rfl ?_
          show Steps p.tables e below (T176.setTop (mkF m 156 #[iv p1, iv p2, iv p3, iv p4, iv (3 : Int32), rv w_MANY_RULES, iv (3 : Int32), iv (3 : Int32), rv b1_173, rv b1_176, iv ii, iv jj, .unset, .unset, .unset] [(.int ii), (.ref b1_173)])) _
          exact k
        obtain ⟨cl205, Ar205, qc205, S205, M205, U205, G205⟩ := id (f179)
        have hin205 : ¬ (ii < 0 ∨ cl205.slots.size ≤ (ii).toNatClampNeg) := inb_of S205 hbii
        have hat205 : cl205.slots[(ii).toNatClampNeg]? = some (.ref xx) := Has.at U205 hin205 gx
        have k206 : Way p e below S0 T176 (mkF m 157 #[iv p1, iv p2, iv p3, iv p4, iv (3 : Int32), rv w_MANY_RULES, iv (3 : Int32), iv (3 : Int32), rv b1_173, rv b1_176, iv ii, iv jj, .unset, .unset, .unset] [(.ref xx)]) := fun t k => k204 t (X176.aaload hx (j := ii) (v := (.ref xx)) Ar205.1 (State.isArrayOf_alike hZ.alike Ar205.2.1) rfl Ar205.2.2 hin205 hat205 (g := (mkF m 156 #[iv p1, iv p2, iv p3, iv p4, iv (3 : Int32), rv w_MANY_RULES, iv (3 : Int32), iv (3 : Int32), rv b1_173, rv b1_176, iv ii, iv jj, .unset, .unset, .unset] [(.int ii), (.ref b1_173)])) rfl rfl (hb hby at_156) _ k)
        have k207 : Way p e below S0 T176 (mkF m 163 #[iv p1, iv p2, iv p3, iv p4, iv (3 : Int32), rv w_MANY_RULES, iv (3 : Int32), iv (3 : Int32), rv b1_173, rv b1_176, iv ii, iv jj, rv xx, .unset, .unset] [(.int jj), (.ref b1_173)]) := by
          intro t k
          refine k206 t ?_
          refine XS.astore X176.here hx rfl (hb hby at_157) rfl rfl (l' := #[iv p1, iv p2, iv p3, iv p4, iv (3 : Int32), rv w_MANY_RULES, iv (3 : Int32), iv (3 : Int32), rv b1_173, rv b1_176, iv ii, iv jj, rv xx, .unset, .unset]) rfl ?_
          show Steps p.tables e below (T176.setTop (mkF m 159 #[iv p1, iv p2, iv p3, iv p4, iv (3 : Int32), rv w_MANY_RULES, iv (3 : Int32), iv (3 : Int32), rv b1_173, rv b1_176, iv ii, iv jj, rv xx, .unset, .unset] [])) _
          refine XS.aload X176.here hx rfl (hb hby at_159) rfl rfl ?_
          show Steps p.tables e below (T176.setTop (mkF m 161 #[iv p1, iv p2, iv p3, iv p4, iv (3 : Int32), rv w_MANY_RULES, iv (3 : Int32), iv (3 : Int32), rv b1_173, rv b1_176, iv ii, iv jj, rv xx, .unset, .unset] [(.ref b1_173)])) _
          refine XS.iload X176.here hx rfl (hb hby at_161) rfl ?_
          show Steps p.tables e below (T176.setTop (mkF m 163 #[iv p1, iv p2, iv p3, iv p4, iv (3 : Int32), rv w_MANY_RULES, iv (3 : Int32), iv (3 : Int32), rv b1_173, rv b1_176, iv ii, iv jj, rv xx, .unset, .unset] [(.int jj), (.ref b1_173)])) _
          exact k
        obtain ⟨cl208, Ar208, qc208, S208, M208, U208, G208⟩ := id (f179)
        have hin208 : ¬ (jj < 0 ∨ cl208.slots.size ≤ (jj).toNatClampNeg) := inb_of S208 hbjj
        have hat208 : cl208.slots[(jj).toNatClampNeg]? = some (.ref yy) := Has.at U208 hin208 gy
        have k209 : Way p e below S0 T176 (mkF m 164 #[iv p1, iv p2, iv p3, iv p4, iv (3 : Int32), rv w_MANY_RULES, iv (3 : Int32), iv (3 : Int32), rv b1_173, rv b1_176, iv ii, iv jj, rv xx, .unset, .unset] [(.ref yy)]) := fun t k => k207 t (X176.aaload hx (j := jj) (v := (.ref yy)) Ar208.1 (State.isArrayOf_alike hZ.alike Ar208.2.1) rfl Ar208.2.2 hin208 hat208 (g := (mkF m 163 #[iv p1, iv p2, iv p3, iv p4, iv (3 : Int32), rv w_MANY_RULES, iv (3 : Int32), iv (3 : Int32), rv b1_173, rv b1_176, iv ii, iv jj, rv xx, .unset, .unset] [(.int jj), (.ref b1_173)])) rfl rfl (hb hby at_163) _ k)
        have k210 : Way p e below S0 T176 (mkF m 170 #[iv p1, iv p2, iv p3, iv p4, iv (3 : Int32), rv w_MANY_RULES, iv (3 : Int32), iv (3 : Int32), rv b1_173, rv b1_176, iv ii, iv jj, rv xx, rv yy, .unset] [(.int ii), (.ref b1_176)]) := by
          intro t k
          refine k209 t ?_
          refine XS.astore X176.here hx rfl (hb hby at_164) rfl rfl (l' := #[iv p1, iv p2, iv p3, iv p4, iv (3 : Int32), rv w_MANY_RULES, iv (3 : Int32), iv (3 : Int32), rv b1_173, rv b1_176, iv ii, iv jj, rv xx, rv yy, .unset]) rfl ?_
          show Steps p.tables e below (T176.setTop (mkF m 166 #[iv p1, iv p2, iv p3, iv p4, iv (3 : Int32), rv w_MANY_RULES, iv (3 : Int32), iv (3 : Int32), rv b1_173, rv b1_176, iv ii, iv jj, rv xx, rv yy, .unset] [])) _
          refine XS.aload X176.here hx rfl (hb hby at_166) rfl rfl ?_
          show Steps p.tables e below (T176.setTop (mkF m 168 #[iv p1, iv p2, iv p3, iv p4, iv (3 : Int32), rv w_MANY_RULES, iv (3 : Int32), iv (3 : Int32), rv b1_173, rv b1_176, iv ii, iv jj, rv xx, rv yy, .unset] [(.ref b1_176)])) _
          refine XS.iload X176.here hx rfl (hb hby at_168) rfl ?_
          show Steps p.tables e below (T176.setTop (mkF m 170 #[iv p1, iv p2, iv p3, iv p4, iv (3 : Int32), rv w_MANY_RULES, iv (3 : Int32), iv (3 : Int32), rv b1_173, rv b1_176, iv ii, iv jj, rv xx, rv yy, .unset] [(.int ii), (.ref b1_176)])) _
          exact k
        obtain ⟨cl211, Ar211, qc211, S211, M211, U211, G211⟩ := id (po176_1)
        have hin211 : ¬ (ii < 0 ∨ cl211.slots.size ≤ (ii).toNatClampNeg) := inb_of S211 hbii
        have hat211 : cl211.slots[(ii).toNatClampNeg]? = some (.ref zz) := Has.at U211 hin211 gz
        have k212 : Way p e below S0 T176 (mkF m 171 #[iv p1, iv p2, iv p3, iv p4, iv (3 : Int32), rv w_MANY_RULES, iv (3 : Int32), iv (3 : Int32), rv b1_173, rv b1_176, iv ii, iv jj, rv xx, rv yy, .unset] [(.ref zz)]) := fun t k => k210 t (X176.aaload hx (j := ii) (v := (.ref zz)) Ar211.1 (State.isArrayOf_alike hZ.alike Ar211.2.1) rfl Ar211.2.2 hin211 hat211 (g := (mkF m 170 #[iv p1, iv p2, iv p3, iv p4, iv (3 : Int32), rv w_MANY_RULES, iv (3 : Int32), iv (3 : Int32), rv b1_173, rv b1_176, iv ii, iv jj, rv xx, rv yy, .unset] [(.int ii), (.ref b1_176)])) rfl rfl (hb hby at_170) _ k)
        have k213 : Way p e below S0 T176 (mkF m 173 #[iv p1, iv p2, iv p3, iv p4, iv (3 : Int32), rv w_MANY_RULES, iv (3 : Int32), iv (3 : Int32), rv b1_173, rv b1_176, iv ii, iv jj, rv xx, rv yy, rv zz] []) := by
          intro t k
          refine k212 t ?_
          refine XS.astore X176.here hx rfl (hb hby at_171) rfl rfl (l' := #[iv p1, iv p2, iv p3, iv p4, iv (3 : Int32), rv w_MANY_RULES, iv (3 : Int32), iv (3 : Int32), rv b1_173, rv b1_176, iv ii, iv jj, rv xx, rv yy, rv zz]) rfl ?_
          show Steps p.tables e below (T176.setTop (mkF m 173 #[iv p1, iv p2, iv p3, iv p4, iv (3 : Int32), rv w_MANY_RULES, iv (3 : Int32), iv (3 : Int32), rv b1_173, rv b1_176, iv ii, iv jj, rv xx, rv yy, rv zz] [])) _
          exact k
        obtain ⟨T214, lc214, X214, N214, e214, st214⟩ := tail_other w_POOL w_NO_RULE w_ONE_RULE w_MANY_RULES G p1 p2 p3 p4 (3 : Int32) w_MANY_RULES (3 : Int32) (3 : Int32) b1_173 b1_176 ii jj xx yy zz X176 hx hZ hw hby hml hown O176 N176 (by decide) (by decide) rfl Ex Ez (nez : zz ≠ xx) Ey (ney : yy ≠ xx) (hc191 : ¬ (ii = jj))
        have k215 : Way p e below S0 T214 (mkF m 314 #[iv p1, iv p2, iv p3, iv p4, iv (3 : Int32), rv w_MANY_RULES, iv (3 : Int32), iv (3 : Int32), rv b1_173, rv b1_176, iv ii, iv jj, rv xx, rv yy, rv zz] [(.int (1 : Int32))]) := fun t k => k213 t (st214 _ k)
        obtain ⟨fs, hr, hrun, hended, hW, hsame⟩ := X214.leave (v := some (.int (1 : Int32))) (fun h => by rw [Bd.returns] at h; cases h)
        refine ⟨_, _, k215 _ (retN X214 hx (t := .boolean) Bd.returns (by simp) (hb hby at_314) hr), hrun, hended, _, _, rfl, ?_, ⟨_, rfl⟩, hW, hsame.mono (by decide) (by decide)⟩
        show Q_law_met Z w_POOL w_NO_RULE w_ONE_RULE w_MANY_RULES p1 p2 p3 p4 h0 n0 _ T214.heap _
        rw [e214]
        exact ⟨rfl, N214⟩
    · have k216 : Way p e below S0 T76 (mkF m 75 #[iv p1, iv p2, iv p3, iv p4, iv (3 : Int32), rv w_MANY_RULES, iv (4 : Int32), .unset, .unset, .unset, .unset, .unset, .unset, .unset, .unset] []) := by have q := k78; rw [hi79] at q; exact q
      have k217 : Way p e below S0 T76 (mkF m 83 #[iv p1, iv p2, iv p3, iv p4, iv (3 : Int32), rv w_MANY_RULES, iv (4 : Int32), iv (4 : Int32), .unset, .unset, .unset, .unset, .unset, .unset, .unset] [(.int (4 : Int32)), (.ref w_MANY_RULES)]) := by
        intro t k
        refine k216 t ?_
        refine XS.iload X76.here hx rfl (hb hby at_75) rfl ?_
        show Steps p.tables e below (T76.setTop (mkF m 77 #[iv p1, iv p2, iv p3, iv p4, iv (3 : Int32), rv w_MANY_RULES, iv (4 : Int32), .unset, .unset, .unset, .unset, .unset, .unset, .unset, .unset] [(.int (4 : Int32))])) _
        refine XS.istore X76.here hx rfl (hb hby at_77) rfl (l' := #[iv p1, iv p2, iv p3, iv p4, iv (3 : Int32), rv w_MANY_RULES, iv (4 : Int32), iv (4 : Int32), .unset, .unset, .unset, .unset, .unset, .unset, .unset]) rfl ?_
        show Steps p.tables e below (T76.setTop (mkF m 79 #[iv p1, iv p2, iv p3, iv p4, iv (3 : Int32), rv w_MANY_RULES, iv (4 : Int32), iv (4 : Int32), .unset, .unset, .unset, .unset, .unset, .unset, .unset] [])) _
        refine XS.aload X76.here hx rfl (hb hby at_79) rfl rfl ?_
        show Steps p.tables e below (T76.setTop (mkF m 81 #[iv p1, iv p2, iv p3, iv p4, iv (3 : Int32), rv w_MANY_RULES, iv (4 : Int32), iv (4 : Int32), .unset, .unset, .unset, .unset, .unset, .unset, .unset] [(.ref w_MANY_RULES)])) _
        refine XS.iload X76.here hx rfl (hb hby at_81) rfl ?_
        show Steps p.tables e below (T76.setTop (mkF m 83 #[iv p1, iv p2, iv p3, iv p4, iv (3 : Int32), rv w_MANY_RULES, iv (4 : Int32), iv (4 : Int32), .unset, .unset, .unset, .unset, .unset, .unset, .unset] [(.int (4 : Int32)), (.ref w_MANY_RULES)])) _
        exact k
      obtain ⟨cq218, kq218, qq218a, qq218b, qq218c⟩ := isOf hZ e76 (E_w_MANY_RULES.ext O0.2)
      obtain ⟨_, _, ⟨T218, L218, kk218, nn218⟩, -, X218, ⟨Lc218, hQ218, l218, y218, z218⟩, st218⟩ := X76.virtualBack hx (y := (⟨"com/example/rulework/bench/Burst", "makeRules", "(I)[Lcom/example/rulework/rulework/SchedulingRule;"⟩ : MethodName)) (z := (⟨"com/example/rulework/bench/Burst", "makeRules", "(I)[Lcom/example/rulework/rulework/SchedulingRule;"⟩ : MethodName)) hown (mvT hZ (hw _ (List.mem_of_getElem? (i := 3) rfl))) (mvT hZ (hw _ (List.mem_of_getElem? (i := 4) rfl))) (notFace_of_selects (args := #[]) (mvT hZ (hw _ (List.mem_of_getElem? (i := 6) rfl)))) (mvT hZ (hw _ (List.mem_of_getElem? (i := 6) rfl))) (mvT hZ (hw _ (List.mem_of_getElem? (i := 5) rfl))) (by decide) (backOf (W := 0) (mkm4 l Z a0 hw [] w_POOL w_NO_RULE w_ONE_RULE w_MANY_RULES G  h0 n0 O0 ) hZ (hw _ (List.mem_of_getElem? (i := 7) rfl)) (hw _ (List.mem_of_getElem? (i := 1) rfl)) (by decide) (by decide)) qq218a qq218c (g := (mkF m 83 #[iv p1, iv p2, iv p3, iv p4, iv (3 : Int32), rv w_MANY_RULES, iv (4 : Int32), iv (4 : Int32), .unset, .unset, .unset, .unset, .unset, .unset, .unset] [(.int (4 : Int32)), (.ref w_MANY_RULES)])) rfl (by rw [hml]; rfl) (Steps.refl _) (argsL := [(.int (4 : Int32))]) (rest := []) (lenOf pd_4 rfl) rfl (by show 2 * 0 + _ ≤ _; exact Nat.le_of_eq rfl) (hb hby at_83) (fun _ _ => ⟨rfl, e76, (by decide : 0 + 5 ≤ _), (by decide : 0 + 4 ≤ _)⟩)
      dsimp only [Pt.U, Pt.locs, Pt.cells, Pt.slots] at X218 l218 y218 z218 st218 hQ218
      subst l218 y218 z218
      obtain ⟨b1_218, kc_218, x0_218, x1_218, x2_218, x3_218, rfl, Nq218, Kq218, po218_0, po218_1, po218_2, po218_3, po218_4, po218_5, po218_6, po218_7, po218_8, po218_9, po218_10, po218_11, po218_12, po218_13, po218_14, po218_15⟩ := hQ218
      have N218 := Fr.app N0 Nq218
      have O218 := O0.keep Kq218 all0
      have k219 : Way p e below S0 T218 (mkF m 86 #[iv p1, iv p2, iv p3, iv p4, iv (3 : Int32), rv w_MANY_RULES, iv (4 : Int32), iv (4 : Int32), .unset, .unset, .unset, .unset, .unset, .unset, .unset] [(.ref b1_218)]) := fun t k => k217 t (st218.trans k)
      have k220 : Way p e below S0 T218 (mkF m 92 #[iv p1, iv p2, iv p3, iv p4, iv (3 : Int32), rv w_MANY_RULES, iv (4 : Int32), iv (4 : Int32), rv b1_218, .unset, .unset, .unset, .unset, .unset, .unset] [(.int (4 : Int32)), (.ref w_MANY_RULES)]) := by
        intro t k
        refine k219 t ?_
        refine XS.astore X218.here hx rfl (hb hby at_86) rfl rfl (l' := #[iv p1, iv p2, iv p3, iv p4, iv (3 : Int32), rv w_MANY_RULES, iv (4 : Int32), iv (4 : Int32), rv b1_218, .unset, .unset, .unset, .unset, .unset, .unset]) rfl ?_
        show Steps p.tables e below (T218.setTop (mkF m 88 #[iv p1, iv p2, iv p3, iv p4, iv (3 : Int32), rv w_MANY_RULES, iv (4 : Int32), iv (4 : Int32), rv b1_218, .unset, .unset, .unset, .unset, .unset, .unset] [])) _
        refine XS.aload X218.here hx rfl (hb hby at_88) rfl rfl ?_
        show Steps p.tables e below (T218.setTop (mkF m 90 #[iv p1, iv p2, iv p3, iv p4, iv (3 : Int32), rv w_MANY_RULES, iv (4 : Int32), iv (4 : Int32), rv b1_218, .unset, .unset, .unset, .unset, .unset, .unset] [(.ref w_MANY_RULES)])) _
        refine XS.iload X218.here hx rfl (hb hby at_90) rfl ?_
        show Steps p.tables e below (T218.setTop (mkF m 92 #[iv p1, iv p2, iv p3, iv p4, iv (3 : Int32), rv w_MANY_RULES, iv (4 : Int32), iv (4 : Int32), rv b1_218, .unset, .unset, .unset, .unset, .unset, .unset] [(.int (4 : Int32)), (.ref w_MANY_RULES)])) _
        exact k
      obtain ⟨cq221, kq221, qq221a, qq221b, qq221c⟩ := isOf hZ rfl (E_w_MANY_RULES.ext O218.2)
      obtain ⟨_, _, ⟨T221, L221, kk221, nn221⟩, -, X221, ⟨Lc221, hQ221, l221, y221, z221⟩, st221⟩ := X218.virtualBack hx (y := (⟨"com/example/rulework/bench/Burst", "makeRules", "(I)[Lcom/example/rulework/rulework/SchedulingRule;"⟩ : MethodName)) (z := (⟨"com/example/rulework/bench/Burst", "makeRules", "(I)[Lcom/example/rulework/rulework/SchedulingRule;"⟩ : MethodName)) hown (mvT hZ (hw _ (List.mem_of_getElem? (i := 3) rfl))) (mvT hZ (hw _ (List.mem_of_getElem? (i := 4) rfl))) (notFace_of_selects (args := #[]) (mvT hZ (hw _ (List.mem_of_getElem? (i := 6) rfl)))) (mvT hZ (hw _ (List.mem_of_getElem? (i := 6) rfl))) (mvT hZ (hw _ (List.mem_of_getElem? (i := 5) rfl))) (by decide) (backOf (W := 0) (mkm4 l Z a0 hw [] w_POOL w_NO_RULE w_ONE_RULE w_MANY_RULES G  T218.heap n0 O218 ) hZ (hw _ (List.mem_of_getElem? (i := 7) rfl)) (hw _ (List.mem_of_getElem? (i := 1) rfl)) (by decide) (by decide)) qq221a qq221c (g := (mkF m 92 #[iv p1, iv p2, iv p3, iv p4, iv (3 : Int32), rv w_MANY_RULES, iv (4 : Int32), iv (4 : Int32), rv b1_218, .unset, .unset, .unset, .unset, .unset, .unset] [(.int (4 : Int32)), (.ref w_MANY_RULES)])) rfl (by rw [hml]; rfl) (Steps.refl _) (argsL := [(.int (4 : Int32))]) (rest := []) (lenOf pd_4 rfl) rfl (by show 2 * 0 + _ ≤ _; exact Nat.le_of_eq rfl) (hb hby at_92) (fun _ _ => ⟨rfl, rfl, (by decide : 5 + 5 ≤ _), (by decide : 4 + 4 ≤ _)⟩)
      dsimp only [Pt.U, Pt.locs, Pt.cells, Pt.slots] at X221 l221 y221 z221 st221 hQ221
      subst l221 y221 z221
      obtain ⟨b1_221, kc_221, x0_221, x1_221, x2_221, x3_221, rfl, Nq221, Kq221, po221_0, po221_1, po221_2, po221_3, po221_4, po221_5, po221_6, po221_7, po221_8, po221_9, po221_10, po221_11, po221_12, po221_13, po221_14, po221_15⟩ := hQ221
      have N221 := Fr.app N218 Nq221
      have O221 := O218.keep Kq221 all0
      have k222 : Way p e below S0 T221 (mkF m 95 #[iv p1, iv p2, iv p3, iv p4, iv (3 : Int32), rv w_MANY_RULES, iv (4 : Int32), iv (4 : Int32), rv b1_218, .unset, .unset, .unset, .unset, .unset, .unset] [(.ref b1_221)]) := fun t k => k220 t (st221.trans k)
      have k223 : Way p e below S0 T221 (mkF m 111 #[iv p1, iv p2, iv p3, iv p4, iv (3 : Int32), rv w_MANY_RULES, iv (4 : Int32), iv (4 : Int32), rv b1_218, rv b1_221, .unset, .unset, .unset, .unset, .unset] [(.ref b1_218)]) := by
        intro t k
        refine k222 t ?_
        refine XS.astore X221.here hx rfl (hb hby at_95) rfl rfl (l' := #[iv p1, iv p2, iv p3, iv p4, iv (3 : Int32), rv w_MANY_RULES, iv (4 : Int32), iv (4 : Int32), rv b1_218, rv b1_221, .unset, .unset, .unset, .unset, .unset]) rfl ?_
        show Steps p.tables e below (T221.setTop (mkF m 97 #[iv p1, iv p2, iv p3, iv p4, iv (3 : Int32), rv w_MANY_RULES, iv (4 : Int32), iv (4 : Int32), rv b1_218, rv b1_221, .unset, .unset, .unset, .unset, .unset] [])) _
        refine XS.aload X221.here hx rfl (hb hby at_97) rfl rfl ?_
        show Steps p.tables e below (T221.setTop (mkF m 99 #[iv p1, iv p2, iv p3, iv p4, iv (3 : Int32), rv w_MANY_RULES, iv (4 : Int32), iv (4 : Int32), rv b1_218, rv b1_221, .unset, .unset, .unset, .unset, .unset] [(.ref b1_218)])) _
        refine XS.ifnullNo X221.here hx rfl (hb hby at_99) rfl ?_
        show Steps p.tables e below (T221.setTop (mkF m 102 #[iv p1, iv p2, iv p3, iv p4, iv (3 : Int32), rv w_MANY_RULES, iv (4 : Int32), iv (4 : Int32), rv b1_218, rv b1_221, .unset, .unset, .unset, .unset, .unset] [])) _
        refine XS.aload X221.here hx rfl (hb hby at_102) rfl rfl ?_
        show Steps p.tables e below (T221.setTop (mkF m 104 #[iv p1, iv p2, iv p3, iv p4, iv (3 : Int32), rv w_MANY_RULES, iv (4 : Int32), iv (4 : Int32), rv b1_218, rv b1_221, .unset, .unset, .unset, .unset, .unset] [(.ref b1_221)])) _
        refine XS.ifnonnullYes X221.here hx rfl (pc0 := 104) (pc' := 109) rfl (hb hby at_104) rfl (by decide) (by decide) ?_
        show Steps p.tables e below (T221.setTop (mkF m 109 #[iv p1, iv p2, iv p3, iv p4, iv (3 : Int32), rv w_MANY_RULES, iv (4 : Int32), iv (4 : Int32), rv b1_218, rv b1_221, .unset, .unset, .unset, .unset, .unset] [])) _
        refine XS.aload X221.here hx rfl (hb hby at_109) rfl rfl ?_
        show Steps p.tables e below (T221.setTop (mkF m 111 #[iv p1, iv p2, iv p3, iv p4, iv (3 : Int32), rv w_MANY_RULES, iv (4 : Int32), iv (4 : Int32), rv b1_218, rv b1_221, .unset, .unset, .unset, .unset, .unset] [(.ref b1_218)])) _
        exact k
      have f224 : Arv Z T221.heap b1_218 kc_218 (.object "com/example/rulework/rulework/SchedulingRule") (4 : Int32) [(.ref x0_218), (.ref x1_218), (.ref x2_218), (.ref x3_218)] .null := (po218_1.keep Kq221 nin0)
      obtain ⟨cl225, Ar225, -, S225, M225, -, -⟩ := id (f224)
      have k226 : Way p e below S0 T221 (mkF m 112 #[iv p1, iv p2, iv p3, iv p4, iv (3 : Int32), rv w_MANY_RULES, iv (4 : Int32), iv (4 : Int32), rv b1_218, rv b1_221, .unset, .unset, .unset, .unset, .unset] [(.int (4 : Int32))]) := fun t k => k223 t (X221.arraylength hx (Ar225.1) (State.isArrayOf_alike hZ.alike Ar225.2.1) (g := (mkF m 111 #[iv p1, iv p2, iv p3, iv p4, iv (3 : Int32), rv w_MANY_RULES, iv (4 : Int32), iv (4 : Int32), rv b1_218, rv b1_221, .unset, .unset, .unset, .unset, .unset] [(.ref b1_218)])) rfl rfl (hb hby at_111) _ (by rw [len_of S225 M225]; exact k))
      have k227 : Way p e below S0 T221 (mkF m 119 #[iv p1, iv p2, iv p3, iv p4, iv (3 : Int32), rv w_MANY_RULES, iv (4 : Int32), iv (4 : Int32), rv b1_218, rv b1_221, .unset, .unset, .unset, .unset, .unset] [(.ref b1_221)]) := by
        intro t k
        refine k226 t ?_
        refine XS.iload X221.here hx rfl (hb hby at_112) rfl ?_
        show Steps p.tables e below (T221.setTop (mkF m 114 #[iv p1, iv p2, iv p3, iv p4, iv (3 : Int32), rv w_MANY_RULES, iv (4 : Int32), iv (4 : Int32), rv b1_218, rv b1_221, .unset, .unset, .unset, .unset, .unset] [(.int (4 : Int32)), (.int (4 : Int32))])) _
        refine XS.icmpNo X221.here hx rfl (hb hby at_114) rfl (teq ((by decide) : (4 : Int32) = (4 : Int32))).2 ?_
        show Steps p.tables e below (T221.setTop (mkF m 117 #[iv p1, iv p2, iv p3, iv p4, iv (3 : Int32), rv w_MANY_RULES, iv (4 : Int32), iv (4 : Int32), rv b1_218, rv b1_221, .unset, .unset, .unset, .unset, .unset] [])) _
        refine XS.aload X221.here hx rfl (hb hby at_117) rfl rfl ?_
        show Steps p.tables e below (T221.setTop (mkF m 119 #[iv p1, iv p2, iv p3, iv p4, iv (3 : Int32), rv w_MANY_RULES, iv (4 : Int32), iv (4 : Int32), rv b1_218, rv b1_221, .unset, .unset, .unset, .unset, .unset] [(.ref b1_221)])) _
        exact k
      obtain ⟨cl228, Ar228, -, S228, M228, -, -⟩ := id (po221_1)
      have k229 : Way p e below S0 T221 (mkF m 120 #[iv p1, iv p2, iv p3, iv p4, iv (3 : Int32), rv w_MANY_RULES, iv (4 : Int32), iv (4 : Int32), rv b1_218, rv b1_221, .unset, .unset, .unset, .unset, .unset] [(.int (4 : Int32))]) := fun t k => k227 t (X221.arraylength hx (Ar228.1) (State.isArrayOf_alike hZ.alike Ar228.2.1) (g := (mkF m 119 #[iv p1, iv p2, iv p3, iv p4, iv (3 : Int32), rv w_MANY_RULES, iv (4 : Int32), iv (4 : Int32), rv b1_218, rv b1_221, .unset, .unset, .unset, .unset, .unset] [(.ref b1_221)])) rfl rfl (hb hby at_119) _ (by rw [len_of S228 M228]; exact k))
      have k230 : Way p e below S0 T221 (mkF m 152 #[iv p1, iv p2, iv p3, iv p4, iv (3 : Int32), rv w_MANY_RULES, iv (4 : Int32), iv (4 : Int32), rv b1_218, rv b1_221, iv ((p3 &&& (2147483647 : Int32)) % (4 : Int32)), iv ((p4 &&& (2147483647 : Int32)) % (4 : Int32)), .unset, .unset, .unset] []) := by
        intro t k
        refine k229 t ?_
        refine XS.iload X221.here hx rfl (hb hby at_120) rfl ?_
        show Steps p.tables e below (T221.setTop (mkF m 122 #[iv p1, iv p2, iv p3, iv p4, iv (3 : Int32), rv w_MANY_RULES, iv (4 : Int32), iv (4 : Int32), rv b1_218, rv b1_221, .unset, .unset, .unset, .unset, .unset] [(.int (4 : Int32)), (.int (4 : Int32))])) _
        refine XS.icmpYes X221.here hx rfl (pc0 := 122) (pc' := 127) rfl (hb hby at_122) rfl (teq ((by decide) : (4 : Int32) = (4 : Int32))).1 (by decide) (by decide) ?_
        show Steps p.tables e below (T221.setTop (mkF m 127 #[iv p1, iv p2, iv p3, iv p4, iv (3 : Int32), rv w_MANY_RULES, iv (4 : Int32), iv (4 : Int32), rv b1_218, rv b1_221, .unset, .unset, .unset, .unset, .unset] [])) _
        refine XS.iload X221.here hx rfl (hb hby at_127) rfl ?_
        show Steps p.tables e below (T221.setTop (mkF m 129 #[iv p1, iv p2, iv p3, iv p4, iv (3 : Int32), rv w_MANY_RULES, iv (4 : Int32), iv (4 : Int32), rv b1_218, rv b1_221, .unset, .unset, .unset, .unset, .unset] [(.int (4 : Int32))])) _
        refine XS.ifYes X221.here hx rfl (pc0 := 129) (pc' := 134) rfl (hb hby at_129) rfl ((if0 _ _).trans (feq ((by decide) : ¬ ((4 : Int32) = (0 : Int32)))).2) (by decide) (by decide) ?_
        show Steps p.tables e below (T221.setTop (mkF m 134 #[iv p1, iv p2, iv p3, iv p4, iv (3 : Int32), rv w_MANY_RULES, iv (4 : Int32), iv (4 : Int32), rv b1_218, rv b1_221, .unset, .unset, .unset, .unset, .unset] [])) _
        refine XS.iloadN X221.here hx rfl (hb hby at_134) rfl ?_
        show Steps p.tables e below (T221.setTop (mkF m 135 #[iv p1, iv p2, iv p3, iv p4, iv (3 : Int32), rv w_MANY_RULES, iv (4 : Int32), iv (4 : Int32), rv b1_218, rv b1_221, .unset, .unset, .unset, .unset, .unset] [(.int p3)])) _
        refine X221.ldcInt hx hown (mvT hZ (hw _ (List.mem_of_getElem? (i := 36) rfl))) (g := (mkF m 135 #[iv p1, iv p2, iv p3, iv p4, iv (3 : Int32), rv w_MANY_RULES, iv (4 : Int32), iv (4 : Int32), rv b1_218, rv b1_221, .unset, .unset, .unset, .unset, .unset] [(.int p3)])) rfl (hb hby at_135) _ ?_
        show Steps p.tables e below (T221.setTop (mkF m 137 #[iv p1, iv p2, iv p3, iv p4, iv (3 : Int32), rv w_MANY_RULES, iv (4 : Int32), iv (4 : Int32), rv b1_218, rv b1_221, .unset, .unset, .unset, .unset, .unset] [(.int (2147483647 : Int32)), (.int p3)])) _
        refine XS.iand X221.here hx rfl (hb hby at_137) rfl ?_
        show Steps p.tables e below (T221.setTop (mkF m 138 #[iv p1, iv p2, iv p3, iv p4, iv (3 : Int32), rv w_MANY_RULES, iv (4 : Int32), iv (4 : Int32), rv b1_218, rv b1_221, .unset, .unset, .unset, .unset, .unset] [(.int (p3 &&& (2147483647 : Int32)))])) _
        refine XS.iload X221.here hx rfl (hb hby at_138) rfl ?_
        show Steps p.tables e below (T221.setTop (mkF m 140 #[iv p1, iv p2, iv p3, iv p4, iv (3 : Int32), rv w_MANY_RULES, iv (4 : Int32), iv (4 : Int32), rv b1_218, rv b1_221, .unset, .unset, .unset, .unset, .unset] [(.int (4 : Int32)), (.int (p3 &&& (2147483647 : Int32)))])) _
        refine iremM (g := (mkF m 140 #[iv p1, iv p2, iv p3, iv p4, iv (3 : Int32), rv w_MANY_RULES, iv (4 : Int32), iv (4 : Int32), rv b1_218, rv b1_221, .unset, .unset, .unset, .unset, .unset] [(.int (4 : Int32)), (.int (p3 &&& (2147483647 : Int32)))])) X221 hx rfl (hb hby at_140) rfl (by decide) ?_
        show Steps p.tables e below (T221.setTop (mkF m 141 #[iv p1, iv p2, iv p3, iv p4, iv (3 : Int32), rv w_MANY_RULES, iv (4 : Int32), iv (4 : Int32), rv b1_218, rv b1_221, .unset, .unset, .unset, .unset, .unset] [(.int ((p3 &&& (2147483647 : Int32)) % (4 : Int32)))])) _
        refine XS.istore X221.here hx rfl (hb hby at_141) rfl (l' := #[iv p1, iv p2, iv p3, iv p4, iv (3 : Int32), rv w_MANY_RULES, iv (4 : Int32), iv (4 : Int32), rv b1_218, rv b1_221, iv ((p3 &&& (2147483647 : Int32)) % (4 : Int32)), .unset, .unset, .unset, .unset]) rfl ?_
        show Steps p.tables e below (T221.setTop (mkF m 143 #[iv p1, iv p2, iv p3, iv p4, iv (3 : Int32), rv w_MANY_RULES, iv (4 : Int32), iv (4 : Int32), rv b1_218, rv b1_221, iv ((p3 &&& (2147483647 : Int32)) % (4 : Int32)), .unset, .unset, .unset, .unset] [])) _
        refine XS.iloadN X221.here hx rfl (hb hby at_143) rfl ?_
        show Steps p.tables e below (T221.setTop (mkF m 144 #[iv p1, iv p2, iv p3, iv p4, iv (3 : Int32), rv w_MANY_RULES, iv (4 : Int32), iv (4 : Int32), rv b1_218, rv b1_221, iv ((p3 &&& (2147483647 : Int32)) % (4 : Int32)), .unset, .unset, .unset, .unset] [(.int p4)])) _
        refine X221.ldcInt hx hown (mvT hZ (hw _ (List.mem_of_getElem? (i := 36) rfl))) (g := (mkF m 144 #[iv p1, iv p2, iv p3, iv p4, iv (3 : Int32), rv w_MANY_RULES, iv (4 : Int32), iv (4 : Int32), rv b1_218, rv b1_221, iv ((p3 &&& (2147483647 : Int32)) % (4 : Int32)), .unset, .unset, .unset, .unset] [(.int p4)])) rfl (hb hby at_144) _ ?_
        show Steps p.tables e below (T221.setTop (mkF m 146 #[iv p1, iv p2, iv p3, iv p4, iv (3 : Int32), rv w_MANY_RULES, iv (4 : Int32), iv (4 : Int32), rv b1_218, rv b1_221, iv ((p3 &&& (2147483647 : Int32)) % (4 : Int32)), .unset, .unset, .unset, .unset] [(.int (2147483647 : Int32)), (.int p4)])) _
        refine XS.iand X221.here hx rfl (hb hby at_146) rfl ?_
        show Steps p.tables e below (T221.setTop (mkF m 147 #[iv p1, iv p2, iv p3, iv p4, iv (3 : Int32), rv w_MANY_RULES, iv (4 : Int32), iv (4 : Int32), rv b1_218, rv b1_221, iv ((p3 &&& (2147483647 : Int32)) % (4 : Int32)), .unset, .unset, .unset, .unset] [(.int (p4 &&& (2147483647 : Int32)))])) _
        refine XS.iload X221.here hx rfl (hb hby at_147) rfl ?_
        show Steps p.tables e below (T221.setTop (mkF m 149 #[iv p1, iv p2, iv p3, iv p4, iv (3 : Int32), rv w_MANY_RULES, iv (4 : Int32), iv (4 : Int32), rv b1_218, rv b1_221, iv ((p3 &&& (2147483647 : Int32)) % (4 : Int32)), .unset, .unset, .unset, .unset] [(.int (4 : Int32)), (.int (p4 &&& (2147483647 : Int32)))])) _
        refine iremM (g := (mkF m 149 #[iv p1, iv p2, iv p3, iv p4, iv (3 : Int32), rv w_MANY_RULES, iv (4 : Int32), iv (4 : Int32), rv b1_218, rv b1_221, iv ((p3 &&& (2147483647 : Int32)) % (4 : Int32)), .unset, .unset, .unset, .unset] [(.int (4 : Int32)), (.int (p4 &&& (2147483647 : Int32)))])) X221 hx rfl (hb hby at_149) rfl (by decide) ?_
        show Steps p.tables e below (T221.setTop (mkF m 150 #[iv p1, iv p2, iv p3, iv p4, iv (3 : Int32), rv w_MANY_RULES, iv (4 : Int32), iv (4 : Int32), rv b1_218, rv b1_221, iv ((p3 &&& (2147483647 : Int32)) % (4 : Int32)), .unset, .unset, .unset, .unset] [(.int ((p4 &&& (2147483647 : Int32)) % (4 : Int32)))])) _
        refine XS.istore X221.here hx rfl (hb hby at_150) rfl (l' := #[iv p1, iv p2, iv p3, iv p4, iv (3 : Int32), rv w_MANY_RULES, iv (4 : Int32), iv (4 : Int32), rv b1_218, rv b1_221, iv ((p3 &&& (2147483647 : Int32)) % (4 : Int32)), iv ((p4 &&& (2147483647 : Int32)) % (4 : Int32)), .unset, .unset, .unset]) rfl ?_
        show Steps p.tables e below (T221.setTop (mkF m 152 #[iv p1, iv p2, iv p3, iv p4, iv (3 : Int32), rv w_MANY_RULES, iv (4 : Int32), iv (4 : Int32), rv b1_218, rv b1_221, iv ((p3 &&& (2147483647 : Int32)) % (4 : Int32)), iv ((p4 &&& (2147483647 : Int32)) % (4 : Int32)), .unset, .unset, .unset] [])) _
        exact k
      obtain ⟨ii, hii⟩ : ∃ z, ((p3 &&& (2147483647 : Int32)) % (4 : Int32)) = z := ⟨_, rfl⟩
      have k231 : Way p e below S0 T221 (mkF m 152 #[iv p1, iv p2, iv p3, iv p4, iv (3 : Int32), rv w_MANY_RULES, iv (4 : Int32), iv (4 : Int32), rv b1_218, rv b1_221, iv ii, iv ((p4 &&& (2147483647 : Int32)) % (4 : Int32)), .unset, .unset, .unset] []) := by have q := k230; rw [hii] at q; exact q
      obtain ⟨jj, hjj⟩ : ∃ z, ((p4 &&& (2147483647 : Int32)) % (4 : Int32)) = z := ⟨_, rfl⟩
      have k232 : Way p e below S0 T221 (mkF m 152 #[iv p1, iv p2, iv p3, iv p4, iv (3 : Int32), rv w_MANY_RULES, iv (4 : Int32), iv (4 : Int32), rv b1_218, rv b1_221, iv ii, iv jj, .unset, .unset, .unset] []) := by have q := k231; rw [hjj] at q; exact q
      have hrii : ii = (0 : Int32) ∨ ii = (1 : Int32) ∨ ii = (2 : Int32) ∨ ii = (3 : Int32) := by rw [← hii]; exact own_rem4 p3
      have hbii : ¬ (ii < 0) ∧ ii < (4 : Int32) := by rcases hrii with rfl | rfl | rfl | rfl <;> decide
      have hrjj : jj = (0 : Int32) ∨ jj = (1 : Int32) ∨ jj = (2 : Int32) ∨ jj = (3 : Int32) := by rw [← hjj]; exact own_rem4 p4
      have hbjj : ¬ (jj < 0) ∧ jj < (4 : Int32) := by rcases hrjj with rfl | rfl | rfl | rfl <;> decide
      have f233 : Exa Z T221.heap x0_218 "com/example/rulework/bench/Burst$SelfConflictingRule" := (po218_3.keep Kq221)
      have f234 : Exa Z T221.heap x1_218 "com/example/rulework/bench/Burst$SelfConflictingRule" := (po218_5.keep Kq221)
      have f235 : Exa Z T221.heap x2_218 "com/example/rulework/bench/Burst$SelfConflictingRule" := (po218_7.keep Kq221)
      have f236 : Exa Z T221.heap x3_218 "com/example/rulework/bench/Burst$SelfConflictingRule" := (po218_9.keep Kq221)
      by_cases hc237 : ii = jj
      · subst hc237
        obtain ⟨xx, zz, gx, gz, Ex, Ez, nez⟩ : ∃ x z : Addr, ([(.ref x0_218), (.ref x1_218), (.ref x2_218), (.ref x3_218)] : List Value).getD ii.toNatClampNeg .null = .ref x ∧ ([(.ref x0_221), (.ref x1_221), (.ref x2_221), (.ref x3_221)] : List Value).getD ii.toNatClampNeg .null = .ref z ∧ Exa Z T221.heap x "com/example/rulework/bench/Burst$SelfConflictingRule" ∧ Exa Z T221.heap z "com/example/rulework/bench/Burst$SelfConflictingRule" ∧ z ≠ x := by
          rcases hrii with rfl | rfl | rfl | rfl
          · exact ⟨x0_218, x0_221, rfl, rfl, f233, po221_3, (Ne.symm (Nat.ne_of_lt (Nat.lt_of_lt_of_le po218_3.lt po221_2)))⟩
          · exact ⟨x1_218, x1_221, rfl, rfl, f234, po221_5, (Ne.symm (Nat.ne_of_lt (Nat.lt_of_lt_of_le po218_5.lt po221_4)))⟩
          · exact ⟨x2_218, x2_221, rfl, rfl, f235, po221_7, (Ne.symm (Nat.ne_of_lt (Nat.lt_of_lt_of_le po218_7.lt po221_6)))⟩
          · exact ⟨x3_218, x3_221, rfl, rfl, f236, po221_9, (Ne.symm (Nat.ne_of_lt (Nat.lt_of_lt_of_le po218_9.lt po221_8)))⟩
        have k238 : Way p e below S0 T221 (mkF m 156 #[iv p1, iv p2, iv p3, iv p4, iv (3 : Int32), rv w_MANY_RULES, iv (4 : Int32), iv (4 : Int32), rv b1_218, rv b1_221, iv ii, iv ii, .unset, .unset, .unset] [(.int ii), (.ref b1_218)]) := by
          intro t k
          refine k232 t ?_
          refine XS.aload X221.here hx rfl (hb hby at_152) rfl rfl ?_
          show Steps p.tables e below (T221.setTop (mkF m 154 #[iv p1, iv p2, iv p3, iv p4, iv (3 : Int32), rv w_MANY_RULES, iv (4 : Int32), iv (4 : Int32), rv b1_218, rv b1_221, iv ii, iv ii, .unset, .unset, .unset] [(.ref b1_218)])) _
          refine XS.iload X221.here hx rfl (hb hby at_154) rfl ?_
          show Steps p.tables e below (T221.setTop (mkF m 156 #[iv p1, iv p2, iv p3, iv p4, iv (3 : Int32), rv w_MANY_RULES, iv (4 : Int32), iv (4 : Int32), rv b1_218, rv b1_221, iv ii, iv ii, .unset, .unset, .unset] [(.int ii), (.ref b1_218)])) _
          exact k
        obtain ⟨cl239, Ar239, qc239, S239, M239, U239, G239⟩ := id (f224)
        have hin239 : ¬ (ii < 0 ∨ cl239.slots.size ≤ (ii).toNatClampNeg) := inb_of S239 hbii
        have hat239 : cl239.slots[(ii).toNatClampNeg]? = some (.ref xx) := Has.at U239 hin239 gx
        have k240 : Way p e below S0 T221 (mkF m 157 #[iv p1, iv p2, iv p3, iv p4, iv (3 : Int32), rv w_MANY_RULES, iv (4 : Int32), iv (4 : Int32), rv b1_218, rv b1_221, iv ii, iv ii, .unset, .unset, .unset] [(.ref xx)]) := fun t k => k238 t (X221.aaload hx (j := ii) (v := (.ref xx)) Ar239.1 (State.isArrayOf_alike hZ.alike Ar239.2.1) rfl Ar239.2.2 hin239 hat239 (g := (mkF m 156 #[iv p1, iv p2, iv p3, iv p4, iv (3 : Int32), rv w_MANY_RULES, iv (4 : Int32), iv (4 : Int32), rv b1_218, rv b1_221, iv ii, iv ii, .unset, .unset, .unset] [(.int ii), (.ref b1_218)])) rfl rfl (hb hby at_156) _ k)
        have k241 : Way p e below S0 T221 (mkF m 163 #[iv p1, iv p2, iv p3, iv p4, iv (3 : Int32), rv w_MANY_RULES, iv (4 : Int32), iv (4 : Int32), rv b1_218, rv b1_221, iv ii, iv ii, rv xx, .unset, .unset] [(.int ii), (.ref b1_218)]) := by
          intro t k
          refine k240 t ?_
          refine XS.astore X221.here hx rfl (hb hby at_157) rfl rfl (l' := #[iv p1, iv p2, iv p3, iv p4, iv (3 : Int32), rv w_MANY_RULES, iv (4 : Int32), iv (4 : Int32), rv b1_218, rv b1_221, iv ii, iv ii, rv xx, .unset, .unset]) rfl ?_
          show Steps p.tables e below (T221.setTop (mkF m 159 #[iv p1, iv p2, iv p3, iv p4, iv (3 : Int32), rv w_MANY_RULES, iv (4 : Int32), iv (4 : Int32), rv b1_218, rv b1_221, iv ii, iv ii, rv xx, .unset, .unset] [])) _
          refine XS.aload X221.here hx rfl (hb hby at_159) rfl rfl ?_
          show Steps p.tables e below (T221.setTop (mkF m 161 #[iv p1, iv p2, iv p3, iv p4, iv (3 : Int32), rv w_MANY_RULES, iv (4 : Int32), iv (4 : Int32), rv b1_218, rv b1_221, iv ii, iv ii, rv xx, .unset, .unset] [(.ref b1_218)])) _
          refine XS.iload X221.here hx rfl (hb hby at_161) rfl ?_
          show Steps p.tables e below (T221.setTop (mkF m 163 #[iv p1, iv p2, iv p3, iv p4, iv (3 : Int32), rv w_MANY_RULES, iv (4 : Int32), iv (4 : Int32), rv b1_218, rv b1_221, iv ii, iv ii, rv xx, .unset, .unset] [(.int ii), (.ref b1_218)])) _
          exact k
        obtain ⟨cl242, Ar242, qc242, S242, M242, U242, G242⟩ := id (f224)
        have hin242 : ¬ (ii < 0 ∨ cl242.slots.size ≤ (ii).toNatClampNeg) := inb_of S242 hbii
        have hat242 : cl242.slots[(ii).toNatClampNeg]? = some (.ref xx) := Has.at U242 hin242 gx
        have k243 : Way p e below S0 T221 (mkF m 164 #[iv p1, iv p2, iv p3, iv p4, iv (3 : Int32), rv w_MANY_RULES, iv (4 : Int32), iv (4 : Int32), rv b1_218, rv b1_221, iv ii, iv ii, rv xx, .unset, .unset] [(.ref xx)]) := fun t k => k241 t (X221.aaload hx (j := ii) (v := (.ref xx)) Ar242.1 (State.isArrayOf_alike hZ.alike Ar242.2.1) rfl Ar242.2.2 hin242 hat242 (g := (mkF m 163 #[iv p1, iv p2, iv p3, iv p4, iv (3 : Int32), rv w_MANY_RULES, iv (4 : Int32), iv (4 : Int32), rv b1_218, rv b1_221, iv ii, iv ii, rv xx, .unset, .unset] [(.int ii), (.ref b1_218)])) rfl rfl (hb hby at_163) _ k)
        have k244 : Way p e below S0 T221 (mkF m 170 #[iv p1, iv p2, iv p3, iv p4, iv (3 : Int32), rv w_MANY_RULES, iv (4 : Int32), iv (4 : Int32), rv b1_218, rv b1_221, iv ii, iv ii, rv xx, rv xx, .unset] [(.int ii), (.ref b1_221)]) := by
          intro t k
          refine k243 t ?_
          refine XS.astore X221.here hx rfl (hb hby at_164) rfl rfl (l' := #[iv p1, iv p2, iv p3, iv p4, iv (3 : Int32), rv w_MANY_RULES, iv (4 : Int32), iv (4 : Int32), rv b1_218, rv b1_221, iv ii, iv ii, rv xx, rv xx, .unset]) rfl ?_
          show Steps p.tables e below (T221.setTop (mkF m 166 #[iv p1, iv p2, iv p3, iv p4, iv (3 : Int32), rv w_MANY_RULES, iv (4 : Int32), iv (4 : Int32), rv b1_218, rv b1_221, iv ii, iv ii, rv xx, rv xx, .unset] [])) _
          refine XS.aload X221.here hx rfl (hb hby at_166) rfl rfl ?_
          show Steps p.tables e below (T221.setTop (mkF m 168 #[iv p1, iv p2, iv p3, iv p4, iv (3 : Int32), rv w_MANY_RULES, iv (4 : Int32), iv (4 : Int32), rv b1_218, rv b1_221, iv ii, iv ii, rv xx, rv xx, .unset] [(.ref b1_221)])) _
          refine XS.iload X221.here hx rfl (hb hby at_168) rfl ?_
          show Steps p.tables e below (T221.setTop (mkF m 170 #[iv p1, iv p2, iv p3, iv p4, iv (3 : Int32), rv w_MANY_RULES, iv (4 : Int32), iv (4 : Int32), rv b1_218, rv b1_221, iv ii, iv ii, rv xx, rv xx, .unset] [(.int ii), (.ref b1_221)])) _
          exact k
        obtain ⟨cl245, Ar245, qc245, S245, M245, U245, G245⟩ := id (po221_1)
        have hin245 : ¬ (ii < 0 ∨ cl245.slots.size ≤ (ii).toNatClampNeg) := inb_of S245 hbii
        have hat245 : cl245.slots[(ii).toNatClampNeg]? = some (.ref zz) := Has.at U245 hin245 gz
        have k246 : Way p e below S0 T221 (mkF m 171 #[iv p1, iv p2, iv p3, iv p4, iv (3 : Int32), rv w_MANY_RULES, iv (4 : Int32), iv (4 : Int32), rv b1_218, rv b1_221, iv ii, iv ii, rv xx, rv xx, .unset] [(.ref zz)]) := fun t k => k244 t (X221.aaload hx (j := ii) (v := (.ref zz)) Ar245.1 (State.isArrayOf_alike hZ.alike Ar245.2.1) rfl Ar245.2.2 hin245 hat245 (g := (mkF m 170 #[iv p1, iv p2, iv p3, iv p4, iv (3 : Int32), rv w_MANY_RULES, iv (4 : Int32), iv (4 : Int32), rv b1_218, rv b1_221, iv ii, iv ii, rv xx, rv xx, .unset] [(.int ii), (.ref b1_221)])) rfl rfl (hb hby at_170) _ k)
        have k247 : Way p e below S0 T221 (mkF m 173 #[iv p1, iv p2, iv p3, iv p4, iv (3 : Int32), rv w_MANY_RULES, iv (4 : Int32), iv (4 : Int32), rv b1_218, rv b1_221, iv ii, iv ii, rv xx, rv xx, rv zz] []) := by
          intro t k
          refine k246 t ?_
          refine XS.astore X221.here hx rfl (hb hby at_171) rfl rfl (l' := #[iv p1, iv p2, iv p3, iv p4, iv (3 : Int32), rv w_MANY_RULES, iv (4 : Int32), iv (4 : Int32), rv b1_218, rv b1_221, iv ii, iv ii, rv xx, rv xx, rv zz]) rfl ?_
          show Steps p.tables e below (T221.setTop (mkF m 173 #[iv p1, iv p2, iv p3, iv p4, iv (3 : Int32), rv w_MANY_RULES, iv (4 : Int32), iv (4 : Int32), rv b1_218, rv b1_221, iv ii, iv ii, rv xx, rv xx, rv zz] [])) _
          exact k
        obtain ⟨T248, lc248, X248, N248, e248, st248⟩ := tail_same w_POOL w_NO_RULE w_ONE_RULE w_MANY_RULES G p1 p2 p3 p4 (3 : Int32) w_MANY_RULES (4 : Int32) (4 : Int32) b1_218 b1_221 ii xx zz X221 hx hZ hw hby hml hown O221 N221 (by decide) (by decide) rfl Ex Ez (nez : zz ≠ xx)
        have k249 : Way p e below S0 T248 (mkF m 314 #[iv p1, iv p2, iv p3, iv p4, iv (3 : Int32), rv w_MANY_RULES, iv (4 : Int32), iv (4 : Int32), rv b1_218, rv b1_221, iv ii, iv ii, rv xx, rv xx, rv zz] [(.int (1 : Int32))]) := fun t k => k247 t (st248 _ k)
        obtain ⟨fs, hr, hrun, hended, hW, hsame⟩ := X248.leave (v := some (.int (1 : Int32))) (fun h => by rw [Bd.returns] at h; cases h)
        refine ⟨_, _, k249 _ (retN X248 hx (t := .boolean) Bd.returns (by simp) (hb hby at_314) hr), hrun, hended, _, _, rfl, ?_, ⟨_, rfl⟩, hW, hsame.mono (by decide) (by decide)⟩
        show Q_law_met Z w_POOL w_NO_RULE w_ONE_RULE w_MANY_RULES p1 p2 p3 p4 h0 n0 _ T248.heap _
        rw [e248]
        exact ⟨rfl, N248⟩
      · obtain ⟨xx, yy, zz, gx, gy, gz, Ex, Ey, Ez, nez, ney⟩ : ∃ x y z : Addr, ([(.ref x0_218), (.ref x1_218), (.ref x2_218), (.ref x3_218)] : List Value).getD ii.toNatClampNeg .null = .ref x ∧ ([(.ref x0_218), (.ref x1_218), (.ref x2_218), (.ref x3_218)] : List Value).getD jj.toNatClampNeg .null = .ref y ∧ ([(.ref x0_221), (.ref x1_221), (.ref x2_221), (.ref x3_221)] : List Value).getD ii.toNatClampNeg .null = .ref z ∧ Exa Z T221.heap x "com/example/rulework/bench/Burst$SelfConflictingRule" ∧ Exa Z T221.heap y "com/example/rulework/bench/Burst$SelfConflictingRule" ∧ Exa Z T221.heap z "com/example/rulework/bench/Burst$SelfConflictingRule" ∧ z ≠ x ∧ y ≠ x := by
          rcases hrii with rfl | rfl | rfl | rfl
          · rcases hrjj with rfl | rfl | rfl | rfl
            · exact absurd rfl hc237
            · exact ⟨x0_218, x1_218, x0_221, rfl, rfl, rfl, f233, f234, po221_3, (Ne.symm (Nat.ne_of_lt (Nat.lt_of_lt_of_le po218_3.lt po221_2))), (Ne.symm po218_10)⟩
            · exact ⟨x0_218, x2_218, x0_221, rfl, rfl, rfl, f233, f235, po221_3, (Ne.symm (Nat.ne_of_lt (Nat.lt_of_lt_of_le po218_3.lt po221_2))), (Ne.symm po218_11)⟩
            · exact ⟨x0_218, x3_218, x0_221, rfl, rfl, rfl, f233, f236, po221_3, (Ne.symm (Nat.ne_of_lt (Nat.lt_of_lt_of_le po218_3.lt po221_2))), (Ne.symm po218_12)⟩
          · rcases hrjj with rfl | rfl | rfl | rfl
            · exact ⟨x1_218, x0_218, x1_221, rfl, rfl, rfl, f234, f233, po221_5, (Ne.symm (Nat.ne_of_lt (Nat.lt_of_lt_of_le po218_5.lt po221_4))), po218_10⟩
            · exact absurd rfl hc237
            · exact ⟨x1_218, x2_218, x1_221, rfl, rfl, rfl, f234, f235, po221_5, (Ne.symm (Nat.ne_of_lt (Nat.lt_of_lt_of_le po218_5.lt po221_4))), (Ne.symm po218_13)⟩
            · exact ⟨x1_218, x3_218, x1_221, rfl, rfl, rfl, f234, f236, po221_5, (Ne.symm (Nat.ne_of_lt (Nat.lt_of_lt_of_le po218_5.lt po221_4))), (Ne.symm po218_14)⟩
          · rcases hrjj with rfl | rfl | rfl | rfl
            · exact ⟨x2_218, x0_218, x2_221, rfl, rfl, rfl, f235, f233, po221_7, (Ne.symm (Nat.ne_of_lt (Nat.lt_of_lt_of_le po218_7.lt po221_6))), po218_11⟩
            · exact ⟨x2_218, x1_218, x2_221, rfl, rfl, rfl, f235, f234, po221_7, (Ne.symm (Nat.ne_of_lt (Nat.lt_of_lt_of_le po218_7.lt po221_6))), po218_13⟩
            · exact absurd rfl hc237
            · exact ⟨x2_218, x3_218, x2_221, rfl, rfl, rfl, f235, f236, po221_7, (Ne.symm (Nat.ne_of_lt (Nat.lt_of_lt_of_le po218_7.lt po221_6))), (Ne.symm po218_15)⟩
          · rcases hrjj with rfl | rfl | rfl | rfl
            · exact ⟨x3_218, x0_218, x3_221, rfl, rfl, rfl, f236, f233, po221_9, (Ne.symm (Nat.ne_of_lt (Nat.lt_of_lt_of_le po218_9.lt po221_8))), po218_12⟩
            · exact ⟨x3_218, x1_218, x3_221, rfl, rfl, rfl, f236, f234, po221_9, (Ne.symm (Nat.ne_of_lt (Nat.lt_of_lt_of_le po218_9.lt po221_8))), po218_14⟩
            · exact ⟨x3_218, x2_218, x3_221, rfl, rfl, rfl, f236, f235, po221_9, (Ne.symm (Nat.ne_of_lt (Nat.lt_of_lt_of_le po218_9.lt po221_8))), po218_15⟩
            · exact absurd rfl hc237
        have k250 : Way p e below S0 T221 (mkF m 156 #[iv p1, iv p2, iv p3, iv p4, iv (3 : Int32), rv w_MANY_RULES, iv (4 : Int32), iv (4 : Int32), rv b1_218, rv b1_221, iv ii, iv jj, .unset, .unset, .unset] [(.int ii), (.ref b1_218)]) := by
          intro t k
          refine k232 t ?_
          refine XS.aload X221.here hx rfl (hb hby at_152) rfl rfl ?_
          show Steps p.tables e below (T221.setTop (mkF m 154 #[iv p1, iv p2, iv p3, iv p4, iv (3 : Int32), rv w_MANY_RULES, iv (4 : Int32), iv (4 : Int32), rv b1_218, rv b1_221, iv ii, iv jj, .unset, .unset, .unset] [(.ref b1_218)])) _
          refine XS.iload X221.here hx rfl (hb hby at_154) rfl ?_
          show Steps p.tables e below (T221.setTop (mkF m 156 #[iv p1, iv p2, iv p3, iv p4, iv (3 : Int32), rv w_MANY_RULES, iv (4 : Int32), iv (4 : Int32), rv b1_218, rv b1_221, iv ii, iv jj, .unset, .unset, .unset] [(.int ii), (.ref b1_218)])) _
          exact k
        obtain ⟨cl251, Ar251, qc251, S251, M251, U251, G251⟩ := id (f224)
        have hin251 : ¬ (ii < 0 ∨ cl251.slots.size ≤ (ii).toNatClampNeg) := inb_of S251 hbii
        have hat251 : cl251.slots[(ii).toNatClampNeg]? = some (.ref xx) := Has.at U251 hin251 gx
        have k252 : Way p e below S0 T221 (mkF m 157 #[iv p1, iv p2, iv p3, iv p4, iv (3 : Int32), rv w_MANY_RULES, iv (4 : Int32), iv (4 : Int32), rv b1_218, rv b1_221, iv ii, iv jj, .unset, .unset, .unset] [(.ref xx)]) := fun t k => k250 t (X221.aaload hx (j := ii) (v := (.ref xx)) Ar251.1 (State.isArrayOf_alike hZ.alike Ar251.2.1) rfl Ar251.2.2 hin251 hat251 (g := (mkF m 156 #[iv p1, iv p2, iv p3, iv p4, iv (3 : Int32), rv w_MANY_RULES, iv (4 : Int32), iv (4 : Int32), rv b1_218, rv b1_221, iv ii, iv jj, .unset, .unset, .unset] [(.int ii), (.ref b1_218)])) rfl rfl (hb hby at_156) _ k)
        have k253 : Way p e below S0 T221 (mkF m 163 #[iv p1, iv p2, iv p3, iv p4, iv (3 : Int32), rv w_MANY_RULES, iv (4 : Int32), iv (4 : Int32), rv b1_218, rv b1_221, iv ii, iv jj, rv xx, .unset, .unset] [(.int jj), (.ref b1_218)]) := by
          intro t k
          refine k252 t ?_
          refine XS.astore X221.here hx rfl (hb hby at_157) rfl rfl (l' := #[iv p1, iv p2, iv p3, iv p4, iv (3 : Int32), rv w_MANY_RULES, iv (4 : Int32), iv (4 : Int32), rv b1_218, rv b1_221, iv ii, iv jj, rv xx, .unset, .unset]) rfl ?_
          show Steps p.tables e below (T221.setTop (mkF m 159 #[iv p1, iv p2, iv p3, iv p4, iv (3 : Int32), rv w_MANY_RULES, iv (4 : Int32), iv (4 : Int32), rv b1_218, rv b1_221, iv ii, iv jj, rv xx, .unset, .unset] [])) _
          refine XS.aload X221.here hx rfl (hb hby at_159) rfl rfl ?_
          show Steps p.tables e below (T221.setTop (mkF m 161 #[iv p1, iv p2, iv p3, iv p4, iv (3 : Int32), rv w_MANY_RULES, iv (4 : Int32), iv (4 : Int32), rv b1_218, rv b1_221, iv ii, iv jj, rv xx, .unset, .unset] [(.ref b1_218)])) _
          refine XS.iload X221.here hx rfl (hb hby at_161) rfl ?_
          show Steps p.tables e below (T221.setTop (mkF m 163 #[iv p1, iv p2, iv p3, iv p4, iv (3 : Int32), rv w_MANY_RULES, iv (4 : Int32), iv (4 : Int32), rv b1_218, rv b1_221, iv ii, iv jj, rv xx, .unset, .unset] [(.int jj), (.ref b1_218)])) _
          exact k
        obtain ⟨cl254, Ar254, qc254, S254, M254, U254, G254⟩ := id (f224)
        have hin254 : ¬ (jj < 0 ∨ cl254.slots.size ≤ (jj).toNatClampNeg) := inb_of S254 hbjj
        have hat254 : cl254.slots[(jj).toNatClampNeg]? = some (.ref yy) := Has.at U254 hin254 gy
        have k255 : Way p e below S0 T221 (mkF m 164 #[iv p1, iv p2, iv p3, iv p4, iv (3 : Int32), rv w_MANY_RULES, iv (4 : Int32), iv (4 : Int32), rv b1_218, rv b1_221, iv ii, iv jj, rv xx, .unset, .unset] [(.ref yy)]) := fun t k => k253 t (X221.aaload hx (j := jj) (v := (.ref yy)) Ar254.1 (State.isArrayOf_alike hZ.alike Ar254.2.1) rfl Ar254.2.2 hin254 hat254 (g := (mkF m 163 #[iv p1, iv p2, iv p3, iv p4, iv (3 : Int32), rv w_MANY_RULES, iv (4 : Int32), iv (4 : Int32), rv b1_218, rv b1_221, iv ii, iv jj, rv xx, .unset, .unset] [(.int jj), (.ref b1_218)])) rfl rfl (hb hby at_163) _ k)
        have k256 : Way p e below S0 T221 (mkF m 170 #[iv p1, iv p2, iv p3, iv p4, iv (3 : Int32), rv w_MANY_RULES, iv (4 : Int32), iv (4 : Int32), rv b1_218, rv b1_221, iv ii, iv jj, rv xx, rv yy, .unset] [(.int ii), (.ref b1_221)]) := by
          intro t k
          refine k255 t ?_
          refine XS.astore X221.here hx rfl (hb hby at_164) rfl rfl (l' := #[iv p1, iv p2, iv p3, iv p4, iv (3 : Int32), rv w_MANY_RULES, iv (4 : Int32), iv (4 : Int32), rv b1_218, rv b1_221, iv ii, iv jj, rv xx, rv yy, .unset]) rfl ?_
          show Steps p.tables e below (T221.setTop (mkF m 166 #[iv p1, iv p2, iv p3, iv p4, iv (3 : Int32), rv w_MANY_RULES, iv (4 : Int32), iv (4 : Int32), rv b1_218, rv b1_221, iv ii, iv jj, rv xx, rv yy, .unset] [])) _
          refine XS.aload X221.here hx rfl (hb hby at_166) rfl rfl ?_
          show Steps p.tables e below (T221.setTop (mkF m 168 #[iv p1, iv p2, iv p3, iv p4, iv (3 : Int32), rv w_MANY_RULES, iv (4 : Int32), iv (4 : Int32), rv b1_218, rv b1_221, iv ii, iv jj, rv xx, rv yy, .unset] [(.ref b1_221)])) _
          refine XS.iload X221.here hx rfl (hb hby at_168) rfl ?_
          show Steps p.tables e below (T221.setTop (mkF m 170 #[iv p1, iv p2, iv p3, iv p4, iv (3 : Int32), rv w_MANY_RULES, iv (4 : Int32), iv (4 : Int32), rv b1_218, rv b1_221, iv ii, iv jj, rv xx, rv yy, .unset] [(.int ii), (.ref b1_221)])) _
          exact k
        obtain ⟨cl257, Ar257, qc257, S257, M257, U257, G257⟩ := id (po221_1)
        have hin257 : ¬ (ii < 0 ∨ cl257.slots.size ≤ (ii).toNatClampNeg) := inb_of S257 hbii
        have hat257 : cl257.slots[(ii).toNatClampNeg]? = some (.ref zz) := Has.at U257 hin257 gz
        have k258 : Way p e below S0 T221 (mkF m 171 #[iv p1, iv p2, iv p3, iv p4, iv (3 : Int32), rv w_MANY_RULES, iv (4 : Int32), iv (4 : Int32), rv b1_218, rv b1_221, iv ii, iv jj, rv xx, rv yy, .unset] [(.ref zz)]) := fun t k => k256 t (X221.aaload hx (j := ii) (v := (.ref zz)) Ar257.1 (State.isArrayOf_alike hZ.alike Ar257.2.1) rfl Ar257.2.2 hin257 hat257 (g := (mkF m 170 #[iv p1, iv p2, iv p3, iv p4, iv (3 : Int32), rv w_MANY_RULES, iv (4 : Int32), iv (4 : Int32), rv b1_218, rv b1_221, iv ii, iv jj, rv xx, rv yy, .unset] [(.int ii), (.ref b1_221)])) rfl rfl (hb hby at_170) _ k)
        have k259 : Way p e below S0 T221 (mkF m 173 #[iv p1, iv p2, iv p3, iv p4, iv (3 : Int32), rv w_MANY_RULES, iv (4 : Int32), iv (4 : Int32), rv b1_218, rv b1_221, iv ii, iv jj, rv xx, rv yy, rv zz] []) := by
          intro t k
          refine k258 t ?_
          refine XS.astore X221.here hx rfl (hb hby at_171) rfl rfl (l' := #[iv p1, iv p2, iv p3, iv p4, iv (3 : Int32), rv w_MANY_RULES, iv (4 : Int32), iv (4 : Int32), rv b1_218, rv b1_221, iv ii, iv jj, rv xx, rv yy, rv zz]) rfl ?_
          show Steps p.tables e below (T221.setTop (mkF m 173 #[iv p1, iv p2, iv p3, iv p4, iv (3 : Int32), rv w_MANY_RULES, iv (4 : Int32), iv (4 : Int32), rv b1_218, rv b1_221, iv ii, iv jj, rv xx, rv yy, rv zz] [])) _
          exact k
        obtain ⟨T260, lc260, X260, N260, e260, st260⟩ := tail_other w_POOL w_NO_RULE w_ONE_RULE w_MANY_RULES G p1 p2 p3 p4 (3 : Int32) w_MANY_RULES (4 : Int32) (4 : Int32) b1_218 b1_221 ii jj xx yy zz X221 hx hZ hw hby hml hown O221 N221 (by decide) (by decide) rfl Ex Ez (nez : zz ≠ xx) Ey (ney : yy ≠ xx) (hc237 : ¬ (ii = jj))
        have k261 : Way p e below S0 T260 (mkF m 314 #[iv p1, iv p2, iv p3, iv p4, iv (3 : Int32), rv w_MANY_RULES, iv (4 : Int32), iv (4 : Int32), rv b1_218, rv b1_221, iv ii, iv jj, rv xx, rv yy, rv zz] [(.int (1 : Int32))]) := fun t k => k259 t (st260 _ k)
        obtain ⟨fs, hr, hrun, hended, hW, hsame⟩ := X260.leave (v := some (.int (1 : Int32))) (fun h => by rw [Bd.returns] at h; cases h)
        refine ⟨_, _, k261 _ (retN X260 hx (t := .boolean) Bd.returns (by simp) (hb hby at_314) hr), hrun, hended, _, _, rfl, ?_, ⟨_, rfl⟩, hW, hsame.mono (by decide) (by decide)⟩
        show Q_law_met Z w_POOL w_NO_RULE w_ONE_RULE w_MANY_RULES p1 p2 p3 p4 h0 n0 _ T260.heap _
        rw [e260]
        exact ⟨rfl, N260⟩
    · have k262 : Way p e below S0 T76 (mkF m 75 #[iv p1, iv p2, iv p3, iv p4, iv (3 : Int32), rv w_MANY_RULES, iv (5 : Int32), .unset, .unset, .unset, .unset, .unset, .unset, .unset, .unset] []) := by have q := k78; rw [hi79] at q; exact q
      have k263 : Way p e below S0 T76 (mkF m 83 #[iv p1, iv p2, iv p3, iv p4, iv (3 : Int32), rv w_MANY_RULES, iv (5 : Int32), iv (5 : Int32), .unset, .unset, .unset, .unset, .unset, .unset, .unset] [(.int (5 : Int32)), (.ref w_MANY_RULES)]) := by
        intro t k
        refine k262 t ?_
        refine XS.iload X76.here hx rfl (hb hby at_75) rfl ?_
        show Steps p.tables e below (T76.setTop (mkF m 77 #[iv p1, iv p2, iv p3, iv p4, iv (3 : Int32), rv w_MANY_RULES, iv (5 : Int32), .unset, .unset, .unset, .unset, .unset, .unset, .unset, .unset] [(.int (5 : Int32))])) _
        refine XS.istore X76.here hx rfl (hb hby at_77) rfl (l' := #[iv p1, iv p2, iv p3, iv p4, iv (3 : Int32), rv w_MANY_RULES, iv (5 : Int32), iv (5 : Int32), .unset, .unset, .unset, .unset, .unset, .unset, .unset]) rfl ?_
        show Steps p.tables e below (T76.setTop (mkF m 79 #[iv p1, iv p2, iv p3, iv p4, iv (3 : Int32), rv w_MANY_RULES, iv (5 : Int32), iv (5 : Int32), .unset, .unset, .unset, .unset, .unset, .unset, .unset] [])) _
        refine XS.aload X76.here hx rfl (hb hby at_79) rfl rfl ?_
        show Steps p.tables e below (T76.setTop (mkF m 81 #[iv p1, iv p2, iv p3, iv p4, iv (3 : Int32), rv w_MANY_RULES, iv (5 : Int32), iv (5 : Int32), .unset, .unset, .unset, .unset, .unset, .unset, .unset] [(.ref w_MANY_RULES)])) _
        refine XS.iload X76.here hx rfl (hb hby at_81) rfl ?_
        show Steps p.tables e below (T76.setTop (mkF m 83 #[iv p1, iv p2, iv p3, iv p4, iv (3 : Int32), rv w_MANY_RULES, iv (5 : Int32), iv (5 : Int32), .unset, .unset, .unset, .unset, .unset, .unset, .unset] [(.int (5 : Int32)), (.ref w_MANY_RULES)])) _
        exact k
      obtain ⟨cq264, kq264, qq264a, qq264b, qq264c⟩ := isOf hZ e76 (E_w_MANY_RULES.ext O0.2)
      obtain ⟨_, _, ⟨T264, L264, kk264, nn264⟩, -, X264, ⟨Lc264, hQ264, l264, y264, z264⟩, st264⟩ := X76.virtualBack hx (y := (⟨"com/example/rulework/bench/Burst", "makeRules", "(I)[Lcom/example/rulework/rulework/SchedulingRule;"⟩ : MethodName)) (z := (⟨"com/example/rulework/bench/Burst", "makeRules", "(I)[Lcom/example/rulework/rulework/SchedulingRule;"⟩ : MethodName)) hown (mvT hZ (hw _ (List.mem_of_getElem? (i := 3) rfl))) (mvT hZ (hw _ (List.mem_of_getElem? (i := 4) rfl))) (notFace_of_selects (args := #[]) (mvT hZ (hw _ (List.mem_of_getElem? (i := 6) rfl)))) (mvT hZ (hw _ (List.mem_of_getElem? (i := 6) rfl))) (mvT hZ (hw _ (List.mem_of_getElem? (i := 5) rfl))) (by decide) (backOf (W := 0) (mkm5 l Z a0 hw [] w_POOL w_NO_RULE w_ONE_RULE w_MANY_RULES G  h0 n0 O0 ) hZ (hw _ (List.mem_of_getElem? (i := 7) rfl)) (hw _ (List.mem_of_getElem? (i := 1) rfl)) (by decide) (by decide)) qq264a qq264c (g := (mkF m 83 #[iv p1, iv p2, iv p3, iv p4, iv (3 : Int32), rv w_MANY_RULES, iv (5 : Int32), iv (5 : Int32), .unset, .unset, .unset, .unset, .unset, .unset, .unset] [(.int (5 : Int32)), (.ref w_MANY_RULES)])) rfl (by rw [hml]; rfl) (Steps.refl _) (argsL := [(.int (5 : Int32))]) (rest := []) (lenOf pd_4 rfl) rfl (by show 2 * 0 + _ ≤ _; exact Nat.le_of_eq rfl) (hb hby at_83) (fun _ _ => ⟨rfl, e76, (by decide : 0 + 6 ≤ _), (by decide : 0 + 5 ≤ _)⟩)
      dsimp only [Pt.U, Pt.locs, Pt.cells, Pt.slots] at X264 l264 y264 z264 st264 hQ264
      subst l264 y264 z264
      obtain ⟨b1_264, kc_264, x0_264, x1_264, x2_264, x3_264, x4_264, rfl, Nq264, Kq264, po264_0, po264_1, po264_2, po264_3, po264_4, po264_5, po264_6, po264_7, po264_8, po264_9, po264_10, po264_11, po264_12, po264_13, po264_14, po264_15, po264_16, po264_17, po264_18, po264_19, po264_20, po264_21⟩ := hQ264
      have N264 := Fr.app N0 Nq264
      have O264 := O0.keep Kq264 all0
      have k265 : Way p e below S0 T264 (mkF m 86 #[iv p1, iv p2, iv p3, iv p4, iv (3 : Int32), rv w_MANY_RULES, iv (5 : Int32), iv (5 : Int32), .unset, .unset, .unset, .unset, .unset, .unset, .unset] [(.ref b1_264)]) := fun t k => k263 t (st264.trans k)
      have k266 : Way p e below S0 T264 (mkF m 92 #[iv p1, iv p2, iv p3, iv p4, iv (3 : Int32), rv w_MANY_RULES, iv (5 : Int32), iv (5 : Int32), rv b1_264, .unset, .unset, .unset, .unset, .unset, .unset] [(.int (5 : Int32)), (.ref w_MANY_RULES)]) := by
        intro t k
        refine k265 t ?_
        refine XS.astore X264.here hx rfl (hb hby at_86) rfl rfl (l' := #[iv p1, iv p2, iv p3, iv p4, iv (3 : Int32), rv w_MANY_RULES, iv (5 : Int32), iv (5 : Int32), rv b1_264, .unset, .unset, .unset, .unset, .unset, .unset]) rfl ?_
        show Steps p.tables e below (T264.setTop (mkF m 88 #[iv p1, iv p2, iv p3, iv p4, iv (3 : Int32), rv w_MANY_RULES, iv (5 : Int32), iv (5 : Int32), rv b1_264, .unset, .unset, .unset, .unset, .unset, .unset] [])) _
        refine XS.aload X264.here hx rfl (hb hby at_88) rfl rfl ?_
        show Steps p.tables e below (T264.setTop (mkF m 90 #[iv p1, iv p2, iv p3, iv p4, iv (3 : Int32), rv w_MANY_RULES, iv (5 : Int32), iv (5 : Int32), rv b1_264, .unset, .unset, .unset, .unset, .unset, .unset] [(.ref w_MANY_RULES)])) _
        refine XS.iload X264.here hx rfl (hb hby at_90) rfl ?_
        show Steps p.tables e below (T264.setTop (mkF m 92 #[iv p1, iv p2, iv p3, iv p4, iv (3 : Int32), rv w_MANY_RULES, iv (5 : Int32), iv (5 : Int32), rv b1_264, .unset, .unset, .unset, .unset, .unset, .unset] [(.int (5 : Int32)), (.ref w_MANY_RULES)])) _
        exact k
      obtain ⟨cq267, kq267, qq267a, qq267b, qq267c⟩ := isOf hZ rfl (E_w_MANY_RULES.ext O264.2)
      obtain ⟨_, _, ⟨T267, L267, kk267, nn267⟩, -, X267, ⟨Lc267, hQ267, l267, y267, z267⟩, st267⟩ := X264.virtualBack hx (y := (⟨"com/example/rulework/bench/Burst", "makeRules", "(I)[Lcom/example/rulework/rulework/SchedulingRule;"⟩ : MethodName)) (z := (⟨"com/example/rulework/bench/Burst", "makeRules", "(I)[Lcom/example/rulework/rulework/SchedulingRule;"⟩ : MethodName)) hown (mvT hZ (hw _ (List.mem_of_getElem? (i := 3) rfl))) (mvT hZ (hw _ (List.mem_of_getElem? (i := 4) rfl))) (notFace_of_selects (args := #[]) (mvT hZ (hw _ (List.mem_of_getElem? (i := 6) rfl)))) (mvT hZ (hw _ (List.mem_of_getElem? (i := 6) rfl))) (mvT hZ (hw _ (List.mem_of_getElem? (i := 5) rfl))) (by decide) (backOf (W := 0) (mkm5 l Z a0 hw [] w_POOL w_NO_RULE w_ONE_RULE w_MANY_RULES G  T264.heap n0 O264 ) hZ (hw _ (List.mem_of_getElem? (i := 7) rfl)) (hw _ (List.mem_of_getElem? (i := 1) rfl)) (by decide) (by decide)) qq267a qq267c (g := (mkF m 92 #[iv p1, iv p2, iv p3, iv p4, iv (3 : Int32), rv w_MANY_RULES, iv (5 : Int32), iv (5 : Int32), rv b1_264, .unset, .unset, .unset, .unset, .unset, .unset] [(.int (5 : Int32)), (.ref w_MANY_RULES)])) rfl (by rw [hml]; rfl) (Steps.refl _) (argsL := [(.int (5 : Int32))]) (rest := []) (lenOf pd_4 rfl) rfl (by show 2 * 0 + _ ≤ _; exact Nat.le_of_eq rfl) (hb hby at_92) (fun _ _ => ⟨rfl, rfl, (by decide : 6 + 6 ≤ _), (by decide : 5 + 5 ≤ _)⟩)
      dsimp only [Pt.U, Pt.locs, Pt.cells, Pt.slots] at X267 l267 y267 z267 st267 hQ267
      subst l267 y267 z267
      obtain ⟨b1_267, kc_267, x0_267, x1_267, x2_267, x3_267, x4_267, rfl, Nq267, Kq267, po267_0, po267_1, po267_2, po267_3, po267_4, po267_5, po267_6, po267_7, po267_8, po267_9, po267_10, po267_11, po267_12, po267_13, po267_14, po267_15, po267_16, po267_17, po267_18, po267_19, po267_20, po267_21⟩ := hQ267
      have N267 := Fr.app N264 Nq267
      have O267 := O264.keep Kq267 all0
      have k268 : Way p e below S0 T267 (mkF m 95 #[iv p1, iv p2, iv p3, iv p4, iv (3 : Int32), rv w_MANY_RULES, iv (5 : Int32), iv (5 : Int32), rv b1_264, .unset, .unset, .unset, .unset, .unset, .unset] [(.ref b1_267)]) := fun t k => k266 t (st267.trans k)
      have k269 : Way p e below S0 T267 (mkF m 111 #[iv p1, iv p2, iv p3, iv p4, iv (3 : Int32), rv w_MANY_RULES, iv (5 : Int32), iv (5 : Int32), rv b1_264, rv b1_267, .unset, .unset, .unset, .unset, .unset] [(.ref b1_264)]) := by
        intro t k
        refine k268 t ?_
        refine XS.astore X267.here hx rfl (hb hby at_95) rfl rfl (l' := #[iv p1, iv p2, iv p3, iv p4, iv (3 : Int32), rv w_MANY_RULES, iv (5 : Int32), iv (5 : Int32), rv b1_264, rv b1_267, .unset, .unset, .unset, .unset, .unset]) rfl ?_
        show Steps p.tables e below (T267.setTop (mkF m 97 #[iv p1, iv p2, iv p3, iv p4, iv (3 : Int32), rv w_MANY_RULES, iv (5 : Int32), iv (5 : Int32), rv b1_264, rv b1_267, .unset, .unset, .unset, .unset, .unset] [])) _
        refine XS.aload X267.here hx rfl (hb hby at_97) rfl rfl ?_
        show Steps p.tables e below (T267.setTop (mkF m 99 #[iv p1, iv p2, iv p3, iv p4, iv (3 : Int32), rv w_MANY_RULES, iv (5 : Int32), iv (5 : Int32), rv b1_264, rv b1_267, .unset, .unset, .unset, .unset, .unset] [(.ref b1_264)])) _
        refine XS.ifnullNo X267.here hx rfl (hb hby at_99) rfl ?_
        show Steps p.tables e below (T267.setTop (mkF m 102 #[iv p1, iv p2, iv p3, iv p4, iv (3 : Int32), rv w_MANY_RULES, iv (5 : Int32), iv (5 : Int32), rv b1_264, rv b1_267, .unset, .unset, .unset, .unset, .unset] [])) _
        refine XS.aload X267.here hx rfl (hb hby at_102) rfl rfl ?_
        show Steps p.tables e below (T267.setTop (mkF m 104 #[iv p1, iv p2, iv p3, iv p4, iv (3 : Int32), rv w_MANY_RULES, iv (5 : Int32), iv (5 : Int32), rv b1_264, rv b1_267, .unset, .unset, .unset, .unset, .unset] [(.ref b1_267)])) _
        refine XS.ifnonnullYes X267.here hx rfl (pc0 := 104) (pc' := 109) rfl (hb hby at_104) rfl (by decide) (by decide) ?_
        show Steps p.tables e below (T267.setTop (mkF m 109 #[iv p1, iv p2, iv p3, iv p4, iv (3 : Int32), rv w_MANY_RULES, iv (5 : Int32), iv (5 : Int32), rv b1_264, rv b1_267, .unset, .unset, .unset, .unset, .unset] [])) _
        refine XS.aload X267.here hx rfl (hb hby at_109) rfl rfl ?_
        show Steps p.tables e below (T267.setTop (mkF m 111 #[iv p1, iv p2, iv p3, iv p4, iv (3 : Int32), rv w_MANY_RULES, iv (5 : Int32), iv (5 : Int32), rv b1_264, rv b1_267, .unset, .unset, .unset, .unset, .unset] [(.ref b1_264)])) _
        exact k
      have f270 : Arv Z T267.heap b1_264 kc_264 (.object "com/example/rulework/rulework/SchedulingRule") (5 : Int32) [(.ref x0_264), (.ref x1_264), (.ref x2_264), (.ref x3_264), (.ref x4_264)] .null := (po264_1.keep Kq267 nin0)
      obtain ⟨cl271, Ar271, -, S271, M271, -, -⟩ := id (f270)
      have k272 : Way p e below S0 T267 (mkF m 112 #[iv p1, iv p2, iv p3, iv p4, iv (3 : Int32), rv w_MANY_RULES, iv (5 : Int32), iv (5 : Int32), rv b1_264, rv b1_267, .unset, .unset, .unset, .unset, .unset] [(.int (5 : Int32))]) := fun t k => k269 t (X267.arraylength hx (Ar271.1) (State.isArrayOf_alike hZ.alike Ar271.2.1) (g := (mkF m 111 #[iv p1, iv p2, iv p3, iv p4, iv (3 : Int32), rv w_MANY_RULES, iv (5 : Int32), iv (5 : Int32), rv b1_264, rv b1_267, .unset, .unset, .unset, .unset, .unset] [(.ref b1_264)])) rfl rfl (hb hby at_111) _ (by rw [len_of S271 M271]; exact k))
      have k273 : Way p e below S0 T267 (mkF m 119 #[iv p1, iv p2, iv p3, iv p4, iv (3 : Int32), rv w_MANY_RULES, iv (5 : Int32), iv (5 : Int32), rv b1_264, rv b1_267, .unset, .unset, .unset, .unset, .unset] [(.ref b1_267)]) := by
        intro t k
        refine k272 t ?_
        refine XS.iload X267.here hx rfl (hb hby at_112) rfl ?_
        show Steps p.tables e below (T267.setTop (mkF m 114 #[iv p1, iv p2, iv p3, iv p4, iv (3 : Int32), rv w_MANY_RULES, iv (5 : Int32), iv (5 : Int32), rv b1_264, rv b1_267, .unset, .unset, .unset, .unset, .unset] [(.int (5 : Int32)), (.int (5 : Int32))])) _
        refine XS.icmpNo X267.here hx rfl (hb hby at_114) rfl (teq ((by decide) : (5 : Int32) = (5 : Int32))).2 ?_
        show Steps p.tables e below (T267.setTop (mkF m 117 #[iv p1, iv p2, iv p3, iv p4, iv (3 : Int32), rv w_MANY_RULES, iv (5 : Int32), iv (5 : Int32), rv b1_264, rv b1_267, .unset, .unset, .unset, .unset, .unset] [])) _
        refine XS.aload X267.here hx rfl (hb hby at_117) rfl rfl ?_
        show Steps p.tables e below (T267.setTop (mkF m 119 #[iv p1, iv p2, iv p3, iv p4, iv (3 : Int32), rv w_MANY_RULES, iv (5 : Int32), iv (5 : Int32), rv b1_264, rv b1_267, .unset, .unset, .unset, .unset, .unset] [(.ref b1_267)])) _
        exact k
      obtain ⟨cl274, Ar274, -, S274, M274, -, -⟩ := id (po267_1)
      have k275 : Way p e below S0 T267 (mkF m 120 #[iv p1, iv p2, iv p3, iv p4, iv (3 : Int32), rv w_MANY_RULES, iv (5 : Int32), iv (5 : Int32), rv b1_264, rv b1_267, .unset, .unset, .unset, .unset, .unset] [(.int (5 : Int32))]) := fun t k => k273 t (X267.arraylength hx (Ar274.1) (State.isArrayOf_alike hZ.alike Ar274.2.1) (g := (mkF m 119 #[iv p1, iv p2, iv p3, iv p4, iv (3 : Int32), rv w_MANY_RULES, iv (5 : Int32), iv (5 : Int32), rv b1_264, rv b1_267, .unset, .unset, .unset, .unset, .unset] [(.ref b1_267)])) rfl rfl (hb hby at_119) _ (by rw [len_of S274 M274]; exact k))
      have k276 : Way p e below S0 T267 (mkF m 152 #[iv p1, iv p2, iv p3, iv p4, iv (3 : Int32), rv w_MANY_RULES, iv (5 : Int32), iv (5 : Int32), rv b1_264, rv b1_267, iv ((p3 &&& (2147483647 : Int32)) % (5 : Int32)), iv ((p4 &&& (2147483647 : Int32)) % (5 : Int32)), .unset, .unset, .unset] []) := by
        intro t k
        refine k275 t ?_
        refine XS.iload X267.here hx rfl (hb hby at_120) rfl ?_
        show Steps p.tables e below (T267.setTop (mkF m 122 #[iv p1, iv p2, iv p3, iv p4, iv (3 : Int32), rv w_MANY_RULES, iv (5 : Int32), iv (5 : Int32), rv b1_264, rv b1_267, .unset, .unset, .unset, .unset, .unset] [(.int (5 : Int32)), (.int (5 : Int32))])) _
        refine XS.icmpYes X267.here hx rfl (pc0 := 122) (pc' := 127) rfl (hb hby at_122) rfl (teq ((by decide) : (5 : Int32) = (5 : Int32))).1 (by decide) (by decide) ?_
        show Steps p.tables e below (T267.setTop (mkF m 127 #[iv p1, iv p2, iv p3, iv p4, iv (3 : Int32), rv w_MANY_RULES, iv (5 : Int32), iv (5 : Int32), rv b1_264, rv b1_267, .unset, .unset, .unset, .unset, .unset] [])) _
        refine XS.iload X267.here hx rfl (hb hby at_127) rfl ?_
        show Steps p.tables e below (T267.setTop (mkF m 129 #[iv p1, iv p2, iv p3, iv p4, iv (3 : Int32), rv w_MANY_RULES, iv (5 : Int32), iv (5 : Int32), rv b1_264, rv b1_267, .unset, .unset, .unset, .unset, .unset] [(.int (5 : Int32))])) _
        refine XS.ifYes X267.here hx rfl (pc0 := 129) (pc' := 134) rfl (hb hby at_129) rfl ((if0 _ _).trans (feq ((by decide) : ¬ ((5 : Int32) = (0 : Int32)))).2) (by decide) (by decide) ?_
        show Steps p.tables e below (T267.setTop (mkF m 134 #[iv p1, iv p2, iv p3, iv p4, iv (3 : Int32), rv w_MANY_RULES, iv (5 : Int32), iv (5 : Int32), rv b1_264, rv b1_267, .unset, .unset, .unset, .unset, .unset] [])) _
        refine XS.iloadN X267.here hx rfl (hb hby at_134) rfl ?_
        show Steps p.tables e below (T267.setTop (mkF m 135 #[iv p1, iv p2, iv p3, iv p4, iv (3 : Int32), rv w_MANY_RULES, iv (5 : Int32), iv (5 : Int32), rv b1_264, rv b1_267, .unset, .unset, .unset, .unset, .unset] [(.int p3)])) _
        refine X267.ldcInt hx hown (mvT hZ (hw _ (List.mem_of_getElem? (i := 36) rfl))) (g := (mkF m 135 #[iv p1, iv p2, iv p3, iv p4, iv (3 : Int32), rv w_MANY_RULES, iv (5 : Int32), iv (5 : Int32), rv b1_264, rv b1_267, .unset, .unset, .unset, .unset, .unset] [(.int p3)])) rfl (hb hby at_135) _ ?_
        show Steps p.tables e below (T267.setTop (mkF m 137 #[iv p1, iv p2, iv p3, iv p4, iv (3 : Int32), rv w_MANY_RULES, iv (5 : Int32), iv (5 : Int32), rv b1_264, rv b1_267, .unset, .unset, .unset, .unset, .unset] [(.int (2147483647 : Int32)), (.int p3)])) _
        refine XS.iand X267.here hx rfl (hb hby at_137) rfl ?_
        show Steps p.tables e below (T267.setTop (mkF m 138 #[iv p1, iv p2, iv p3, iv p4, iv (3 : Int32), rv w_MANY_RULES, iv (5 : Int32), iv (5 : Int32), rv b1_264, rv b1_267, .unset, .unset, .unset, .unset, .unset] [(.int (p3 &&& (2147483647 : Int32)))])) _
        refine XS.iload X267.here hx rfl (hb hby at_138) rfl ?_
        show Steps p.tables e below (T267.setTop (mkF m 140 #[iv p1, iv p2, iv p3, iv p4, iv (3 : Int32), rv w_MANY_RULES, iv (5 : Int32), iv (5 : Int32), rv b1_264, rv b1_267, .unset, .unset, .unset, .unset, .unset] [(.int (5 : Int32)), (.int (p3 &&& (2147483647 : Int32)))])) _
        refine iremM (g := (mkF m 140 #[iv p1, iv p2, iv p3, iv p4, iv (3 : Int32), rv w_MANY_RULES, iv (5 : Int32), iv (5 : Int32), rv b1_264, rv b1_267, .unset, .unset, .unset, .unset, .unset] [(.int (5 : Int32)), (.int (p3 &&& (2147483647 : Int32)))])) X267 hx rfl (hb hby at_140) rfl (by decide) ?_
        show Steps p.tables e below (T267.setTop (mkF m 141 #[iv p1, iv p2, iv p3, iv p4, iv (3 : Int32), rv w_MANY_RULES, iv (5 : Int32), iv (5 : Int32), rv b1_264, rv b1_267, .unset, .unset, .unset, .unset, .unset] [(.int ((p3 &&& (2147483647 : Int32)) % (5 : Int32)))])) _
        refine XS.istore X267.here hx rfl (hb hby at_141) rfl (l' := #[iv p1, iv p2, iv p3, iv p4, iv (3 : Int32), rv w_MANY_RULES, iv (5 : Int32), iv (5 : Int32), rv b1_264, rv b1_267, iv ((p3 &&& (2147483647 : Int32)) % (5 : Int32)), .unset, .unset, .unset, .unset]) rfl ?_
        show Steps p.tables e below (T267.setTop (mkF m 143 #[iv p1, iv p2, iv p3, iv p4, iv (3 : Int32), rv w_MANY_RULES, iv (5 : Int32), iv (5 : Int32), rv b1_264, rv b1_267, iv ((p3 &&& (2147483647 : Int32)) % (5 : Int32)), .unset, .unset, .unset, .unset] [])) _
        refine XS.iloadN X267.here hx rfl (hb hby at_143) rfl ?_
        show Steps p.tables e below (T267.setTop (mkF m 144 #[iv p1, iv p2, iv p3, iv p4, iv (3 : Int32), rv w_MANY_RULES, iv (5 : Int32), iv (5 : Int32), rv b1_264, rv b1_267, iv ((p3 &&& (2147483647 : Int32)) % (5 : Int32)), .unset, .unset, .unset, .unset] [(.int p4)])) _
        refine X267.ldcInt hx hown (mvT hZ (hw _ (List.mem_of_getElem? (i := 36) rfl))) (g := (mkF m 144 #[iv p1, iv p2, iv p3, iv p4, iv (3 : Int32), rv w_MANY_RULES, iv (5 : Int32), iv (5 : Int32), rv b1_264, rv b1_267, iv ((p3 &&& (2147483647 : Int32)) % (5 : Int32)), .unset, .unset, .unset, .unset] [(.int p4)])) rfl (hb hby at_144) _ ?_
        show Steps p.tables e below (T267.setTop (mkF m 146 #[iv p1, iv p2, iv p3, iv p4, iv (3 : Int32), rv w_MANY_RULES, iv (5 : Int32), iv (5 : Int32), rv b1_264, rv b1_267, iv ((p3 &&& (2147483647 : Int32)) % (5 : Int32)), .unset, .unset, .unset, .unset] [(.int (2147483647 : Int32)), (.int p4)])) _
        refine XS.iand X267.here hx rfl (hb hby at_146) rfl ?_
        show Steps p.tables e below (T267.setTop (mkF m 147 #[iv p1, iv p2, iv p3, iv p4, iv (3 : Int32), rv w_MANY_RULES, iv (5 : Int32), iv (5 : Int32), rv b1_264, rv b1_267, iv ((p3 &&& (2147483647 : Int32)) % (5 : Int32)), .unset, .unset, .unset, .unset] [(.int (p4 &&& (2147483647 : Int32)))])) _
        refine XS.iload X267.here hx rfl (hb hby at_147) rfl ?_
        show Steps p.tables e below (T267.setTop (mkF m 149 #[iv p1, iv p2, iv p3, iv p4, iv (3 : Int32), rv w_MANY_RULES, iv (5 : Int32), iv (5 : Int32), rv b1_264, rv b1_267, iv ((p3 &&& (2147483647 : Int32)) % (5 : Int32)), .unset, .unset, .unset, .unset] [(.int (5 : Int32)), (.int (p4 &&& (2147483647 : Int32)))])) _
        refine iremM (g := (mkF m 149 #[iv p1, iv p2, iv p3, iv p4, iv (3 : Int32), rv w_MANY_RULES, iv (5 : Int32), iv (5 : Int32), rv b1_264, rv b1_267, iv ((p3 &&& (2147483647 : Int32)) % (5 : Int32)), .unset, .unset, .unset, .unset] [(.int (5 : Int32)), (.int (p4 &&& (2147483647 : Int32)))])) X267 hx rfl (hb hby at_149) rfl (by decide) ?_
        show Steps p.tables e below (T267.setTop (mkF m 150 #[iv p1, iv p2, iv p3, iv p4, iv (3 : Int32), rv w_MANY_RULES, iv (5 : Int32), iv (5 : Int32), rv b1_264, rv b1_267, iv ((p3 &&& (2147483647 : Int32)) % (5 : Int32)), .unset, .unset, .unset, .unset] [(.int ((p4 &&& (2147483647 : Int32)) % (5 : Int32)))])) _
        refine XS.istore X267.here hx rfl (hb hby at_150) rfl (l' := #[iv p1, iv p2, iv p3, iv p4, iv (3 : Int32), rv w_MANY_RULES, iv (5 : Int32), iv (5 : Int32), rv b1_264, rv b1_267, iv ((p3 &&& (2147483647 : Int32)) % (5 : Int32)), iv ((p4 &&& (2147483647 : Int32)) % (5 : Int32)), .unset, .unset, .unset]) rfl ?_
        show Steps p.tables e below (T267.setTop (mkF m 152 #[iv p1, iv p2, iv p3, iv p4, iv (3 : Int32), rv w_MANY_RULES, iv (5 : Int32), iv (5 : Int32), rv b1_264, rv b1_267, iv ((p3 &&& (2147483647 : Int32)) % (5 : Int32)), iv ((p4 &&& (2147483647 : Int32)) % (5 : Int32)), .unset, .unset, .unset] [])) _
        exact k
      obtain ⟨ii, hii⟩ : ∃ z, ((p3 &&& (2147483647 : Int32)) % (5 : Int32)) = z := ⟨_, rfl⟩
      have k277 : Way p e below S0 T267 (mkF m 152 #[iv p1, iv p2, iv p3, iv p4, iv (3 : Int32), rv w_MANY_RULES, iv (5 : Int32), iv (5 : Int32), rv b1_264, rv b1_267, iv ii, iv ((p4 &&& (2147483647 : Int32)) % (5 : Int32)), .unset, .unset, .unset] []) := by have q := k276; rw [hii] at q; exact q
      obtain ⟨jj, hjj⟩ : ∃ z, ((p4 &&& (2147483647 : Int32)) % (5 : Int32)) = z := ⟨_, rfl⟩
      have k278 : Way p e below S0 T267 (mkF m 152 #[iv p1, iv p2, iv p3, iv p4, iv (3 : Int32), rv w_MANY_RULES, iv (5 : Int32), iv (5 : Int32), rv b1_264, rv b1_267, iv ii, iv jj, .unset, .unset, .unset] []) := by have q := k277; rw [hjj] at q; exact q
      have hrii : ii = (0 : Int32) ∨ ii = (1 : Int32) ∨ ii = (2 : Int32) ∨ ii = (3 : Int32) ∨ ii = (4 : Int32) := by rw [← hii]; exact own_rem5 p3
      have hbii : ¬ (ii < 0) ∧ ii < (5 : Int32) := by rcases hrii with rfl | rfl | rfl | rfl | rfl <;> decide
      have hrjj : jj = (0 : Int32) ∨ jj = (1 : Int32) ∨ jj = (2 : Int32) ∨ jj = (3 : Int32) ∨ jj = (4 : Int32) := by rw [← hjj]; exact own_rem5 p4
      have hbjj : ¬ (jj < 0) ∧ jj < (5 : Int32) := by rcases hrjj with rfl | rfl | rfl | rfl | rfl <;> decide
      have f279 : Exa Z T267.heap x0_264 "com/example/rulework/bench/Burst$SelfConflictingRule" := (po264_3.keep Kq267)
      have f280 : Exa Z T267.heap x1_264 "com/example/rulework/bench/Burst$SelfConflictingRule" := (po264_5.keep Kq267)
      have f281 : Exa Z T267.heap x2_264 "com/example/rulework/bench/Burst$SelfConflictingRule" := (po264_7.keep Kq267)
      have f282 : Exa Z T267.heap x3_264 "com/example/rulework/bench/Burst$SelfConflictingRule" := (po264_9.keep Kq267)
      have f283 : Exa Z T267.heap x4_264 "com/example/rulework/bench/Burst$SelfConflictingRule" := (po264_11.keep Kq267)
      by_cases hc284 : ii = jj
      · subst hc284
        obtain ⟨xx, zz, gx, gz, Ex, Ez, nez⟩ : ∃ x z : Addr, ([(.ref x0_264), (.ref x1_264), (.ref x2_264), (.ref x3_264), (.ref x4_264)] : List Value).getD ii.toNatClampNeg .null = .ref x ∧ ([(.ref x0_267), (.ref x1_267), (.ref x2_267), (.ref x3_267), (.ref x4_267)] : List Value).getD ii.toNatClampNeg .null = .ref z ∧ Exa Z T267.heap x "com/example/rulework/bench/Burst$SelfConflictingRule" ∧ Exa Z T267.heap z "com/example/rulework/bench/Burst$SelfConflictingRule" ∧ z ≠ x := by
          rcases hrii with rfl | rfl | rfl | rfl | rfl
          · exact ⟨x0_264, x0_267, rfl, rfl, f279, po267_3, (Ne.symm (Nat.ne_of_lt (Nat.lt_of_lt_of_le po264_3.lt po267_2)))⟩
          · exact ⟨x1_264, x1_267, rfl, rfl, f280, po267_5, (Ne.symm (Nat.ne_of_lt (Nat.lt_of_lt_of_le po264_5.lt po267_4)))⟩
          · exact ⟨x2_264, x2_267, rfl, rfl, f281, po267_7, (Ne.symm (Nat.ne_of_lt (Nat.lt_of_lt_of_le po264_7.lt po267_6)))⟩
          · exact ⟨x3_264, x3_267, rfl, rfl, f282, po267_9, (Ne.symm (Nat.ne_of_lt (Nat.lt_of_lt_of_le po264_9.lt po267_8)))⟩
          · exact ⟨x4_264, x4_267, rfl, rfl, f283, po267_11, (Ne.symm (Nat.ne_of_lt (Nat.lt_of_lt_of_le po264_11.lt po267_10)))⟩
        have k285 : Way p e below S0 T267 (mkF m 156 #[iv p1, iv p2, iv p3, iv p4, iv (3 : Int32), rv w_MANY_RULES, iv (5 : Int32), iv (5 : Int32), rv b1_264, rv b1_267, iv ii, iv ii, .unset, .unset, .unset] [(.int ii), (.ref b1_264)]) := by
          intro t k
          refine k278 t ?_
          refine XS.aload X267.here hx rfl (hb hby at_152) rfl rfl ?_
          show Steps p.tables e below (T267.setTop (mkF m 154 #[iv p1, iv p2, iv p3, iv p4, iv (3 : Int32), rv w_MANY_RULES, iv (5 : Int32), iv (5 : Int32), rv b1_264, rv b1_267, iv ii, iv ii, .unset, .unset, .unset] [(.ref b1_264)])) _
          refine XS.iload X267.here hx rfl (hb hby at_154) rfl ?_
          show Steps p.tables e below (T267.setTop (mkF m 156 #[iv p1, iv p2, iv p3, iv p4, iv (3 : Int32), rv w_MANY_RULES, iv (5 : Int32), iv (5 : Int32), rv b1_264, rv b1_267, iv ii, iv ii, .unset, .unset, .unset] [(.int ii), (.ref b1_264)])) _
          exact k
        obtain ⟨cl286, Ar286, qc286, S286, M286, U286, G286⟩ := id (f270)
        have hin286 : ¬ (ii < 0 ∨ cl286.slots.size ≤ (ii).toNatClampNeg) := inb_of S286 hbii
        have hat286 : cl286.slots[(ii).toNatClampNeg]? = some (.ref xx) := Has.at U286 hin286 gx
        have k287 : Way p e below S0 T267 (mkF m 157 #[iv p1, iv p2, iv p3, iv p4, iv (3 : Int32), rv w_MANY_RULES, iv (5 : Int32), iv (5 : Int32), rv b1_264, rv b1_267, iv ii, iv ii, .unset, .unset, .unset] [(.ref xx)]) := fun t k => k285 t (X267.aaload hx (j := ii) (v := (.ref xx)) Ar286.1 (State.isArrayOf_alike hZ.alike Ar286.2.1) rfl Ar286.2.2 hin286 hat286 (g := (mkF m 156 #[iv p1, iv p2, iv p3, iv p4, iv (3 : Int32), rv w_MANY_RULES, iv (5 : Int32), iv (5 : Int32), rv b1_264, rv b1_267, iv ii, iv ii, .unset, .unset, .unset] [(.int ii), (.ref b1_264)])) rfl rfl (hb hby at_156) _ k)
        have k288 : Way p e below S0 T267 (mkF m 163 #[iv p1, iv p2, iv p3, iv p4, iv (3 : Int32), rv w_MANY_RULES, iv (5 : Int32), iv (5 : Int32), rv b1_264, rv b1_267, iv ii, iv ii, rv xx, .unset, .unset] [(.int ii), (.ref b1_264)]) := by
          intro t k
          refine k287 t ?_
          refine XS.astore X267.here hx rfl (hb hby at_157) rfl rfl (l' := #[iv p1, iv p2, iv p3, iv p4, iv (3 : Int32), rv w_MANY_RULES, iv (5 : Int32), iv (5 : Int32), rv b1_264, rv b1_267, iv ii, iv ii, rv xx, .unset, .unset]) rfl ?_
          show Steps p.tables e below (T267.setTop (mkF m 159 #[iv p1, iv p2, iv p3, iv p4, iv (3 : Int32), rv w_MANY_RULES, iv (5 : Int32), iv (5 : Int32), rv b1_264, rv b1_267, iv ii, iv ii, rv xx, .unset, .unset] [])) _
          refine XS.aload X267.here hx rfl (hb hby at_159) rfl rfl ?_
          show Steps p.tables e below (T267.setTop (mkF m 161 #[iv p1, iv p2, iv p3, iv p4, iv (3 : Int32), rv w_MANY_RULES, iv (5 : Int32), iv (5 : Int32), rv b1_264, rv b1_267, iv ii, iv ii, rv xx, .unset, .unset] [(.ref b1_264)])) _
          refine XS.iload X267.here hx rfl (hb hby at_161) rfl ?_
          show Steps p.tables e below (T267.setTop (mkF m 163 #[iv p1, iv p2, iv p3, iv p4, iv (3 : Int32), rv w_MANY_RULES, iv (5 : Int32), iv (5 : Int32), rv b1_264, rv b1_267, iv ii, iv ii, rv xx, .unset, .unset] [(.int ii), (.ref b1_264)])) _
          exact k
        obtain ⟨cl289, Ar289, qc289, S289, M289, U289, G289⟩ := id (f270)
        have hin289 : ¬ (ii < 0 ∨ cl289.slots.size ≤ (ii).toNatClampNeg) := inb_of S289 hbii
        have hat289 : cl289.slots[(ii).toNatClampNeg]? = some (.ref xx) := Has.at U289 hin289 gx
        have k290 : Way p e below S0 T267 (mkF m 164 #[iv p1, iv p2, iv p3, iv p4, iv (3 : Int32), rv w_MANY_RULES, iv (5 : Int32), iv (5 : Int32), rv b1_264, rv b1_267, iv ii, iv ii, rv xx, .unset, .unset] [(.ref xx)]) := fun t k => k288 t (X267.aaload hx (j := ii) (v := (.ref xx)) Ar289.1 (State.isArrayOf_alike hZ.alike Ar289.2.1) rfl Ar289.2.2 hin289 hat289 (g := (mkF m 163 #[iv p1, iv p2, iv p3, iv p4, iv (3 : Int32), rv w_MANY_RULES, iv (5 : Int32), iv (5 : Int32), rv b1_264, rv b1_267, iv ii, iv ii, rv xx, .unset, .unset] [(.int ii), (.ref b1_264)])) rfl rfl (hb hby at_163) _ k)
        have k291 : Way p e below S0 T267 (mkF m 170 #[iv p1, iv p2, iv p3, iv p4, iv (3 : Int32), rv w_MANY_RULES, iv (5 : Int32), iv (5 : Int32), rv b1_264, rv b1_267, iv ii, iv ii, rv xx, rv xx, .unset] [(.int ii), (.ref b1_267)]) := by
          intro t k
          refine k290 t ?_
          refine XS.astore X267.here hx rfl (hb hby at_164) rfl rfl (l' := #[iv p1, iv p2, iv p3, iv p4, iv (3 : Int32), rv w_MANY_RULES, iv (5 : Int32), iv (5 : Int32), rv b1_264, rv b1_267, iv ii, iv ii, rv xx, rv xx, .unset]) rfl ?_
          show Steps p.tables e below (T267.setTop (mkF m 166 #[iv p1, iv p2, iv p3, iv p4, iv (3 : Int32), rv w_MANY_RULES, iv (5 : Int32), iv (5 : Int32), rv b1_264, rv b1_267, iv ii, iv ii, rv xx, rv xx, .unset] [])) _
          refine XS.aload X267.here hx rfl (hb hby at_166) rfl rfl ?_
          show Steps p.tables e below (T267.setTop (mkF m 168 #[iv p1, iv p2, iv p3, iv p4, iv (3 : Int32), rv w_MANY_RULES, iv (5 : Int32), iv (5 : Int32), rv b1_264, rv b1_267, iv ii, iv ii, rv xx, rv xx, .unset] [(.ref b1_267)])) _
          refine XS.iload X267.here hx rfl (hb hby at_168) rfl ?_
          show Steps p.tables e below (T267.setTop (mkF m 170 #[iv p1, iv p2, iv p3, iv p4, iv (3 : Int32), rv w_MANY_RULES, iv (5 : Int32), iv (5 : Int32), rv b1_264, rv b1_267, iv ii, iv ii, rv xx, rv xx, .unset] [(.int ii), (.ref b1_267)])) _
          exact k
        obtain ⟨cl292, Ar292, qc292, S292, M292, U292, G292⟩ := id (po267_1)
        have hin292 : ¬ (ii < 0 ∨ cl292.slots.size ≤ (ii).toNatClampNeg) := inb_of S292 hbii
        have hat292 : cl292.slots[(ii).toNatClampNeg]? = some (.ref zz) := Has.at U292 hin292 gz
        have k293 : Way p e below S0 T267 (mkF m 171 #[iv p1, iv p2, iv p3, iv p4, iv (3 : Int32), rv w_MANY_RULES, iv (5 : Int32), iv (5 : Int32), rv b1_264, rv b1_267, iv ii, iv ii, rv xx, rv xx, .unset] [(.ref zz)]) := fun t k => k291 t (X267.aaload hx (j := ii) (v := (.ref zz)) Ar292.1 (State.isArrayOf_alike hZ.alike Ar292.2.1) rfl Ar292.2.2 hin292 hat292 (g := (mkF m 170 #[iv p1, iv p2, iv p3, iv p4, iv (3 : Int32), rv w_MANY_RULES, iv (5 : Int32), iv (5 : Int32), rv b1_264, rv b1_267, iv ii, iv ii, rv xx, rv xx, .unset] [(.int ii), (.ref b1_267)])) rfl rfl (hb hby at_170) _ k)
        have k294 : Way p e below S0 T267 (mkF m 173 #[iv p1, iv p2, iv p3, iv p4, iv (3 : Int32), rv w_MANY_RULES, iv (5 : Int32), iv (5 : Int32), rv b1_264, rv b1_267, iv ii, iv ii, rv xx, rv xx, rv zz] []) := by
          intro t k
          refine k293 t ?_
          refine XS.astore X267.here hx rfl (hb hby at_171) rfl rfl (l' := #[iv p1, iv p2, iv p3, iv p4, iv (3 : Int32), rv w_MANY_RULES, iv (5 : Int32), iv (5 : Int32), rv b1_264, rv b1_267, iv ii, iv ii, rv xx, rv xx, rv zz]) rfl ?_
          show Steps p.tables e below (T267.setTop (mkF m 173 #[iv p1, iv p2, iv p3, iv p4, iv (3 : Int32), rv w_MANY_RULES, iv (5 : Int32), iv (5 : Int32), rv b1_264, rv b1_267, iv ii, iv ii, rv xx, rv xx, rv zz] [])) _
          exact k
        obtain ⟨T295, lc295, X295, N295, e295, st295⟩ := tail_same w_POOL w_NO_RULE w_ONE_RULE w_MANY_RULES G p1 p2 p3 p4 (3 : Int32) w_MANY_RULES (5 : Int32) (5 : Int32) b1_264 b1_267 ii xx zz X267 hx hZ hw hby hml hown O267 N267 (by decide) (by decide) rfl Ex Ez (nez : zz ≠ xx)
        have k296 : Way p e below S0 T295 (mkF m 314 #[iv p1, iv p2, iv p3, iv p4, iv (3 : Int32), rv w_MANY_RULES, iv (5 : Int32), iv (5 : Int32), rv b1_264, rv b1_267, iv ii, iv ii, rv xx, rv xx, rv zz] [(.int (1 : Int32))]) := fun t k => k294 t (st295 _ k)
        obtain ⟨fs, hr, hrun, hended, hW, hsame⟩ := X295.leave (v := some (.int (1 : Int32))) (fun h => by rw [Bd.returns] at h; cases h)
        refine ⟨_, _, k296 _ (retN X295 hx (t := .boolean) Bd.returns (by simp) (hb hby at_314) hr), hrun, hended, _, _, rfl, ?_, ⟨_, rfl⟩, hW, hsame.mono (by decide) (by decide)⟩
        show Q_law_met Z w_POOL w_NO_RULE w_ONE_RULE w_MANY_RULES p1 p2 p3 p4 h0 n0 _ T295.heap _
        rw [e295]
        exact ⟨rfl, N295⟩
      · obtain ⟨xx, yy, zz, gx, gy, gz, Ex, Ey, Ez, nez, ney⟩ : ∃ x y z : Addr, ([(.ref x0_264), (.ref x1_264), (.ref x2_264), (.ref x3_264), (.ref x4_264)] : List Value).getD ii.toNatClampNeg .null = .ref x ∧ ([(.ref x0_264), (.ref x1_264), (.ref x2_264), (.ref x3_264), (.ref x4_264)] : List Value).getD jj.toNatClampNeg .null = .ref y ∧ ([(.ref x0_267), (.ref x1_267), (.ref x2_267), (.ref x3_267), (.ref x4_267)] : List Value).getD ii.toNatClampNeg .null = .ref z ∧ Exa Z T267.heap x "com/example/rulework/bench/Burst$SelfConflictingRule" ∧ Exa Z T267.heap y "com/example/rulework/bench/Burst$SelfConflictingRule" ∧ Exa Z T267.heap z "com/example/rulework/bench/Burst$SelfConflictingRule" ∧ z ≠ x ∧ y ≠ x := by
          rcases hrii with rfl | rfl | rfl | rfl | rfl
          · rcases hrjj with rfl | rfl | rfl | rfl | rfl
            · exact absurd rfl hc284
            · exact ⟨x0_264, x1_264, x0_267, rfl, rfl, rfl, f279, f280, po267_3, (Ne.symm (Nat.ne_of_lt (Nat.lt_of_lt_of_le po264_3.lt po267_2))), (Ne.symm po264_12)⟩
            · exact ⟨x0_264, x2_264, x0_267, rfl, rfl, rfl, f279, f281, po267_3, (Ne.symm (Nat.ne_of_lt (Nat.lt_of_lt_of_le po264_3.lt po267_2))), (Ne.symm po264_13)⟩
            · exact ⟨x0_264, x3_264, x0_267, rfl, rfl, rfl, f279, f282, po267_3, (Ne.symm (Nat.ne_of_lt (Nat.lt_of_lt_of_le po264_3.lt po267_2))), (Ne.symm po264_14)⟩
            · exact ⟨x0_264, x4_264, x0_267, rfl, rfl, rfl, f279, f283, po267_3, (Ne.symm (Nat.ne_of_lt (Nat.lt_of_lt_of_le po264_3.lt po267_2))), (Ne.symm po264_15)⟩
          · rcases hrjj with rfl | rfl | rfl | rfl | rfl
            · exact ⟨x1_264, x0_264, x1_267, rfl, rfl, rfl, f280, f279, po267_5, (Ne.symm (Nat.ne_of_lt (Nat.lt_of_lt_of_le po264_5.lt po267_4))), po264_12⟩
            · exact absurd rfl hc284
            · exact ⟨x1_264, x2_264, x1_267, rfl, rfl, rfl, f280, f281, po267_5, (Ne.symm (Nat.ne_of_lt (Nat.lt_of_lt_of_le po264_5.lt po267_4))), (Ne.symm po264_16)⟩
            · exact ⟨x1_264, x3_264, x1_267, rfl, rfl, rfl, f280, f282, po267_5, (Ne.symm (Nat.ne_of_lt (Nat.lt_of_lt_of_le po264_5.lt po267_4))), (Ne.symm po264_17)⟩
            · exact ⟨x1_264, x4_264, x1_267, rfl, rfl, rfl, f280, f283, po267_5, (Ne.symm (Nat.ne_of_lt (Nat.lt_of_lt_of_le po264_5.lt po267_4))), (Ne.symm po264_18)⟩
          · rcases hrjj with rfl | rfl | rfl | rfl | rfl
            · exact ⟨x2_264, x0_264, x2_267, rfl, rfl, rfl, f281, f279, po267_7, (Ne.symm (Nat.ne_of_lt (Nat.lt_of_lt_of_le po264_7.lt po267_6))), po264_13⟩
            · exact ⟨x2_264, x1_264, x2_267, rfl, rfl, rfl, f281, f280, po267_7, (Ne.symm (Nat.ne_of_lt (Nat.lt_of_lt_of_le po264_7.lt po267_6))), po264_16⟩
            · exact absurd rfl hc284
            · exact ⟨x2_264, x3_264, x2_267, rfl, rfl, rfl, f281, f282, po267_7, (Ne.symm (Nat.ne_of_lt (Nat.lt_of_lt_of_le po264_7.lt po267_6))), (Ne.symm po264_19)⟩
            · exact ⟨x2_264, x4_264, x2_267, rfl, rfl, rfl, f281, f283, po267_7, (Ne.symm (Nat.ne_of_lt (Nat.lt_of_lt_of_le po264_7.lt po267_6))), (Ne.symm po264_20)⟩
          · rcases hrjj with rfl | rfl | rfl | rfl | rfl
            · exact ⟨x3_264, x0_264, x3_267, rfl, rfl, rfl, f282, f279, po267_9, (Ne.symm (Nat.ne_of_lt (Nat.lt_of_lt_of_le po264_9.lt po267_8))), po264_14⟩
            · exact ⟨x3_264, x1_264, x3_267, rfl, rfl, rfl, f282, f280, po267_9, (Ne.symm (Nat.ne_of_lt (Nat.lt_of_lt_of_le po264_9.lt po267_8))), po264_17⟩
            · exact ⟨x3_264, x2_264, x3_267, rfl, rfl, rfl, f282, f281, po267_9, (Ne.symm (Nat.ne_of_lt (Nat.lt_of_lt_of_le po264_9.lt po267_8))), po264_19⟩
            · exact absurd rfl hc284
            · exact ⟨x3_264, x4_264, x3_267, rfl, rfl, rfl, f282, f283, po267_9, (Ne.symm (Nat.ne_of_lt (Nat.lt_of_lt_of_le po264_9.lt po267_8))), (Ne.symm po264_21)⟩
          · rcases hrjj with rfl | rfl | rfl | rfl | rfl
            · exact ⟨x4_264, x0_264, x4_267, rfl, rfl, rfl, f283, f279, po267_11, (Ne.symm (Nat.ne_of_lt (Nat.lt_of_lt_of_le po264_11.lt po267_10))), po264_15⟩
            · exact ⟨x4_264, x1_264, x4_267, rfl, rfl, rfl, f283, f280, po267_11, (Ne.symm (Nat.ne_of_lt (Nat.lt_of_lt_of_le po264_11.lt po267_10))), po264_18⟩
            · exact ⟨x4_264, x2_264, x4_267, rfl, rfl, rfl, f283, f281, po267_11, (Ne.symm (Nat.ne_of_lt (Nat.lt_of_lt_of_le po264_11.lt po267_10))), po264_20⟩
            · exact ⟨x4_264, x3_264, x4_267, rfl, rfl, rfl, f283, f282, po267_11, (Ne.symm (Nat.ne_of_lt (Nat.lt_of_lt_of_le po264_11.lt po267_10))), po264_21⟩
            · exact absurd rfl hc284
        have k297 : Way p e below S0 T267 (mkF m 156 #[iv p1, iv p2, iv p3, iv p4, iv (3 : Int32), rv w_MANY_RULES, iv (5 : Int32), iv (5 : Int32), rv b1_264, rv b1_267, iv ii, iv jj, .unset, .unset, .unset] [(.int ii), (.ref b1_264)]) := by
          intro t k
          refine k278 t ?_
          refine XS.aload X267.here hx rfl (hb hby at_152) rfl rfl ?_
          show Steps p.tables e below (T267.setTop (mkF m 154 #[iv p1, iv p2, iv p3, iv p4, iv (3 : Int32), rv w_MANY_RULES, iv (5 : Int32), iv (5 : Int32), rv b1_264, rv b1_267, iv ii, iv jj, .unset, .unset, .unset] [(.ref b1_264)])) _
          refine XS.iload X267.here hx rfl (hb hby at_154) rfl ?_
          show Steps p.tables e below (T267.setTop (mkF m 156 #[iv p1, iv p2, iv p3, iv p4, iv (3 : Int32), rv w_MANY_RULES, iv (5 : Int32), iv (5 : Int32), rv b1_264, rv b1_267, iv ii, iv jj, .unset, .unset, .unset] [(.int ii), (.ref b1_264)])) _
          exact k
        obtain ⟨cl298, Ar298, qc298, S298, M298, U298, G298⟩ := id (f270)
        have hin298 : ¬ (ii < 0 ∨ cl298.slots.size ≤ (ii).toNatClampNeg) := inb_of S298 hbii
        have hat298 : cl298.slots[(ii).toNatClampNeg]? = some (.ref xx) := Has.at U298 hin298 gx
        have k299 : Way p e below S0 T267 (mkF m 157 #[iv p1, iv p2, iv p3, iv p4, iv (3 : Int32), rv w_MANY_RULES, iv (5 : Int32), iv (5 : Int32), rv b1_264, rv b1_267, iv ii, iv jj, .unset, .unset, .unset] [(.ref xx)]) := fun t k => k297 t (X267.aaload hx (j := ii) (v := (.ref xx)) Ar298.1 (State.isArrayOf_alike hZ.alike Ar298.2.1) rfl Ar298.2.2 hin298 hat298 (g := (mkF m 156 #[iv p1, iv p2, iv p3, iv p4, iv (3 : Int32), rv w_MANY_RULES, iv (5 : Int32), iv (5 : Int32), rv b1_264, rv b1_267, iv ii, iv jj, .unset, .unset, .unset] [(.int ii), (.ref b1_264)])) rfl rfl (hb hby at_156) _ k)
        have k300 : Way p e below S0 T267 (mkF m 163 #[iv p1, iv p2, iv p3, iv p4, iv (3 : Int32), rv w_MANY_RULES, iv (5 : Int32), iv (5 : Int32), rv b1_264, rv b1_267, iv ii, iv jj, rv xx, .unset, .unset] [(.int jj), (.ref b1_264)]) := by
          intro t k
          refine k299 t ?_
          refine XS.astore X267.here hx rfl (hb hby at_157) rfl rfl (l' := #[iv p1, iv p2, iv p3, iv p4, iv (3 : Int32), rv w_MANY_RULES, iv (5 : Int32), iv (5 : Int32), rv b1_264, rv b1_267, iv ii, iv jj, rv xx, .unset, .unset]) rfl ?_
          show Steps p.tables e below (T267.setTop (mkF m 159 #[iv p1, iv p2, iv p3, iv p4, iv (3 : Int32), rv w_MANY_RULES, iv (5 : Int32), iv (5 : Int32), rv b1_264, rv b1_267, iv ii, iv jj, rv xx, .unset, .unset] [])) _
          refine XS.aload X267.here hx rfl (hb hby at_159) rfl rfl ?_
          show Steps p.tables e below (T267.setTop (mkF m 161 #[iv p1, iv p2, iv p3, iv p4, iv (3 : Int32), rv w_MANY_RULES, iv (5 : Int32), iv (5 : Int32), rv b1_264, rv b1_267, iv ii, iv jj, rv xx, .unset, .unset] [(.ref b1_264)])) _
          refine XS.iload X267.here hx rfl (hb hby at_161) rfl ?_
          show Steps p.tables e below (T267.setTop (mkF m 163 #[iv p1, iv p2, iv p3, iv p4, iv (3 : Int32), rv w_MANY_RULES, iv (5 : Int32), iv (5 : Int32), rv b1_264, rv b1_267, iv ii, iv jj, rv xx, .unset, .unset] [(.int jj), (.ref b1_264)])) _
          exact k
        obtain ⟨cl301, Ar301, qc301, S301, M301, U301, G301⟩ := id (f270)
        have hin301 : ¬ (jj < 0 ∨ cl301.slots.size ≤ (jj).toNatClampNeg) := inb_of S301 hbjj
        have hat301 : cl301.slots[(jj).toNatClampNeg]? = some (.ref yy) := Has.at U301 hin301 gy
        have k302 : Way p e below S0 T267 (mkF m 164 #[iv p1, iv p2, iv p3, iv p4, iv (3 : Int32), rv w_MANY_RULES, iv (5 : Int32), iv (5 : Int32), rv b1_264, rv b1_267, iv ii, iv jj, rv xx, .unset, .unset] [(.ref yy)]) := fun t k => k300 t (X267.aaload hx (j := jj) (v := (.ref yy)) Ar301.1 (State.isArrayOf_alike hZ.alike Ar301.2.1) rfl Ar301.2.2 hin301 hat301 (g := (mkF m 163 #[iv p1, iv p2, iv p3, iv p4, iv (3 : Int32), rv w_MANY_RULES, iv (5 : Int32), iv (5 : Int32), rv b1_264, rv b1_267, iv ii, iv jj, rv xx, .unset, .unset] [(.int jj), (.ref b1_264)])) rfl rfl (hb hby at_163) _ k)
        have k303 : Way p e below S0 T267 (mkF m 170 #[iv p1, iv p2, iv p3, iv p4, iv (3 : Int32), rv w_MANY_RULES, iv (5 : Int32), iv (5 : Int32), rv b1_264, rv b1_267, iv ii, iv jj, rv xx, rv yy, .unset] [(.int ii), (.ref b1_267)]) := by
          intro t k
          refine k302 t ?_
          refine XS.astore X267.here hx rfl (hb hby at_164) rfl rfl (l' := #[iv p1, iv p2, iv p3, iv p4, iv (3 : Int32), rv w_MANY_RULES, iv (5 : Int32), iv (5 : Int32), rv b1_264, rv b1_267, iv ii, iv jj, rv xx, rv yy, .unset]) rfl ?_
          show Steps p.tables e below (T267.setTop (mkF m 166 #[iv p1, iv p2, iv p3, iv p4, iv (3 : Int32), rv w_MANY_RULES, iv (5 : Int32), iv (5 : Int32), rv b1_264, rv b1_267, iv ii, iv jj, rv xx, rv yy, .unset] [])) _
          refine XS.aload X267.here hx rfl (hb hby at_166) rfl rfl ?_
          show Steps p.tables e below (T267.setTop (mkF m 168 #[iv p1, iv p2, iv p3, iv p4, iv (3 : Int32), rv w_MANY_RULES, iv (5 : Int32), iv (5 : Int32), rv b1_264, rv b1_267, iv ii, iv jj, rv xx, rv yy, .unset] [(.ref b1_267)])) _
          refine XS.iload X267.here hx rfl (hb hby at_168) rfl ?_
          show Steps p.tables e below (T267.setTop (mkF m 170 #[iv p1, iv p2, iv p3, iv p4, iv (3 : Int32), rv w_MANY_RULES, iv (5 : Int32), iv (5 : Int32), rv b1_264, rv b1_267, iv ii, iv jj, rv xx, rv yy, .unset] [(.int ii), (.ref b1_267)])) _
          exact k
        obtain ⟨cl304, Ar304, qc304, S304, M304, U304, G304⟩ := id (po267_1)
        have hin304 : ¬ (ii < 0 ∨ cl304.slots.size ≤ (ii).toNatClampNeg) := inb_of S304 hbii
        have hat304 : cl304.slots[(ii).toNatClampNeg]? = some (.ref zz) := Has.at U304 hin304 gz
        have k305 : Way p e below S0 T267 (mkF m 171 #[iv p1, iv p2, iv p3, iv p4, iv (3 : Int32), rv w_MANY_RULES, iv (5 : Int32), iv (5 : Int32), rv b1_264, rv b1_267, iv ii, iv jj, rv xx, rv yy, .unset] [(.ref zz)]) := fun t k => k303 t (X267.aaload hx (j := ii) (v := (.ref zz)) Ar304.1 (State.isArrayOf_alike hZ.alike Ar304.2.1) rfl Ar304.2.2 hin304 hat304 (g := (mkF m 170 #[iv p1, iv p2, iv p3, iv p4, iv (3 : Int32), rv w_MANY_RULES, iv (5 : Int32), iv (5 : Int32), rv b1_264, rv b1_267, iv ii, iv jj, rv xx, rv yy, .unset] [(.int ii), (.ref b1_267)])) rfl rfl (hb hby at_170) _ k)
        have k306 : Way p e below S0 T267 (mkF m 173 #[iv p1, iv p2, iv p3, iv p4, iv (3 : Int32), rv w_MANY_RULES, iv (5 : Int32), iv (5 : Int32), rv b1_264, rv b1_267, iv ii, iv jj, rv xx, rv yy, rv zz] []) := by
          intro t k
          refine k305 t ?_
          refine XS.astore X267.here hx rfl (hb hby at_171) rfl rfl (l' := #[iv p1, iv p2, iv p3, iv p4, iv (3 : Int32), rv w_MANY_RULES, iv (5 : Int32), iv (5 : Int32), rv b1_264, rv b1_267, iv ii, iv jj, rv xx, rv yy, rv zz]) rfl ?_
          show Steps p.tables e below (T267.setTop (mkF m 173 #[iv p1, iv p2, iv p3, iv p4, iv (3 : Int32), rv w_MANY_RULES, iv (5 : Int32), iv (5 : Int32), rv b1_264, rv b1_267, iv ii, iv jj, rv xx, rv yy, rv zz] [])) _
          exact k
        obtain ⟨T307, lc307, X307, N307, e307, st307⟩ := tail_other w_POOL w_NO_RULE w_ONE_RULE w_MANY_RULES G p1 p2 p3 p4 (3 : Int32) w_MANY_RULES (5 : Int32) (5 : Int32) b1_264 b1_267 ii jj xx yy zz X267 hx hZ hw hby hml hown O267 N267 (by decide) (by decide) rfl Ex Ez (nez : zz ≠ xx) Ey (ney : yy ≠ xx) (hc284 : ¬ (ii = jj))
        have k308 : Way p e below S0 T307 (mkF m 314 #[iv p1, iv p2, iv p3, iv p4, iv (3 : Int32), rv w_MANY_RULES, iv (5 : Int32), iv (5 : Int32), rv b1_264, rv b1_267, iv ii, iv jj, rv xx, rv yy, rv zz] [(.int (1 : Int32))]) := fun t k => k306 t (st307 _ k)
        obtain ⟨fs, hr, hrun, hended, hW, hsame⟩ := X307.leave (v := some (.int (1 : Int32))) (fun h => by rw [Bd.returns] at h; cases h)
        refine ⟨_, _, k308 _ (retN X307 hx (t := .boolean) Bd.returns (by simp) (hb hby at_314) hr), hrun, hended, _, _, rfl, ?_, ⟨_, rfl⟩, hW, hsame.mono (by decide) (by decide)⟩
        show Q_law_met Z w_POOL w_NO_RULE w_ONE_RULE w_MANY_RULES p1 p2 p3 p4 h0 n0 _ T307.heap _
        rw [e307]
        exact ⟨rfl, N307⟩
    · have k309 : Way p e below S0 T76 (mkF m 75 #[iv p1, iv p2, iv p3, iv p4, iv (3 : Int32), rv w_MANY_RULES, iv (6 : Int32), .unset, .unset, .unset, .unset, .unset, .unset, .unset, .unset] []) := by have q := k78; rw [hi79] at q; exact q
      have k310 : Way p e below S0 T76 (mkF m 83 #[iv p1, iv p2, iv p3, iv p4, iv (3 : Int32), rv w_MANY_RULES, iv (6 : Int32), iv (6 : Int32), .unset, .unset, .unset, .unset, .unset, .unset, .unset] [(.int (6 : Int32)), (.ref w_MANY_RULES)]) := by
        intro t k
        refine k309 t ?_
        refine XS.iload X76.here hx rfl (hb hby at_75) rfl ?_
        show Steps p.tables e below (T76.setTop (mkF m 77 #[iv p1, iv p2, iv p3, iv p4, iv (3 : Int32), rv w_MANY_RULES, iv (6 : Int32), .unset, .unset, .unset, .unset, .unset, .unset, .unset, .unset] [(.int (6 : Int32))])) _
        refine XS.istore X76.here hx rfl (hb hby at_77) rfl (l' := #[iv p1, iv p2, iv p3, iv p4, iv (3 : Int32), rv w_MANY_RULES, iv (6 : Int32), iv (6 : Int32), .unset, .unset, .unset, .unset, .unset, .unset, .unset]) rfl ?_
        show Steps p.tables e below (T76.setTop (mkF m 79 #[iv p1, iv p2, iv p3, iv p4, iv (3 : Int32), rv w_MANY_RULES, iv (6 : Int32), iv (6 : Int32), .unset, .unset, .unset, .unset, .unset, .unset, .unset] [])) _
        refine XS.aload X76.here hx rfl (hb hby at_79) rfl rfl ?_
        show Steps p.tables e below (T76.setTop (mkF m 81 #[iv p1, iv p2, iv p3, iv p4, iv (3 : Int32), rv w_MANY_RULES, iv (6 : Int32), iv (6 : Int32), .unset, .unset, .unset, .unset, .unset, .unset, .unset] [(.ref w_MANY_RULES)])) _
        refine XS.iload X76.here hx rfl (hb hby at_81) rfl ?_
        show Steps p.tables e below (T76.setTop (mkF m 83 #[iv p1, iv p2, iv p3, iv p4, iv (3 : Int32), rv w_MANY_RULES, iv (6 : Int32), iv (6 : Int32), .unset, .unset, .unset, .unset, .unset, .unset, .unset] [(.int (6 : Int32)), (.ref w_MANY_RULES)])) _
        exact k
      obtain ⟨cq311, kq311, qq311a, qq311b, qq311c⟩ := isOf hZ e76 (E_w_MANY_RULES.ext O0.2)
      obtain ⟨_, _, ⟨T311, L311, kk311, nn311⟩, -, X311, ⟨Lc311, hQ311, l311, y311, z311⟩, st311⟩ := X76.virtualBack hx (y := (⟨"com/example/rulework/bench/Burst", "makeRules", "(I)[Lcom/example/rulework/rulework/SchedulingRule;"⟩ : MethodName)) (z := (⟨"com/example/rulework/bench/Burst", "makeRules", "(I)[Lcom/example/rulework/rulework/SchedulingRule;"⟩ : MethodName)) hown (mvT hZ (hw _ (List.mem_of_getElem? (i := 3) rfl))) (mvT hZ (hw _ (List.mem_of_getElem? (i := 4) rfl))) (notFace_of_selects (args := #[]) (mvT hZ (hw _ (List.mem_of_getElem? (i := 6) rfl)))) (mvT hZ (hw _ (List.mem_of_getElem? (i := 6) rfl))) (mvT hZ (hw _ (List.mem_of_getElem? (i := 5) rfl))) (by decide) (backOf (W := 0) (mkm6 l Z a0 hw [] w_POOL w_NO_RULE w_ONE_RULE w_MANY_RULES G  h0 n0 O0 ) hZ (hw _ (List.mem_of_getElem? (i := 7) rfl)) (hw _ (List.mem_of_getElem? (i := 1) rfl)) (by decide) (by decide)) qq311a qq311c (g := (mkF m 83 #[iv p1, iv p2, iv p3, iv p4, iv (3 : Int32), rv w_MANY_RULES, iv (6 : Int32), iv (6 : Int32), .unset, .unset, .unset, .unset, .unset, .unset, .unset] [(.int (6 : Int32)), (.ref w_MANY_RULES)])) rfl (by rw [hml]; rfl) (Steps.refl _) (argsL := [(.int (6 : Int32))]) (rest := []) (lenOf pd_4 rfl) rfl (by show 2 * 0 + _ ≤ _; exact Nat.le_of_eq rfl) (hb hby at_83) (fun _ _ => ⟨rfl, e76, (by decide : 0 + 7 ≤ _), (by decide : 0 + 6 ≤ _)⟩)
      dsimp only [Pt.U, Pt.locs, Pt.cells, Pt.slots] at X311 l311 y311 z311 st311 hQ311
      subst l311 y311 z311
      obtain ⟨b1_311, kc_311, x0_311, x1_311, x2_311, x3_311, x4_311, x5_311, rfl, Nq311, Kq311, po311_0, po311_1, po311_2, po311_3, po311_4, po311_5, po311_6, po311_7, po311_8, po311_9, po311_10, po311_11, po311_12, po311_13, po311_14, po311_15, po311_16, po311_17, po311_18, po311_19, po311_20, po311_21, po311_22, po311_23, po311_24, po311_25, po311_26, po311_27, po311_28⟩ := hQ311
      have N311 := Fr.app N0 Nq311
      have O311 := O0.keep Kq311 all0
      have k312 : Way p e below S0 T311 (mkF m 86 #[iv p1, iv p2, iv p3, iv p4, iv (3 : Int32), rv w_MANY_RULES, iv (6 : Int32), iv (6 : Int32), .unset, .unset, .unset, .unset, .unset, .unset, .unset] [(.ref b1_311)]) := fun t k => k310 t (st311.trans k)
      have k313 : Way p e below S0 T311 (mkF m 92 #[iv p1, iv p2, iv p3, iv p4, iv (3 : Int32), rv w_MANY_RULES, iv (6 : Int32), iv (6 : Int32), rv b1_311, .unset, .unset, .unset, .unset, .unset, .unset] [(.int (6 : Int32)), (.ref w_MANY_RULES)]) := by
        intro t k
        refine k312 t ?_
        refine XS.astore X311.here hx rfl (hb hby at_86) rfl rfl (l' := #[iv p1, iv p2, iv p3, iv p4, iv (3 : Int32), rv w_MANY_RULES, iv (6 : Int32), iv (6 : Int32), rv b1_311, .unset, .unset, .unset, .unset, .unset, .unset]) rfl ?_
        show Steps p.tables e below (T311.setTop (mkF m 88 #[iv p1, iv p2, iv p3, iv p4, iv (3 : Int32), rv w_MANY_RULES, iv (6 : Int32), iv (6 : Int32), rv b1_311, .unset, .unset, .unset, .unset, .unset, .unset] [])) _
        refine XS.aload X311.here hx rfl (hb hby at_88) rfl rfl ?_
        show Steps p.tables e below (T311.setTop (mkF m 90 #[iv p1, iv p2, iv p3, iv p4, iv (3 : Int32), rv w_MANY_RULES, iv (6 : Int32), iv (6 : Int32), rv b1_311, .unset, .unset, .unset, .unset, .unset, .unset] [(.ref w_MANY_RULES)])) _
        refine XS.iload X311.here hx rfl (hb hby at_90) rfl ?_
        show Steps p.tables e below (T311.setTop (mkF m 92 #[iv p1, iv p2, iv p3, iv p4, iv (3 : Int32), rv w_MANY_RULES, iv (6 : Int32), iv (6 : Int32), rv b1_311, .unset, .unset, .unset, .unset, .unset, .unset] [(.int (6 : Int32)), (.ref w_MANY_RULES)])) _
        exact k
      obtain ⟨cq314, kq314, qq314a, qq314b, qq314c⟩ := isOf hZ rfl (E_w_MANY_RULES.ext O311.2)
      obtain ⟨_, _, ⟨T314, L314, kk314, nn314⟩, -, X314, ⟨Lc314, hQ314, l314, y314, z314⟩, st314⟩ := X311.virtualBack hx (y := (⟨"com/example/rulework/bench/Burst", "makeRules", "(I)[Lcom/example/rulework/rulework/SchedulingRule;"⟩ : MethodName)) (z := (⟨"com/example/rulework/bench/Burst", "makeRules", "(I)[Lcom/example/rulework/rulework/SchedulingRule;"⟩ : MethodName)) hown (mvT hZ (hw _ (List.mem_of_getElem? (i := 3) rfl))) (mvT hZ (hw _ (List.mem_of_getElem? (i := 4) rfl))) (notFace_of_selects (args := #[]) (mvT hZ (hw _ (List.mem_of_getElem? (i := 6) rfl)))) (mvT hZ (hw _ (List.mem_of_getElem? (i := 6) rfl))) (mvT hZ (hw _ (List.mem_of_getElem? (i := 5) rfl))) (by decide) (backOf (W := 0) (mkm6 l Z a0 hw [] w_POOL w_NO_RULE w_ONE_RULE w_MANY_RULES G  T311.heap n0 O311 ) hZ (hw _ (List.mem_of_getElem? (i := 7) rfl)) (hw _ (List.mem_of_getElem? (i := 1) rfl)) (by decide) (by decide)) qq314a qq314c (g := (mkF m 92 #[iv p1, iv p2, iv p3, iv p4, iv (3 : Int32), rv w_MANY_RULES, iv (6 : Int32), iv (6 : Int32), rv b1_311, .unset, .unset, .unset, .unset, .unset, .unset] [(.int (6 : Int32)), (.ref w_MANY_RULES)])) rfl (by rw [hml]; rfl) (Steps.refl _) (argsL := [(.int (6 : Int32))]) (rest := []) (lenOf pd_4 rfl) rfl (by show 2 * 0 + _ ≤ _; exact Nat.le_of_eq rfl) (hb hby at_92) (fun _ _ => ⟨rfl, rfl, (by decide : 7 + 7 ≤ _), (by decide : 6 + 6 ≤ _)⟩)
      dsimp only [Pt.U, Pt.locs, Pt.cells, Pt.slots] at X314 l314 y314 z314 st314 hQ314
      subst l314 y314 z314
      obtain ⟨b1_314, kc_314, x0_314, x1_314, x2_314, x3_314, x4_314, x5_314, rfl, Nq314, Kq314, po314_0, po314_1, po314_2, po314_3, po314_4, po314_5, po314_6, po314_7, po314_8, po314_9, po314_10, po314_11, po314_12, po314_13, po314_14, po314_15, po314_16, po314_17, po314_18, po314_19, po314_20, po314_21, po314_22, po314_23, po314_24, po314_25, po314_26, po314_27, po314_28⟩ := hQ314
      have N314 := Fr.app N311 Nq314
      have O314 := O311.keep Kq314 all0
      have k315 : Way p e below S0 T314 (mkF m 95 #[iv p1, iv p2, iv p3, iv p4, iv (3 : Int32), rv w_MANY_RULES, iv (6 : Int32), iv (6 : Int32), rv b1_311, .unset, .unset, .unset, .unset, .unset, .unset] [(.ref b1_314)]) := fun t k => k313 t (st314.trans k)
      have k316 : Way p e below S0 T314 (mkF m 111 #[iv p1, iv p2, iv p3, iv p4, iv (3 : Int32), rv w_MANY_RULES, iv (6 : Int32), iv (6 : Int32), rv b1_311, rv b1_314, .unset, .unset, .unset, .unset, .unset] [(.ref b1_311)]) := by
        intro t k
        refine k315 t ?_
        refine XS.astore X314.here hx rfl (hb hby at_95) rfl rfl (l' := #[iv p1, iv p2, iv p3, iv p4, iv (3 : Int32), rv w_MANY_RULES, iv (6 : Int32), iv (6 : Int32), rv b1_311, rv b1_314, .unset, .unset, .unset, .unset, .unset]) rfl ?_
        show Steps p.tables e below (T314.setTop (mkF m 97 #[iv p1, iv p2, iv p3, iv p4, iv (3 : Int32), rv w_MANY_RULES, iv (6 : Int32), iv (6 : Int32), rv b1_311, rv b1_314, .unset, .unset, .unset, .unset, .unset] [])) _
        refine XS.aload X314.here hx rfl (hb hby at_97) rfl rfl ?_
        show Steps p.tables e below (T314.setTop (mkF m 99 #[iv p1, iv p2, iv p3, iv p4, iv (3 : Int32), rv w_MANY_RULES, iv (6 : Int32), iv (6 : Int32), rv b1_311, rv b1_314, .unset, .unset, .unset, .unset, .unset] [(.ref b1_311)])) _
        refine XS.ifnullNo X314.here hx rfl (hb hby at_99) rfl ?_
        show Steps p.tables e below (T314.setTop (mkF m 102 #[iv p1, iv p2, iv p3, iv p4, iv (3 : Int32), rv w_MANY_RULES, iv (6 : Int32), iv (6 : Int32), rv b1_311, rv b1_314, .unset, .unset, .unset, .unset, .unset] [])) _
        refine XS.aload X314.here hx rfl (hb hby at_102) rfl rfl ?_
        show Steps p.tables e below (T314.setTop (mkF m 104 #[iv p1, iv p2, iv p3, iv p4, iv (3 : Int32), rv w_MANY_RULES, iv (6 : Int32), iv (6 : Int32), rv b1_311, rv b1_314, .unset, .unset, .unset, .unset, .unset] [(.ref b1_314)])) _
        refine XS.ifnonnullYes X314.here hx rfl (pc0 := 104) (pc' := 109) rfl (hb hby at_104) rfl (by decide) (by decide) ?_
        show Steps p.tables e below (T314.setTop (mkF m 109 #[iv p1, iv p2, iv p3, iv p4, iv (3 : Int32), rv w_MANY_RULES, iv (6 : Int32), iv (6 : Int32), rv b1_311, rv b1_314, .unset, .unset, .unset, .unset, .unset] [])) _
        refine XS.aload X314.here hx rfl (hb hby at_109) rfl rfl ?_
        show Steps p.tables e below (T314.setTop (mkF m 111 #[iv p1, iv p2, iv p3, iv p4, iv (3 : Int32), rv w_MANY_RULES, iv (6 : Int32), iv (6 : Int32), rv b1_311, rv b1_314, .unset, .unset, .unset, .unset, .unset] [(.ref b1_311)])) _
        exact k
      have f317 : Arv Z T314.heap b1_311 kc_311 (.object "com/example/rulework/rulework/SchedulingRule") (6 : Int32) [(.ref x0_311), (.ref x1_311), (.ref x2_311), (.ref x3_311), (.ref x4_311), (.ref x5_311)] .null := (po311_1.keep Kq314 nin0)
      obtain ⟨cl318, Ar318, -, S318, M318, -, -⟩ := id (f317)
      have k319 : Way p e below S0 T314 (mkF m 112 #[iv p1, iv p2, iv p3, iv p4, iv (3 : Int32), rv w_MANY_RULES, iv (6 : Int32), iv (6 : Int32), rv b1_311, rv b1_314, .unset, .unset, .unset, .unset, .unset] [(.int (6 : Int32))]) := fun t k => k316 t (X314.arraylength hx (Ar318.1) (State.isArrayOf_alike hZ.alike Ar318.2.1) (g := (mkF m 111 #[iv p1, iv p2, iv p3, iv p4, iv (3 : Int32), rv w_MANY_RULES, iv (6 : Int32), iv (6 : Int32), rv b1_311, rv b1_314, .unset, .unset, .unset, .unset, .unset] [(.ref b1_311)])) rfl rfl (hb hby at_111) _ (by rw [len_of S318 M318]; exact k))
      have k320 : Way p e below S0 T314 (mkF m 119 #[iv p1, iv p2, iv p3, iv p4, iv (3 : Int32), rv w_MANY_RULES, iv (6 : Int32), iv (6 : Int32), rv b1_311, rv b1_314, .unset, .unset, .unset, .unset, .unset] [(.ref b1_314)]) := by
        intro t k
        refine k319 t ?_
        refine XS.iload X314.here hx rfl (hb hby at_112) rfl ?_
        show Steps p.tables e below (T314.setTop (mkF m 114 #[iv p1, iv p2, iv p3, iv p4, iv (3 : Int32), rv w_MANY_RULES, iv (6 : Int32), iv (6 : Int32), rv b1_311, rv b1_314, .unset, .unset, .unset, .unset, .unset] [(.int (6 : Int32)), (.int (6 : Int32))])) _
        refine XS.icmpNo X314.here hx rfl (hb hby at_114) rfl (teq ((by decide) : (6 : Int32) = (6 : Int32))).2 ?_
        show Steps p.tables e below (T314.setTop (mkF m 117 #[iv p1, iv p2, iv p3, iv p4, iv (3 : Int32), rv w_MANY_RULES, iv (6 : Int32), iv (6 : Int32), rv b1_311, rv b1_314, .unset, .unset, .unset, .unset, .unset] [])) _
        refine XS.aload X314.here hx rfl (hb hby at_117) rfl rfl ?_
        show Steps p.tables e below (T314.setTop (mkF m 119 #[iv p1, iv p2, iv p3, iv p4, iv (3 : Int32), rv w_MANY_RULES, iv (6 : Int32), iv (6 : Int32), rv b1_311, rv b1_314, .unset, .unset, .unset, .unset, .unset] [(.ref b1_314)])) _
        exact k
      obtain ⟨cl321, Ar321, -, S321, M321, -, -⟩ := id (po314_1)
      have k322 : Way p e below S0 T314 (mkF m 120 #[iv p1, iv p2, iv p3, iv p4, iv (3 : Int32), rv w_MANY_RULES, iv (6 : Int32), iv (6 : Int32), rv b1_311, rv b1_314, .unset, .unset, .unset, .unset, .unset] [(.int (6 : Int32))]) := fun t k => k320 t (X314.arraylength hx (Ar321.1) (State.isArrayOf_alike hZ.alike Ar321.2.1) (g := (mkF m 119 #[iv p1, iv p2, iv p3, iv p4, iv (3 : Int32), rv w_MANY_RULES, iv (6 : Int32), iv (6 : Int32), rv b1_311, rv b1_314, .unset, .unset, .unset, .unset, .unset] [(.ref b1_314)])) rfl rfl (hb hby at_119) _ (by rw [len_of S321 M321]; exact k))
      have k323 : Way p e below S0 T314 (mkF m 152 #[iv p1, iv p2, iv p3, iv p4, iv (3 : Int32), rv w_MANY_RULES, iv (6 : Int32), iv (6 : Int32), rv b1_311, rv b1_314, iv ((p3 &&& (2147483647 : Int32)) % (6 : Int32)), iv ((p4 &&& (2147483647 : Int32)) % (6 : Int32)), .unset, .unset, .unset] []) := by
        intro t k
        refine k322 t ?_
        refine XS.iload X314.here hx rfl (hb hby at_120) rfl ?_
        show Steps p.tables e below (T314.setTop (mkF m 122 #[iv p1, iv p2, iv p3, iv p4, iv (3 : Int32), rv w_MANY_RULES, iv (6 : Int32), iv (6 : Int32), rv b1_311, rv b1_314, .unset, .unset, .unset, .unset, .unset] [(.int (6 : Int32)), (.int (6 : Int32))])) _
        refine XS.icmpYes X314.here hx rfl (pc0 := 122) (pc' := 127) rfl (hb hby at_122) rfl (teq ((by decide) : (6 : Int32) = (6 : Int32))).1 (by decide) (by decide) ?_
        show Steps p.tables e below (T314.setTop (mkF m 127 #[iv p1, iv p2, iv p3, iv p4, iv (3 : Int32), rv w_MANY_RULES, iv (6 : Int32), iv (6 : Int32), rv b1_311, rv b1_314, .unset, .unset, .unset, .unset, .unset] [])) _
        refine XS.iload X314.here hx rfl (hb hby at_127) rfl ?_
        show Steps p.tables e below (T314.setTop (mkF m 129 #[iv p1, iv p2, iv p3, iv p4, iv (3 : Int32), rv w_MANY_RULES, iv (6 : Int32), iv (6 : Int32), rv b1_311, rv b1_314, .unset, .unset, .unset, .unset, .unset] [(.int (6 : Int32))])) _
        refine XS.ifYes X314.here hx rfl (pc0 := 129) (pc' := 134) rfl (hb hby at_129) rfl ((if0 _ _).trans (feq ((by decide) : ¬ ((6 : Int32) = (0 : Int32)))).2) (by decide) (by decide) ?_
        show Steps p.tables e below (T314.setTop (mkF m 134 #[iv p1, iv p2, iv p3, iv p4, iv (3 : Int32), rv w_MANY_RULES, iv (6 : Int32), iv (6 : Int32), rv b1_311, rv b1_314, .unset, .unset, .unset, .unset, .unset] [])) _
        refine XS.iloadN X314.here hx rfl (hb hby at_134) rfl ?_
        show Steps p.tables e below (T314.setTop (mkF m 135 #[iv p1, iv p2, iv p3, iv p4, iv (3 : Int32), rv w_MANY_RULES, iv (6 : Int32), iv (6 : Int32), rv b1_311, rv b1_314, .unset, .unset, .unset, .unset, .unset] [(.int p3)])) _
        refine X314.ldcInt hx hown (mvT hZ (hw _ (List.mem_of_getElem? (i := 36) rfl))) (g := (mkF m 135 #[iv p1, iv p2, iv p3, iv p4, iv (3 : Int32), rv w_MANY_RULES, iv (6 : Int32), iv (6 : Int32), rv b1_311, rv b1_314, .unset, .unset, .unset, .unset, .unset] [(.int p3)])) rfl (hb hby at_135) _ ?_
        show Steps p.tables e below (T314.setTop (mkF m 137 #[iv p1, iv p2, iv p3, iv p4, iv (3 : Int32), rv w_MANY_RULES, iv (6 : Int32), iv (6 : Int32), rv b1_311, rv b1_314, .unset, .unset, .unset, .unset, .unset] [(.int (2147483647 : Int32)), (.int p3)])) _
        refine XS.iand X314.here hx rfl (hb hby at_137) rfl ?_
        show Steps p.tables e below (T314.setTop (mkF m 138 #[iv p1, iv p2, iv p3, iv p4, iv (3 : Int32), rv w_MANY_RULES, iv (6 : Int32), iv (6 : Int32), rv b1_311, rv b1_314, .unset, .unset, .unset, .unset, .unset] [(.int (p3 &&& (2147483647 : Int32)))])) _
        refine XS.iload X314.here hx rfl (hb hby at_138) rfl ?_
        show Steps p.tables e below (T314.setTop (mkF m 140 #[iv p1, iv p2, iv p3, iv p4, iv (3 : Int32), rv w_MANY_RULES, iv (6 : Int32), iv (6 : Int32), rv b1_311, rv b1_314, .unset, .unset, .unset, .unset, .unset] [(.int (6 : Int32)), (.int (p3 &&& (2147483647 : Int32)))])) _
        refine iremM (g := (mkF m 140 #[iv p1, iv p2, iv p3, iv p4, iv (3 : Int32), rv w_MANY_RULES, iv (6 : Int32), iv (6 : Int32), rv b1_311, rv b1_314, .unset, .unset, .unset, .unset, .unset] [(.int (6 : Int32)), (.int (p3 &&& (2147483647 : Int32)))])) X314 hx rfl (hb hby at_140) rfl (by decide) ?_
        show Steps p.tables e below (T314.setTop (mkF m 141 #[iv p1, iv p2, iv p3, iv p4, iv (3 : Int32), rv w_MANY_RULES, iv (6 : Int32), iv (6 : Int32), rv b1_311, rv b1_314, .unset, .unset, .unset, .unset, .unset] [(.int ((p3 &&& (2147483647 : Int32)) % (6 : Int32)))])) _
        refine XS.istore X314.here hx rfl (hb hby at_141) rfl (l' := #[iv p1, iv p2, iv p3, iv p4, iv (3 : Int32), rv w_MANY_RULES, iv (6 : Int32), iv (6 : Int32), rv b1_311, rv b1_314, iv ((p3 &&& (2147483647 : Int32)) % (6 : Int32)), .unset, .unset, .unset, .unset]) rfl ?_
        show Steps p.tables e below (T314.setTop (mkF m 143 #[iv p1, iv p2, iv p3, iv p4, iv (3 : Int32), rv w_MANY_RULES, iv (6 : Int32), iv (6 : Int32), rv b1_311, rv b1_314, iv ((p3 &&& (2147483647 : Int32)) % (6 : Int32)), .unset, .unset, .unset, .unset] [])) _
        refine XS.iloadN X314.here hx rfl (hb hby at_143) rfl ?_
        show Steps p.tables e below (T314.setTop (mkF m 144 #[iv p1, iv p2, iv p3, iv p4, iv (3 : Int32), rv w_MANY_RULES, iv (6 : Int32), iv (6 : Int32), rv b1_311, rv b1_314, iv ((p3 &&& (2147483647 : Int32)) % (6 : Int32)), .unset, .unset, .unset, .unset] [(.int p4)])) _
        refine X314.ldcInt hx hown (mvT hZ (hw _ (List.mem_of_getElem? (i := 36) rfl))) (g := (mkF m 144 #[iv p1, iv p2, iv p3, iv p4, iv (3 : Int32), rv w_MANY_RULES, iv (6 : Int32), iv (6 : Int32), rv b1_311, rv b1_314, iv ((p3 &&& (2147483647 : Int32)) % (6 : Int32)), .unset, .unset, .unset, .unset] [(.int p4)])) rfl (hb hby at_144) _ ?_
        show Steps p.tables e below (T314.setTop (mkF m 146 #[iv p1, iv p2, iv p3, iv p4, iv (3 : Int32), rv w_MANY_RULES, iv (6 : Int32), iv (6 : Int32), rv b1_311, rv b1_314, iv ((p3 &&& (2147483647 : Int32)) % (6 : Int32)), .unset, .unset, .unset, .unset] [(.int (2147483647 : Int32)), (.int p4)])) _
        refine XS.iand X314.here hx rfl (hb hby at_146) rfl ?_
        show Steps p.tables e below (T314.setTop (mkF m 147 #[iv p1, iv p2, iv p3, iv p4, iv (3 : Int32), rv w_MANY_RULES, iv (6 : Int32), iv (6 : Int32), rv b1_311, rv b1_314, iv ((p3 &&& (2147483647 : Int32)) % (6 : Int32)), .unset, .unset, .unset, .unset] [(.int (p4 &&& (2147483647 : Int32)))])) _
        refine XS.iload X314.here hx rfl (hb hby at_147) rfl ?_
        show Steps p.tables e below (T314.setTop (mkF m 149 #[iv p1, iv p2, iv p3, iv p4, iv (3 : Int32), rv w_MANY_RULES, iv (6 : Int32), iv (6 : Int32), rv b1_311, rv b1_314, iv ((p3 &&& (2147483647 : Int32)) % (6 : Int32)), .unset, .unset, .unset, .unset] [(.int (6 : Int32)), (.int (p4 &&& (2147483647 : Int32)))])) _
        refine iremM (g := (mkF m 149 #[iv p1, iv p2, iv p3, iv p4, iv (3 : Int32), rv w_MANY_RULES, iv (6 : Int32), iv (6 : Int32), rv b1_311, rv b1_314, iv ((p3 &&& (2147483647 : Int32)) % (6 : Int32)), .unset, .unset, .unset, .unset] [(.int (6 : Int32)), (.int (p4 &&& (2147483647 : Int32)))])) X314 hx rfl (hb hby at_149) rfl (by decide) ?_
        show Steps p.tables e below (T314.setTop (mkF m 150 #[iv p1, iv p2, iv p3, iv p4, iv (3 : Int32), rv w_MANY_RULES, iv (6 : Int32), iv (6 : Int32), rv b1_311, rv b1_314, iv ((p3 &&& (2147483647 : Int32)) % (6 : Int32)), .unset, .unset, .unset, .unset] [(.int ((p4 &&& (2147483647 : Int32)) % (6 : Int32)))])) _
        refine XS.istore X314.here hx rfl (hb hby at_150) rfl (l' := #[iv p1, iv p2, iv p3, iv p4, iv (3 : Int32), rv w_MANY_RULES, iv (6 : Int32), iv (6 : Int32), rv b1_311, rv b1_314, iv ((p3 &&& (2147483647 : Int32)) % (6 : Int32)), iv ((p4 &&& (2147483647 : Int32)) % (6 : Int32)), .unset, .unset, .unset]) rfl ?_
        show Steps p.tables e below (T314.setTop (mkF m 152 #[iv p1, iv p2, iv p3, iv p4, iv (3 : Int32), rv w_MANY_RULES, iv (6 : Int32), iv (6 : Int32), rv b1_311, rv b1_314, iv ((p3 &&& (2147483647 : Int32)) % (6 : Int32)), iv ((p4 &&& (2147483647 : Int32)) % (6 : Int32)), .unset, .unset, .unset] [])) _
        exact k
      obtain ⟨ii, hii⟩ : ∃ z, ((p3 &&& (2147483647 : Int32)) % (6 : Int32)) = z := ⟨_, rfl⟩
      have k324 : Way p e below S0 T314 (mkF m 152 #[iv p1, iv p2, iv p3, iv p4, iv (3 : Int32), rv w_MANY_RULES, iv (6 : Int32), iv (6 : Int32), rv b1_311, rv b1_314, iv ii, iv ((p4 &&& (2147483647 : Int32)) % (6 : Int32)), .unset, .unset, .unset] []) := by have q := k323; rw [hii] at q; exact q
      obtain ⟨jj, hjj⟩ : ∃ z, ((p4 &&& (2147483647 : Int32)) % (6 : Int32)) = z := ⟨_, rfl⟩
      have k325 : Way p e below S0 T314 (mkF m 152 #[iv p1, iv p2, iv p3, iv p4, iv (3 : Int32), rv w_MANY_RULES, iv (6 : Int32), iv (6 : Int32), rv b1_311, rv b1_314, iv ii, iv jj, .unset, .unset, .unset] []) := by have q := k324; rw [hjj] at q; exact q
      have hrii : ii = (0 : Int32) ∨ ii = (1 : Int32) ∨ ii = (2 : Int32) ∨ ii = (3 : Int32) ∨ ii = (4 : Int32) ∨ ii = (5 : Int32) := by rw [← hii]; exact own_rem6 p3
      have hbii : ¬ (ii < 0) ∧ ii < (6 : Int32) := by rcases hrii with rfl | rfl | rfl | rfl | rfl | rfl <;> decide
      have hrjj : jj = (0 : Int32) ∨ jj = (1 : Int32) ∨ jj = (2 : Int32) ∨ jj = (3 : Int32) ∨ jj = (4 : Int32) ∨ jj = (5 : Int32) := by rw [← hjj]; exact own_rem6 p4
      have hbjj : ¬ (jj < 0) ∧ jj < (6 : Int32) := by rcases hrjj with rfl | rfl | rfl | rfl | rfl | rfl <;> decide
      have f326 : Exa Z T314.heap x0_311 "com/example/rulework/bench/Burst$SelfConflictingRule" := (po311_3.keep Kq314)
      have f327 : Exa Z T314.heap x1_311 "com/example/rulework/bench/Burst$SelfConflictingRule" := (po311_5.keep Kq314)
      have f328 : Exa Z T314.heap x2_311 "com/example/rulework/bench/Burst$SelfConflictingRule" := (po311_7.keep Kq314)
      have f329 : Exa Z T314.heap x3_311 "com/example/rulework/bench/Burst$SelfConflictingRule" := (po311_9.keep Kq314)
      have f330 : Exa Z T314.heap x4_311 "com/example/rulework/bench/Burst$SelfConflictingRule" := (po311_11.keep Kq314)
      have f331 : Exa Z T314.heap x5_311 "com/example/rulework/bench/Burst$SelfConflictingRule" := (po311_13.keep Kq314)
      by_cases hc332 : ii = jj
      · subst hc332
        obtain ⟨xx, zz, gx, gz, Ex, Ez, nez⟩ : ∃ x z : Addr, ([(.ref x0_311), (.ref x1_311), (.ref x2_311), (.ref x3_311), (.ref x4_311), (.ref x5_311)] : List Value).getD ii.toNatClampNeg .null = .ref x ∧ ([(.ref x0_314), (.ref x1_314), (.ref x2_314), (.ref x3_314), (.ref x4_314), (.ref x5_314)] : List Value).getD ii.toNatClampNeg .null = .ref z ∧ Exa Z T314.heap x "com/example/rulework/bench/Burst$SelfConflictingRule" ∧ Exa Z T314.heap z "com/example/rulework/bench/Burst$SelfConflictingRule" ∧ z ≠ x := by
          rcases hrii with rfl | rfl | rfl | rfl | rfl | rfl
          · exact ⟨x0_311, x0_314, rfl, rfl, f326, po314_3, (Ne.symm (Nat.ne_of_lt (Nat.lt_of_lt_of_le po311_3.lt po314_2)))⟩
          · exact ⟨x1_311, x1_314, rfl, rfl, f327, po314_5, (Ne.symm (Nat.ne_of_lt (Nat.lt_of_lt_of_le po311_5.lt po314_4)))⟩
          · exact ⟨x2_311, x2_314, rfl, rfl, f328, po314_7, (Ne.symm (Nat.ne_of_lt (Nat.lt_of_lt_of_le po311_7.lt po314_6)))⟩
          · exact ⟨x3_311, x3_314, rfl, rfl, f329, po314_9, (Ne.symm (Nat.ne_of_lt (Nat.lt_of_lt_of_le po311_9.lt po314_8)))⟩
          · exact ⟨x4_311, x4_314, rfl, rfl, f330, po314_11, (Ne.symm (Nat.ne_of_lt (Nat.lt_of_lt_of_le po311_11.lt po314_10)))⟩
          · exact ⟨x5_311, x5_314, rfl, rfl, f331, po314_13, (Ne.symm (Nat.ne_of_lt (Nat.lt_of_lt_of_le po311_13.lt po314_12)))⟩
        have k333 : Way p e below S0 T314 (mkF m 156 #[iv p1, iv p2, iv p3, iv p4, iv (3 : Int32), rv w_MANY_RULES, iv (6 : Int32), iv (6 : Int32), rv b1_311, rv b1_314, iv ii, iv ii, .unset, .unset, .unset] [(.int ii), (.ref b1_311)]) := by
          intro t k
          refine k325 t ?_
          refine XS.aload X314.here hx rfl (hb hby at_152) rfl rfl ?_
          show Steps p.tables e below (T314.setTop (mkF m 154 #[iv p1, iv p2, iv p3, iv p4, iv (3 : Int32), rv w_MANY_RULES, iv (6 : Int32), iv (6 : Int32), rv b1_311, rv b1_314, iv ii, iv ii, .unset, .unset, .unset] [(.ref b1_311)])) _
          refine XS.iload X314.here hx rfl (hb hby at_154) rfl ?_
          show Steps p.tables e below (T314.setTop (mkF m 156 #[iv p1, iv p2, iv p3, iv p4, iv (3 : Int32), rv w_MANY_RULES, iv (6 : Int32), iv (6 : Int32), rv b1_311, rv b1_314, iv ii, iv ii, .unset, .unset, .unset] [(.int ii), (.ref b1_311)])) _
          exact k
        obtain ⟨cl334, Ar334, qc334, S334, M334, U334, G334⟩ := id (f317)
        have hin334 : ¬ (ii < 0 ∨ cl334.slots.size ≤ (ii).toNatClampNeg) := inb_of S334 hbii
        have hat334 : cl334.slots[(ii).toNatClampNeg]? = some (.ref xx) := Has.at U334 hin334 gx
        have k335 : Way p e below S0 T314 (mkF m 157 #[iv p1, iv p2, iv p3, iv p4, iv (3 : Int32), rv w_MANY_RULES, iv (6 : Int32), iv (6 : Int32), rv b1_311, rv b1_314, iv ii, iv ii, .unset, .unset, .unset] [(.ref xx)]) := fun t k => k333 t (X314.aaload hx (j := ii) (v := (.ref xx)) Ar334.1 (State.isArrayOf_alike hZ.alike Ar334.2.1) rfl Ar334.2.2 hin334 hat334 (g := (mkF m 156 #[iv p1, iv p2, iv p3, iv p4, iv (3 : Int32), rv w_MANY_RULES, iv (6 : Int32), iv (6 : Int32), rv b1_311, rv b1_314, iv ii, iv ii, .unset, .unset, .unset] [(.int ii), (.ref b1_311)])) rfl rfl (hb hby at_156) _ k)
        have k336 : Way p e below S0 T314 (mkF m 163 #[iv p1, iv p2, iv p3, iv p4, iv (3 : Int32), rv w_MANY_RULES, iv (6 : Int32), iv (6 : Int32), rv b1_311, rv b1_314, iv ii, iv ii, rv xx, .unset, .unset] [(.int ii), (.ref b1_311)]) := by
          intro t k
          refine k335 t ?_
          refine XS.astore X314.here hx rfl (hb hby at_157) rfl rfl (l' := #[iv p1, iv p2, iv p3, iv p4, iv (3 : Int32), rv w_MANY_RULES, iv (6 : Int32), iv (6 : Int32), rv b1_311, rv b1_314, iv ii, iv ii, rv xx, .unset, .unset]) rfl ?_
          show Steps p.tables e below (T314.setTop (mkF m 159 #[iv p1, iv p2, iv p3, iv p4, iv (3 : Int32), rv w_MANY_RULES, iv (6 : Int32), iv (6 : Int32), rv b1_311, rv b1_314, iv ii, iv ii, rv xx, .unset, .unset] [])) _
          refine XS.aload X314.here hx rfl (hb hby at_159) rfl rfl ?_
          show Steps p.tables e below (T314.setTop (mkF m 161 #[iv p1, iv p2, iv p3, iv p4, iv (3 : Int32), rv w_MANY_RULES, iv (6 : Int32), iv (6 : Int32), rv b1_311, rv b1_314, iv ii, iv ii, rv xx, .unset, .unset] [(.ref b1_311)])) _
          refine XS.iload X314.here hx rfl (hb hby at_161) rfl ?_
          show Steps p.tables e below (T314.setTop (mkF m 163 #[iv p1, iv p2, iv p3, iv p4, iv (3 : Int32), rv w_MANY_RULES, iv (6 : Int32), iv (6 : Int32), rv b1_311, rv b1_314, iv ii, iv ii, rv xx, .unset, .unset] [(.int ii), (.ref b1_311)])) _
          exact k
        obtain ⟨cl337, Ar337, qc337, S337, M337, U337, G337⟩ := id (f317)
        have hin337 : ¬ (ii < 0 ∨ cl337.slots.size ≤ (ii).toNatClampNeg) := inb_of S337 hbii
        have hat337 : cl337.slots[(ii).toNatClampNeg]? = some (.ref xx) := Has.at U337 hin337 gx
        have k338 : Way p e below S0 T314 (mkF m 164 #[iv p1, iv p2, iv p3, iv p4, iv (3 : Int32), rv w_MANY_RULES, iv (6 : Int32), iv (6 : Int32), rv b1_311, rv b1_314, iv ii, iv ii, rv xx, .unset, .unset] [(.ref xx)]) := fun t k => k336 t (X314.aaload hx (j := ii) (v := (.ref xx)) Ar337.1 (State.isArrayOf_alike hZ.alike Ar337.2.1) rfl Ar337.2.2 hin337 hat337 (g := (mkF m 163 #[iv p1, iv p2, iv p3, iv p4, iv (3 : Int32), rv w_MANY_RULES, iv (6 : Int32), iv (6 : Int32), rv b1_311, rv b1_314, iv ii, iv ii, rv xx, .unset, .unset] [(.int ii), (.ref b1_311)])) rfl rfl (hb hby at_163) _ k)
        have k339 : Way p e below S0 T314 (mkF m 170 #[iv p1, iv p2, iv p3, iv p4, iv (3 : Int32), rv w_MANY_RULES, iv (6 : Int32), iv (6 : Int32), rv b1_311, rv b1_314, iv ii, iv ii, rv xx, rv xx, .unset] [(.int ii), (.ref b1_314)]) := by
          intro t k
          refine k338 t ?_
          refine XS.astore X314.here hx rfl (hb hby at_164) rfl rfl (l' := #[iv p1, iv p2, iv p3, iv p4, iv (3 : Int32), rv w_MANY_RULES, iv (6 : Int32), iv (6 : Int32), rv b1_311, rv b1_314, iv ii, iv ii, rv xx, rv xx, .unset]) rfl ?_
          show Steps p.tables e below (T314.setTop (mkF m 166 #[iv p1, iv p2, iv p3, iv p4, iv (3 : Int32), rv w_MANY_RULES, iv (6 : Int32), iv (6 : Int32), rv b1_311, rv b1_314, iv ii, iv ii, rv xx, rv xx, .unset] [])) _
          refine XS.aload X314.here hx rfl (hb hby at_166) rfl rfl ?_
          show Steps p.tables e below (T314.setTop (mkF m 168 #[iv p1, iv p2, iv p3, iv p4, iv (3 : Int32), rv w_MANY_RULES, iv (6 : Int32), iv (6 : Int32), rv b1_311, rv b1_314, iv ii, iv ii, rv xx, rv xx, .unset] [(.ref b1_314)])) _
          refine XS.iload X314.here hx rfl (hb hby at_168) rfl ?_
          show Steps p.tables e below (T314.setTop (mkF m 170 #[iv p1, iv p2, iv p3, iv p4, iv (3 : Int32), rv w_MANY_RULES, iv (6 : Int32), iv (6 : Int32), rv b1_311, rv b1_314, iv ii, iv ii, rv xx, rv xx, .unset] [(.int ii), (.ref b1_314)])) _
          exact k
        obtain ⟨cl340, Ar340, qc340, S340, M340, U340, G340⟩ := id (po314_1)
        have hin340 : ¬ (ii < 0 ∨ cl340.slots.size ≤ (ii).toNatClampNeg) := inb_of S340 hbii
        have hat340 : cl340.slots[(ii).toNatClampNeg]? = some (.ref zz) := Has.at U340 hin340 gz
        have k341 : Way p e below S0 T314 (mkF m 171 #[iv p1, iv p2, iv p3, iv p4, iv (3 : Int32), rv w_MANY_RULES, iv (6 : Int32), iv (6 : Int32), rv b1_311, rv b1_314, iv ii, iv ii, rv xx, rv xx, .unset] [(.ref zz)]) := fun t k => k339 t (X314.aaload hx (j := ii) (v := (.ref zz)) Ar340.1 (State.isArrayOf_alike hZ.alike Ar340.2.1) rfl Ar340.2.2 hin340 hat340 (g := (mkF m 170 #[iv p1, iv p2, iv p3, iv p4, iv (3 : Int32), rv w_MANY_RULES, iv (6 : Int32), iv (6 : Int32), rv b1_311, rv b1_314, iv ii, iv ii, rv xx, rv xx, .unset] [(.int ii), (.ref b1_314)])) rfl rfl (hb hby at_170) _ k)
        have k342 : Way p e below S0 T314 (mkF m 173 #[iv p1, iv p2, iv p3, iv p4, iv (3 : Int32), rv w_MANY_RULES, iv (6 : Int32), iv (6 : Int32), rv b1_311, rv b1_314, iv ii, iv ii, rv xx, rv xx, rv zz] []) := by
          intro t k
          refine k341 t ?_
          refine XS.astore X314.here hx rfl (hb hby at_171) rfl rfl (l' := #[iv p1, iv p2, iv p3, iv p4, iv (3 : Int32), rv w_MANY_RULES, iv (6 : Int32), iv (6 : Int32), rv b1_311, rv b1_314, iv ii, iv ii, rv xx, rv xx, rv zz]) rfl ?_
          show Steps p.tables e below (T314.setTop (mkF m 173 #[iv p1, iv p2, iv p3, iv p4, iv (3 : Int32), rv w_MANY_RULES, iv (6 : Int32), iv (6 : Int32), rv b1_311, rv b1_314, iv ii, iv ii, rv xx, rv xx, rv zz] [])) _
          exact k
        obtain ⟨T343, lc343, X343, N343, e343, st343⟩ := tail_same w_POOL w_NO_RULE w_ONE_RULE w_MANY_RULES G p1 p2 p3 p4 (3 : Int32) w_MANY_RULES (6 : Int32) (6 : Int32) b1_311 b1_314 ii xx zz X314 hx hZ hw hby hml hown O314 N314 (by decide) (by decide) rfl Ex Ez (nez : zz ≠ xx)
        have k344 : Way p e below S0 T343 (mkF m 314 #[iv p1, iv p2, iv p3, iv p4, iv (3 : Int32), rv w_MANY_RULES, iv (6 : Int32), iv (6 : Int32), rv b1_311, rv b1_314, iv ii, iv ii, rv xx, rv xx, rv zz] [(.int (1 : Int32))]) := fun t k => k342 t (st343 _ k)
        obtain ⟨fs, hr, hrun, hended, hW, hsame⟩ := X343.leave (v := some (.int (1 : Int32))) (fun h => by rw [Bd.returns] at h; cases h)
        refine ⟨_, _, k344 _ (retN X343 hx (t := .boolean) Bd.returns (by simp) (hb hby at_314) hr), hrun, hended, _, _, rfl, ?_, ⟨_, rfl⟩, hW, hsame.mono (by decide) (by decide)⟩
        show Q_law_met Z w_POOL w_NO_RULE w_ONE_RULE w_MANY_RULES p1 p2 p3 p4 h0 n0 _ T343.heap _
        rw [e343]
        exact ⟨rfl, N343⟩
      · obtain ⟨xx, yy, zz, gx, gy, gz, Ex, Ey, Ez, nez, ney⟩ : ∃ x y z : Addr, ([(.ref x0_311), (.ref x1_311), (.ref x2_311), (.ref x3_311), (.ref x4_311), (.ref x5_311)] : List Value).getD ii.toNatClampNeg .null = .ref x ∧ ([(.ref x0_311), (.ref x1_311), (.ref x2_311), (.ref x3_311), (.ref x4_311), (.ref x5_311)] : List Value).getD jj.toNatClampNeg .null = .ref y ∧ ([(.ref x0_314), (.ref x1_314), (.ref x2_314), (.ref x3_314), (.ref x4_314), (.ref x5_314)] : List Value).getD ii.toNatClampNeg .null = .ref z ∧ Exa Z T314.heap x "com/example/rulework/bench/Burst$SelfConflictingRule" ∧ Exa Z T314.heap y "com/example/rulework/bench/Burst$SelfConflictingRule" ∧ Exa Z T314.heap z "com/example/rulework/bench/Burst$SelfConflictingRule" ∧ z ≠ x ∧ y ≠ x := by
          rcases hrii with rfl | rfl | rfl | rfl | rfl | rfl
          · rcases hrjj with rfl | rfl | rfl | rfl | rfl | rfl
            · exact absurd rfl hc332
            · exact ⟨x0_311, x1_311, x0_314, rfl, rfl, rfl, f326, f327, po314_3, (Ne.symm (Nat.ne_of_lt (Nat.lt_of_lt_of_le po311_3.lt po314_2))), (Ne.symm po311_14)⟩
            · exact ⟨x0_311, x2_311, x0_314, rfl, rfl, rfl, f326, f328, po314_3, (Ne.symm (Nat.ne_of_lt (Nat.lt_of_lt_of_le po311_3.lt po314_2))), (Ne.symm po311_15)⟩
            · exact ⟨x0_311, x3_311, x0_314, rfl, rfl, rfl, f326, f329, po314_3, (Ne.symm (Nat.ne_of_lt (Nat.lt_of_lt_of_le po311_3.lt po314_2))), (Ne.symm po311_16)⟩
            · exact ⟨x0_311, x4_311, x0_314, rfl, rfl, rfl, f326, f330, po314_3, (Ne.symm (Nat.ne_of_lt (Nat.lt_of_lt_of_le po311_3.lt po314_2))), (Ne.symm po311_17)⟩
            · exact ⟨x0_311, x5_311, x0_314, rfl, rfl, rfl, f326, f331, po314_3, (Ne.symm (Nat.ne_of_lt (Nat.lt_of_lt_of_le po311_3.lt po314_2))), (Ne.symm po311_18)⟩
          · rcases hrjj with rfl | rfl | rfl | rfl | rfl | rfl
            · exact ⟨x1_311, x0_311, x1_314, rfl, rfl, rfl, f327, f326, po314_5, (Ne.symm (Nat.ne_of_lt (Nat.lt_of_lt_of_le po311_5.lt po314_4))), po311_14⟩
            · exact absurd rfl hc332
            · exact ⟨x1_311, x2_311, x1_314, rfl, rfl, rfl, f327, f328, po314_5, (Ne.symm (Nat.ne_of_lt (Nat.lt_of_lt_of_le po311_5.lt po314_4))), (Ne.symm po311_19)⟩
            · exact ⟨x1_311, x3_311, x1_314, rfl, rfl, rfl, f327, f329, po314_5, (Ne.symm (Nat.ne_of_lt (Nat.lt_of_lt_of_le po311_5.lt po314_4))), (Ne.symm po311_20)⟩
            · exact ⟨x1_311, x4_311, x1_314, rfl, rfl, rfl, f327, f330, po314_5, (Ne.symm (Nat.ne_of_lt (Nat.lt_of_lt_of_le po311_5.lt po314_4))), (Ne.symm po311_21)⟩
            · exact ⟨x1_311, x5_311, x1_314, rfl, rfl, rfl, f327, f331, po314_5, (Ne.symm (Nat.ne_of_lt (Nat.lt_of_lt_of_le po311_5.lt po314_4))), (Ne.symm po311_22)⟩
          · rcases hrjj with rfl | rfl | rfl | rfl | rfl | rfl
            · exact ⟨x2_311, x0_311, x2_314, rfl, rfl, rfl, f328, f326, po314_7, (Ne.symm (Nat.ne_of_lt (Nat.lt_of_lt_of_le po311_7.lt po314_6))), po311_15⟩
            · exact ⟨x2_311, x1_311, x2_314, rfl, rfl, rfl, f328, f327, po314_7, (Ne.symm (Nat.ne_of_lt (Nat.lt_of_lt_of_le po311_7.lt po314_6))), po311_19⟩
            · exact absurd rfl hc332
            · exact ⟨x2_311, x3_311, x2_314, rfl, rfl, rfl, f328, f329, po314_7, (Ne.symm (Nat.ne_of_lt (Nat.lt_of_lt_of_le po311_7.lt po314_6))), (Ne.symm po311_23)⟩
            · exact ⟨x2_311, x4_311, x2_314, rfl, rfl, rfl, f328, f330, po314_7, (Ne.symm (Nat.ne_of_lt (Nat.lt_of_lt_of_le po311_7.lt po314_6))), (Ne.symm po311_24)⟩
            · exact ⟨x2_311, x5_311, x2_314, rfl, rfl, rfl, f328, f331, po314_7, (Ne.symm (Nat.ne_of_lt (Nat.lt_of_lt_of_le po311_7.lt po314_6))), (Ne.symm po311_25)⟩
          · rcases hrjj with rfl | rfl | rfl | rfl | rfl | rfl
            · exact ⟨x3_311, x0_311, x3_314, rfl, rfl, rfl, f329, f326, po314_9, (Ne.symm (Nat.ne_of_lt (Nat.lt_of_lt_of_le po311_9.lt po314_8))), po311_16⟩
            · exact ⟨x3_311, x1_311, x3_314, rfl, rfl, rfl, f329, f327, po314_9, (Ne.symm (Nat.ne_of_lt (Nat.lt_of_lt_of_le po311_9.lt po314_8))), po311_20⟩
            · exact ⟨x3_311, x2_311, x3_314, rfl, rfl, rfl, f329, f328, po314_9, (Ne.symm (Nat.ne_of_lt (Nat.lt_of_lt_of_le po311_9.lt po314_8))), po311_23⟩
            · exact absurd rfl hc332
            · exact ⟨x3_311, x4_311, x3_314, rfl, rfl, rfl, f329, f330, po314_9, (Ne.symm (Nat.ne_of_lt (Nat.lt_of_lt_of_le po311_9.lt po314_8))), (Ne.symm po311_26)⟩
            · exact ⟨x3_311, x5_311, x3_314, rfl, rfl, rfl, f329, f331, po314_9, (Ne.symm (Nat.ne_of_lt (Nat.lt_of_lt_of_le po311_9.lt po314_8))), (Ne.symm po311_27)⟩
          · rcases hrjj with rfl | rfl | rfl | rfl | rfl | rfl
            · exact ⟨x4_311, x0_311, x4_314, rfl, rfl, rfl, f330, f326, po314_11, (Ne.symm (Nat.ne_of_lt (Nat.lt_of_lt_of_le po311_11.lt po314_10))), po311_17⟩
            · exact ⟨x4_311, x1_311, x4_314, rfl, rfl, rfl, f330, f327, po314_11, (Ne.symm (Nat.ne_of_lt (Nat.lt_of_lt_of_le po311_11.lt po314_10))), po311_21⟩
            · exact ⟨x4_311, x2_311, x4_314, rfl, rfl, rfl, f330, f328, po314_11, (Ne.symm (Nat.ne_of_lt (Nat.lt_of_lt_of_le po311_11.lt po314_10))), po311_24⟩
            · exact ⟨x4_311, x3_311, x4_314, rfl, rfl, rfl, f330, f329, po314_11, (Ne.symm (Nat.ne_of_lt (Nat.lt_of_lt_of_le po311_11.lt po314_10))), po311_26⟩
            · exact absurd rfl hc332
            · exact ⟨x4_311, x5_311, x4_314, rfl, rfl, rfl, f330, f331, po314_11, (Ne.symm (Nat.ne_of_lt (Nat.lt_of_lt_of_le po311_11.lt po314_10))), (Ne.symm po311_28)⟩
          · rcases hrjj with rfl | rfl | rfl | rfl | rfl | rfl
            · exact ⟨x5_311, x0_311, x5_314, rfl, rfl, rfl, f331, f326, po314_13, (Ne.symm (Nat.ne_of_lt (Nat.lt_of_lt_of_le po311_13.lt po314_12))), po311_18⟩
            · exact ⟨x5_311, x1_311, x5_314, rfl, rfl, rfl, f331, f327, po314_13, (Ne.symm (Nat.ne_of_lt (Nat.lt_of_lt_of_le po311_13.lt po314_12))), po311_22⟩
            · exact ⟨x5_311, x2_311, x5_314, rfl, rfl, rfl, f331, f328, po314_13, (Ne.symm (Nat.ne_of_lt (Nat.lt_of_lt_of_le po311_13.lt po314_12))), po311_25⟩
            · exact ⟨x5_311, x3_311, x5_314, rfl, rfl, rfl, f331, f329, po314_13, (Ne.symm (Nat.ne_of_lt (Nat.lt_of_lt_of_le po311_13.lt po314_12))), po311_27⟩
            · exact ⟨x5_311, x4_311, x5_314, rfl, rfl, rfl, f331, f330, po314_13, (Ne.symm (Nat.ne_of_lt (Nat.lt_of_lt_of_le po311_13.lt po314_12))), po311_28⟩
            · exact absurd rfl hc332
        have k345 : Way p e below S0 T314 (mkF m 156 #[iv p1, iv p2, iv p3, iv p4, iv (3 : Int32), rv w_MANY_RULES, iv (6 : Int32), iv (6 : Int32), rv b1_311, rv b1_314, iv ii, iv jj, .unset, .unset, .unset] [(.int ii), (.ref b1_311)]) := by
          intro t k
          refine k325 t ?_
          refine XS.aload X314.here hx rfl (hb hby at_152) rfl rfl ?_
          show Steps p.tables e below (T314.setTop (mkF m 154 #[iv p1, iv p2, iv p3, iv p4, iv (3 : Int32), rv w_MANY_RULES, iv (6 : Int32), iv (6 : Int32), rv b1_311, rv b1_314, iv ii, iv jj, .unset, .unset, .unset] [(.ref b1_311)])) _
          refine XS.iload X314.here hx rfl (hb hby at_154) rfl ?_
          show Steps p.tables e below (T314.setTop (mkF m 156 #[iv p1, iv p2, iv p3, iv p4, iv (3 : Int32), rv w_MANY_RULES, iv (6 : Int32), iv (6 : Int32), rv b1_311, rv b1_314, iv ii, iv jj, .unset, .unset, .unset] [(.int ii), (.ref b1_311)])) _
          exact k
        obtain ⟨cl346, Ar346, qc346, S346, M346, U346, G346⟩ := id (f317)
        have hin346 : ¬ (ii < 0 ∨ cl346.slots.size ≤ (ii).toNatClampNeg) := inb_of S346 hbii
        have hat346 : cl346.slots[(ii).toNatClampNeg]? = some (.ref xx) := Has.at U346 hin346 gx
        have k347 : Way p e below S0 T314 (mkF m 157 #[iv p1, iv p2, iv p3, iv p4, iv (3 : Int32), rv w_MANY_RULES, iv (6 : Int32), iv (6 : Int32), rv b1_311, rv b1_314, iv ii, iv jj, .unset, .unset, .unset] [(.ref xx)]) := fun t k => k345 t (X314.aaload hx (j := ii) (v := (.ref xx)) Ar346.1 (State.isArrayOf_alike hZ.alike Ar346.2.1) rfl Ar346.2.2 hin346 hat346 (g := (mkF m 156 #[iv p1, iv p2, iv p3, iv p4, iv (3 : Int32), rv w_MANY_RULES, iv (6 : Int32), iv (6 : Int32), rv b1_311, rv b1_314, iv ii, iv jj, .unset, .unset, .unset] [(.int ii), (.ref b1_311)])) rfl rfl (hb hby at_156) _ k)
        have k348 : Way p e below S0 T314 (mkF m 163 #[iv p1, iv p2, iv p3, iv p4, iv (3 : Int32), rv w_MANY_RULES, iv (6 : Int32), iv (6 : Int32), rv b1_311, rv b1_314, iv ii, iv jj, rv xx, .unset, .unset] [(.int jj), (.ref b1_311)]) := by
          intro t k
          refine k347 t ?_
          refine XS.astore X314.here hx rfl (hb hby at_157) rfl rfl (l' := #[iv p1, iv p2, iv p3, iv p4, iv (3 : Int32), rv w_MANY_RULES, iv (6 : Int32), iv (6 : Int32), rv b1_311, rv b1_314, iv ii, iv jj, rv xx, .unset, .unset]) rfl ?_
          show Steps p.tables e below (T314.setTop (mkF m 159 #[iv p1, iv p2, iv p3, iv p4, iv (3 : Int32), rv w_MANY_RULES, iv (6 : Int32), iv (6 : Int32), rv b1_311, rv b1_314, iv ii, iv jj, rv xx, .unset, .unset] [])) _
          refine XS.aload X314.here hx rfl (hb hby at_159) rfl rfl ?_
          show Steps p.tables e below (T314.setTop (mkF m 161 #[iv p1, iv p2, iv p3, iv p4, iv (3 : Int32), rv w_MANY_RULES, iv (6 : Int32), iv (6 : Int32), rv b1_311, rv b1_314, iv ii, iv jj, rv xx, .unset, .unset] [(.ref b1_311)])) _
          refine XS.iload X314.here hx rfl (hb hby at_161) rfl ?_
          show Steps p.tables e below (T314.setTop (mkF m 163 #[iv p1, iv p2, iv p3, iv p4, iv (3 : Int32), rv w_MANY_RULES, iv (6 : Int32), iv (6 : Int32), rv b1_311, rv b1_314, iv ii, iv jj, rv xx, .unset, .unset] [(.int jj), (.ref b1_311)])) _
          exact k
        obtain ⟨cl349, Ar349, qc349, S349, M349, U349, G349⟩ := id (f317)
        have hin349 : ¬ (jj < 0 ∨ cl349.slots.size ≤ (jj).toNatClampNeg) := inb_of S349 hbjj
        have hat349 : cl349.slots[(jj).toNatClampNeg]? = some (.ref yy) := Has.at U349 hin349 gy
        have k350 : Way p e below S0 T314 (mkF m 164 #[iv p1, iv p2, iv p3, iv p4, iv (3 : Int32), rv w_MANY_RULES, iv (6 : Int32), iv (6 : Int32), rv b1_311, rv b1_314, iv ii, iv jj, rv xx, .unset, .unset] [(.ref yy)]) := fun t k => k348 t (X314.aaload hx (j := jj) (v := (.ref yy)) Ar349.1 (State.isArrayOf_alike hZ.alike Ar349.2.1) rfl Ar349.2.2 hin349 hat349 (g := (mkF m 163 #[iv p1, iv p2, iv p3, iv p4, iv (3 : Int32), rv w_MANY_RULES, iv (6 : Int32), iv (6 : Int32), rv b1_311, rv b1_314, iv ii, iv jj, rv xx, .unset, .unset] [(.int jj), (.ref b1_311)])) rfl rfl (hb hby at_163) _ k)
        have k351 : Way p e below S0 T314 (mkF m 170 #[iv p1, iv p2, iv p3, iv p4, iv (3 : Int32), rv w_MANY_RULES, iv (6 : Int32), iv (6 : Int32), rv b1_311, rv b1_314, iv ii, iv jj, rv xx, rv yy, .unset] [(.int ii), (.ref b1_314)]) := by
          intro t k
          refine k350 t ?_
          refine XS.astore X314.here hx rfl (hb hby at_164) rfl rfl (l' := #[iv p1, iv p2, iv p3, iv p4, iv (3 : Int32), rv w_MANY_RULES, iv (6 : Int32), iv (6 : Int32), rv b1_311, rv b1_314, iv ii, iv jj, rv xx, rv yy, .unset]) rfl ?_
          show Steps p.tables e below (T314.setTop (mkF m 166 #[iv p1, iv p2, iv p3, iv p4, iv (3 : Int32), rv w_MANY_RULES, iv (6 : Int32), iv (6 : Int32), rv b1_311, rv b1_314, iv ii, iv jj, rv xx, rv yy, .unset] [])) _
          refine XS.aload X314.here hx rfl (hb hby at_166) rfl rfl ?_
          show Steps p.tables e below (T314.setTop (mkF m 168 #[iv p1, iv p2, iv p3, iv p4, iv (3 : Int32), rv w_MANY_RULES, iv (6 : Int32), iv (6 : Int32), rv b1_311, rv b1_314, iv ii, iv jj, rv xx, rv yy, .unset] [(.ref b1_314)])) _
          refine XS.iload X314.here hx rfl (hb hby at_168) rfl ?_
          show Steps p.tables e below (T314.setTop (mkF m 170 #[iv p1, iv p2, iv p3, iv p4, iv (3 : Int32), rv w_MANY_RULES, iv (6 : Int32), iv (6 : Int32), rv b1_311, rv b1_314, iv ii, iv jj, rv xx, rv yy, .unset] [(.int ii), (.ref b1_314)])) _
          exact k
        obtain ⟨cl352, Ar352, qc352, S352, M352, U352, G352⟩ := id (po314_1)
        have hin352 : ¬ (ii < 0 ∨ cl352.slots.size ≤ (ii).toNatClampNeg) := inb_of S352 hbii
        have hat352 : cl352.slots[(ii).toNatClampNeg]? = some (.ref zz) := Has.at U352 hin352 gz
        have k353 : Way p e below S0 T314 (mkF m 171 #[iv p1, iv p2, iv p3, iv p4, iv (3 : Int32), rv w_MANY_RULES, iv (6 : Int32), iv (6 : Int32), rv b1_311, rv b1_314, iv ii, iv jj, rv xx, rv yy, .unset] [(.ref zz)]) := fun t k => k351 t (X314.aaload hx (j := ii) (v := (.ref zz)) Ar352.1 (State.isArrayOf_alike hZ.alike Ar352.2.1) rfl Ar352.2.2 hin352 hat352 (g := (mkF m 170 #[iv p1, iv p2, iv p3, iv p4, iv (3 : Int32), rv w_MANY_RULES, iv (6 : Int32), iv (6 : Int32), rv b1_311, rv b1_314, iv ii, iv jj, rv xx, rv yy, .unset] [(.int ii), (.ref b1_314)])) rfl rfl (hb hby at_170) _ k)
        have k354 : Way p e below S0 T314 (mkF m 173 #[iv p1, iv p2, iv p3, iv p4, iv (3 : Int32), rv w_MANY_RULES, iv (6 : Int32), iv (6 : Int32), rv b1_311, rv b1_314, iv ii, iv jj, rv xx, rv yy, rv zz] []) := by
          intro t k
          refine k353 t ?_
          refine XS.astore X314.here hx rfl (hb hby at_171) rfl rfl (l' := #[iv p1, iv p2, iv p3, iv p4, iv (3 : Int32), rv w_MANY_RULES, iv (6 : Int32), iv (6 : Int32), rv b1_311, rv b1_314, iv ii, iv jj, rv xx, rv yy, rv zz]) rfl ?_
          show Steps p.tables e below (T314.setTop (mkF m 173 #[iv p1, iv p2, iv p3, iv p4, iv (3 : Int32), rv w_MANY_RULES, iv (6 : Int32), iv (6 : Int32), rv b1_311, rv b1_314, iv ii, iv jj, rv xx, rv yy, rv zz] [])) _
          exact k
        obtain ⟨T355, lc355, X355, N355, e355, st355⟩ := tail_other w_POOL w_NO_RULE w_ONE_RULE w_MANY_RULES G p1 p2 p3 p4 (3 : Int32) w_MANY_RULES (6 : Int32) (6 : Int32) b1_311 b1_314 ii jj xx yy zz X314 hx hZ hw hby hml hown O314 N314 (by decide) (by decide) rfl Ex Ez (nez : zz ≠ xx) Ey (ney : yy ≠ xx) (hc332 : ¬ (ii = jj))
        have k356 : Way p e below S0 T355 (mkF m 314 #[iv p1, iv p2, iv p3, iv p4, iv (3 : Int32), rv w_MANY_RULES, iv (6 : Int32), iv (6 : Int32), rv b1_311, rv b1_314, iv ii, iv jj, rv xx, rv yy, rv zz] [(.int (1 : Int32))]) := fun t k => k354 t (st355 _ k)
        obtain ⟨fs, hr, hrun, hended, hW, hsame⟩ := X355.leave (v := some (.int (1 : Int32))) (fun h => by rw [Bd.returns] at h; cases h)
        refine ⟨_, _, k356 _ (retN X355 hx (t := .boolean) Bd.returns (by simp) (hb hby at_314) hr), hrun, hended, _, _, rfl, ?_, ⟨_, rfl⟩, hW, hsame.mono (by decide) (by decide)⟩
        show Q_law_met Z w_POOL w_NO_RULE w_ONE_RULE w_MANY_RULES p1 p2 p3 p4 h0 n0 _ T355.heap _
        rw [e355]
        exact ⟨rfl, N355⟩
    · have k357 : Way p e below S0 T76 (mkF m 75 #[iv p1, iv p2, iv p3, iv p4, iv (3 : Int32), rv w_MANY_RULES, iv (7 : Int32), .unset, .unset, .unset, .unset, .unset, .unset, .unset, .unset] []) := by have q := k78; rw [hi79] at q; exact q
      have k358 : Way p e below S0 T76 (mkF m 83 #[iv p1, iv p2, iv p3, iv p4, iv (3 : Int32), rv w_MANY_RULES, iv (7 : Int32), iv (7 : Int32), .unset, .unset, .unset, .unset, .unset, .unset, .unset] [(.int (7 : Int32)), (.ref w_MANY_RULES)]) := by
        intro t k
        refine k357 t ?_
        refine XS.iload X76.here hx rfl (hb hby at_75) rfl ?_
        show Steps p.tables e below (T76.setTop (mkF m 77 #[iv p1, iv p2, iv p3, iv p4, iv (3 : Int32), rv w_MANY_RULES, iv (7 : Int32), .unset, .unset, .unset, .unset, .unset, .unset, .unset, .unset] [(.int (7 : Int32))])) _
        refine XS.istore X76.here hx rfl (hb hby at_77) rfl (l' := #[iv p1, iv p2, iv p3, iv p4, iv (3 : Int32), rv w_MANY_RULES, iv (7 : Int32), iv (7 : Int32), .unset, .unset, .unset, .unset, .unset, .unset, .unset]) rfl ?_
        show Steps p.tables e below (T76.setTop (mkF m 79 #[iv p1, iv p2, iv p3, iv p4, iv (3 : Int32), rv w_MANY_RULES, iv (7 : Int32), iv (7 : Int32), .unset, .unset, .unset, .unset, .unset, .unset, .unset] [])) _
        refine XS.aload X76.here hx rfl (hb hby at_79) rfl rfl ?_
        show Steps p.tables e below (T76.setTop (mkF m 81 #[iv p1, iv p2, iv p3, iv p4, iv (3 : Int32), rv w_MANY_RULES, iv (7 : Int32), iv (7 : Int32), .unset, .unset, .unset, .unset, .unset, .unset, .unset] [(.ref w_MANY_RULES)])) _
        refine XS.iload X76.here hx rfl (hb hby at_81) rfl ?_
        show Steps p.tables e below (T76.setTop (mkF m 83 #[iv p1, iv p2, iv p3, iv p4, iv (3 : Int32), rv w_MANY_RULES, iv (7 : Int32), iv (7 : Int32), .unset, .unset, .unset, .unset, .unset, .unset, .unset] [(.int (7 : Int32)), (.ref w_MANY_RULES)])) _
        exact k
      obtain ⟨cq359, kq359, qq359a, qq359b, qq359c⟩ := isOf hZ e76 (E_w_MANY_RULES.ext O0.2)
      obtain ⟨_, _, ⟨T359, L359, kk359, nn359⟩, -, X359, ⟨Lc359, hQ359, l359, y359, z359⟩, st359⟩ := X76.virtualBack hx (y := (⟨"com/example/rulework/bench/Burst", "makeRules", "(I)[Lcom/example/rulework/rulework/SchedulingRule;"⟩ : MethodName)) (z := (⟨"com/example/rulework/bench/Burst", "makeRules", "(I)[Lcom/example/rulework/rulework/SchedulingRule;"⟩ : MethodName)) hown (mvT hZ (hw _ (List.mem_of_getElem? (i := 3) rfl))) (mvT hZ (hw _ (List.mem_of_getElem? (i := 4) rfl))) (notFace_of_selects (args := #[]) (mvT hZ (hw _ (List.mem_of_getElem? (i := 6) rfl)))) (mvT hZ (hw _ (List.mem_of_getElem? (i := 6) rfl))) (mvT hZ (hw _ (List.mem_of_getElem? (i := 5) rfl))) (by decide) (backOf (W := 0) (mkm7 l Z a0 hw [] w_POOL w_NO_RULE w_ONE_RULE w_MANY_RULES G  h0 n0 O0 ) hZ (hw _ (List.mem_of_getElem? (i := 7) rfl)) (hw _ (List.mem_of_getElem? (i := 1) rfl)) (by decide) (by decide)) qq359a qq359c (g := (mkF m 83 #[iv p1, iv p2, iv p3, iv p4, iv (3 : Int32), rv w_MANY_RULES, iv (7 : Int32), iv (7 : Int32), .unset, .unset, .unset, .unset, .unset, .unset, .unset] [(.int (7 : Int32)), (.ref w_MANY_RULES)])) rfl (by rw [hml]; rfl) (Steps.refl _) (argsL := [(.int (7 : Int32))]) (rest := []) (lenOf pd_4 rfl) rfl (by show 2 * 0 + _ ≤ _; exact Nat.le_of_eq rfl) (hb hby at_83) (fun _ _ => ⟨rfl, e76, (by decide : 0 + 8 ≤ _), (by decide : 0 + 7 ≤ _)⟩)
      dsimp only [Pt.U, Pt.locs, Pt.cells, Pt.slots] at X359 l359 y359 z359 st359 hQ359
      subst l359 y359 z359
      obtain ⟨b1_359, kc_359, x0_359, x1_359, x2_359, x3_359, x4_359, x5_359, x6_359, rfl, Nq359, Kq359, po359_0, po359_1, po359_2, po359_3, po359_4, po359_5, po359_6, po359_7, po359_8, po359_9, po359_10, po359_11, po359_12, po359_13, po359_14, po359_15, po359_16, po359_17, po359_18, po359_19, po359_20, po359_21, po359_22, po359_23, po359_24, po359_25, po359_26, po359_27, po359_28, po359_29, po359_30, po359_31, po359_32, po359_33, po359_34, po359_35, po359_36⟩ := hQ359
      have N359 := Fr.app N0 Nq359
      have O359 := O0.keep Kq359 all0
      have k360 : Way p e below S0 T359 (mkF m 86 #[iv p1, iv p2, iv p3, iv p4, iv (3 : Int32), rv w_MANY_RULES, iv (7 : Int32), iv (7 : Int32), .unset, .unset, .unset, .unset, .unset, .unset, .unset] [(.ref b1_359)]) := fun t k => k358 t (st359.trans k)
      have k361 : Way p e below S0 T359 (mkF m 92 #[iv p1, iv p2, iv p3, iv p4, iv (3 : Int32), rv w_MANY_RULES, iv (7 : Int32), iv (7 : Int32), rv b1_359, .unset, .unset, .unset, .unset, .unset, .unset] [(.int (7 : Int32)), (.ref w_MANY_RULES)]) := by
        intro t k
        refine k360 t ?_
        refine XS.astore X359.here hx rfl (hb hby at_86) rfl rfl (l' := #[iv p1, iv p2, iv p3, iv p4, iv (3 : Int32), rv w_MANY_RULES, iv (7 : Int32), iv (7 : Int32), rv b1_359, .unset, .unset, .unset, .unset, .unset, .unset]) rfl ?_
        show Steps p.tables e below (T359.setTop (mkF m 88 #[iv p1, iv p2, iv p3, iv p4, iv (3 : Int32), rv w_MANY_RULES, iv (7 : Int32), iv (7 : Int32), rv b1_359, .unset, .unset, .unset, .unset, .unset, .unset] [])) _
        refine XS.aload X359.here hx rfl (hb hby at_88) rfl rfl ?_
        show Steps p.tables e below (T359.setTop (mkF m 90 #[iv p1, iv p2, iv p3, iv p4, iv (3 : Int32), rv w_MANY_RULES, iv (7 : Int32), iv (7 : Int32), rv b1_359, .unset, .unset, .unset, .unset, .unset, .unset] [(.ref w_MANY_RULES)])) _
        refine XS.iload X359.here hx rfl (hb hby at_90) rfl ?_
        show Steps p.tables e below (T359.setTop (mkF m 92 #[iv p1, iv p2, iv p3, iv p4, iv (3 : Int32), rv w_MANY_RULES, iv (7 : Int32), iv (7 : Int32), rv b1_359, .unset, .unset, .unset, .unset, .unset, .unset] [(.int (7 : Int32)), (.ref w_MANY_RULES)])) _
        exact k
      obtain ⟨cq362, kq362, qq362a, qq362b, qq362c⟩ := isOf hZ rfl (E_w_MANY_RULES.ext O359.2)
      obtain ⟨_, _, ⟨T362, L362, kk362, nn362⟩, -, X362, ⟨Lc362, hQ362, l362, y362, z362⟩, st362⟩ := X359.virtualBack hx (y := (⟨"com/example/rulework/bench/Burst", "makeRules", "(I)[Lcom/example/rulework/rulework/SchedulingRule;"⟩ : MethodName)) (z := (⟨"com/example/rulework/bench/Burst", "makeRules", "(I)[Lcom/example/rulework/rulework/SchedulingRule;"⟩ : MethodName)) hown (mvT hZ (hw _ (List.mem_of_getElem? (i := 3) rfl))) (mvT hZ (hw _ (List.mem_of_getElem? (i := 4) rfl))) (notFace_of_selects (args := #[]) (mvT hZ (hw _ (List.mem_of_getElem? (i := 6) rfl)))) (mvT hZ (hw _ (List.mem_of_getElem? (i := 6) rfl))) (mvT hZ (hw _ (List.mem_of_getElem? (i := 5) rfl))) (by decide) (backOf (W := 0) (mkm7 l Z a0 hw [] w_POOL w_NO_RULE w_ONE_RULE w_MANY_RULES G  T359.heap n0 O359 ) hZ (hw _ (List.mem_of_getElem? (i := 7) rfl)) (hw _ (List.mem_of_getElem? (i := 1) rfl)) (by decide) (by decide)) qq362a qq362c (g := (mkF m 92 #[iv p1, iv p2, iv p3, iv p4, iv (3 : Int32), rv w_MANY_RULES, iv (7 : Int32), iv (7 : Int32), rv b1_359, .unset, .unset, .unset, .unset, .unset, .unset] [(.int (7 : Int32)), (.ref w_MANY_RULES)])) rfl (by rw [hml]; rfl) (Steps.refl _) (argsL := [(.int (7 : Int32))]) (rest := []) (lenOf pd_4 rfl) rfl (by show 2 * 0 + _ ≤ _; exact Nat.le_of_eq rfl) (hb hby at_92) (fun _ _ => ⟨rfl, rfl, (by decide : 8 + 8 ≤ _), (by decide : 7 + 7 ≤ _)⟩)
      dsimp only [Pt.U, Pt.locs, Pt.cells, Pt.slots] at X362 l362 y362 z362 st362 hQ362
      subst l362 y362 z362
      obtain ⟨b1_362, kc_362, x0_362, x1_362, x2_362, x3_362, x4_362, x5_362, x6_362, rfl, Nq362, Kq362, po362_0, po362_1, po362_2, po362_3, po362_4, po362_5, po362_6, po362_7, po362_8, po362_9, po362_10, po362_11, po362_12, po362_13, po362_14, po362_15, po362_16, po362_17, po362_18, po362_19, po362_20, po362_21, po362_22, po362_23, po362_24, po362_25, po362_26, po362_27, po362_28, po362_29, po362_30, po362_31, po362_32, po362_33, po362_34, po362_35, po362_36⟩ := hQ362
      have N362 := Fr.app N359 Nq362
      have O362 := O359.keep Kq362 all0
      have k363 : Way p e below S0 T362 (mkF m 95 #[iv p1, iv p2, iv p3, iv p4, iv (3 : Int32), rv w_MANY_RULES, iv (7 : Int32), iv (7 : Int32), rv b1_359, .unset, .unset, .unset, .unset, .unset, .unset] [(.ref b1_362)]) := fun t k => k361 t (st362.trans k)
      have k364 : Way p e below S0 T362 (mkF m 111 #[iv p1, iv p2, iv p3, iv p4, iv (3 : Int32), rv w_MANY_RULES, iv (7 : Int32), iv (7 : Int32), rv b1_359, rv b1_362, .unset, .unset, .unset, .unset, .unset] [(.ref b1_359)]) := by
        intro t k
        refine k363 t ?_
        refine XS.astore X362.here hx rfl (hb hby at_95) rfl rfl (l' := #[iv p1, iv p2, iv p3, iv p4, iv (3 : Int32), rv w_MANY_RULES, iv (7 : Int32), iv (7 : Int32), rv b1_359, rv b1_362, .unset, .unset, .unset, .unset, .unset]) rfl ?_
        show Steps p.tables e below (T362.setTop (mkF m 97 #[iv p1, iv p2, iv p3, iv p4, iv (3 : Int32), rv w_MANY_RULES, iv (7 : Int32), iv (7 : Int32), rv b1_359, rv b1_362, .unset, .unset, .unset, .unset, .unset] [])) _
        refine XS.aload X362.here hx rfl (hb hby at_97) rfl rfl ?_
        show Steps p.tables e below (T362.setTop (mkF m 99 #[iv p1, iv p2, iv p3, iv p4, iv (3 : Int32), rv w_MANY_RULES, iv (7 : Int32), iv (7 : Int32), rv b1_359, rv b1_362, .unset, .unset, .unset, .unset, .unset] [(.ref b1_359)])) _
        refine XS.ifnullNo X362.here hx rfl (hb hby at_99) rfl ?_
        show Steps p.tables e below (T362.setTop (mkF m 102 #[iv p1, iv p2, iv p3, iv p4, iv (3 : Int32), rv w_MANY_RULES, iv (7 : Int32), iv (7 : Int32), rv b1_359, rv b1_362, .unset, .unset, .unset, .unset, .unset] [])) _
        refine XS.aload X362.here hx rfl (hb hby at_102) rfl rfl ?_
        show Steps p.tables e below (T362.setTop (mkF m 104 #[iv p1, iv p2, iv p3, iv p4, iv (3 : Int32), rv w_MANY_RULES, iv (7 : Int32), iv (7 : Int32), rv b1_359, rv b1_362, .unset, .unset, .unset, .unset, .unset] [(.ref b1_362)])) _
        refine XS.ifnonnullYes X362.here hx rfl (pc0 := 104) (pc' := 109) rfl (hb hby at_104) rfl (by decide) (by decide) ?_
        show Steps p.tables e below (T362.setTop (mkF m 109 #[iv p1, iv p2, iv p3, iv p4, iv (3 : Int32), rv w_MANY_RULES, iv (7 : Int32), iv (7 : Int32), rv b1_359, rv b1_362, .unset, .unset, .unset, .unset, .unset] [])) _
        refine XS.aload X362.here hx rfl (hb hby at_109) rfl rfl ?_
        show Steps p.tables e below (T362.setTop (mkF m 111 #[iv p1, iv p2, iv p3, iv p4, iv (3 : Int32), rv w_MANY_RULES, iv (7 : Int32), iv (7 : Int32), rv b1_359, rv b1_362, .unset, .unset, .unset, .unset, .unset] [(.ref b1_359)])) _
        exact k
      have f365 : Arv Z T362.heap b1_359 kc_359 (.object "com/example/rulework/rulework/SchedulingRule") (7 : Int32) [(.ref x0_359), (.ref x1_359), (.ref x2_359), (.ref x3_359), (.ref x4_359), (.ref x5_359), (.ref x6_359)] .null := (po359_1.keep Kq362 nin0)
      obtain ⟨cl366, Ar366, -, S366, M366, -, -⟩ := id (f365)
      have k367 : Way p e below S0 T362 (mkF m 112 #[iv p1, iv p2, iv p3, iv p4, iv (3 : Int32), rv w_MANY_RULES, iv (7 : Int32), iv (7 : Int32), rv b1_359, rv b1_362, .unset, .unset, .unset, .unset, .unset] [(.int (7 : Int32))]) := fun t k => k364 t (X362.arraylength hx (Ar366.1) (State.isArrayOf_alike hZ.alike Ar366.2.1) (g := (mkF m 111 #[iv p1, iv p2, iv p3, iv p4, iv (3 : Int32), rv w_MANY_RULES, iv (7 : Int32), iv (7 : Int32), rv b1_359, rv b1_362, .unset, .unset, .unset, .unset, .unset] [(.ref b1_359)])) rfl rfl (hb hby at_111) _ (by rw [len_of S366 M366]; exact k))
      have k368 : Way p e below S0 T362 (mkF m 119 #[iv p1, iv p2, iv p3, iv p4, iv (3 : Int32), rv w_MANY_RULES, iv (7 : Int32), iv (7 : Int32), rv b1_359, rv b1_362, .unset, .unset, .unset, .unset, .unset] [(.ref b1_362)]) := by
        intro t k
        refine k367 t ?_
        refine XS.iload X362.here hx rfl (hb hby at_112) rfl ?_
        show Steps p.tables e below (T362.setTop (mkF m 114 #[iv p1, iv p2, iv p3, iv p4, iv (3 : Int32), rv w_MANY_RULES, iv (7 : Int32), iv (7 : Int32), rv b1_359, rv b1_362, .unset, .unset, .unset, .unset, .unset] [(.int (7 : Int32)), (.int (7 : Int32))])) _
        refine XS.icmpNo X362.here hx rfl (hb hby at_114) rfl (teq ((by decide) : (7 : Int32) = (7 : Int32))).2 ?_
        show Steps p.tables e below (T362.setTop (mkF m 117 #[iv p1, iv p2, iv p3, iv p4, iv (3 : Int32), rv w_MANY_RULES, iv (7 : Int32), iv (7 : Int32), rv b1_359, rv b1_362, .unset, .unset, .unset, .unset, .unset] [])) _
        refine XS.aload X362.here hx rfl (hb hby at_117) rfl rfl ?_
        show Steps p.tables e below (T362.setTop (mkF m 119 #[iv p1, iv p2, iv p3, iv p4, iv (3 : Int32), rv w_MANY_RULES, iv (7 : Int32), iv (7 : Int32), rv b1_359, rv b1_362, .unset, .unset, .unset, .unset, .unset] [(.ref b1_362)])) _
        exact k
      obtain ⟨cl369, Ar369, -, S369, M369, -, -⟩ := id (po362_1)
      have k370 : Way p e below S0 T362 (mkF m 120 #[iv p1, iv p2, iv p3, iv p4, iv (3 : Int32), rv w_MANY_RULES, iv (7 : Int32), iv (7 : Int32), rv b1_359, rv b1_362, .unset, .unset, .unset, .unset, .unset] [(.int (7 : Int32))]) := fun t k => k368 t (X362.arraylength hx (Ar369.1) (State.isArrayOf_alike hZ.alike Ar369.2.1) (g := (mkF m 119 #[iv p1, iv p2, iv p3, iv p4, iv (3 : Int32), rv w_MANY_RULES, iv (7 : Int32), iv (7 : Int32), rv b1_359, rv b1_362, .unset, .unset, .unset, .unset, .unset] [(.ref b1_362)])) rfl rfl (hb hby at_119) _ (by rw [len_of S369 M369]; exact k))
      have k371 : Way p e below S0 T362 (mkF m 152 #[iv p1, iv p2, iv p3, iv p4, iv (3 : Int32), rv w_MANY_RULES, iv (7 : Int32), iv (7 : Int32), rv b1_359, rv b1_362, iv ((p3 &&& (2147483647 : Int32)) % (7 : Int32)), iv ((p4 &&& (2147483647 : Int32)) % (7 : Int32)), .unset, .unset, .unset] []) := by
        intro t k
        refine k370 t ?_
        refine XS.iload X362.here hx rfl (hb hby at_120) rfl ?_
        show Steps p.tables e below (T362.setTop (mkF m 122 #[iv p1, iv p2, iv p3, iv p4, iv (3 : Int32), rv w_MANY_RULES, iv (7 : Int32), iv (7 : Int32), rv b1_359, rv b1_362, .unset, .unset, .unset, .unset, .unset] [(.int (7 : Int32)), (.int (7 : Int32))])) _
        refine XS.icmpYes X362.here hx rfl (pc0 := 122) (pc' := 127) rfl (hb hby at_122) rfl (teq ((by decide) : (7 : Int32) = (7 : Int32))).1 (by decide) (by decide) ?_
        show Steps p.tables e below (T362.setTop (mkF m 127 #[iv p1, iv p2, iv p3, iv p4, iv (3 : Int32), rv w_MANY_RULES, iv (7 : Int32), iv (7 : Int32), rv b1_359, rv b1_362, .unset, .unset, .unset, .unset, .unset] [])) _
        refine XS.iload X362.here hx rfl (hb hby at_127) rfl ?_
        show Steps p.tables e below (T362.setTop (mkF m 129 #[iv p1, iv p2, iv p3, iv p4, iv (3 : Int32), rv w_MANY_RULES, iv (7 : Int32), iv (7 : Int32), rv b1_359, rv b1_362, .unset, .unset, .unset, .unset, .unset] [(.int (7 : Int32))])) _
        refine XS.ifYes X362.here hx rfl (pc0 := 129) (pc' := 134) rfl (hb hby at_129) rfl ((if0 _ _).trans (feq ((by decide) : ¬ ((7 : Int32) = (0 : Int32)))).2) (by decide) (by decide) ?_
        show Steps p.tables e below (T362.setTop (mkF m 134 #[iv p1, iv p2, iv p3, iv p4, iv (3 : Int32), rv w_MANY_RULES, iv (7 : Int32), iv (7 : Int32), rv b1_359, rv b1_362, .unset, .unset, .unset, .unset, .unset] [])) _
        refine XS.iloadN X362.here hx rfl (hb hby at_134) rfl ?_
        show Steps p.tables e below (T362.setTop (mkF m 135 #[iv p1, iv p2, iv p3, iv p4, iv (3 : Int32), rv w_MANY_RULES, iv (7 : Int32), iv (7 : Int32), rv b1_359, rv b1_362, .unset, .unset, .unset, .unset, .unset] [(.int p3)])) _
        refine X362.ldcInt hx hown (mvT hZ (hw _ (List.mem_of_getElem? (i := 36) rfl))) (g := (mkF m 135 #[iv p1, iv p2, iv p3, iv p4, iv (3 : Int32), rv w_MANY_RULES, iv (7 : Int32), iv (7 : Int32), rv b1_359, rv b1_362, .unset, .unset, .unset, .unset, .unset] [(.int p3)])) rfl (hb hby at_135) _ ?_
        show Steps p.tables e below (T362.setTop (mkF m 137 #[iv p1, iv p2, iv p3, iv p4, iv (3 : Int32), rv w_MANY_RULES, iv (7 : Int32), iv (7 : Int32), rv b1_359, rv b1_362, .unset, .unset, .unset, .unset, .unset] [(.int (2147483647 : Int32)), (.int p3)])) _
        refine XS.iand X362.here hx rfl (hb hby at_137) rfl ?_
        show Steps p.tables e below (T362.setTop (mkF m 138 #[iv p1, iv p2, iv p3, iv p4, iv (3 : Int32), rv w_MANY_RULES, iv (7 : Int32), iv (7 : Int32), rv b1_359, rv b1_362, .unset, .unset, .unset, .unset, .unset] [(.int (p3 &&& (2147483647 : Int32)))])) _
        refine XS.iload X362.here hx rfl (hb hby at_138) rfl ?_
        show Steps p.tables e below (T362.setTop (mkF m 140 #[iv p1, iv p2, iv p3, iv p4, iv (3 : Int32), rv w_MANY_RULES, iv (7 : Int32), iv (7 : Int32), rv b1_359, rv b1_362, .unset, .unset, .unset, .unset, .unset] [(.int (7 : Int32)), (.int (p3 &&& (2147483647 : Int32)))])) _
        refine iremM (g := (mkF m 140 #[iv p1, iv p2, iv p3, iv p4, iv (3 : Int32), rv w_MANY_RULES, iv (7 : Int32), iv (7 : Int32), rv b1_359, rv b1_362, .unset, .unset, .unset, .unset, .unset] [(.int (7 : Int32)), (.int (p3 &&& (2147483647 : Int32)))])) X362 hx rfl (hb hby at_140) rfl (by decide) ?_
        show Steps p.tables e below (T362.setTop (mkF m 141 #[iv p1, iv p2, iv p3, iv p4, iv (3 : Int32), rv w_MANY_RULES, iv (7 : Int32), iv (7 : Int32), rv b1_359, rv b1_362, .unset, .unset, .unset, .unset, .unset] [(.int ((p3 &&& (2147483647 : Int32)) % (7 : Int32)))])) _
        refine XS.istore X362.here hx rfl (hb hby at_141) rfl (l' := #[iv p1, iv p2, iv p3, iv p4, iv (3 : Int32), rv w_MANY_RULES, iv (7 : Int32), iv (7 : Int32), rv b1_359, rv b1_362, iv ((p3 &&& (2147483647 : Int32)) % (7 : Int32)), .unset, .unset, .unset, .unset]) rfl ?_
        show Steps p.tables e below (T362.setTop (mkF m 143 #[iv p1, iv p2, iv p3, iv p4, iv (3 : Int32), rv w_MANY_RULES, iv (7 : Int32), iv (7 : Int32), rv b1_359, rv b1_362, iv ((p3 &&& (2147483647 : Int32)) % (7 : Int32)), .unset, .unset, .unset, .unset] [])) _
        refine XS.iloadN X362.here hx rfl (hb hby at_143) rfl ?_
        show Steps p.tables e below (T362.setTop (mkF m 144 #[iv p1, iv p2, iv p3, iv p4, iv (3 : Int32), rv w_MANY_RULES, iv (7 : Int32), iv (7 : Int32), rv b1_359, rv b1_362, iv ((p3 &&& (2147483647 : Int32)) % (7 : Int32)), .unset, .unset, .unset, .unset] [(.int p4)])) _
        refine X362.ldcInt hx hown (mvT hZ (hw _ (List.mem_of_getElem? (i := 36) rfl))) (g := (mkF m 144 #[iv p1, iv p2, iv p3, iv p4, iv (3 : Int32), rv w_MANY_RULES, iv (7 : Int32), iv (7 : Int32), rv b1_359, rv b1_362, iv ((p3 &&& (2147483647 : Int32)) % (7 : Int32)), .unset, .unset, .unset, .unset] [(.int p4)])) rfl (hb hby at_144) _ ?_
        show Steps p.tables e below (T362.setTop (mkF m 146 #[iv p1, iv p2, iv p3, iv p4, iv (3 : Int32), rv w_MANY_RULES, iv (7 : Int32), iv (7 : Int32), rv b1_359, rv b1_362, iv ((p3 &&& (2147483647 : Int32)) % (7 : Int32)), .unset, .unset, .unset, .unset] [(.int (2147483647 : Int32)), (.int p4)])) _
        refine XS.iand X362.here hx rfl (hb hby at_146) rfl ?_
        show Steps p.tables e below (T362.setTop (mkF m 147 #[iv p1, iv p2, iv p3, iv p4, iv (3 : Int32), rv w_MANY_RULES, iv (7 : Int32), iv (7 : Int32), rv b1_359, rv b1_362, iv ((p3 &&& (2147483647 : Int32)) % (7 : Int32)), .unset, .unset, .unset, .unset] [(.int (p4 &&& (2147483647 : Int32)))])) _
        refine XS.iload X362.here hx rfl (hb hby at_147) rfl ?_
        show Steps p.tables e below (T362.setTop (mkF m 149 #[iv p1, iv p2, iv p3, iv p4, iv (3 : Int32), rv w_MANY_RULES, iv (7 : Int32), iv (7 : Int32), rv b1_359, rv b1_362, iv ((p3 &&& (2147483647 : Int32)) % (7 : Int32)), .unset, .unset, .unset, .unset] [(.int (7 : Int32)), (.int (p4 &&& (2147483647 : Int32)))])) _
        refine iremM (g := (mkF m 149 #[iv p1, iv p2, iv p3, iv p4, iv (3 : Int32), rv w_MANY_RULES, iv (7 : Int32), iv (7 : Int32), rv b1_359, rv b1_362, iv ((p3 &&& (2147483647 : Int32)) % (7 : Int32)), .unset, .unset, .unset, .unset] [(.int (7 : Int32)), (.int (p4 &&& (2147483647 : Int32)))])) X362 hx rfl (hb hby at_149) rfl (by decide) ?_
        show Steps p.tables e below (T362.setTop (mkF m 150 #[iv p1, iv p2, iv p3, iv p4, iv (3 : Int32), rv w_MANY_RULES, iv (7 : Int32), iv (7 : Int32), rv b1_359, rv b1_362, iv ((p3 &&& (2147483647 : Int32)) % (7 : Int32)), .unset, .unset, .unset, .unset] [(.int ((p4 &&& (2147483647 : Int32)) % (7 : Int32)))])) _
        refine XS.istore X362.here hx rfl (hb hby at_150) rfl (l' := #[iv p1, iv p2, iv p3, iv p4, iv (3 : Int32), rv w_MANY_RULES, iv (7 : Int32), iv (7 : Int32), rv b1_359, rv b1_362, iv ((p3 &&& (2147483647 : Int32)) % (7 : Int32)), iv ((p4 &&& (2147483647 : Int32)) % (7 : Int32)), .unset, .unset, .unset]) rfl ?_
        show Steps p.tables e below (T362.setTop (mkF m 152 #[iv p1, iv p2, iv p3, iv p4, iv (3 : Int32), rv w_MANY_RULES, iv (7 : Int32), iv (7 : Int32), rv b1_359, rv b1_362, iv ((p3 &&& (2147483647 : Int32)) % (7 : Int32)), iv ((p4 &&& (2147483647 : Int32)) % (7 : Int32)), .unset, .unset, .unset] [])) _
        exact k
      obtain ⟨ii, hii⟩ : ∃ z, ((p3 &&& (2147483647 : Int32)) % (7 : Int32)) = z := ⟨_, rfl⟩
      have k372 : Way p e below S0 T362 (mkF m 152 #[iv p1, iv p2, iv p3, iv p4, iv (3 : Int32), rv w_MANY_RULES, iv (7 : Int32), iv (7 : Int32), rv b1_359, rv b1_362, iv ii, iv ((p4 &&& (2147483647 : Int32)) % (7 : Int32)), .unset, .unset, .unset] []) := by have q := k371; rw [hii] at q; exact q
      obtain ⟨jj, hjj⟩ : ∃ z, ((p4 &&& (2147483647 : Int32)) % (7 : Int32)) = z := ⟨_, rfl⟩
      have k373 : Way p e below S0 T362 (mkF m 152 #[iv p1, iv p2, iv p3, iv p4, iv (3 : Int32), rv w_MANY_RULES, iv (7 : Int32), iv (7 : Int32), rv b1_359, rv b1_362, iv ii, iv jj, .unset, .unset, .unset] []) := by have q := k372; rw [hjj] at q; exact q
      have hrii : ii = (0 : Int32) ∨ ii = (1 : Int32) ∨ ii = (2 : Int32) ∨ ii = (3 : Int32) ∨ ii = (4 : Int32) ∨ ii = (5 : Int32) ∨ ii = (6 : Int32) := by rw [← hii]; exact own_rem7 p3
      have hbii : ¬ (ii < 0) ∧ ii < (7 : Int32) := by rcases hrii with rfl | rfl | rfl | rfl | rfl | rfl | rfl <;> decide
      have hrjj : jj = (0 : Int32) ∨ jj = (1 : Int32) ∨ jj = (2 : Int32) ∨ jj = (3 : Int32) ∨ jj = (4 : Int32) ∨ jj = (5 : Int32) ∨ jj = (6 : Int32) := by rw [← hjj]; exact own_rem7 p4
      have hbjj : ¬ (jj < 0) ∧ jj < (7 : Int32) := by rcases hrjj with rfl | rfl | rfl | rfl | rfl | rfl | rfl <;> decide
      have f374 : Exa Z T362.heap x0_359 "com/example/rulework/bench/Burst$SelfConflictingRule" := (po359_3.keep Kq362)
      have f375 : Exa Z T362.heap x1_359 "com/example/rulework/bench/Burst$SelfConflictingRule" := (po359_5.keep Kq362)
      have f376 : Exa Z T362.heap x2_359 "com/example/rulework/bench/Burst$SelfConflictingRule" := (po359_7.keep Kq362)
      have f377 : Exa Z T362.heap x3_359 "com/example/rulework/bench/Burst$SelfConflictingRule" := (po359_9.keep Kq362)
      have f378 : Exa Z T362.heap x4_359 "com/example/rulework/bench/Burst$SelfConflictingRule" := (po359_11.keep Kq362)
      have f379 : Exa Z T362.heap x5_359 "com/example/rulework/bench/Burst$SelfConflictingRule" := (po359_13.keep Kq362)
      have f380 : Exa Z T362.heap x6_359 "com/example/rulework/bench/Burst$SelfConflictingRule" := (po359_15.keep Kq362)
      by_cases hc381 : ii = jj
      · subst hc381
        obtain ⟨xx, zz, gx, gz, Ex, Ez, nez⟩ : ∃ x z : Addr, ([(.ref x0_359), (.ref x1_359), (.ref x2_359), (.ref x3_359), (.ref x4_359), (.ref x5_359), (.ref x6_359)] : List Value).getD ii.toNatClampNeg .null = .ref x ∧ ([(.ref x0_362), (.ref x1_362), (.ref x2_362), (.ref x3_362), (.ref x4_362), (.ref x5_362), (.ref x6_362)] : List Value).getD ii.toNatClampNeg .null = .ref z ∧ Exa Z T362.heap x "com/example/rulework/bench/Burst$SelfConflictingRule" ∧ Exa Z T362.heap z "com/example/rulework/bench/Burst$SelfConflictingRule" ∧ z ≠ x := by
          rcases hrii with rfl | rfl | rfl | rfl | rfl | rfl | rfl
          · exact ⟨x0_359, x0_362, rfl, rfl, f374, po362_3, (Ne.symm (Nat.ne_of_lt (Nat.lt_of_lt_of_le po359_3.lt po362_2)))⟩
          · exact ⟨x1_359, x1_362, rfl, rfl, f375, po362_5, (Ne.symm (Nat.ne_of_lt (Nat.lt_of_lt_of_le po359_5.lt po362_4)))⟩
          · exact ⟨x2_359, x2_362, rfl, rfl, f376, po362_7, (Ne.symm (Nat.ne_of_lt (Nat.lt_of_lt_of_le po359_7.lt po362_6)))⟩
          · exact ⟨x3_359, x3_362, rfl, rfl, f377, po362_9, (Ne.symm (Nat.ne_of_lt (Nat.lt_of_lt_of_le po359_9.lt po362_8)))⟩
          · exact ⟨x4_359, x4_362, rfl, rfl, f378, po362_11, (Ne.symm (Nat.ne_of_lt (Nat.lt_of_lt_of_le po359_11.lt po362_10)))⟩
          · exact ⟨x5_359, x5_362, rfl, rfl, f379, po362_13, (Ne.symm (Nat.ne_of_lt (Nat.lt_of_lt_of_le po359_13.lt po362_12)))⟩
          · exact ⟨x6_359, x6_362, rfl, rfl, f380, po362_15, (Ne.symm (Nat.ne_of_lt (Nat.lt_of_lt_of_le po359_15.lt po362_14)))⟩
        have k382 : Way p e below S0 T362 (mkF m 156 #[iv p1, iv p2, iv p3, iv p4, iv (3 : Int32), rv w_MANY_RULES, iv (7 : Int32), iv (7 : Int32), rv b1_359, rv b1_362, iv ii, iv ii, .unset, .unset, .unset] [(.int ii), (.ref b1_359)]) := by
          intro t k
          refine k373 t ?_
          refine XS.aload X362.here hx rfl (hb hby at_152) rfl rfl ?_
          show Steps p.tables e below (T362.setTop (mkF m 154 #[iv p1, iv p2, iv p3, iv p4, iv (3 : Int32), rv w_MANY_RULES, iv (7 : Int32), iv (7 : Int32), rv b1_359, rv b1_362, iv ii, iv ii, .unset, .unset, .unset] [(.ref b1_359)])) _
          refine XS.iload X362.here hx rfl (hb hby at_154) rfl ?_
          show Steps p.tables e below (T362.setTop (mkF m 156 #[iv p1, iv p2, iv p3, iv p4, iv (3 : Int32), rv w_MANY_RULES, iv (7 : Int32), iv (7 : Int32), rv b1_359, rv b1_362, iv ii, iv ii, .unset, .unset, .unset] [(.int ii), (.ref b1_359)])) _
          exact k
        obtain ⟨cl383, Ar383, qc383, S383, M383, U383, G383⟩ := id (f365)
        have hin383 : ¬ (ii < 0 ∨ cl383.slots.size ≤ (ii).toNatClampNeg) := inb_of S383 hbii
        have hat383 : cl383.slots[(ii).toNatClampNeg]? = some (.ref xx) := Has.at U383 hin383 gx
        have k384 : Way p e below S0 T362 (mkF m 157 #[iv p1, iv p2, iv p3, iv p4, iv (3 : Int32), rv w_MANY_RULES, iv (7 : Int32), iv (7 : Int32), rv b1_359, rv b1_362, iv ii, iv ii, .unset, .unset, .unset] [(.ref xx)]) := fun t k => k382 t (X362.aaload hx (j := ii) (v := (.ref xx)) Ar383.1 (State.isArrayOf_alike hZ.alike Ar383.2.1) rfl Ar383.2.2 hin383 hat383 (g := (mkF m 156 #[iv p1, iv p2, iv p3, iv p4, iv (3 : Int32), rv w_MANY_RULES, iv (7 : Int32), iv (7 : Int32), rv b1_359, rv b1_362, iv ii, iv ii, .unset, .unset, .unset] [(.int ii), (.ref b1_359)])) rfl rfl (hb hby at_156) _ k)
        have k385 : Way p e below S0 T362 (mkF m 163 #[iv p1, iv p2, iv p3, iv p4, iv (3 : Int32), rv w_MANY_RULES, iv (7 : Int32), iv (7 : Int32), rv b1_359, rv b1_362, iv ii, iv ii, rv xx, .unset, .unset] [(.int ii), (.ref b1_359)]) := by
          intro t k
          refine k384 t ?_
          refine XS.astore X362.here hx rfl (hb hby at_157) rfl rfl (l' := #[iv p1, iv p2, iv p3, iv p4, iv (3 : Int32), rv w_MANY_RULES, iv (7 : Int32), iv (7 : Int32), rv b1_359, rv b1_362, iv ii, iv ii, rv xx, .unset, .unset]) rfl ?_
          show Steps p.tables e below (T362.setTop (mkF m 159 #[iv p1, iv p2, iv p3, iv p4, iv (3 : Int32), rv w_MANY_RULES, iv (7 : Int32), iv (7 : Int32), rv b1_359, rv b1_362, iv ii, iv ii, rv xx, .unset, .unset] [])) _
          refine XS.aload X362.here hx rfl (hb hby at_159) rfl rfl ?_
          show Steps p.tables e below (T362.setTop (mkF m 161 #[iv p1, iv p2, iv p3, iv p4, iv (3 : Int32), rv w_MANY_RULES, iv (7 : Int32), iv (7 : Int32), rv b1_359, rv b1_362, iv ii, iv ii, rv xx, .unset, .unset] [(.ref b1_359)])) _
          refine XS.iload X362.here hx rfl (hb hby at_161) rfl ?_
          show Steps p.tables e below (T362.setTop (mkF m 163 #[iv p1, iv p2, iv p3, iv p4, iv (3 : Int32), rv w_MANY_RULES, iv (7 : Int32), iv (7 : Int32), rv b1_359, rv b1_362, iv ii, iv ii, rv xx, .unset, .unset] [(.int ii), (.ref b1_359)])) _
          exact k
        obtain ⟨cl386, Ar386, qc386, S386, M386, U386, G386⟩ := id (f365)
        have hin386 : ¬ (ii < 0 ∨ cl386.slots.size ≤ (ii).toNatClampNeg) := inb_of S386 hbii
        have hat386 : cl386.slots[(ii).toNatClampNeg]? = some (.ref xx) := Has.at U386 hin386 gx
        have k387 : Way p e below S0 T362 (mkF m 164 #[iv p1, iv p2, iv p3, iv p4, iv (3 : Int32), rv w_MANY_RULES, iv (7 : Int32), iv (7 : Int32), rv b1_359, rv b1_362, iv ii, iv ii, rv xx, .unset, .unset] [(.ref xx)]) := fun t k => k385 t (X362.aaload hx (j := ii) (v := (.ref xx)) Ar386.1 (State.isArrayOf_alike hZ.alike Ar386.2.1) rfl Ar386.2.2 hin386 hat386 (g := (mkF m 163 #[iv p1, iv p2, iv p3, iv p4, iv (3 : Int32), rv w_MANY_RULES, iv (7 : Int32), iv (7 : Int32), rv b1_359, rv b1_362, iv ii, iv ii, rv xx, .unset, .unset] [(.int ii), (.ref b1_359)])) rfl rfl (hb hby at_163) _ k)
        have k388 : Way p e below S0 T362 (mkF m 170 #[iv p1, iv p2, iv p3, iv p4, iv (3 : Int32), rv w_MANY_RULES, iv (7 : Int32), iv (7 : Int32), rv b1_359, rv b1_362, iv ii, iv ii, rv xx, rv xx, .unset] [(.int ii), (.ref b1_362)]) := by
          intro t k
          refine k387 t ?_
          refine XS.astore X362.here hx rfl (hb hby at_164) rfl rfl (l' := #[iv p1, iv p2, iv p3, iv p4, iv (3 : Int32), rv w_MANY_RULES, iv (7 : Int32), iv (7 : Int32), rv b1_359, rv b1_362, iv ii, iv ii, rv xx, rv xx, .unset]) rfl ?_
          show Steps p.tables e below (T362.setTop (mkF m 166 #[iv p1, iv p2, iv p3, iv p4, iv (3 : Int32), rv w_MANY_RULES, iv (7 : Int32), iv (7 : Int32), rv b1_359, rv b1_362, iv ii, iv ii, rv xx, rv xx, .unset] [])) _
          refine XS.aload X362.here hx rfl (hb hby at_166) rfl rfl ?_
          show Steps p.tables e below (T362.setTop (mkF m 168 #[iv p1, iv p2, iv p3, iv p4, iv (3 : Int32), rv w_MANY_RULES, iv (7 : Int32), iv (7 : Int32), rv b1_359, rv b1_362, iv ii, iv ii, rv xx, rv xx, .unset] [(.ref b1_362)])) _
          refine XS.iload X362.here hx rfl (hb hby at_168) rfl ?_
          show Steps p.tables e below (T362.setTop (mkF m 170 #[iv p1, iv p2, iv p3, iv p4, iv (3 : Int32), rv w_MANY_RULES, iv (7 : Int32), iv (7 : Int32), rv b1_359, rv b1_362, iv ii, iv ii, rv xx, rv xx, .unset] [(.int ii), (.ref b1_362)])) _
          exact k
        obtain ⟨cl389, Ar389, qc389, S389, M389, U389, G389⟩ := id (po362_1)
        have hin389 : ¬ (ii < 0 ∨ cl389.slots.size ≤ (ii).toNatClampNeg) := inb_of S389 hbii
        have hat389 : cl389.slots[(ii).toNatClampNeg]? = some (.ref zz) := Has.at U389 hin389 gz
        have k390 : Way p e below S0 T362 (mkF m 171 #[iv p1, iv p2, iv p3, iv p4, iv (3 : Int32), rv w_MANY_RULES, iv (7 : Int32), iv (7 : Int32), rv b1_359, rv b1_362, iv ii, iv ii, rv xx, rv xx, .unset] [(.ref zz)]) := fun t k => k388 t (X362.aaload hx (j := ii) (v := (.ref zz)) Ar389.1 (State.isArrayOf_alike hZ.alike Ar389.2.1) rfl Ar389.2.2 hin389 hat389 (g := (mkF m 170 #[iv p1, iv p2, iv p3, iv p4, iv (3 : Int32), rv w_MANY_RULES, iv (7 : Int32), iv (7 : Int32), rv b1_359, rv b1_362, iv ii, iv ii, rv xx, rv xx, .unset] [(.int ii), (.ref b1_362)])) rfl rfl (hb hby at_170) _ k)
        have k391 : Way p e below S0 T362 (mkF m 173 #[iv p1, iv p2, iv p3, iv p4, iv (3 : Int32), rv w_MANY_RULES, iv (7 : Int32), iv (7 : Int32), rv b1_359, rv b1_362, iv ii, iv ii, rv xx, rv xx, rv zz] []) := by
          intro t k
          refine k390 t ?_
          refine XS.astore X362.here hx rfl (hb hby at_171) rfl rfl (l' := #[iv p1, iv p2, iv p3, iv p4, iv (3 : Int32), rv w_MANY_RULES, iv (7 : Int32), iv (7 : Int32), rv b1_359, rv b1_362, iv ii, iv ii, rv xx, rv xx, rv zz]) rfl ?_
          show Steps p.tables e below (T362.setTop (mkF m 173 #[iv p1, iv p2, iv p3, iv p4, iv (3 : Int32), rv w_MANY_RULES, iv (7 : Int32), iv (7 : Int32), rv b1_359, rv b1_362, iv ii, iv ii, rv xx, rv xx, rv zz] [])) _
          exact k
        obtain ⟨T392, lc392, X392, N392, e392, st392⟩ := tail_same w_POOL w_NO_RULE w_ONE_RULE w_MANY_RULES G p1 p2 p3 p4 (3 : Int32) w_MANY_RULES (7 : Int32) (7 : Int32) b1_359 b1_362 ii xx zz X362 hx hZ hw hby hml hown O362 N362 (by decide) (by decide) rfl Ex Ez (nez : zz ≠ xx)
        have k393 : Way p e below S0 T392 (mkF m 314 #[iv p1, iv p2, iv p3, iv p4, iv (3 : Int32), rv w_MANY_RULES, iv (7 : Int32), iv (7 : Int32), rv b1_359, rv b1_362, iv ii, iv ii, rv xx, rv xx, rv zz] [(.int (1 : Int32))]) := fun t k => k391 t (st392 _ k)
        obtain ⟨fs, hr, hrun, hended, hW, hsame⟩ := X392.leave (v := some (.int (1 : Int32))) (fun h => by rw [Bd.returns] at h; cases h)
        refine ⟨_, _, k393 _ (retN X392 hx (t := .boolean) Bd.returns (by simp) (hb hby at_314) hr), hrun, hended, _, _, rfl, ?_, ⟨_, rfl⟩, hW, hsame.mono (by decide) (by decide)⟩
        show Q_law_met Z w_POOL w_NO_RULE w_ONE_RULE w_MANY_RULES p1 p2 p3 p4 h0 n0 _ T392.heap _
        rw [e392]
        exact ⟨rfl, N392⟩
      · obtain ⟨xx, yy, zz, gx, gy, gz, Ex, Ey, Ez, nez, ney⟩ : ∃ x y z : Addr, ([(.ref x0_359), (.ref x1_359), (.ref x2_359), (.ref x3_359), (.ref x4_359), (.ref x5_359), (.ref x6_359)] : List Value).getD ii.toNatClampNeg .null = .ref x ∧ ([(.ref x0_359), (.ref x1_359), (.ref x2_359), (.ref x3_359), (.ref x4_359), (.ref x5_359), (.ref x6_359)] : List Value).getD jj.toNatClampNeg .null = .ref y ∧ ([(.ref x0_362), (.ref x1_362), (.ref x2_362), (.ref x3_362), (.ref x4_362), (.ref x5_362), (.ref x6_362)] : List Value).getD ii.toNatClampNeg .null = .ref z ∧ Exa Z T362.heap x "com/example/rulework/bench/Burst$SelfConflictingRule" ∧ Exa Z T362.heap y "com/example/rulework/bench/Burst$SelfConflictingRule" ∧ Exa Z T362.heap z "com/example/rulework/bench/Burst$SelfConflictingRule" ∧ z ≠ x ∧ y ≠ x := by
          rcases hrii with rfl | rfl | rfl | rfl | rfl | rfl | rfl
          · rcases hrjj with rfl | rfl | rfl | rfl | rfl | rfl | rfl
            · exact absurd rfl hc381
            · exact ⟨x0_359, x1_359, x0_362, rfl, rfl, rfl, f374, f375, po362_3, (Ne.symm (Nat.ne_of_lt (Nat.lt_of_lt_of_le po359_3.lt po362_2))), (Ne.symm po359_16)⟩
            · exact ⟨x0_359, x2_359, x0_362, rfl, rfl, rfl, f374, f376, po362_3, (Ne.symm (Nat.ne_of_lt (Nat.lt_of_lt_of_le po359_3.lt po362_2))), (Ne.symm po359_17)⟩
            · exact ⟨x0_359, x3_359, x0_362, rfl, rfl, rfl, f374, f377, po362_3, (Ne.symm (Nat.ne_of_lt (Nat.lt_of_lt_of_le po359_3.lt po362_2))), (Ne.symm po359_18)⟩
            · exact ⟨x0_359, x4_359, x0_362, rfl, rfl, rfl, f374, f378, po362_3, (Ne.symm (Nat.ne_of_lt (Nat.lt_of_lt_of_le po359_3.lt po362_2))), (Ne.symm po359_19)⟩
            · exact ⟨x0_359, x5_359, x0_362, rfl, rfl, rfl, f374, f379, po362_3, (Ne.symm (Nat.ne_of_lt (Nat.lt_of_lt_of_le po359_3.lt po362_2))), (Ne.symm po359_20)⟩
            · exact ⟨x0_359, x6_359, x0_362, rfl, rfl, rfl, f374, f380, po362_3, (Ne.symm (Nat.ne_of_lt (Nat.lt_of_lt_of_le po359_3.lt po362_2))), (Ne.symm po359_21)⟩
          · rcases hrjj with rfl | rfl | rfl | rfl | rfl | rfl | rfl
            · exact ⟨x1_359, x0_359, x1_362, rfl, rfl, rfl, f375, f374, po362_5, (Ne.symm (Nat.ne_of_lt (Nat.lt_of_lt_of_le po359_5.lt po362_4))), po359_16⟩
            · exact absurd rfl hc381
            · exact ⟨x1_359, x2_359, x1_362, rfl, rfl, rfl, f375, f376, po362_5, (Ne.symm (Nat.ne_of_lt (Nat.lt_of_lt_of_le po359_5.lt po362_4))), (Ne.symm po359_22)⟩
            · exact ⟨x1_359, x3_359, x1_362, rfl, rfl, rfl, f375, f377, po362_5, (Ne.symm (Nat.ne_of_lt (Nat.lt_of_lt_of_le po359_5.lt po362_4))), (Ne.symm po359_23)⟩
            · exact ⟨x1_359, x4_359, x1_362, rfl, rfl, rfl, f375, f378, po362_5, (Ne.symm (Nat.ne_of_lt (Nat.lt_of_lt_of_le po359_5.lt po362_4))), (Ne.symm po359_24)⟩
            · exact ⟨x1_359, x5_359, x1_362, rfl, rfl, rfl, f375, f379, po362_5, (Ne.symm (Nat.ne_of_lt (Nat.lt_of_lt_of_le po359_5.lt po362_4))), (Ne.symm po359_25)⟩
            · exact ⟨x1_359, x6_359, x1_362, rfl, rfl, rfl, f375, f380, po362_5, (Ne.symm (Nat.ne_of_lt (Nat.lt_of_lt_of_le po359_5.lt po362_4))), (Ne.symm po359_26)⟩
          · rcases hrjj with rfl | rfl | rfl | rfl | rfl | rfl | rfl
            · exact ⟨x2_359, x0_359, x2_362, rfl, rfl, rfl, f376, f374, po362_7, (Ne.symm (Nat.ne_of_lt (Nat.lt_of_lt_of_le po359_7.lt po362_6))), po359_17⟩
            · exact ⟨x2_359, x1_359, x2_362, rfl, rfl, rfl, f376, f375, po362_7, (Ne.symm (Nat.ne_of_lt (Nat.lt_of_lt_of_le po359_7.lt po362_6))), po359_22⟩
            · exact absurd rfl hc381
            · exact ⟨x2_359, x3_359, x2_362, rfl, rfl, rfl, f376, f377, po362_7, (Ne.symm (Nat.ne_of_lt (Nat.lt_of_lt_of_le po359_7.lt po362_6))), (Ne.symm po359_27)⟩
            · exact ⟨x2_359, x4_359, x2_362, rfl, rfl, rfl, f376, f378, po362_7, (Ne.symm (Nat.ne_of_lt (Nat.lt_of_lt_of_le po359_7.lt po362_6))), (Ne.symm po359_28)⟩
            · exact ⟨x2_359, x5_359, x2_362, rfl, rfl, rfl, f376, f379, po362_7, (Ne.symm (Nat.ne_of_lt (Nat.lt_of_lt_of_le po359_7.lt po362_6))), (Ne.symm po359_29)⟩
            · exact ⟨x2_359, x6_359, x2_362, rfl, rfl, rfl, f376, f380, po362_7, (Ne.symm (Nat.ne_of_lt (Nat.lt_of_lt_of_le po359_7.lt po362_6))), (Ne.symm po359_30)⟩
          · rcases hrjj with rfl | rfl | rfl | rfl | rfl | rfl | rfl
            · exact ⟨x3_359, x0_359, x3_362, rfl, rfl, rfl, f377, f374, po362_9, (Ne.symm (Nat.ne_of_lt (Nat.lt_of_lt_of_le po359_9.lt po362_8))), po359_18⟩
            · exact ⟨x3_359, x1_359, x3_362, rfl, rfl, rfl, f377, f375, po362_9, (Ne.symm (Nat.ne_of_lt (Nat.lt_of_lt_of_le po359_9.lt po362_8))), po359_23⟩
            · exact ⟨x3_359, x2_359, x3_362, rfl, rfl, rfl, f377, f376, po362_9, (Ne.symm (Nat.ne_of_lt (Nat.lt_of_lt_of_le po359_9.lt po362_8))), po359_27⟩
            · exact absurd rfl hc381
            · exact ⟨x3_359, x4_359, x3_362, rfl, rfl, rfl, f377, f378, po362_9, (Ne.symm (Nat.ne_of_lt (Nat.lt_of_lt_of_le po359_9.lt po362_8))), (Ne.symm po359_31)⟩
            · exact ⟨x3_359, x5_359, x3_362, rfl, rfl, rfl, f377, f379, po362_9, (Ne.symm (Nat.ne_of_lt (Nat.lt_of_lt_of_le po359_9.lt po362_8))), (Ne.symm po359_32)⟩
            · exact ⟨x3_359, x6_359, x3_362, rfl, rfl, rfl, f377, f380, po362_9, (Ne.symm (Nat.ne_of_lt (Nat.lt_of_lt_of_le po359_9.lt po362_8))), (Ne.symm po359_33)⟩
          · rcases hrjj with rfl | rfl | rfl | rfl | rfl | rfl | rfl
            · exact ⟨x4_359, x0_359, x4_362, rfl, rfl, rfl, f378, f374, po362_11, (Ne.symm (Nat.ne_of_lt (Nat.lt_of_lt_of_le po359_11.lt po362_10))), po359_19⟩
            · exact ⟨x4_359, x1_359, x4_362, rfl, rfl, rfl, f378, f375, po362_11, (Ne.symm (Nat.ne_of_lt (Nat.lt_of_lt_of_le po359_11.lt po362_10))), po359_24⟩
            · exact ⟨x4_359, x2_359, x4_362, rfl, rfl, rfl, f378, f376, po362_11, (Ne.symm (Nat.ne_of_lt (Nat.lt_of_lt_of_le po359_11.lt po362_10))), po359_28⟩
            · exact ⟨x4_359, x3_359, x4_362, rfl, rfl, rfl, f378, f377, po362_11, (Ne.symm (Nat.ne_of_lt (Nat.lt_of_lt_of_le po359_11.lt po362_10))), po359_31⟩
            · exact absurd rfl hc381
            · exact ⟨x4_359, x5_359, x4_362, rfl, rfl, rfl, f378, f379, po362_11, (Ne.symm (Nat.ne_of_lt (Nat.lt_of_lt_of_le po359_11.lt po362_10))), (Ne.symm po359_34)⟩
            · exact ⟨x4_359, x6_359, x4_362, rfl, rfl, rfl, f378, f380, po362_11, (Ne.symm (Nat.ne_of_lt (Nat.lt_of_lt_of_le po359_11.lt po362_10))), (Ne.symm po359_35)⟩
          · rcases hrjj with rfl | rfl | rfl | rfl | rfl | rfl | rfl
            · exact ⟨x5_359, x0_359, x5_362, rfl, rfl, rfl, f379, f374, po362_13, (Ne.symm (Nat.ne_of_lt (Nat.lt_of_lt_of_le po359_13.lt po362_12))), po359_20⟩
            · exact ⟨x5_359, x1_359, x5_362, rfl, rfl, rfl, f379, f375, po362_13, (Ne.symm (Nat.ne_of_lt (Nat.lt_of_lt_of_le po359_13.lt po362_12))), po359_25⟩
            · exact ⟨x5_359, x2_359, x5_362, rfl, rfl, rfl, f379, f376, po362_13, (Ne.symm (Nat.ne_of_lt (Nat.lt_of_lt_of_le po359_13.lt po362_12))), po359_29⟩
            · exact ⟨x5_359, x3_359, x5_362, rfl, rfl, rfl, f379, f377, po362_13, (Ne.symm (Nat.ne_of_lt (Nat.lt_of_lt_of_le po359_13.lt po362_12))), po359_32⟩
            · exact ⟨x5_359, x4_359, x5_362, rfl, rfl, rfl, f379, f378, po362_13, (Ne.symm (Nat.ne_of_lt (Nat.lt_of_lt_of_le po359_13.lt po362_12))), po359_34⟩
            · exact absurd rfl hc381
            · exact ⟨x5_359, x6_359, x5_362, rfl, rfl, rfl, f379, f380, po362_13, (Ne.symm (Nat.ne_of_lt (Nat.lt_of_lt_of_le po359_13.lt po362_12))), (Ne.symm po359_36)⟩
          · rcases hrjj with rfl | rfl | rfl | rfl | rfl | rfl | rfl
            · exact ⟨x6_359, x0_359, x6_362, rfl, rfl, rfl, f380, f374, po362_15, (Ne.symm (Nat.ne_of_lt (Nat.lt_of_lt_of_le po359_15.lt po362_14))), po359_21⟩
            · exact ⟨x6_359, x1_359, x6_362, rfl, rfl, rfl, f380, f375, po362_15, (Ne.symm (Nat.ne_of_lt (Nat.lt_of_lt_of_le po359_15.lt po362_14))), po359_26⟩
            · exact ⟨x6_359, x2_359, x6_362, rfl, rfl, rfl, f380, f376, po362_15, (Ne.symm (Nat.ne_of_lt (Nat.lt_of_lt_of_le po359_15.lt po362_14))), po359_30⟩
            · exact ⟨x6_359, x3_359, x6_362, rfl, rfl, rfl, f380, f377, po362_15, (Ne.symm (Nat.ne_of_lt (Nat.lt_of_lt_of_le po359_15.lt po362_14))), po359_33⟩
            · exact ⟨x6_359, x4_359, x6_362, rfl, rfl, rfl, f380, f378, po362_15, (Ne.symm (Nat.ne_of_lt (Nat.lt_of_lt_of_le po359_15.lt po362_14))), po359_35⟩
            · exact ⟨x6_359, x5_359, x6_362, rfl, rfl, rfl, f380, f379, po362_15, (Ne.symm (Nat.ne_of_lt (Nat.lt_of_lt_of_le po359_15.lt po362_14))), po359_36⟩
            · exact absurd rfl hc381
        have k394 : Way p e below S0 T362 (mkF m 156 #[iv p1, iv p2, iv p3, iv p4, iv (3 : Int32), rv w_MANY_RULES, iv (7 : Int32), iv (7 : Int32), rv b1_359, rv b1_362, iv ii, iv jj, .unset, .unset, .unset] [(.int ii), (.ref b1_359)]) := by
          intro t k
          refine k373 t ?_
          refine XS.aload X362.here hx rfl (hb hby at_152) rfl rfl ?_
          show Steps p.tables e below (T362.setTop (mkF m 154 #[iv p1, iv p2, iv p3, iv p4, iv (3 : Int32), rv w_MANY_RULES, iv (7 : Int32), iv (7 : Int32), rv b1_359, rv b1_362, iv ii, iv jj, .unset, .unset, .unset] [(.ref b1_359)])) _
          refine XS.iload X362.here hx rfl (hb hby at_154) rfl ?_
          show Steps p.tables e below (T362.setTop (mkF m 156 #[iv p1, iv p2, iv p3, iv p4, iv (3 : Int32), rv w_MANY_RULES, iv (7 : Int32), iv (7 : Int32), rv b1_359, rv b1_362, iv ii, iv jj, .unset, .unset, .unset] [(.int ii), (.ref b1_359)])) _
          exact k
        obtain ⟨cl395, Ar395, qc395, S395, M395, U395, G395⟩ := id (f365)
        have hin395 : ¬ (ii < 0 ∨ cl395.slots.size ≤ (ii).toNatClampNeg) := inb_of S395 hbii
        have hat395 : cl395.slots[(ii).toNatClampNeg]? = some (.ref xx) := Has.at U395 hin395 gx
        have k396 : Way p e below S0 T362 (mkF m 157 #[iv p1, iv p2, iv p3, iv p4, iv (3 : Int32), rv w_MANY_RULES, iv (7 : Int32), iv (7 : Int32), rv b1_359, rv b1_362, iv ii, iv jj, .unset, .unset, .unset] [(.ref xx)]) := fun t k => k394 t (X362.aaload hx (j := ii) (v := (.ref xx)) Ar395.1 (State.isArrayOf_alike hZ.alike Ar395.2.1) rfl Ar395.2.2 hin395 hat395 (g := (mkF m 156 #[iv p1, iv p2, iv p3, iv p4, iv (3 : Int32), rv w_MANY_RULES, iv (7 : Int32), iv (7 : Int32), rv b1_359, rv b1_362, iv ii, iv jj, .unset, .unset, .unset] [(.int ii), (.ref b1_359)])) rfl rfl (hb hby at_156) _ k)
        have k397 : Way p e below S0 T362 (mkF m 163 #[iv p1, iv p2, iv p3, iv p4, iv (3 : Int32), rv w_MANY_RULES, iv (7 : Int32), iv (7 : Int32), rv b1_359, rv b1_362, iv ii, iv jj, rv xx, .unset, .unset] [(.int jj), (.ref b1_359)]) := by
          intro t k
          refine k396 t ?_
          refine XS.astore X362.here hx rfl (hb hby at_157) rfl rfl (l' := #[iv p1, iv p2, iv p3, iv p4, iv (3 : Int32), rv w_MANY_RULES, iv (7 : Int32), iv (7 : Int32), rv b1_359, rv b1_362, iv ii, iv jj, rv xx, .unset, .unset]) rfl ?_
          show Steps p.tables e below (T362.setTop (mkF m 159 #[iv p1, iv p2, iv p3, iv p4, iv (3 : Int32), rv w_MANY_RULES, iv (7 : Int32), iv (7 : Int32), rv b1_359, rv b1_362, iv ii, iv jj, rv xx, .unset, .unset] [])) _
          refine XS.aload X362.here hx rfl (hb hby at_159) rfl rfl ?_
          show Steps p.tables e below (T362.setTop (mkF m 161 #[iv p1, iv p2, iv p3, iv p4, iv (3 : Int32), rv w_MANY_RULES, iv (7 : Int32), iv (7 : Int32), rv b1_359, rv b1_362, iv ii, iv jj, rv xx, .unset, .unset] [(.ref b1_359)])) _
          refine XS.iload X362.here hx rfl (hb hby at_161) rfl ?_
          show Steps p.tables e below (T362.setTop (mkF m 163 #[iv p1, iv p2, iv p3, iv p4, iv (3 : Int32), rv w_MANY_RULES, iv (7 : Int32), iv (7 : Int32), rv b1_359, rv b1_362, iv ii, iv jj, rv xx, .unset, .unset] [(.int jj), (.ref b1_359)])) _
          exact k
        obtain ⟨cl398, Ar398, qc398, S398, M398, U398, G398⟩ := id (f365)
        have hin398 : ¬ (jj < 0 ∨ cl398.slots.size ≤ (jj).toNatClampNeg) := inb_of S398 hbjj
        have hat398 : cl398.slots[(jj).toNatClampNeg]? = some (.ref yy) := Has.at U398 hin398 gy
        have k399 : Way p e below S0 T362 (mkF m 164 #[iv p1, iv p2, iv p3, iv p4, iv (3 : Int32), rv w_MANY_RULES, iv (7 : Int32), iv (7 : Int32), rv b1_359, rv b1_362, iv ii, iv jj, rv xx, .unset, .unset] [(.ref yy)]) := fun t k => k397 t (X362.aaload hx (j := jj) (v := (.ref yy)) Ar398.1 (State.isArrayOf_alike hZ.alike Ar398.2.1) rfl Ar398.2.2 hin398 hat398 (g := (mkF m 163 #[iv p1, iv p2, iv p3, iv p4, iv (3 : Int32), rv w_MANY_RULES, iv (7 : Int32), iv (7 : Int32), rv b1_359, rv b1_362, iv ii, iv jj, rv xx, .unset, .unset] [(.int jj), (.ref b1_359)])) rfl rfl (hb hby at_163) _ k)
        have k400 : Way p e below S0 T362 (mkF m 170 #[iv p1, iv p2, iv p3, iv p4, iv (3 : Int32), rv w_MANY_RULES, iv (7 : Int32), iv (7 : Int32), rv b1_359, rv b1_362, iv ii, iv jj, rv xx, rv yy, .unset] [(.int ii), (.ref b1_362)]) := by
          intro t k
          refine k399 t ?_
          refine XS.astore X362.here hx rfl (hb hby at_164) rfl rfl (l' := #[iv p1, iv p2, iv p3, iv p4, iv (3 : Int32), rv w_MANY_RULES, iv (7 : Int32), iv (7 : Int32), rv b1_359, rv b1_362, iv ii, iv jj, rv xx, rv yy, .unset]) rfl ?_
          show Steps p.tables e below (T362.setTop (mkF m 166 #[iv p1, iv p2, iv p3, iv p4, iv (3 : Int32), rv w_MANY_RULES, iv (7 : Int32), iv (7 : Int32), rv b1_359, rv b1_362, iv ii, iv jj, rv xx, rv yy, .unset] [])) _
          refine XS.aload X362.here hx rfl (hb hby at_166) rfl rfl ?_
          show Steps p.tables e below (T362.setTop (mkF m 168 #[iv p1, iv p2, iv p3, iv p4, iv (3 : Int32), rv w_MANY_RULES, iv (7 : Int32), iv (7 : Int32), rv b1_359, rv b1_362, iv ii, iv jj, rv xx, rv yy, .unset] [(.ref b1_362)])) _
          refine XS.iload X362.here hx rfl (hb hby at_168) rfl ?_
          show Steps p.tables e below (T362.setTop (mkF m 170 #[iv p1, iv p2, iv p3, iv p4, iv (3 : Int32), rv w_MANY_RULES, iv (7 : Int32), iv (7 : Int32), rv b1_359, rv b1_362, iv ii, iv jj, rv xx, rv yy, .unset] [(.int ii), (.ref b1_362)])) _
          exact k
        obtain ⟨cl401, Ar401, qc401, S401, M401, U401, G401⟩ := id (po362_1)
        have hin401 : ¬ (ii < 0 ∨ cl401.slots.size ≤ (ii).toNatClampNeg) := inb_of S401 hbii
        have hat401 : cl401.slots[(ii).toNatClampNeg]? = some (.ref zz) := Has.at U401 hin401 gz
        have k402 : Way p e below S0 T362 (mkF m 171 #[iv p1, iv p2, iv p3, iv p4, iv (3 : Int32), rv w_MANY_RULES, iv (7 : Int32), iv (7 : Int32), rv b1_359, rv b1_362, iv ii, iv jj, rv xx, rv yy, .unset] [(.ref zz)]) := fun t k => k400 t (X362.aaload hx (j := ii) (v := (.ref zz)) Ar401.1 (State.isArrayOf_alike hZ.alike Ar401.2.1) rfl Ar401.2.2 hin401 hat401 (g := (mkF m 170 #[iv p1, iv p2, iv p3, iv p4, iv (3 : Int32), rv w_MANY_RULES, iv (7 : Int32), iv (7 : Int32), rv b1_359, rv b1_362, iv ii, iv jj, rv xx, rv yy, .unset] [(.int ii), (.ref b1_362)])) rfl rfl (hb hby at_170) _ k)
        have k403 : Way p e below S0 T362 (mkF m 173 #[iv p1, iv p2, iv p3, iv p4, iv (3 : Int32), rv w_MANY_RULES, iv (7 : Int32), iv (7 : Int32), rv b1_359, rv b1_362, iv ii, iv jj, rv xx, rv yy, rv zz] []) := by
          intro t k
          refine k402 t ?_
          refine XS.astore X362.here hx rfl (hb hby at_171) rfl rfl (l' := #[iv p1, iv p2, iv p3, iv p4, iv (3 : Int32), rv w_MANY_RULES, iv (7 : Int32), iv (7 : Int32), rv b1_359, rv b1_362, iv ii, iv jj, rv xx, rv yy, rv zz]) rfl ?_
          show Steps p.tables e below (T362.setTop (mkF m 173 #[iv p1, iv p2, iv p3, iv p4, iv (3 : Int32), rv w_MANY_RULES, iv (7 : Int32), iv (7 : Int32), rv b1_359, rv b1_362, iv ii, iv jj, rv xx, rv yy, rv zz] [])) _
          exact k
        obtain ⟨T404, lc404, X404, N404, e404, st404⟩ := tail_other w_POOL w_NO_RULE w_ONE_RULE w_MANY_RULES G p1 p2 p3 p4 (3 : Int32) w_MANY_RULES (7 : Int32) (7 : Int32) b1_359 b1_362 ii jj xx yy zz X362 hx hZ hw hby hml hown O362 N362 (by decide) (by decide) rfl Ex Ez (nez : zz ≠ xx) Ey (ney : yy ≠ xx) (hc381 : ¬ (ii = jj))
        have k405 : Way p e below S0 T404 (mkF m 314 #[iv p1, iv p2, iv p3, iv p4, iv (3 : Int32), rv w_MANY_RULES, iv (7 : Int32), iv (7 : Int32), rv b1_359, rv b1_362, iv ii, iv jj, rv xx, rv yy, rv zz] [(.int (1 : Int32))]) := fun t k => k403 t (st404 _ k)
        obtain ⟨fs, hr, hrun, hended, hW, hsame⟩ := X404.leave (v := some (.int (1 : Int32))) (fun h => by rw [Bd.returns] at h; cases h)
        refine ⟨_, _, k405 _ (retN X404 hx (t := .boolean) Bd.returns (by simp) (hb hby at_314) hr), hrun, hended, _, _, rfl, ?_, ⟨_, rfl⟩, hW, hsame.mono (by decide) (by decide)⟩
        show Q_law_met Z w_POOL w_NO_RULE w_ONE_RULE w_MANY_RULES p1 p2 p3 p4 h0 n0 _ T404.heap _
        rw [e404]
        exact ⟨rfl, N404⟩
set_option maxRecDepth 65536 in
set_option maxHeartbeats 40000000 in
theorem comes_1 {Post : Tables → Env → Array Value → State → Outcome → State → Prop} (hpost : ∀ tb e args s v u, (limb_1_1.after args s (.returned v) u = true ∧ limb_1_2.after args s (.returned v) u = true ∧ True) → FrameEnd s (.returned v) u (Jvm.fieldLocs frame_1_writes args s ++ Jvm.arrayLocs frame_1_arrays args s ++ Jvm.staticLocs frame_1_statics s) 40 128 → Post tb e args s (.returned v) u) :
    ArmFor flags0 classFile x code maxLocals ret World_1 tables_1 room_1 Calls_1 rest_1 Pre_1 Post := by
  intro l hfl _ _ p e ha hc hk s m args below hf hA hF happ hP
  obtain ⟨hcalls, hrest, hpre⟩ := hP
  obtain ⟨-, -, -, hnamed, -, -, -, hat⟩ := (Spec.applies_iff hf).mp happ
  obtain ⟨hg, hn⟩ := and_e (Cond.before_iff.mp (show (Jvm.Cond.and given_1 narrow_1).before args s = true from hpre))
  obtain ⟨g1a, g1b⟩ := and_e hg
  obtain ⟨g2a, g2b⟩ := and_e g1b
  obtain ⟨g3a, g3b⟩ := and_e g2b
  obtain ⟨g4a, g4b⟩ := and_e g3b
  obtain ⟨g5a, g5b⟩ := and_e hn
  obtain ⟨g6a, g6b⟩ := and_e g5b
  obtain ⟨g7a, g7b⟩ := and_e g6b
  obtain ⟨g8a, g8b⟩ := and_e g7b
  obtain ⟨g9a, g9b⟩ := and_e g8b
  obtain ⟨g10a, g10b⟩ := and_e g9b
  obtain ⟨g11a, g11b⟩ := and_e g10b
  obtain ⟨w0, w1, w2, w3, rfl⟩ : ∃ w0 w1 w2 w3 : Value, args = #[w0, w1, w2, w3] := by
    have hs : args.size = 4 := by simpa [Cond.value, given_1] using g1a
    obtain ⟨L⟩ := args
    match L, hs with
    | [w0, w1, w2, w3], _ => exact ⟨w0, w1, w2, w3, rfl⟩
  have hw := fun d (hd : d ∈ tables_1) => atoms_spec (ws := Jvm.Cond.code x code maxLocals ret :: tables_1) hat d (List.mem_cons_of_mem _ hd)
  have hfit : Fit s := fun {y c} hc i hi => by
    obtain ⟨ha, rfl⟩ := Array.getElem?_eq_some_iff.mp hc
    have q := List.all_eq_true.mp ((Array.all_eq_true_iff_forall_mem.mp hF) _ (Array.getElem_mem ha)) i (List.mem_range.mpr hi)
    simpa [Array.getElem?_eq_getElem hi] using q
  obtain ⟨i0, ei0⟩ := is_v g2a
  obtain rfl : w0 = (.int i0) := Option.some.inj ei0
  obtain ⟨i1, ei1⟩ := is_v g3a
  obtain rfl : w1 = (.int i1) := Option.some.inj ei1
  obtain ⟨i2, ei2⟩ := is_v g4a
  obtain rfl : w2 = (.int i2) := Option.some.inj ei2
  obtain ⟨i3, ei3⟩ := is_v g4b
  obtain rfl : w3 = (.int i3) := Option.some.inj ei3
  obtain ⟨w_POOL, ev_w_POOL⟩ := exa_v g5a
  have S_w_POOL := Sta.start ev_w_POOL (Or.inr ⟨(hw _ (List.mem_of_getElem? (i := 1) rfl)), (hw _ (List.mem_of_getElem? (i := 2) rfl))⟩)
  have E_w_POOL := Exa.start ev_w_POOL g5a
  obtain ⟨w_MANY_RULES, ev_w_MANY_RULES⟩ := exa_v g7a
  have S_w_MANY_RULES := Sta.start ev_w_MANY_RULES (Or.inr ⟨(hw _ (List.mem_of_getElem? (i := 1) rfl)), (hw _ (List.mem_of_getElem? (i := 25) rfl))⟩)
  have E_w_MANY_RULES := Exa.start ev_w_MANY_RULES g7a
  obtain ⟨w_ONE_RULE, ev_w_ONE_RULE⟩ := exa_v g9a
  have S_w_ONE_RULE := Sta.start ev_w_ONE_RULE (Or.inr ⟨(hw _ (List.mem_of_getElem? (i := 1) rfl)), (hw _ (List.mem_of_getElem? (i := 54) rfl))⟩)
  have E_w_ONE_RULE := Exa.start ev_w_ONE_RULE g9a
  obtain ⟨w_NO_RULE, ev_w_NO_RULE⟩ := exa_v g11a
  have S_w_NO_RULE := Sta.start ev_w_NO_RULE (Or.inr ⟨(hw _ (List.mem_of_getElem? (i := 1) rfl)), (hw _ (List.mem_of_getElem? (i := 56) rfl))⟩)
  have E_w_NO_RULE := Exa.start ev_w_NO_RULE g11a
  have F_w_POOL_ordinal := Fld.start (own_eqF ev_w_POOL g6a)
  have F_w_MANY_RULES_ordinal := Fld.start (own_eqF ev_w_MANY_RULES g8a)
  have F_w_ONE_RULE_ordinal := Fld.start (own_eqF ev_w_ONE_RULE g10a)
  have F_w_NO_RULE_ordinal := Fld.start (own_eqF ev_w_NO_RULE g11b)
  have G : Gst s w_POOL w_NO_RULE w_ONE_RULE w_MANY_RULES := ⟨S_w_POOL, E_w_POOL, F_w_POOL_ordinal, S_w_NO_RULE, E_w_NO_RULE, F_w_NO_RULE_ordinal, S_w_ONE_RULE, E_w_ONE_RULE, F_w_ONE_RULE_ordinal, S_w_MANY_RULES, E_w_MANY_RULES, F_w_MANY_RULES_ordinal⟩
  obtain ⟨n, o, h1, h2, h3, _, L, rfl, ⟨rfl, N⟩, hq⟩ := law_met l s _ hw tables_1 w_POOL w_NO_RULE w_ONE_RULE w_MANY_RULES G i0 i1 i2 i3 s.heap s.heap.size (Old.start s)  p e ha hc hk s m _ below hf ((Spec.applies_iff_loose hf).mp happ).1 ⟨rfl, State.Warmed39.refl s, rfl⟩ trivial
  refine ⟨n, _, h1, h2, h3, hpost _ _ _ _ _ _ ⟨Cond.after_iff.mpr rfl, Cond.after_iff.mpr (eq_i res_at (Term.int_eval (1)) rfl), trivial⟩ ⟨hq.1, hq.2.1, (hq.2.2.sift fun y hy => Or.inr (N y hy)).mono (by decide) (by decide)⟩⟩
theorem main_1_1 : Claimed_1_1 := comes_1 fun _ _ _ _ _ _ h hF => ⟨h.1, hF⟩
theorem main_1_2 : Claimed_1_2 := comes_1 fun _ _ _ _ _ _ h hF => ⟨h.2.1, hF⟩
end Jvm.Pilot.@@N@@
namespace Jvm.Pilot.@@N@@
open Jvm Jvm.ClassFile Sem Op Lib Jvm.Free Jvm.Stand Jvm.Pilot.@@N@@.Jvm.D
/-! MADE BY PROGRAM (witnessworld.py) out of the Statement's table words and the real class files: 15 classes; the members and pool entries that the words name. The judged class is class 1, her method 1. -/
namespace start1
open Jvm.ClassFile
def u (s : String) : CpInfo := .utf8 (stringToUtf16 s)
/-- a pool by its gaps: so many unusable entries, then the entry; so many at the end -/
def gap : Nat → List CpInfo → List CpInfo
  | 0, r => r
  | n + 1, r => .unusable :: gap n r
def poolList (es : List (Nat × CpInfo)) (last : Nat) : List CpInfo := es.foldr (fun e r => gap e.1 (e.2 :: r)) (gap last [])
def pool (es : List (Nat × CpInfo)) (last : Nat) : Array CpInfo := ⟨poolList es last⟩
def fileOf (pool : Array CpInfo) (this : Nat) (attrs : Array Attribute := #[]) (ms : Array MethodInfo := #[]) (fl : Nat := 33) (sup : Nat := 0) (ifs : Array Nat := #[]) (fds : Array FieldInfo := #[]) : ClassFile where
  minorVersion := 0
  majorVersion := 65
  constantPool := pool
  accessFlags := fl
  thisClass := this
  superClass := sup
  interfaces := ifs
  fields := fds
  methods := ms
  attributes := attrs
def plain (name : String) (sup : Option ClassId) : Class where
  name := name
  kind := .ordinary
  loader := none
  accessFlags := 33
  super := sup
  interfaces := #[]
  cf := none
  fields := #[]
  methods := #[]
  instanceTypes := #[]
  staticTypes := #[]
  resolved := #[]
  callSites := []
  init := .initialized
  statics := none
  mirror := none

def pool0 : Array CpInfo := pool [(5, u "<init>"), (0, u "()V"), (1, .class_ 10), (1, u "java/lang/Object")] 113

def k0c0 : Code := { maxStack := 0, maxLocals := 1, code := object_method_1_code, exceptionTable := #[], attributes := #[] }
def k0m0 : Method := { name := "<init>", desc := "()V", sig := { parameters := [], returnType := none }, accessFlags := 1, code := some k0c0 }
/-- java/lang/Object -/
def k0 : Class := { plain "java/lang/Object" none with
  accessFlags := 33
  interfaces := #[]
  cf := some (fileOf pool0 8 #[] #[{ accessFlags := 1, nameIndex := 5, descriptorIndex := 6, attributes := #[] }] 33 0 #[] #[])
  fields := #[]
  methods := #[k0m0]
  instanceTypes := #[]
  staticTypes := #[]
  resolved := Array.replicate 124 none
  statics := none }

def pool1 : Array CpInfo := pool [(2, .class_ 4), (1, u "java/lang/Object"), (0, u "<init>"), (0, u "()V"), (0, .fieldref 8 9), (0, .class_ 10), (0, .nameAndType 11 12), (0, u "com/example/rulework/bench/Burst"), (0, u "POOL"), (0, u "Lcom/example/rulework/bench/Burst;"), (0, .fieldref 8 14), (0, .nameAndType 15 12), (0, u "NO_RULE"), (0, .fieldref 8 17), (0, .nameAndType 18 12), (0, u "ONE_RULE"), (0, .fieldref 8 20), (0, .nameAndType 21 12), (0, u "MANY_RULES"), (0, .methodref 8 23), (0, .nameAndType 24 25), (0, u "makeRules"), (0, u "(I)[Lcom/example/rulework/rulework/SchedulingRule;"), (0, .integer 2147483647), (0, .interfaceMethodref 28 29), (0, .class_ 30), (0, .nameAndType 31 32), (0, u "com/example/rulework/rulework/SchedulingRule"), (0, u "isConflicting"), (0, u "(Lcom/example/rulework/rulework/SchedulingRule;)Z"), (0, .interfaceMethodref 28 34), (0, .nameAndType 35 32), (0, u "contains"), (0, .class_ 37), (0, u "com/example/rulework/bench/BurstMakeRulesPinLaw"), (2, u "law"), (0, u "(IIII)Z")] 5

def k1m0 : Method := { name := "<init>", desc := "()V", sig := { parameters := [], returnType := none }, accessFlags := 1, code := none }
def k1c1 : Code := { maxStack := 3, maxLocals := 15, code := code, exceptionTable := #[], attributes := #[] }
def k1m1 : Method := { name := "law", desc := "(IIII)Z", sig := { parameters := [.int, .int, .int, .int], returnType := some .boolean }, accessFlags := 9, code := some k1c1 }
/-- com/example/rulework/bench/BurstMakeRulesPinLaw -/
def k1 : Class := { plain "com/example/rulework/bench/BurstMakeRulesPinLaw" (some 0) with
  accessFlags := 49
  interfaces := #[]
  cf := some (fileOf pool1 36 #[] #[{ accessFlags := 1, nameIndex := 5, descriptorIndex := 6, attributes := #[] }, { accessFlags := 9, nameIndex := 40, descriptorIndex := 41, attributes := #[] }] 49 2 #[] #[])
  fields := #[]
  methods := #[k1m0, k1m1]
  instanceTypes := #[]
  staticTypes := #[]
  resolved := Array.replicate 47 none
  statics := none }

def pool2 : Array CpInfo := pool [(1, .class_ 2), (0, u "java/lang/constant/Constable"), (0, .class_ 4), (0, u "java/lang/Object")] 6

/-- java/lang/constant/Constable -/
def k2 : Class := { plain "java/lang/constant/Constable" (some 0) with
  accessFlags := 1537
  interfaces := #[]
  cf := some (fileOf pool2 1 #[] #[] 1537 3 #[] #[])
  fields := #[]
  methods := #[]
  instanceTypes := #[]
  staticTypes := #[]
  resolved := Array.replicate 11 none
  statics := none }

def pool3 : Array CpInfo := pool [(1, .class_ 2), (0, u "java/lang/Comparable"), (0, .class_ 4), (0, u "java/lang/Object")] 7

/-- java/lang/Comparable -/
def k3 : Class := { plain "java/lang/Comparable" (some 0) with
  accessFlags := 1537
  interfaces := #[]
  cf := some (fileOf pool3 1 #[] #[] 1537 3 #[] #[])
  fields := #[]
  methods := #[]
  instanceTypes := #[]
  staticTypes := #[]
  resolved := Array.replicate 12 none
  statics := none }

def pool4 : Array CpInfo := pool [(1, .class_ 2), (0, u "java/io/Serializable"), (0, .class_ 4), (0, u "java/lang/Object")] 2

/-- java/io/Serializable -/
def k4 : Class := { plain "java/io/Serializable" (some 0) with
  accessFlags := 1537
  interfaces := #[]
  cf := some (fileOf pool4 1 #[] #[] 1537 3 #[] #[])
  fields := #[]
  methods := #[]
  instanceTypes := #[]
  staticTypes := #[]
  resolved := Array.replicate 7 none
  statics := none }

def pool5 : Array CpInfo := pool [(2, .class_ 4), (1, u "java/lang/Enum"), (0, u "name"), (0, u "Ljava/lang/String;"), (0, .fieldref 2 8), (0, .nameAndType 9 10), (0, u "ordinal"), (0, u "I"), (1, .class_ 14), (1, u "java/lang/Object"), (4, u "hash"), (86, .class_ 108), (1, u "java/lang/Enum$EnumDesc"), (2, .class_ 112), (0, u "java/lang/constant/Constable"), (0, .class_ 114), (0, u "java/lang/Comparable"), (0, .class_ 116), (0, u "java/io/Serializable"), (9, u "()I")] 77

def k5c0 : Code := { maxStack := 1, maxLocals := 1, code := jdk_37_method_2_code, exceptionTable := #[], attributes := #[] }
def k5m0 : Method := { name := "ordinal", desc := "()I", sig := { parameters := [], returnType := some .int }, accessFlags := 17, code := some k5c0 }
/-- java/lang/Enum -/
def k5 : Class := { plain "java/lang/Enum" (some 0) with
  accessFlags := 1057
  interfaces := #[2, 3, 4]
  cf := some (fileOf pool5 2 #[.nestMembers #[106]] #[{ accessFlags := 17, nameIndex := 9, descriptorIndex := 126, attributes := #[] }] 1057 12 #[111, 113, 115] #[{ accessFlags := 18, nameIndex := 5, descriptorIndex := 6, attributes := #[] }, { accessFlags := 18, nameIndex := 9, descriptorIndex := 10, attributes := #[] }, { accessFlags := 2, nameIndex := 19, descriptorIndex := 10, attributes := #[] }])
  fields := #[{ name := "name", type := (.object "java/lang/String"), accessFlags := 18, slot := 0, constantValue := 0 }, { name := "ordinal", type := .int, accessFlags := 18, slot := 1, constantValue := 0 }, { name := "hash", type := .int, accessFlags := 2, slot := 2, constantValue := 0 }]
  methods := #[k5m0]
  instanceTypes := #[(.object "java/lang/String"), .int, .int]
  staticTypes := #[]
  resolved := Array.replicate 204 none
  statics := none }

def pool6 : Array CpInfo := pool [(1, .class_ 2), (0, u "com/example/rulework/bench/Burst"), (2, u "POOL"), (0, u "Lcom/example/rulework/bench/Burst;"), (2, u "NO_RULE"), (2, u "ONE_RULE"), (2, u "MANY_RULES"), (2, u "$VALUES"), (0, u "[Lcom/example/rulework/bench/Burst;"), (6, .class_ 28), (1, u "java/lang/Enum"), (4, u "<init>"), (3, u "label"), (0, u "Ljava/lang/String;"), (0, .methodref 1 40), (0, .nameAndType 41 42), (0, u "ordinal"), (0, u "()I"), (0, .methodref 1 44), (0, .nameAndType 45 46), (0, u "ruleCount"), (0, u "(I)I"), (0, .class_ 48), (0, u "com/example/rulework/rulework/SchedulingRule"), (0, .class_ 50), (0, u "com/example/rulework/bench/Burst$SelfConflictingRule"), (0, .methodref 49 52), (0, .nameAndType 33 53), (0, u "()V"), (27, u "makeRules"), (0, u "(I)[Lcom/example/rulework/rulework/SchedulingRule;")] 11

def k6c0 : Code := { maxStack := 1, maxLocals := 2, code := prog_1_method_4_code, exceptionTable := #[], attributes := #[] }
def k6m0 : Method := { name := "ruleCount", desc := "(I)I", sig := { parameters := [.int], returnType := some .int }, accessFlags := 1, code := some k6c0 }
def k6c1 : Code := { maxStack := 4, maxLocals := 4, code := prog_1_method_5_code, exceptionTable := #[], attributes := #[] }
def k6m1 : Method := { name := "makeRules", desc := "(I)[Lcom/example/rulework/rulework/SchedulingRule;", sig := { parameters := [.int], returnType := some (.array (.object "com/example/rulework/rulework/SchedulingRule")) }, accessFlags := 1, code := some k6c1 }
/-- com/example/rulework/bench/Burst -/
def k6 : Class := { plain "com/example/rulework/bench/Burst" (some 5) with
  accessFlags := 16433
  interfaces := #[]
  cf := some (fileOf pool6 1 #[.nestMembers #[49]] #[{ accessFlags := 1, nameIndex := 45, descriptorIndex := 46, attributes := #[] }, { accessFlags := 1, nameIndex := 81, descriptorIndex := 82, attributes := #[] }] 16433 26 #[] #[{ accessFlags := 16409, nameIndex := 5, descriptorIndex := 6, attributes := #[] }, { accessFlags := 16409, nameIndex := 9, descriptorIndex := 6, attributes := #[] }, { accessFlags := 16409, nameIndex := 12, descriptorIndex := 6, attributes := #[] }, { accessFlags := 16409, nameIndex := 15, descriptorIndex := 6, attributes := #[] }, { accessFlags := 18, nameIndex := 37, descriptorIndex := 38, attributes := #[] }, { accessFlags := 4122, nameIndex := 18, descriptorIndex := 19, attributes := #[] }])
  fields := #[{ name := "POOL", type := (.object "com/example/rulework/bench/Burst"), accessFlags := 16409, slot := 0, constantValue := 0 }, { name := "NO_RULE", type := (.object "com/example/rulework/bench/Burst"), accessFlags := 16409, slot := 1, constantValue := 0 }, { name := "ONE_RULE", type := (.object "com/example/rulework/bench/Burst"), accessFlags := 16409, slot := 2, constantValue := 0 }, { name := "MANY_RULES", type := (.object "com/example/rulework/bench/Burst"), accessFlags := 16409, slot := 3, constantValue := 0 }, { name := "label", type := (.object "java/lang/String"), accessFlags := 18, slot := 3, constantValue := 0 }, { name := "$VALUES", type := (.array (.object "com/example/rulework/bench/Burst")), accessFlags := 4122, slot := 4, constantValue := 0 }]
  methods := #[k6m0, k6m1]
  instanceTypes := #[(.object "java/lang/String"), .int, .int, (.object "java/lang/String")]
  staticTypes := #[(.object "com/example/rulework/bench/Burst"), (.object "com/example/rulework/bench/Burst"), (.object "com/example/rulework/bench/Burst"), (.object "com/example/rulework/bench/Burst"), (.array (.object "com/example/rulework/bench/Burst"))]
  resolved := ⟨List.replicate 49 none ++ some (.cls 8) :: (List.replicate 1 none ++ some (.method ⟨8, 0⟩) :: (List.replicate 42 none))⟩
  statics := some 0 }

def pool7 : Array CpInfo := pool [(1, .class_ 2), (0, u "com/example/rulework/rulework/SchedulingRule"), (0, .class_ 4), (0, u "java/lang/Object"), (0, u "contains"), (0, u "(Lcom/example/rulework/rulework/SchedulingRule;)Z"), (0, u "isConflicting")] 2

def k7m0 : Method := { name := "contains", desc := "(Lcom/example/rulework/rulework/SchedulingRule;)Z", sig := { parameters := [(.object "com/example/rulework/rulework/SchedulingRule")], returnType := some .boolean }, accessFlags := 1025, code := none }
def k7m1 : Method := { name := "isConflicting", desc := "(Lcom/example/rulework/rulework/SchedulingRule;)Z", sig := { parameters := [(.object "com/example/rulework/rulework/SchedulingRule")], returnType := some .boolean }, accessFlags := 1025, code := none }
/-- com/example/rulework/rulework/SchedulingRule -/
def k7 : Class := { plain "com/example/rulework/rulework/SchedulingRule" (some 0) with
  accessFlags := 1537
  interfaces := #[]
  cf := some (fileOf pool7 1 #[] #[{ accessFlags := 1025, nameIndex := 5, descriptorIndex := 6, attributes := #[] }, { accessFlags := 1025, nameIndex := 7, descriptorIndex := 6, attributes := #[] }] 1537 3 #[] #[])
  fields := #[]
  methods := #[k7m0, k7m1]
  instanceTypes := #[]
  staticTypes := #[]
  resolved := Array.replicate 10 none
  statics := none }

def pool8 : Array CpInfo := pool [(1, .methodref 2 3), (0, .class_ 4), (0, .nameAndType 5 6), (0, u "java/lang/Object"), (0, u "<init>"), (0, u "()V"), (0, .class_ 8), (0, u "com/example/rulework/bench/Burst$SelfConflictingRule"), (0, .class_ 10), (0, u "com/example/rulework/rulework/SchedulingRule"), (2, u "isConflicting"), (0, u "(Lcom/example/rulework/rulework/SchedulingRule;)Z"), (1, u "contains"), (3, .class_ 21), (0, u "com/example/rulework/bench/Burst")] 2

def k8c0 : Code := { maxStack := 1, maxLocals := 1, code := prog_2_method_1_code, exceptionTable := #[], attributes := #[] }
def k8m0 : Method := { name := "<init>", desc := "()V", sig := { parameters := [], returnType := none }, accessFlags := 2, code := some k8c0 }
def k8c1 : Code := { maxStack := 2, maxLocals := 2, code := prog_2_method_2_code, exceptionTable := #[], attributes := #[] }
def k8m1 : Method := { name := "isConflicting", desc := "(Lcom/example/rulework/rulework/SchedulingRule;)Z", sig := { parameters := [(.object "com/example/rulework/rulework/SchedulingRule")], returnType := some .boolean }, accessFlags := 1, code := some k8c1 }
def k8c2 : Code := { maxStack := 2, maxLocals := 2, code := prog_2_method_3_code, exceptionTable := #[], attributes := #[] }
def k8m2 : Method := { name := "contains", desc := "(Lcom/example/rulework/rulework/SchedulingRule;)Z", sig := { parameters := [(.object "com/example/rulework/rulework/SchedulingRule")], returnType := some .boolean }, accessFlags := 1, code := some k8c2 }
/-- com/example/rulework/bench/Burst$SelfConflictingRule -/
def k8 : Class := { plain "com/example/rulework/bench/Burst$SelfConflictingRule" (some 0) with
  accessFlags := 48
  interfaces := #[7]
  cf := some (fileOf pool8 7 #[.nestHost 20] #[{ accessFlags := 2, nameIndex := 5, descriptorIndex := 6, attributes := #[] }, { accessFlags := 1, nameIndex := 13, descriptorIndex := 14, attributes := #[] }, { accessFlags := 1, nameIndex := 16, descriptorIndex := 14, attributes := #[] }] 48 2 #[9] #[])
  fields := #[]
  methods := #[k8m0, k8m1, k8m2]
  instanceTypes := #[]
  staticTypes := #[]
  resolved := Array.replicate 24 none
  statics := none }

def pool9 : Array CpInfo := pool [(1, u "java/lang/Cloneable"), (0, .class_ 1), (0, u "java/lang/Object"), (0, .class_ 3)] 3

/-- java/lang/Cloneable -/
def k9 : Class := { plain "java/lang/Cloneable" (some 0) with
  accessFlags := 1537
  interfaces := #[]
  cf := some (fileOf pool9 2 #[] #[] 1537 4 #[] #[])
  fields := #[]
  methods := #[]
  instanceTypes := #[]
  staticTypes := #[]
  resolved := Array.replicate 8 none
  statics := none }

/-- the primitive byte -/
def k10 : Class := { plain "byte" none with kind := .primitive 'B', accessFlags := 0x411 }
/-- [B -/
def k11 : Class := { plain "[B" (some 0) with kind := .array 10 .byte, interfaces := #[9, 4], accessFlags := 1041 }

/-- the primitive int -/
def k12 : Class := { plain "int" none with kind := .primitive 'I', accessFlags := 0x411 }
/-- [I -/
def k13 : Class := { plain "[I" (some 0) with kind := .array 12 .int, interfaces := #[9, 4], accessFlags := 1041 }

/-- [Lcom/example/rulework/rulework/SchedulingRule; -/
def k14 : Class := { plain "[Lcom/example/rulework/rulework/SchedulingRule;" (some 0) with kind := .array 7 (.object "com/example/rulework/rulework/SchedulingRule"), interfaces := #[9, 4], accessFlags := 1041 }

def heap : Heap := #[{ cls := 6, slots := #[.ref 1, .ref 2, .ref 3, .ref 4, .null], vm := .statics 6 },
  { cls := 6, slots := #[.null, .int 0, .int 0, .null], vm := .none },
  { cls := 6, slots := #[.null, .int 1, .int 0, .null], vm := .none },
  { cls := 6, slots := #[.null, .int 2, .int 0, .null], vm := .none },
  { cls := 6, slots := #[.null, .int 3, .int 0, .null], vm := .none }]
def classes : Array Class := #[k0, k1, k2, k3, k4, k5, k6, k7, k8, k9, k10, k11, k12, k13, k14]
def interned : List (Array UInt16 × Addr) := []
def slotsUsed : Nat := 21
def theMethod : MethodId := ⟨1, 1⟩
def args0 : Array Value := #[.int 3, .int 7, .int 2, .int 9]
def aboutOver (below : List Frame) : State where
  vm := { classes := classes, interned := interned.toArray }
  heap := heap
  slotsUsed := slotsUsed
  threads := #[{ frames := .invoking theMethod args0 :: below }]
def below0 : List Frame := [.native { method := ⟨0, 0⟩, args := #[] }]
def about1 : State := aboutOver below0
def p0 : Program := .bare "" "" ""
def e0 : Env := launch0.env 0 0 0
theorem w_frames : about1.frames = Frame.invoking theMethod args0 :: below0 := rfl
set_option maxRecDepth 65536 in
theorem w_args : argsFit about1.vm theMethod args0 = true := by decide +kernel
set_option maxRecDepth 65536 in
theorem w_heap : heapFits about1 = true := by decide +kernel
set_option maxRecDepth 65536 in
theorem w_runnable : about1.curStatus? = some .runnable := by decide +kernel
set_option maxRecDepth 65536 in
theorem w_alone : about1.alone = true := by decide +kernel
set_option maxRecDepth 65536 in
theorem w_named : about1.methodNamed? x = some theMethod := by decide +kernel
set_option maxRecDepth 65536 in
theorem w_hears : about1.hears theMethod below0 = true := by decide +kernel
set_option maxRecDepth 65536 in
theorem w_ripe : about1.ripe theMethod args0 below0 = true := by decide +kernel
theorem w_running : about1.status = .running := rfl
set_option maxRecDepth 65536 in
theorem w_room : about1.hasRoom e0.platform room_1 = true :=
  launch0.hasRoom_least _ room_1 (by decide +kernel) (by decide +kernel) (by decide +kernel) (by decide +kernel) (by decide +kernel) (by decide +kernel)
theorem allAtoms_all (ts : List Jvm.Cond) (a : Array Jvm.Value) (st : Jvm.State) : (allAtoms ts).before a st = ts.all (fun c => c.before a st) := by
  induction ts with
  | nil => rfl
  | cons c t ih =>
    show (Jvm.Cond.and c (allAtoms t)).before a st = _
    rw [Jvm.Cond.before_and, ih, List.all_cons]
def words1 : List Jvm.Cond := Jvm.Cond.code x code maxLocals ret :: tables_1
/-- a 'code' word, met by the world's own term for the bytes: nothing is compared byte by byte -/
theorem code_word {y : MethodName} {bytes : ByteArray} {mx : Nat} {rt : Option FieldType} {a : Array Value} {s : State} {m : MethodId} {meth : Method} {c : Code} (h1 : s.methodNamed? y = some m) (h2 : s.vm.method? m = some meth) (h3 : meth.code = some c) (h4 : c.code = bytes)
    (h5 : (c.maxLocals == mx && c.exceptionTable.isEmpty && decide (c.maxStack ≤ mostOperands) && decide (meth.sig.returnType = rt) && !meth.locks && decide (parseMethodDescriptor y.desc = some meth.sig)) = true) : (Jvm.Cond.code y bytes mx rt).before a s = true := by
  simp only [Bool.and_eq_true, beq_iff_eq, Bool.not_eq_true', decide_eq_true_eq] at h5
  obtain ⟨⟨⟨⟨⟨g1, g2⟩, g3⟩, g4⟩, g5⟩, g6⟩ := h5
  simp [Cond.before, Cond.holds, Cond.value, h1, h2, h3, h4, g1, g2, g3, g4, g5, g6]
def isCode : Jvm.Cond → Bool
  | .code _ _ _ _ => true
  | _ => false
theorem all_split {L : List Jvm.Cond} {P : Jvm.Cond → Bool} (h1 : L.all (fun c => isCode c || P c) = true) (h2 : ∀ c ∈ L.filter isCode, P c = true) : L.all P = true := by
  refine List.all_eq_true.mpr fun c hc => ?_
  have h := List.all_eq_true.mp h1 c hc
  rcases Bool.eq_false_or_eq_true (isCode c) with hi | hi
  · exact h2 c (List.mem_filter.mpr ⟨hc, hi⟩)
  · simpa [hi] using h
set_option maxRecDepth 65536 in
theorem w_c0 : (Jvm.Cond.code x code maxLocals ret).before args0 about1 = true := code_word (m := ⟨1, 1⟩) (meth := k1m1) (c := k1c1) (by decide +kernel) rfl rfl rfl (by decide +kernel)
set_option maxRecDepth 65536 in
theorem w_c1 : (Jvm.Cond.code ({ cls := "com/example/rulework/bench/Burst", name := "makeRules", desc := "(I)[Lcom/example/rulework/rulework/SchedulingRule;" } : Jvm.MethodName) prog_1_method_5_code (4 : Nat) (Option.some (Jvm.ClassFile.FieldType.array (Jvm.ClassFile.FieldType.object "com/example/rulework/rulework/SchedulingRule")))).before args0 about1 = true := code_word (m := ⟨6, 1⟩) (meth := k6m1) (c := k6c1) (by decide +kernel) rfl rfl rfl (by decide +kernel)
set_option maxRecDepth 65536 in
theorem w_c2 : (Jvm.Cond.code ({ cls := "com/example/rulework/bench/Burst", name := "ruleCount", desc := "(I)I" } : Jvm.MethodName) prog_1_method_4_code (2 : Nat) (Option.some Jvm.ClassFile.FieldType.int)).before args0 about1 = true := code_word (m := ⟨6, 0⟩) (meth := k6m0) (c := k6c0) (by decide +kernel) rfl rfl rfl (by decide +kernel)
set_option maxRecDepth 65536 in
theorem w_c3 : (Jvm.Cond.code ({ cls := "java/lang/Enum", name := "ordinal", desc := "()I" } : Jvm.MethodName) jdk_37_method_2_code (1 : Nat) (Option.some Jvm.ClassFile.FieldType.int)).before args0 about1 = true := code_word (m := ⟨5, 0⟩) (meth := k5m0) (c := k5c0) (by decide +kernel) rfl rfl rfl (by decide +kernel)
set_option maxRecDepth 65536 in
theorem w_c4 : (Jvm.Cond.code ({ cls := "com/example/rulework/bench/Burst$SelfConflictingRule", name := "<init>", desc := "()V" } : Jvm.MethodName) prog_2_method_1_code (1 : Nat) (Option.none : Option Jvm.ClassFile.FieldType)).before args0 about1 = true := code_word (m := ⟨8, 0⟩) (meth := k8m0) (c := k8c0) (by decide +kernel) rfl rfl rfl (by decide +kernel)
set_option maxRecDepth 65536 in
theorem w_c5 : (Jvm.Cond.code ({ cls := "java/lang/Object", name := "<init>", desc := "()V" } : Jvm.MethodName) object_method_1_code (1 : Nat) (Option.none : Option Jvm.ClassFile.FieldType)).before args0 about1 = true := code_word (m := ⟨0, 0⟩) (meth := k0m0) (c := k0c0) (by decide +kernel) rfl rfl rfl (by decide +kernel)
set_option maxRecDepth 65536 in
theorem w_c6 : (Jvm.Cond.code ({ cls := "com/example/rulework/bench/Burst$SelfConflictingRule", name := "isConflicting", desc := "(Lcom/example/rulework/rulework/SchedulingRule;)Z" } : Jvm.MethodName) prog_2_method_2_code (2 : Nat) (Option.some Jvm.ClassFile.FieldType.boolean)).before args0 about1 = true := code_word (m := ⟨8, 1⟩) (meth := k8m1) (c := k8c1) (by decide +kernel) rfl rfl rfl (by decide +kernel)
set_option maxRecDepth 65536 in
theorem w_c7 : (Jvm.Cond.code ({ cls := "com/example/rulework/bench/Burst$SelfConflictingRule", name := "contains", desc := "(Lcom/example/rulework/rulework/SchedulingRule;)Z" } : Jvm.MethodName) prog_2_method_3_code (2 : Nat) (Option.some Jvm.ClassFile.FieldType.boolean)).before args0 about1 = true := code_word (m := ⟨8, 2⟩) (meth := k8m2) (c := k8c2) (by decide +kernel) rfl rfl rfl (by decide +kernel)
def codes1 : List Jvm.Cond := [Jvm.Cond.code x code maxLocals ret, Jvm.Cond.code ({ cls := "com/example/rulework/bench/Burst", name := "makeRules", desc := "(I)[Lcom/example/rulework/rulework/SchedulingRule;" } : Jvm.MethodName) prog_1_method_5_code (4 : Nat) (Option.some (Jvm.ClassFile.FieldType.array (Jvm.ClassFile.FieldType.object "com/example/rulework/rulework/SchedulingRule"))), Jvm.Cond.code ({ cls := "com/example/rulework/bench/Burst", name := "ruleCount", desc := "(I)I" } : Jvm.MethodName) prog_1_method_4_code (2 : Nat) (Option.some Jvm.ClassFile.FieldType.int), Jvm.Cond.code ({ cls := "java/lang/Enum", name := "ordinal", desc := "()I" } : Jvm.MethodName) jdk_37_method_2_code (1 : Nat) (Option.some Jvm.ClassFile.FieldType.int), Jvm.Cond.code ({ cls := "com/example/rulework/bench/Burst$SelfConflictingRule", name := "<init>", desc := "()V" } : Jvm.MethodName) prog_2_method_1_code (1 : Nat) (Option.none : Option Jvm.ClassFile.FieldType), Jvm.Cond.code ({ cls := "java/lang/Object", name := "<init>", desc := "()V" } : Jvm.MethodName) object_method_1_code (1 : Nat) (Option.none : Option Jvm.ClassFile.FieldType), Jvm.Cond.code ({ cls := "com/example/rulework/bench/Burst$SelfConflictingRule", name := "isConflicting", desc := "(Lcom/example/rulework/rulework/SchedulingRule;)Z" } : Jvm.MethodName) prog_2_method_2_code (2 : Nat) (Option.some Jvm.ClassFile.FieldType.boolean), Jvm.Cond.code ({ cls := "com/example/rulework/bench/Burst$SelfConflictingRule", name := "contains", desc := "(Lcom/example/rulework/rulework/SchedulingRule;)Z" } : Jvm.MethodName) prog_2_method_3_code (2 : Nat) (Option.some Jvm.ClassFile.FieldType.boolean)]
set_option maxRecDepth 65536 in
theorem codes_eq : words1.filter isCode = codes1 := rfl
theorem w_codes : ∀ c ∈ words1.filter isCode, c.before args0 about1 = true := by
  rw [codes_eq]
  intro c hc
  simp only [codes1, List.mem_cons, List.not_mem_nil, or_false] at hc
  rcases hc with rfl | rfl | rfl | rfl | rfl | rfl | rfl | rfl
  · exact w_c0
  · exact w_c1
  · exact w_c2
  · exact w_c3
  · exact w_c4
  · exact w_c5
  · exact w_c6
  · exact w_c7
set_option maxRecDepth 65536 in
theorem w_t1 : (words1.take 24).all (fun c => isCode c || c.before args0 about1) = true := by decide +kernel
set_option maxRecDepth 65536 in
theorem w_t2 : ((words1.drop 24).take 24).all (fun c => isCode c || c.before args0 about1) = true := by decide +kernel
set_option maxRecDepth 65536 in
theorem w_t3 : ((words1.drop 24).drop 24).all (fun c => isCode c || c.before args0 about1) = true := by decide +kernel
theorem w_tables : (allAtoms (Jvm.Cond.code x code maxLocals ret :: tables_1)).before args0 about1 = true := by
  rw [allAtoms_all]
  show words1.all (fun c => c.before args0 about1) = true
  refine all_split ?_ w_codes
  rw [← List.take_append_drop 24 words1, List.all_append, w_t1, ← List.take_append_drop 24 (words1.drop 24), List.all_append, w_t2, w_t3]
  rfl
set_option maxRecDepth 65536 in
theorem w_case : (Jvm.Cond.and given_1 narrow_1).before args0 about1 = true := by decide +kernel
theorem w_applies : (headSpec (Jvm.Cond.code x code maxLocals ret :: tables_1) room_1).applies x e0.platform about1 = true :=
  (Spec.applies_iff w_frames).mpr ⟨w_running, w_runnable, w_alone, w_named, w_hears, w_ripe, w_room, w_tables⟩
theorem atStart : AtStart classFile x code maxLocals ret World_1 tables_1 room_1 Calls_1 rest_1 Pre_1 launch0 p0 e0 about1 theMethod args0 below0 :=
  ⟨lists_1, trivial, launch0.admits_env _ _ _, launch0.least_env, fairChoices_fair.cas, fairChoices_fair.clock, w_frames, w_args, w_heap, w_applies, trivial, trivial, w_case⟩
end start1
theorem witness_1 : WitnessClaimed_1 := ⟨start1.p0, start1.e0, start1.about1, start1.theMethod, start1.args0, start1.below0, start1.atStart⟩
end Jvm.Pilot.@@N@@
