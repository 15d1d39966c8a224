import JvmDerived
import JvmDerived.Pilot.@@N@@Statement
import JvmDerived.Pilot.@@N@@Code
set_option linter.unusedVariables false
set_option linter.unusedSimpArgs false
@@BLOCK:TracedD.lean.txt@@
namespace Jvm.Pilot.@@N@@
open Jvm Jvm.ClassFile Sem Op Lib Jvm.Free Jvm.Stand Jvm.LawKit Jvm.RoadKit Bundle Jvm.Pilot.@@N@@.Jvm.D
abbrev Way (p : Program) (e : Env) (below : List Frame) (S0 T : State) (g : JFrame) : Prop := ∀ t, Steps p.tables e below (T.setTop g) t → Steps p.tables e below S0 t
theorem own_old {Z : State} {n0 : Nat} {h : Heap} (O : Old Z n0 h) : n0 ≤ h.size := O.1 ▸ O.2.1
theorem own_keepX {p : Program} {l : Launch} {e : Env} {R : Room} {s : State} {m : MethodId} {args : Array Value} {below : List Frame} {meth : Method} {c : Code} {T : State} {locs : List Loc} {cells slots : Nat} {h : Heap} {ws : List Addr} (hh : s.heap = h) (X : Stand p l e R s m args below meth c T locs cells slots) (hl : ∀ y ∈ locs, y.base ∈ ws) : Keep h T.heap ws := by
  subst hh
  have hs := X.same
  refine ⟨hs.2.1, fun x c hx hn => ?_, fun x c hx => ?_⟩
  · obtain ⟨c', q1, q2, q3, q4⟩ := hs.2.2.2.2.2 x c hx
    have e : c'.slots = c.slots := Array.ext_getElem? fun i => q4 i fun hm => hn (hl _ hm)
    have e2 : c' = c := by rw [q2, e]
    rw [← e2]; exact q1
  · obtain ⟨c', q1, q2, q3, -⟩ := hs.2.2.2.2.2 x c hx
    exact ⟨c', q1, by rw [q2], by rw [q2], q3⟩
abbrev own_MF : String := "caseward/web/RequestHead$Malformed"
theorem own_known {tb : Tables} {e : Env} {a : Array Value} {s : State} {m : MethodId} {below : List Frame} (h : Calls_1 tb e a s) (hf : s.frames = .invoking m a :: below) : s.vm.MethodsKnown ∧ s.vm.FramesKnown below :=
  ⟨MethodsKnown_of_tablesKnown h.2.1, FramesKnown_of_framesKnown h.1 hf⟩
open Jvm.Free.Exc LibCode.Throwable in
theorem own_T {args : Array Value} {s : State} {pl : Platform} (howns : pl.frameOwnsMonitors = true) (hfin : pl.finalization = false) (hpl : pl.magicAccessors = ({} : Platform).magicAccessors)
    (A : ∀ d ∈ tables_1, xOk d = true → d.before args s = true) :
    ∃ T : ThrowableC, T.Links pl s ∧ s.vm.findClass tN = some T.cT ∧ s.methodNamed? tFill = some T.fill ∧ s.methodNamed? tFill0 = some T.fill0 ∧
      s.fieldFound? tN "stackTrace" steD = some (T.cT, T.kT, T.i17, T.fStack) ∧ s.fieldFound? tN "UNASSIGNED_STACK" steD = some (T.cT, T.kT, T.i13, T.fUnassigned) ∧
      T.fStack.name = "stackTrace" ∧ T.fStack.type = .array (.object "java/lang/StackTraceElement") := by
  have w72 : (Jvm.Cond.native tFill0).holds args s none s [] = true := A _ (List.mem_of_getElem? (i := 72) rfl) rfl
  have w51 : (Jvm.Cond.initialized tN).holds args s none s [] = true := A _ (List.mem_of_getElem? (i := 51) rfl) rfl
  have w69 : (Jvm.Cond.superclass tN "java/lang/Object").holds args s none s [] = true := A _ (List.mem_of_getElem? (i := 69) rfl) rfl
  have w64 : (Jvm.Cond.instanceMethod tFill).holds args s none s [] = true := A _ (List.mem_of_getElem? (i := 64) rfl) rfl
  have w70 : (Jvm.Cond.codeSync tFill Fill.code 1 (some (.object tN))).holds args s none s [] = true := A _ (List.mem_of_getElem? (i := 70) rfl) rfl
  have w71 : (Jvm.Cond.instanceMethod tFill0).holds args s none s [] = true := A _ (List.mem_of_getElem? (i := 71) rfl) rfl
  have w12 : (Jvm.Cond.instanceMethod oInit).holds args s none s [] = true := A _ (List.mem_of_getElem? (i := 12) rfl) rfl
  have w13 : (Jvm.Cond.code oInit ⟨#[0xb1]⟩ 1 none).holds args s none s [] = true := A _ (List.mem_of_getElem? (i := 13) rfl) rfl
  have w53 : (Jvm.Cond.methodLink tN 1 oInit).holds args s none s [] = true := A _ (List.mem_of_getElem? (i := 53) rfl) rfl
  have w62 : (Jvm.Cond.methodLink tN 27 tFill).holds args s none s [] = true := A _ (List.mem_of_getElem? (i := 62) rfl) rfl
  have w75 : (Jvm.Cond.methodLink tN 202 tFill0).holds args s none s [] = true := A _ (List.mem_of_getElem? (i := 75) rfl) rfl
  have w54 : (Jvm.Cond.fieldLink tN 7 tN "cause" thD).holds args s none s [] = true := A _ (List.mem_of_getElem? (i := 54) rfl) rfl
  have w55 : (Jvm.Cond.lays own_MF tN "cause" thD).holds args s none s [] = true := A _ (List.mem_of_getElem? (i := 55) rfl) rfl
  have w57 : (Jvm.Cond.fieldLink tN 17 tN "stackTrace" steD).holds args s none s [] = true := A _ (List.mem_of_getElem? (i := 57) rfl) rfl
  have w58 : (Jvm.Cond.lays own_MF tN "stackTrace" steD).holds args s none s [] = true := A _ (List.mem_of_getElem? (i := 58) rfl) rfl
  have w60 : (Jvm.Cond.fieldLink tN 24 tN "suppressedExceptions" listD).holds args s none s [] = true := A _ (List.mem_of_getElem? (i := 60) rfl) rfl
  have w61 : (Jvm.Cond.lays own_MF tN "suppressedExceptions" listD).holds args s none s [] = true := A _ (List.mem_of_getElem? (i := 61) rfl) rfl
  have w56 : (Jvm.Cond.fieldLink tN 13 tN "UNASSIGNED_STACK" steD).holds args s none s [] = true := A _ (List.mem_of_getElem? (i := 56) rfl) rfl
  have w82 : (Jvm.Cond.laysStatic tN "UNASSIGNED_STACK" steD).holds args s none s [] = true := A _ (List.mem_of_getElem? (i := 82) rfl) rfl
  have w59 : (Jvm.Cond.fieldLink tN 20 tN "SUPPRESSED_SENTINEL" listD).holds args s none s [] = true := A _ (List.mem_of_getElem? (i := 59) rfl) rfl
  have w83 : (Jvm.Cond.laysStatic tN "SUPPRESSED_SENTINEL" listD).holds args s none s [] = true := A _ (List.mem_of_getElem? (i := 83) rfl) rfl
  have w85 : (Jvm.Cond.lays own_MF tN "detailMessage" msgD).holds args s none s [] = true := A _ (List.mem_of_getElem? (i := 85) rfl) rfl
  -- Throwable itself
  obtain ⟨⟨ct, j0⟩, mt0, nm0, me0, isN, noC, noL, sg0⟩ := Cond.native_spec w72
  have fc : s.vm.findClass tN = some ct := findClass_of_methodNamed nm0
  obtain ⟨kt, hkt, knm⟩ := Vm.findClass_spec fc
  have kin := Cond.initialized_spec fc hkt w51
  obtain ⟨-, kt', -, -, hkt', -, -, kord, -, knf⟩ := Cond.superclass_spec fc w69
  obtain rfl : kt = kt' := Option.some.inj (hkt.symm.trans hkt')
  -- its methods
  obtain ⟨jF, mtF, nmF, meF, atF, stF, abF, -, -⟩ := Cond.ownMethod (x := tFill) fc hkt w64
  obtain ⟨mtF', cdF, meF', cF1, cF2, cF3, cF4, cF5, -, sgF⟩ := Cond.codeSync_spec nmF w70
  obtain rfl : mtF = mtF' := Option.some.inj (meF.symm.trans meF')
  obtain ⟨j1, mt1, nm1, me1, at1, st1, ab1, na1, ds1⟩ := Cond.ownMethod (x := tFill0) fc hkt w71
  obtain rfl : j0 = j1 := by have q := Option.some.inj (nm0.symm.trans nm1); simpa using q
  obtain rfl : mt0 = mt1 := Option.some.inj (me0.symm.trans me1)
  obtain ⟨mo, mtO, nmO, meO, stO, abO⟩ := Cond.instanceMethod_spec w12
  obtain ⟨mtO', cdO, meO', cO1, cO2, cO3, -, cO5, -, sgO⟩ := Cond.code_spec nmO w13
  obtain rfl : mtO = mtO' := Option.some.inj (meO.symm.trans meO')
  obtain ⟨ko, hko, onm⟩ := Vm.findClass_spec (findClass_of_methodNamed nmO)
  obtain ⟨oname, odesc⟩ := name_of_methodNamed nmO meO
  -- links of methods
  obtain ⟨a1, b1, fl, l1, r1, f1, p1⟩ := Cond.linkedMethod fc hkt nmO w53 pl hpl
  obtain ⟨a2, b2, fl2, l2, r2, f2, p2⟩ := Cond.linkedMethod fc hkt nmF w62 pl hpl
  obtain rfl : fl = fl2 := Option.some.inj (f1.symm.trans f2)
  obtain ⟨a3, b3, fl3, l3, r3, f3, p3⟩ := Cond.linkedMethod fc hkt nm0 w75 pl hpl
  obtain rfl : fl = fl3 := Option.some.inj (f1.symm.trans f3)
  -- fields
  obtain ⟨y7, i7, g7, u7, v7, t7, z7, e7, -, -, -⟩ := Cond.ownField (t := .object tN) fc hkt (by decide +kernel) w54 w55 pl hpl
  obtain ⟨y17, i17, g17, u17, v17, t17, z17, e17, n17, q17, d17⟩ := Cond.ownField (t := .array (.object "java/lang/StackTraceElement")) fc hkt (by decide +kernel) w57 w58 pl hpl
  obtain ⟨y24, i24, g24, u24, v24, t24, z24, e24, n24, -, d24⟩ := Cond.ownField (t := .object "java/util/List") fc hkt (by decide +kernel) w60 w61 pl hpl
  obtain ⟨y13, i13, g13, sa, cs, u13, v13, t13, z13, -, -, hsa, -, -, -, -, d13⟩ := Cond.ownStatic (t := .array (.object "java/lang/StackTraceElement")) fc hkt (by decide +kernel) w56 w82 pl hpl
  obtain ⟨y20, i20, g20, -, -, u20, v20, t20, z20, -, -, -, -, -, -, -, -⟩ := Cond.ownStatic (t := .object "java/util/List") fc hkt (by decide +kernel) w59 w83 pl hpl
  obtain ⟨cm, km, -, -, -, gM, fm, hkm, -, zM, eM, -⟩ := Cond.lays_spec w85
  have apart : g17.slot ≠ g24.slot := by
    obtain ⟨-, dd, x1, x2⟩ := Cond.laysAt fm hkm d17 w58
    obtain ⟨-, dd', x3, x4⟩ := Cond.laysAt fm hkm d24 w61
    exact Cond.laysApart x1 x3 x2 x4 (by rw [n17, n24]; decide)
  have pF : mtF.sig.parameters = [] := by
    have q : (parseMethodDescriptor tFill.desc).map (·.parameters) = some [] := by decide +kernel
    rw [sgF] at q; simpa using q
  have p0 : mt0.sig.parameters = [.int] := by
    have q : (parseMethodDescriptor tFill0.desc).map (·.parameters) = some [.int] := by decide +kernel
    rw [sg0] at q; simpa using q
  have pO : mtO.sig.parameters.length = 0 := by
    have q : (parseMethodDescriptor oInit.desc).map (·.parameters) = some [] := by decide +kernel
    rw [sgO] at q
    have q' : mtO.sig.parameters = [] := by simpa using q
    rw [q']; rfl
  refine ⟨{ cT := ct, kT := kt, cO := ct, aS := sa, fillIdx := jF, fill0Idx := j0, initSIdx := jF, obj := mo, kObj := ko, methFill := mtF, methFill0 := mt0, methInitS := mtF, methObj := mtO, codeFill := cdF, codeInitS := cdF, codeObj := cdO, fBack := g7, fDepth := g7, fStack := g17, fCause := g7, fSupp := g24, fMsg := gM, fUnassigned := g13, fSentinel := g20, cfT := fl, ci1 := a1, n1 := b1, ci27 := a2, n27 := b2, ci202 := a3, n202 := b3, ci7 := y7, i7 := i7, ci13 := y13, i13 := i13, ci17 := y17, i17 := i17, ci20 := y20, i20 := i20, ci24 := y24, i24 := i24 }, ?_, fc, nmF, nm0, d17, d13, n17, q17⟩
  exact ⟨howns, hfin, hkt, knm, Vm.findClass_boot fc hkt, knf, kin, hsa, atF, cF1, cF2, cF3, cF5, stF, abF, cF4, pF, at1, na1, ds1, p0, st1, isN, noC, noL, ab1,
    z17, e17, z13, hko, onm, meO, oname, stO, abO, by rw [odesc]; exact lookupSpecial_of_named nmO meO stO, pO, cO1, cO2, cO5, z7, e7, z20, z24, e24, zM, eM, apart, f1,
    l1, r1, p1, l2, r2, p2, l3, r3, p3, u7, v7, t7, u13, v13, t13, u17, v17, t17, u20, v20, t20, u24, v24, t24⟩
open Jvm.Free.Exc LibCode.Throwable in
theorem own_fill {p : Program} {l : Launch} {e : Env} {R : Room} {s : State} {m : MethodId} {args : Array Value} {below : List Frame} {meth : Method} {c : Code} {T : State} {locs : List Loc} {cells slots : Nat} {Z : State} {a0 : Array Value} {h : Heap}
    (X : Stand p l e R s m args below meth c T locs cells slots) (hx : p.tables.exec = Jvm.exec) (hl : l.stackTraces = true) (hZ : Z.Warmed39 s.vm) (hown : s.vm.findClass tN = some m.cls)
    (hw : ∀ d ∈ tables_1, d.before a0 Z = true) (hT0 : ThS Z s.heap) (hTK : s.vm.MethodsKnown) (hBelow : s.vm.FramesKnown below) (eT : T.heap = h) {a u : Addr} (E : Exa Z h a own_MF) (N : Unt h a)
    (B : Fld Z h a tN "backtrace" obD .null) (S : Fld Z h a tN "stackTrace" steD (.ref u)) (US : Sta Z h tN "UNASSIGNED_STACK" steD (.ref u))
    {g : JFrame} (hg : g.method = m) (hsize : g.locals.size = c.maxLocals) {rest : List Value} (hs : g.stack = .ref a :: rest) (hd : decode c.code g.pc = .ok (.invokevirtual 27, 3))
    (hf : 3 ≤ R.frames) (hlo : 2 * g.monitorRoom + (rest.map fun v => v.category).sum + 42 ≤ R.locals) (hc : cells + 1 ≤ R.cells) (hsl : slots + 2752 ≤ R.slots) :
    ∃ (T' : State) (h' : Heap) (L : List Loc), Stand p l e R s m args below meth c T' (locs ++ L) (cells + 1) (slots + 2752) ∧ T'.heap = h' ∧ (∀ y ∈ L, y.base = a) ∧ Exa Z h' a own_MF ∧
      (∀ {O n d : String} {v : Value}, Fld Z h a O n d v → Jvm.RoadKit.slotOf Z tN "backtrace" obD ≠ Jvm.RoadKit.slotOf Z O n d → Jvm.RoadKit.slotOf Z tN "depth" "I" ≠ Jvm.RoadKit.slotOf Z O n d → Jvm.RoadKit.slotOf Z tN "stackTrace" steD ≠ Jvm.RoadKit.slotOf Z O n d → Fld Z h' a O n d v) ∧
      ∀ target, Steps p.tables e below (T'.setTop { g with pc := g.pc + 3, stack := .ref a :: rest }) target → Steps p.tables e below (T.setTop g) target := by
  have A : ∀ d ∈ tables_1, xOk d = true → d.before args s = true := fun d h1 h2 => mvX hT0 hZ h2 (hw d h1)
  have htr : e.platform.stackTraces = true := by rw [X.admits.platform]; exact hl
  have howns : e.platform.frameOwnsMonitors = true := by rw [X.admits.platform]
  have hfin : e.platform.finalization = false := by rw [X.admits.platform]
  have hpl : e.platform.magicAccessors = ({} : Platform).magicAccessors := by rw [X.admits.platform]
  obtain ⟨TT, LK, found, nF, n0, ff17, ff13, nm17, ty17⟩ := own_T howns hfin hpl A
  obtain ⟨cell, kc, x1, x2, x3, x4, x5⟩ := E
  obtain ⟨c2, u1, u2, u3⟩ := N
  cases x1.symm.trans u1
  obtain ⟨c4, k2, i1, i2, i3, -⟩ := Cond.instantiable_spec (hw (.instantiable own_MF 7) (List.mem_of_getElem? (i := 31) rfl))
  cases x2.symm.trans i1
  cases x3.symm.trans i2
  have hal : Z.vm.Alike s.vm := hZ.alike
  obtain ⟨k', q1, q2⟩ := hal.2.2 _ _ x3
  have hfound : s.vm.findClass own_MF = some cell.cls := by rw [hal.findClass]; exact x2
  have hord : k'.kind = .ordinary := by rw [q2]; exact i3
  have hsz : cell.slots.size = k'.instanceTypes.size := by rw [q2]; exact x5 i3
  have w80 : (Jvm.Cond.fieldLink tN 198 tN "backtrace" obD).holds args s none s [] = true := A _ (List.mem_of_getElem? (i := 80) rfl) rfl
  have w86 : (Jvm.Cond.lays own_MF tN "backtrace" obD).holds args s none s [] = true := A _ (List.mem_of_getElem? (i := 86) rfl) rfl
  have w87 : (Jvm.Cond.lays own_MF tN "depth" "I").holds args s none s [] = true := A _ (List.mem_of_getElem? (i := 87) rfl) rfl
  have w58 : (Jvm.Cond.lays own_MF tN "stackTrace" steD).holds args s none s [] = true := A _ (List.mem_of_getElem? (i := 58) rfl) rfl
  have w67 : (Jvm.Cond.soleField tN "backtrace").holds args s none s [] = true := A _ (List.mem_of_getElem? (i := 67) rfl) rfl
  have w68 : (Jvm.Cond.soleField tN "depth").holds args s none s [] = true := A _ (List.mem_of_getElem? (i := 68) rfl) rfl
  have w84 : (Jvm.Cond.selects own_MF tFill0 tFill0).holds args s none s [] = true := A _ (List.mem_of_getElem? (i := 84) rfl) rfl
  have w65 : (Jvm.Cond.selects own_MF tFill tFill).before args s = true := A _ (List.mem_of_getElem? (i := 65) rfl) rfl
  have w62 : (Jvm.Cond.methodLink tN 27 tFill).before args s = true := A _ (List.mem_of_getElem? (i := 62) rfl) rfl
  have w63 : (Jvm.Cond.declares tFill).before args s = true := A _ (List.mem_of_getElem? (i := 63) rfl) rfl
  have w64 : (Jvm.Cond.instanceMethod tFill).before args s = true := A _ (List.mem_of_getElem? (i := 64) rfl) rfl
  have w66 : (Jvm.Cond.arrayOver (.object "java/lang/Object")).before args s = true := A _ (List.mem_of_getElem? (i := 66) rfl) rfl
  obtain ⟨ci198, i198, fB, hk198, hg198, ha198, hsB, -, hnB, htB, hffB⟩ := Cond.ownField (t := .object "java/lang/Object") found LK.cls (by decide +kernel) w80 w86 e.platform hpl
  obtain ⟨cB, cfB, kfB, iB, fB', b1, zB, -, -, -, -, b7⟩ := B
  cases x1.symm.trans b1
  obtain ⟨kB', g1, -⟩ := State.fieldFound?_setVm (s := Z) hal zB
  cases (show s.fieldFound? tN "backtrace" obD = _ from g1).symm.trans hffB
  obtain ⟨cS, cfS, kfS, iS, fS', s1, zS, -, -, -, -, s7⟩ := S
  cases x1.symm.trans s1
  obtain ⟨kS', g2, -⟩ := State.fieldFound?_setVm (s := Z) hal zS
  have eS := (show s.fieldFound? tN "stackTrace" steD = _ from g2).symm.trans ff17
  simp only [Option.some.injEq, Prod.mk.injEq] at eS
  obtain ⟨-, -, -, rfl⟩ := eS
  obtain ⟨cfU, iU, kU, fU, st, cellS, v1, -, -, v4, v5, v6, v7⟩ := US
  obtain ⟨kU', g3, ek⟩ := State.fieldFound?_setVm (s := Z) hal v1
  have eU := (show s.fieldFound? tN "UNASSIGNED_STACK" steD = _ from g3).symm.trans ff13
  simp only [Option.some.injEq, Prod.mk.injEq] at eU
  obtain ⟨-, eU2, -, rfl⟩ := eU
  have hst : TT.kT.statics = some st := by rw [← eU2, ek]; exact v4
  obtain rfl : st = TT.aS := Option.some.inj (hst.symm.trans LK.statics)
  have hneS : TT.aS ≠ a := fun z => by rw [z, x1] at v5; cases v5; rw [u2] at v6; cases v6
  have hknS : cellS.vm ≠ .unknown := fun z => by rw [z] at v6; cases v6
  obtain ⟨zc, zk, cD, kD, iD, fD, -, -, zD, -⟩ := Cond.lays_spec (hw (.lays own_MF tN "depth" "I") (List.mem_of_getElem? (i := 87) rfl))
  obtain ⟨kD', g4, -⟩ := State.fieldFound?_setVm (s := Z) hal zD
  have hffD : s.fieldFound? tN "depth" "I" = some (cD, kD', iD, fD) := g4
  obtain ⟨-, -, cD2, kD2, iD2, fD2, -, -, hffD2, hstD, -⟩ := Cond.lays_spec w87
  cases hffD.symm.trans hffD2
  cases Option.some.inj ((Cond.lays_declared w87 hffD).symm.trans found)
  obtain ⟨hkD, hatD⟩ := State.fieldFound?_spec hffD
  cases Option.some.inj (hkD.symm.trans LK.cls)
  obtain ⟨hnD, htD⟩ := State.fieldFound?_type hffD (t := .int) (by decide +kernel)
  have hfb := Cond.soleField_find found LK.cls w67 ha198 hnB hsB
  have hfd := Cond.soleField_find found LK.cls w68 hatD hnD hstD
  obtain ⟨comp, cO, kO, -, -, hkO, hkindO, hO⟩ := Cond.arrayOver_spec w66
  have tyB := (Cond.laysAt hfound q1 hffB w86).1
  have tyD := (Cond.laysAt hfound q1 hffD w87).1
  have tyS := (Cond.laysAt hfound q1 ff17 w58).1
  have tk : ∀ {f : Field} {v : Value}, k'.instanceTypes[f.slot]? = some f.type → fits f.type v = true → Jvm.Takes s cell f v := fun {f v} h1 h2 => by
    obtain ⟨r1, r2⟩ := Takes.of_laid (v := v) q1 hord h1 h2
    exact ⟨by rw [hsz]; simpa using r1, by rw [u2]; exact r2⟩
  have hsel0 : selectMethod e.platform s.vm cell.cls TT.fill0 = .method TT.fill0 := by
    obtain ⟨c5, r5, m5, y1, y2, y3, y4, -⟩ := Cond.selects_spec w84
    cases Option.some.inj (y1.symm.trans hfound)
    cases Option.some.inj (y2.symm.trans (State.methodFound?_of_named n0 (by decide)))
    cases Option.some.inj (y3.symm.trans n0)
    rw [Launch.admits_selectMethod X.admits]; exact y4
  obtain ⟨v6', vm6, ⟨T6, L6, c6, n6⟩, hW6, X6, ⟨hv6, C6, n, hn, hD6, o1, o2, o3, o4, hL6, hc6, hn6⟩, come⟩ := X.virtualBack hx (own := tN) (C := own_MF) (index := 27) (y := tFill) (z := tFill) hown w62 w63 (notFace_of_selects w65) w65 w64 (by decide)
    (fillPaysAny (l := l) (W := 2 * g.monitorRoom + (rest.map fun v => v.category).sum) hx htr TT LK nF (u0 := ⟨.ref u, rfl⟩) (self := a) (cell := cell) (cellS := cellS) (fun _ => by rw [u2]; simp) (by rw [u2]; simp) (by rw [u3]) (by rw [u3]) s7 hsel0 hneS hknS v7
      (tk tyS (by rw [ty17]; rfl)) ⟨{ ci198 := ci198, i198 := i198, fBack := fB }, ⟨hk198, hg198, ha198, hsB⟩, b7⟩ hTK hBelow found hO hkO hkindO hfb hfd
      (fun x => tk tyB (by rw [htB]; rfl)) (fun x => tk tyD (by rw [htD]; rfl)) (by omega) hlo)
    (b := a) (cB := cell.cls) hfound ⟨cell, by rw [eT]; exact x1, rfl, by rw [u2]; rfl⟩ (g := g) hg hsize (Steps.refl _) (argsL := []) (rest := rest)
    (fun sig q => by rw [show parseMethodDescriptor tFill.desc = some ⟨[], some (.object tN)⟩ from by decide +kernel] at q; rw [← Option.some.inj q]; rfl) hs (Nat.le_refl _) hd
    (fun vmx hWx => ⟨rfl, hc, hsl, by show T.heap[a]? = _; rw [eT]; exact x1, by show T.heap[TT.aS]? = _; rw [eT]; exact v5⟩)
  dsimp only [Pt.U, Pt.locs, Pt.cells, Pt.slots] at X6 hD6 hL6 hc6 hn6 come
  subst hv6 hL6 hc6 hn6
  refine ⟨T6, T6.heap, _, X6.more (Nat.le_refl _) (Nat.add_le_add_left hn _), rfl, fun y hy => ?_, ⟨C6, kc, hD6, by rw [o1]; exact x2, by rw [o1]; exact x3, by rw [o2]; exact x4, fun o => by rw [o3]; exact x5 o⟩, ?_, fun target q => come.trans q⟩
  · simp only [List.mem_cons, List.not_mem_nil, or_false] at hy
    rcases hy with rfl | rfl | rfl <;> rfl
  · intro O nn d v F m1 m2 m3
    obtain ⟨cF, cfF, kF, iF, fF, f1, f2, f3, f4, f5, f6, f7⟩ := F
    cases x1.symm.trans f1
    have sl : Jvm.RoadKit.slotOf Z O nn d = fF.slot := by simp [Jvm.RoadKit.slotOf, f2]
    have sB : Jvm.RoadKit.slotOf Z tN "backtrace" obD = fB.slot := by simp [Jvm.RoadKit.slotOf, zB]
    have sD : Jvm.RoadKit.slotOf Z tN "depth" "I" = fD.slot := by simp [Jvm.RoadKit.slotOf, zD]
    have sS : Jvm.RoadKit.slotOf Z tN "stackTrace" steD = TT.fStack.slot := by simp [Jvm.RoadKit.slotOf, zS]
    rw [sl, sB] at m1
    rw [sl, sD] at m2
    rw [sl, sS] at m3
    exact ⟨C6, cfF, kF, iF, fF, hD6, f2, f3, by rw [o2]; exact f4, by rw [o2]; exact f5, by rw [o1]; exact f6, by rw [o4 _ m1.symm m2.symm m3.symm]; exact f7⟩
theorem own_chr1 (x : Int32) : ¬ ((255 : Int32) < (x &&& (255 : Int32)).toUInt32.toUInt16.toUInt32.toInt32) := by
  have e := i2c_mask x
  rw [e]
  have h := c_and x (255 : Int32) (by decide)
  have h5 : (255 : Int32).toInt = 255 := by decide
  rw [Int32.lt_iff_toInt_lt]
  omega
theorem own_chr (x : Int32) : ¬ ((255 : Int32) < (x &&& (255 : Int32)).toUInt32.toUInt16.toUInt32.toInt32.toUInt32.toUInt16.toUInt32.toInt32) := by
  have e := i2c_mask x
  rw [e, e]
  have h := c_and x (255 : Int32) (by decide)
  have h5 : (255 : Int32).toInt = 255 := by decide
  rw [Int32.lt_iff_toInt_lt]
  omega
theorem own_arv0 {s : State} {args : Array Value} {t : Term} {a : Addr} {ty : FieldType} {dv : Value} (ev : t.eval args s none [] s = some (.ref a)) (h4 : (Jvm.Cond.arrayOf t ty).value args s none s [] = some true) (h6 : (Jvm.Cond.eq (.length t) (.int (0 : Int32))).value args s none s [] = some true) :
    ∃ k, Arv s s.heap a k ty (0 : Int32) [] dv := by
  obtain ⟨cl, A⟩ := Arr.start ev h4
  have hat : s.arrayAt? a = some cl := A.fin (Vm.Alike.refl _)
  have hlen := Cond.eq_int (Cond.before_iff.mpr h6) rfl
  have h31 := SBG.length_lt ev hat hlen
  have hsz : cl.slots.size = 0 := by
    have e := len_f ev hat h31
    have h2 : cl.slots.size.toInt32 = (0 : Int32) := by simpa using Option.some.inj (e.symm.trans hlen)
    have h3 := congrArg Int32.toInt h2
    rw [len_toInt h31] at h3
    have h4 : (0 : Int32).toInt = 0 := by decide
    omega
  exact ⟨cl.cls, cl, A, rfl, by rw [hsz]; rfl, by decide, fun k hk => absurd hk (by omega), fun k hk => absurd hk (by omega)⟩
theorem own_eqF {args : Array Value} {s : State} {t : Term} {x : Addr} {C n d : String} {k : Int32} (ht : t.eval args s none [] s = some (.ref x)) (h : (Jvm.Cond.eq (.field t C n d) (.int k)).value args s none s [] = some true) : s.fieldOf? x C n d = some (.int k) :=
  (fld_at ht).symm.trans (Cond.eq_int (Cond.before_iff.mpr h) rfl)
theorem own_mask3 (x : Int32) : (x &&& (3 : Int32)) = (0 : Int32) ∨ (x &&& (3 : Int32)) = (1 : Int32) ∨ (x &&& (3 : Int32)) = (2 : Int32) ∨ (x &&& (3 : Int32)) = (3 : Int32) := by
  have h1 : (x &&& (3 : Int32)).toInt = x.toInt % (2 ^ 2 : Nat) := c_mask x 3 2 (by decide) (by decide)
  have h3 : (x &&& (3 : Int32)).toInt = 0 ∨ (x &&& (3 : Int32)).toInt = 1 ∨ (x &&& (3 : Int32)).toInt = 2 ∨ (x &&& (3 : Int32)).toInt = 3 := by omega
  rcases h3 with h | h | h | h
  · exact Or.inl (Int32.toInt_inj.mp h)
  · exact Or.inr (Or.inl (Int32.toInt_inj.mp h))
  · exact Or.inr (Or.inr (Or.inl (Int32.toInt_inj.mp h)))
  · exact Or.inr (Or.inr (Or.inr ((Int32.toInt_inj.mp h))))
def Gst (Z : State) (wCS : Int32) (w_US : Addr) (w_SS : Addr) : Prop := (Sta Z Z.heap "java/lang/String" "COMPACT_STRINGS" "Z" (.int wCS)) ∧ (¬ (wCS = (0 : Int32))) ∧ (Sta Z Z.heap "java/lang/Throwable" "UNASSIGNED_STACK" "[Ljava/lang/StackTraceElement;" (.ref w_US)) ∧ (Sta Z Z.heap "java/lang/Throwable" "SUPPRESSED_SENTINEL" "Ljava/util/List;" (.ref w_SS))
theorem d_jdk_52_method_21_code_0 : decode jdk_52_method_21_code 0 = .ok (.iconst 0, 1) := by decide +kernel
theorem d_jdk_52_method_21_code_1 : decode jdk_52_method_21_code 1 = .ok (.istore 5, 2) := by decide +kernel
theorem d_jdk_52_method_21_code_3 : decode jdk_52_method_21_code 3 = .ok (.iload 5, 2) := by decide +kernel
theorem d_jdk_52_method_21_code_5 : decode jdk_52_method_21_code 5 = .ok (.iload 4, 2) := by decide +kernel
theorem d_jdk_52_method_21_code_7 : decode jdk_52_method_21_code 7 = .ok (.if_icmp .ge 37, 3) := by decide +kernel
theorem d_jdk_52_method_21_code_10 : decode jdk_52_method_21_code 10 = .ok (.aload_n 0, 1) := by decide +kernel
theorem d_jdk_52_method_21_code_11 : decode jdk_52_method_21_code 11 = .ok (.iload_n 1, 1) := by decide +kernel
theorem d_jdk_52_method_21_code_12 : decode jdk_52_method_21_code 12 = .ok (.caload, 1) := by decide +kernel
theorem d_jdk_52_method_21_code_13 : decode jdk_52_method_21_code 13 = .ok (.istore 6, 2) := by decide +kernel
theorem d_jdk_52_method_21_code_15 : decode jdk_52_method_21_code 15 = .ok (.iload 6, 2) := by decide +kernel
theorem d_jdk_52_method_21_code_17 : decode jdk_52_method_21_code 17 = .ok (.sipush 255, 3) := by decide +kernel
theorem d_jdk_52_method_21_code_20 : decode jdk_52_method_21_code 20 = .ok (.if_icmp .le 6, 3) := by decide +kernel
theorem d_jdk_52_method_21_code_26 : decode jdk_52_method_21_code 26 = .ok (.aload_n 2, 1) := by decide +kernel
theorem d_jdk_52_method_21_code_27 : decode jdk_52_method_21_code 27 = .ok (.iload_n 3, 1) := by decide +kernel
theorem d_jdk_52_method_21_code_28 : decode jdk_52_method_21_code 28 = .ok (.iload 6, 2) := by decide +kernel
theorem d_jdk_52_method_21_code_30 : decode jdk_52_method_21_code 30 = .ok (.i2b, 1) := by decide +kernel
theorem d_jdk_52_method_21_code_31 : decode jdk_52_method_21_code 31 = .ok (.bastore, 1) := by decide +kernel
theorem d_jdk_52_method_21_code_32 : decode jdk_52_method_21_code 32 = .ok (.iinc 1 1, 3) := by decide +kernel
theorem d_jdk_52_method_21_code_35 : decode jdk_52_method_21_code 35 = .ok (.iinc 3 1, 3) := by decide +kernel
theorem d_jdk_52_method_21_code_38 : decode jdk_52_method_21_code 38 = .ok (.iinc 5 1, 3) := by decide +kernel
theorem d_jdk_52_method_21_code_41 : decode jdk_52_method_21_code 41 = .ok (.goto (-38), 3) := by decide +kernel
theorem d_jdk_52_method_21_code_44 : decode jdk_52_method_21_code 44 = .ok (.iload 4, 2) := by decide +kernel
theorem d_jdk_52_method_21_code_46 : decode jdk_52_method_21_code 46 = .ok (.ireturn, 1) := by decide +kernel
theorem pn_0 : plainName "java/lang/StringUTF16" = true := by first | (simp [plainName, overriddenIn]; done) | decide +kernel
theorem d_jdk_52_method_16_code_0 : decode jdk_52_method_16_code 0 = .ok (.iload_n 2, 1) := by decide +kernel
theorem d_jdk_52_method_16_code_1 : decode jdk_52_method_16_code 1 = .ok (.newarray .byte, 2) := by decide +kernel
theorem d_jdk_52_method_16_code_3 : decode jdk_52_method_16_code 3 = .ok (.astore_n 3, 1) := by decide +kernel
theorem d_jdk_52_method_16_code_4 : decode jdk_52_method_16_code 4 = .ok (.aload_n 0, 1) := by decide +kernel
theorem d_jdk_52_method_16_code_5 : decode jdk_52_method_16_code 5 = .ok (.iload_n 1, 1) := by decide +kernel
theorem d_jdk_52_method_16_code_6 : decode jdk_52_method_16_code 6 = .ok (.aload_n 3, 1) := by decide +kernel
theorem d_jdk_52_method_16_code_7 : decode jdk_52_method_16_code 7 = .ok (.iconst 0, 1) := by decide +kernel
theorem d_jdk_52_method_16_code_8 : decode jdk_52_method_16_code 8 = .ok (.iload_n 2, 1) := by decide +kernel
theorem d_jdk_52_method_16_code_9 : decode jdk_52_method_16_code 9 = .ok (.invokestatic 115, 3) := by decide +kernel
theorem pd_0 : parseMethodDescriptor "([CI[BII)I" = some ⟨[(.array .char), .int, (.array .byte), .int, .int], some .int⟩ := by decide +kernel
theorem d_jdk_52_method_16_code_12 : decode jdk_52_method_16_code 12 = .ok (.istore 4, 2) := by decide +kernel
theorem d_jdk_52_method_16_code_14 : decode jdk_52_method_16_code 14 = .ok (.iload 4, 2) := by decide +kernel
theorem d_jdk_52_method_16_code_16 : decode jdk_52_method_16_code 16 = .ok (.iload_n 2, 1) := by decide +kernel
theorem d_jdk_52_method_16_code_17 : decode jdk_52_method_16_code 17 = .ok (.if_icmp .eq 40, 3) := by decide +kernel
theorem d_jdk_52_method_16_code_57 : decode jdk_52_method_16_code 57 = .ok (.aload_n 3, 1) := by decide +kernel
theorem d_jdk_52_method_16_code_58 : decode jdk_52_method_16_code 58 = .ok (.areturn, 1) := by decide +kernel
theorem d_jdk_52_method_15_code_0 : decode jdk_52_method_15_code 0 = .ok (.iload_n 1, 1) := by decide +kernel
theorem d_jdk_52_method_15_code_1 : decode jdk_52_method_15_code 1 = .ok (.aload_n 0, 1) := by decide +kernel
theorem d_jdk_52_method_15_code_2 : decode jdk_52_method_15_code 2 = .ok (.arraylength, 1) := by decide +kernel
theorem d_jdk_52_method_15_code_3 : decode jdk_52_method_15_code 3 = .ok (.isub, 1) := by decide +kernel
theorem d_jdk_52_method_15_code_4 : decode jdk_52_method_15_code 4 = .ok (.bipush 31, 2) := by decide +kernel
theorem d_jdk_52_method_15_code_6 : decode jdk_52_method_15_code 6 = .ok (.iushr, 1) := by decide +kernel
theorem d_jdk_52_method_15_code_7 : decode jdk_52_method_15_code 7 = .ok (.i2b, 1) := by decide +kernel
theorem d_jdk_52_method_15_code_8 : decode jdk_52_method_15_code 8 = .ok (.ireturn, 1) := by decide +kernel
theorem d_jdk_42_method_149_code_0 : decode jdk_42_method_149_code 0 = .ok (.aload_n 0, 1) := by decide +kernel
theorem d_jdk_42_method_149_code_1 : decode jdk_42_method_149_code 1 = .ok (.invokespecial 1, 3) := by decide +kernel
theorem d_jdk_42_method_149_code_4 : decode jdk_42_method_149_code 4 = .ok (.iload_n 3, 1) := by decide +kernel
theorem d_jdk_42_method_149_code_5 : decode jdk_42_method_149_code 5 = .ok (.ifCond .ne 22, 3) := by decide +kernel
theorem d_jdk_42_method_149_code_27 : decode jdk_42_method_149_code 27 = .ok (.getstatic 38, 3) := by decide +kernel
theorem d_jdk_42_method_149_code_30 : decode jdk_42_method_149_code 30 = .ok (.ifCond .eq 28, 3) := by decide +kernel
theorem d_jdk_42_method_149_code_33 : decode jdk_42_method_149_code 33 = .ok (.aload_n 1, 1) := by decide +kernel
theorem d_jdk_42_method_149_code_34 : decode jdk_42_method_149_code 34 = .ok (.iload_n 2, 1) := by decide +kernel
theorem d_jdk_42_method_149_code_35 : decode jdk_42_method_149_code 35 = .ok (.iload_n 3, 1) := by decide +kernel
theorem d_jdk_42_method_149_code_36 : decode jdk_42_method_149_code 36 = .ok (.invokestatic 177, 3) := by decide +kernel
theorem pd_1 : parseMethodDescriptor "([CII)[B" = some ⟨[(.array .char), .int, .int], some (.array .byte)⟩ := by decide +kernel
theorem d_jdk_42_method_149_code_39 : decode jdk_42_method_149_code 39 = .ok (.astore 5, 2) := by decide +kernel
theorem d_jdk_42_method_149_code_41 : decode jdk_42_method_149_code 41 = .ok (.aload_n 0, 1) := by decide +kernel
theorem d_jdk_42_method_149_code_42 : decode jdk_42_method_149_code 42 = .ok (.aload 5, 2) := by decide +kernel
theorem d_jdk_42_method_149_code_44 : decode jdk_42_method_149_code 44 = .ok (.iload_n 3, 1) := by decide +kernel
theorem d_jdk_42_method_149_code_45 : decode jdk_42_method_149_code 45 = .ok (.invokestatic 47, 3) := by decide +kernel
theorem pd_2 : parseMethodDescriptor "([BI)B" = some ⟨[(.array .byte), .int], some .byte⟩ := by decide +kernel
theorem d_jdk_42_method_149_code_48 : decode jdk_42_method_149_code 48 = .ok (.putfield 15, 3) := by decide +kernel
theorem d_jdk_42_method_149_code_51 : decode jdk_42_method_149_code 51 = .ok (.aload_n 0, 1) := by decide +kernel
theorem d_jdk_42_method_149_code_52 : decode jdk_42_method_149_code 52 = .ok (.aload 5, 2) := by decide +kernel
theorem d_jdk_42_method_149_code_54 : decode jdk_42_method_149_code 54 = .ok (.putfield 9, 3) := by decide +kernel
theorem d_jdk_42_method_149_code_57 : decode jdk_42_method_149_code 57 = .ok (.return_, 1) := by decide +kernel
theorem pn_1 : plainName "java/lang/String" = true := by first | (simp [plainName, overriddenIn]; done) | decide +kernel
theorem d_jdk_42_method_3_code_0 : decode jdk_42_method_3_code 0 = .ok (.aload_n 0, 1) := by decide +kernel
theorem d_jdk_42_method_3_code_1 : decode jdk_42_method_3_code 1 = .ok (.aload_n 1, 1) := by decide +kernel
theorem d_jdk_42_method_3_code_2 : decode jdk_42_method_3_code 2 = .ok (.iconst 0, 1) := by decide +kernel
theorem d_jdk_42_method_3_code_3 : decode jdk_42_method_3_code 3 = .ok (.aload_n 1, 1) := by decide +kernel
theorem d_jdk_42_method_3_code_4 : decode jdk_42_method_3_code 4 = .ok (.arraylength, 1) := by decide +kernel
theorem d_jdk_42_method_3_code_5 : decode jdk_42_method_3_code 5 = .ok (.aconst_null, 1) := by decide +kernel
theorem d_jdk_42_method_3_code_6 : decode jdk_42_method_3_code 6 = .ok (.invokespecial 27, 3) := by decide +kernel
theorem pd_3 : parseMethodDescriptor "([CIILjava/lang/Void;)V" = some ⟨[(.array .char), .int, .int, (.object "java/lang/Void")], none⟩ := by decide +kernel
theorem d_jdk_42_method_3_code_9 : decode jdk_42_method_3_code 9 = .ok (.return_, 1) := by decide +kernel
theorem d_jdk_78_method_2_code_0 : decode jdk_78_method_2_code 0 = .ok (.aload_n 0, 1) := by decide +kernel
theorem d_jdk_78_method_2_code_1 : decode jdk_78_method_2_code 1 = .ok (.invokespecial 1, 3) := by decide +kernel
theorem d_jdk_78_method_2_code_4 : decode jdk_78_method_2_code 4 = .ok (.aload_n 0, 1) := by decide +kernel
theorem d_jdk_78_method_2_code_5 : decode jdk_78_method_2_code 5 = .ok (.aload_n 0, 1) := by decide +kernel
theorem d_jdk_78_method_2_code_6 : decode jdk_78_method_2_code 6 = .ok (.putfield 7, 3) := by decide +kernel
theorem d_jdk_78_method_2_code_9 : decode jdk_78_method_2_code 9 = .ok (.aload_n 0, 1) := by decide +kernel
theorem d_jdk_78_method_2_code_10 : decode jdk_78_method_2_code 10 = .ok (.getstatic 13, 3) := by decide +kernel
theorem d_jdk_78_method_2_code_13 : decode jdk_78_method_2_code 13 = .ok (.putfield 17, 3) := by decide +kernel
theorem d_jdk_78_method_2_code_16 : decode jdk_78_method_2_code 16 = .ok (.aload_n 0, 1) := by decide +kernel
theorem d_jdk_78_method_2_code_17 : decode jdk_78_method_2_code 17 = .ok (.getstatic 20, 3) := by decide +kernel
theorem d_jdk_78_method_2_code_20 : decode jdk_78_method_2_code 20 = .ok (.putfield 24, 3) := by decide +kernel
theorem d_jdk_78_method_2_code_23 : decode jdk_78_method_2_code 23 = .ok (.aload_n 0, 1) := by decide +kernel
theorem d_jdk_78_method_2_code_24 : decode jdk_78_method_2_code 24 = .ok (.invokevirtual 27, 3) := by decide +kernel
theorem d_jdk_78_method_2_code_27 : decode jdk_78_method_2_code 27 = .ok (.pop, 1) := by decide +kernel
theorem d_jdk_78_method_2_code_28 : decode jdk_78_method_2_code 28 = .ok (.aload_n 0, 1) := by decide +kernel
theorem d_jdk_78_method_2_code_29 : decode jdk_78_method_2_code 29 = .ok (.aload_n 1, 1) := by decide +kernel
theorem d_jdk_78_method_2_code_30 : decode jdk_78_method_2_code 30 = .ok (.putfield 31, 3) := by decide +kernel
theorem d_jdk_78_method_2_code_33 : decode jdk_78_method_2_code 33 = .ok (.return_, 1) := by decide +kernel
theorem pn_2 : plainName "java/lang/Throwable" = true := by first | (simp [plainName, overriddenIn]; done) | decide +kernel
theorem d_jdk_59_method_2_code_0 : decode jdk_59_method_2_code 0 = .ok (.aload_n 0, 1) := by decide +kernel
theorem d_jdk_59_method_2_code_1 : decode jdk_59_method_2_code 1 = .ok (.aload_n 1, 1) := by decide +kernel
theorem d_jdk_59_method_2_code_2 : decode jdk_59_method_2_code 2 = .ok (.invokespecial 7, 3) := by decide +kernel
theorem pd_4 : parseMethodDescriptor "(Ljava/lang/String;)V" = some ⟨[(.object "java/lang/String")], none⟩ := by decide +kernel
theorem d_jdk_59_method_2_code_5 : decode jdk_59_method_2_code 5 = .ok (.return_, 1) := by decide +kernel
theorem pn_3 : plainName "java/lang/Exception" = true := by first | (simp [plainName, overriddenIn]; done) | decide +kernel
theorem d_jdk_131_method_2_code_0 : decode jdk_131_method_2_code 0 = .ok (.aload_n 0, 1) := by decide +kernel
theorem d_jdk_131_method_2_code_1 : decode jdk_131_method_2_code 1 = .ok (.aload_n 1, 1) := by decide +kernel
theorem d_jdk_131_method_2_code_2 : decode jdk_131_method_2_code 2 = .ok (.invokespecial 7, 3) := by decide +kernel
theorem d_jdk_131_method_2_code_5 : decode jdk_131_method_2_code 5 = .ok (.return_, 1) := by decide +kernel
theorem pn_4 : plainName "java/io/IOException" = true := by first | (simp [plainName, overriddenIn]; done) | decide +kernel
theorem d_prog_80_method_2_code_0 : decode prog_80_method_2_code 0 = .ok (.aload_n 0, 1) := by decide +kernel
theorem d_prog_80_method_2_code_1 : decode prog_80_method_2_code 1 = .ok (.aload_n 2, 1) := by decide +kernel
theorem d_prog_80_method_2_code_2 : decode prog_80_method_2_code 2 = .ok (.invokespecial 11, 3) := by decide +kernel
theorem d_prog_80_method_2_code_5 : decode prog_80_method_2_code 5 = .ok (.aload_n 0, 1) := by decide +kernel
theorem d_prog_80_method_2_code_6 : decode prog_80_method_2_code 6 = .ok (.iload_n 1, 1) := by decide +kernel
theorem d_prog_80_method_2_code_7 : decode prog_80_method_2_code 7 = .ok (.putfield 16, 3) := by decide +kernel
theorem d_prog_80_method_2_code_10 : decode prog_80_method_2_code 10 = .ok (.return_, 1) := by decide +kernel
theorem pn_5 : plainName "caseward/web/RequestHead$Malformed" = true := by first | (simp [plainName, overriddenIn]; done) | decide +kernel
theorem d_prog_80_method_1_code_0 : decode prog_80_method_1_code 0 = .ok (.aload_n 0, 1) := by decide +kernel
theorem d_prog_80_method_1_code_1 : decode prog_80_method_1_code 1 = .ok (.sipush 400, 3) := by decide +kernel
theorem d_prog_80_method_1_code_4 : decode prog_80_method_1_code 4 = .ok (.aload_n 1, 1) := by decide +kernel
theorem d_prog_80_method_1_code_5 : decode prog_80_method_1_code 5 = .ok (.invokespecial 5, 3) := by decide +kernel
theorem pd_5 : parseMethodDescriptor "(ILjava/lang/String;)V" = some ⟨[.int, (.object "java/lang/String")], none⟩ := by decide +kernel
theorem d_prog_80_method_1_code_8 : decode prog_80_method_1_code 8 = .ok (.return_, 1) := by decide +kernel
theorem d_prog_80_method_4_code_0 : decode prog_80_method_4_code 0 = .ok (.aload_n 0, 1) := by decide +kernel
theorem d_prog_80_method_4_code_1 : decode prog_80_method_4_code 1 = .ok (.getfield 16, 3) := by decide +kernel
theorem d_prog_80_method_4_code_4 : decode prog_80_method_4_code 4 = .ok (.sipush 503, 3) := by decide +kernel
theorem d_prog_80_method_4_code_7 : decode prog_80_method_4_code 7 = .ok (.if_icmp .ne 7, 3) := by decide +kernel
theorem d_prog_80_method_4_code_10 : decode prog_80_method_4_code 10 = .ok (.iconst 1, 1) := by decide +kernel
theorem d_prog_80_method_4_code_11 : decode prog_80_method_4_code 11 = .ok (.goto 4, 3) := by decide +kernel
theorem d_prog_80_method_4_code_15 : decode prog_80_method_4_code 15 = .ok (.ireturn, 1) := by decide +kernel
theorem d_prog_80_method_4_code_14 : decode prog_80_method_4_code 14 = .ok (.iconst 0, 1) := by decide +kernel
theorem d_prog_80_method_3_code_0 : decode prog_80_method_3_code 0 = .ok (.aload_n 0, 1) := by decide +kernel
theorem d_prog_80_method_3_code_1 : decode prog_80_method_3_code 1 = .ok (.getfield 16, 3) := by decide +kernel
theorem d_prog_80_method_3_code_4 : decode prog_80_method_3_code 4 = .ok (.ireturn, 1) := by decide +kernel
theorem pd_6 : parseMethodDescriptor "([C)V" = some ⟨[(.array .char)], none⟩ := by decide +kernel
theorem pd_7 : parseMethodDescriptor "()Z" = some ⟨[], some .boolean⟩ := by decide +kernel
theorem pd_8 : parseMethodDescriptor "()I" = some ⟨[], some .int⟩ := by decide +kernel
theorem pn_6 : plainName "caseward/web/MalformedIsForWantOfRoomPinLaw" = true := by first | (simp [plainName, overriddenIn]; done) | decide +kernel
def Q_scomp1_2 (Z : State) (wCS : Int32) (w_US : Addr) (w_SS : Addr) (a1 : Addr) (a2 : Addr) (kc : ClassId) (kb : ClassId) (q0 : Int32) (q1 : Int32) (h0 : Heap) (n0 : Nat) (v : Option Value) (h : Heap) (L : List Loc) : Prop := (v = some (.int (2 : Int32))) ∧ (Fr n0 L) ∧ (Keep h0 h [a2]) ∧ (Arv Z h a2 kb .byte (2 : Int32) [(.int ((q0.toInt8.toInt32).toInt8.toInt32)), (.int ((q1.toInt8.toInt32).toInt8.toInt32))] (.int (0 : Int32)))
set_option maxRecDepth 65536 in
set_option maxHeartbeats 40000000 in
theorem scomp1_2 (l : Launch) (Z : State) (a0 : Array Value) (hw : ∀ d ∈ tables_1, d.before a0 Z = true) (ws : List Jvm.Cond) (wCS : Int32) (w_US : Addr) (w_SS : Addr) (G : Gst Z wCS w_US w_SS) (a1 : Addr) (a2 : Addr) (kc : ClassId) (kb : ClassId) (q0 : Int32) (q1 : Int32) (h0 : Heap) (n0 : Nat) (O0 : Old Z n0 h0) (a_0 : Arv Z h0 a1 kc .char (2 : Int32) [(.int q0), (.int q1)] (.int (0 : Int32))) (a_1 : Arv Z h0 a2 kb .byte (2 : Int32) [(.int (0 : Int32)), (.int (0 : Int32))] (.int (0 : Int32))) (hne : a1 ≠ a2) (ga2 : n0 ≤ a2) (hq0 : ¬ ((255 : Int32) < q0)) (hq1 : ¬ ((255 : Int32) < q1)) :
    MetFree l (⟨"java/lang/StringUTF16", "compress", "([CI[BII)I"⟩ : MethodName) (head1 (Jvm.Cond.code (⟨"java/lang/StringUTF16", "compress", "([CI[BII)I"⟩ : MethodName) jdk_52_method_21_code 7 (some .int) :: ws) ({ frames := 0, cells := 0, slots := 0, locals := 0 } : Room)) (fun a U => a = #[(.ref a1), (.int (0 : Int32)), (.ref a2), (.int (0 : Int32)), (.int (2 : Int32))] ∧ Z.Warmed39 U.vm ∧ U.heap = h0) (fun _ _ _ _ _ => True) (fun _ U o U' => ∃ v L, o = .returned v ∧ Q_scomp1_2 Z wCS w_US w_SS a1 a2 kc kb q0 q1 h0 n0 v U'.heap L ∧ FrameEnd U o U' L ({ frames := 0, cells := 0, slots := 0, locals := 0 } : Room).cells ({ frames := 0, cells := 0, slots := 0, locals := 0 } : Room).slots) := by
  refine MetFree.of_bodySF (plainFor_of_name pn_0) hisR ?_
  intro p e s m args below meth c s₁ Bd hml0 hP hK
  obtain ⟨rfl, hZ, hh⟩ := hP
  have hx := Bd.exec
  have hby := Bd.bytes
  have hml : c.maxLocals = 7 := hml0
  have hown : s.vm.findClass "java/lang/StringUTF16" = some m.cls := findClass_of_methodNamed Bd.named
  have hnm := (name_of_methodNamed Bd.named Bd.method).1
  have X0 : Stand p l e ({ frames := 0, cells := 0, slots := 0, locals := 0 } : Room) s m #[(.ref a1), (.int (0 : Int32)), (.ref a2), (.int (0 : Int32)), (.int (2 : Int32))] below meth c s₁ [] 0 0 := Stand.of_body Bd
  have e0 : s₁.heap = h0 := by rw [← hh, Bd.state]; rfl
  have N0 := Fr.nil n0
  obtain ⟨S_CS, hCS, S_US, S_SS⟩ := id G
  have k0 : Way p e below (s₁.setTop (entryFrame m #[(.ref a1), (.int (0 : Int32)), (.ref a2), (.int (0 : Int32)), (.int (2 : Int32))] 7)) s₁ (mkF m 0 #[rv a1, iv (0 : Int32), rv a2, iv (0 : Int32), iv (2 : Int32), .unset, .unset] []) := fun t k => castTop (by first | (simp [entryFrame, mkF, argsToLocals, Value.category]; done) | rfl) k
  generalize s₁.setTop (entryFrame m #[(.ref a1), (.int (0 : Int32)), (.ref a2), (.int (0 : Int32)), (.int (2 : Int32))] 7) = S0 at k0 ⊢
  have k1 : Way p e below S0 s₁ (mkF m 12 #[rv a1, iv (0 : Int32), rv a2, iv (0 : Int32), iv (2 : Int32), iv (0 : Int32), .unset] [(.int (0 : Int32)), (.ref a1)]) := by
    intro t k
    refine k0 t ?_
    refine XS.iconst X0.here hx rfl (hb hby d_jdk_52_method_21_code_0) ?_
    show Steps p.tables e below (s₁.setTop (mkF m 1 #[rv a1, iv (0 : Int32), rv a2, iv (0 : Int32), iv (2 : Int32), .unset, .unset] [(.int (0 : Int32))])) _
    refine XS.istore X0.here hx rfl (hb hby d_jdk_52_method_21_code_1) rfl (l' := #[rv a1, iv (0 : Int32), rv a2, iv (0 : Int32), iv (2 : Int32), iv (0 : Int32), .unset]) rfl ?_
    show Steps p.tables e below (s₁.setTop (mkF m 3 #[rv a1, iv (0 : Int32), rv a2, iv (0 : Int32), iv (2 : Int32), iv (0 : Int32), .unset] [])) _
    refine XS.iload X0.here hx rfl (hb hby d_jdk_52_method_21_code_3) rfl ?_
    show Steps p.tables e below (s₁.setTop (mkF m 5 #[rv a1, iv (0 : Int32), rv a2, iv (0 : Int32), iv (2 : Int32), iv (0 : Int32), .unset] [(.int (0 : Int32))])) _
    refine XS.iload X0.here hx rfl (hb hby d_jdk_52_method_21_code_5) rfl ?_
    show Steps p.tables e below (s₁.setTop (mkF m 7 #[rv a1, iv (0 : Int32), rv a2, iv (0 : Int32), iv (2 : Int32), iv (0 : Int32), .unset] [(.int (2 : Int32)), (.int (0 : Int32))])) _
    refine XS.icmpNo X0.here hx rfl (hb hby d_jdk_52_method_21_code_7) rfl (tlt ((by decide) : (0 : Int32) < (2 : Int32))).2.1 ?_
    show Steps p.tables e below (s₁.setTop (mkF m 10 #[rv a1, iv (0 : Int32), rv a2, iv (0 : Int32), iv (2 : Int32), iv (0 : Int32), .unset] [])) _
    refine XS.aloadN X0.here hx rfl (hb hby d_jdk_52_method_21_code_10) rfl rfl ?_
    show Steps p.tables e below (s₁.setTop (mkF m 11 #[rv a1, iv (0 : Int32), rv a2, iv (0 : Int32), iv (2 : Int32), iv (0 : Int32), .unset] [(.ref a1)])) _
    refine XS.iloadN X0.here hx rfl (hb hby d_jdk_52_method_21_code_11) rfl ?_
    show Steps p.tables e below (s₁.setTop (mkF m 12 #[rv a1, iv (0 : Int32), rv a2, iv (0 : Int32), iv (2 : Int32), iv (0 : Int32), .unset] [(.int (0 : Int32)), (.ref a1)])) _
    exact k
  obtain ⟨cl2, Ar2, qc2, S2, M2, U2, G2⟩ := id (a_0)
  have hin2 : ¬ ((0 : Int32) < 0 ∨ cl2.slots.size ≤ ((0 : Int32)).toNatClampNeg) := inb_of S2 ⟨by decide, by decide⟩
  have hat2 : cl2.slots[((0 : Int32)).toNatClampNeg]? = some (.int q0) := Has.at U2 hin2 rfl
  have k3 : Way p e below S0 s₁ (mkF m 13 #[rv a1, iv (0 : Int32), rv a2, iv (0 : Int32), iv (2 : Int32), iv (0 : Int32), .unset] [(.int q0)]) := fun t k => k1 t (X0.caload hx (j := (0 : Int32)) (v := (.int q0)) (by rw [e0]; exact Ar2.1) (State.isArrayOf_alike hZ.alike Ar2.2.1) Ar2.2.2 hin2 hat2 (g := (mkF m 12 #[rv a1, iv (0 : Int32), rv a2, iv (0 : Int32), iv (2 : Int32), iv (0 : Int32), .unset] [(.int (0 : Int32)), (.ref a1)])) rfl rfl (hb hby d_jdk_52_method_21_code_12) _ k)
  have k4 : Way p e below S0 s₁ (mkF m 31 #[rv a1, iv (0 : Int32), rv a2, iv (0 : Int32), iv (2 : Int32), iv (0 : Int32), iv q0] [(.int (q0.toInt8.toInt32)), (.int (0 : Int32)), (.ref a2)]) := by
    intro t k
    refine k3 t ?_
    refine XS.istore X0.here hx rfl (hb hby d_jdk_52_method_21_code_13) rfl (l' := #[rv a1, iv (0 : Int32), rv a2, iv (0 : Int32), iv (2 : Int32), iv (0 : Int32), iv q0]) rfl ?_
    show Steps p.tables e below (s₁.setTop (mkF m 15 #[rv a1, iv (0 : Int32), rv a2, iv (0 : Int32), iv (2 : Int32), iv (0 : Int32), iv q0] [])) _
    refine XS.iload X0.here hx rfl (hb hby d_jdk_52_method_21_code_15) rfl ?_
    show Steps p.tables e below (s₁.setTop (mkF m 17 #[rv a1, iv (0 : Int32), rv a2, iv (0 : Int32), iv (2 : Int32), iv (0 : Int32), iv q0] [(.int q0)])) _
    refine XS.sipush X0.here hx rfl (hb hby d_jdk_52_method_21_code_17) ?_
    show Steps p.tables e below (s₁.setTop (mkF m 20 #[rv a1, iv (0 : Int32), rv a2, iv (0 : Int32), iv (2 : Int32), iv (0 : Int32), iv q0] [(.int (255 : Int32)), (.int q0)])) _
    refine XS.icmpYes X0.here hx rfl (pc0 := 20) (pc' := 26) rfl (hb hby d_jdk_52_method_21_code_20) rfl (flt (hq0 : ¬ ((255 : Int32) < q0))).2.2.2 (by decide) (by decide) ?_
    show Steps p.tables e below (s₁.setTop (mkF m 26 #[rv a1, iv (0 : Int32), rv a2, iv (0 : Int32), iv (2 : Int32), iv (0 : Int32), iv q0] [])) _
    refine XS.aloadN X0.here hx rfl (hb hby d_jdk_52_method_21_code_26) rfl rfl ?_
    show Steps p.tables e below (s₁.setTop (mkF m 27 #[rv a1, iv (0 : Int32), rv a2, iv (0 : Int32), iv (2 : Int32), iv (0 : Int32), iv q0] [(.ref a2)])) _
    refine XS.iloadN X0.here hx rfl (hb hby d_jdk_52_method_21_code_27) rfl ?_
    show Steps p.tables e below (s₁.setTop (mkF m 28 #[rv a1, iv (0 : Int32), rv a2, iv (0 : Int32), iv (2 : Int32), iv (0 : Int32), iv q0] [(.int (0 : Int32)), (.ref a2)])) _
    refine XS.iload X0.here hx rfl (hb hby d_jdk_52_method_21_code_28) rfl ?_
    show Steps p.tables e below (s₁.setTop (mkF m 30 #[rv a1, iv (0 : Int32), rv a2, iv (0 : Int32), iv (2 : Int32), iv (0 : Int32), iv q0] [(.int q0), (.int (0 : Int32)), (.ref a2)])) _
    refine XS.i2b X0.here hx rfl (hb hby d_jdk_52_method_21_code_30) rfl ?_
    show Steps p.tables e below (s₁.setTop (mkF m 31 #[rv a1, iv (0 : Int32), rv a2, iv (0 : Int32), iv (2 : Int32), iv (0 : Int32), iv q0] [(.int (q0.toInt8.toInt32)), (.int (0 : Int32)), (.ref a2)])) _
    exact k
  obtain ⟨cl5, Ar5, qc5, S5, M5, U5, G5⟩ := id (a_1)
  have hin5 : ¬ ((0 : Int32) < 0 ∨ cl5.slots.size ≤ ((0 : Int32)).toNatClampNeg) := inb_of S5 ⟨by decide, by decide⟩
  obtain ⟨T5, h5, X5, e5, W5, st5⟩ := stB X0 hx hZ e0 Ar5 (j := (0 : Int32)) hin5 (g := (mkF m 31 #[rv a1, iv (0 : Int32), rv a2, iv (0 : Int32), iv (2 : Int32), iv (0 : Int32), iv q0] [(.int (q0.toInt8.toInt32)), (.int (0 : Int32)), (.ref a2)])) rfl rfl (hb hby d_jdk_52_method_21_code_31)
  have O5 := O0.wr W5 ga2
  have N5 := Fr.snoc X5 N0 ga2
  have K5 : Keep h0 h5 [a2] := (Keep.refl h0 [a2]).wr W5 (Or.inl (List.mem_of_getElem? (i := 0) rfl))
  have va5 : Arv Z h5 a2 kb .byte (2 : Int32) [(.int ((q0.toInt8.toInt32).toInt8.toInt32)), (.int (0 : Int32))] (.int (0 : Int32)) := Arv.set Ar5 qc5 S5 M5 U5 G5 (fits_nar_byte _) W5 0 rfl (Nat.le_of_ble_eq_true rfl)
  have k6 : Way p e below S0 T5 (mkF m 32 #[rv a1, iv (0 : Int32), rv a2, iv (0 : Int32), iv (2 : Int32), iv (0 : Int32), iv q0] []) := fun t k => k4 t (st5 _ k)
  have k7 : Way p e below S0 T5 (mkF m 12 #[rv a1, iv (1 : Int32), rv a2, iv (1 : Int32), iv (2 : Int32), iv (1 : Int32), iv q0] [(.int (1 : Int32)), (.ref a1)]) := by
    intro t k
    refine k6 t ?_
    refine XS.iinc X5.here hx rfl (hb hby d_jdk_52_method_21_code_32) rfl (l' := #[rv a1, iv (1 : Int32), rv a2, iv (0 : Int32), iv (2 : Int32), iv (0 : Int32), iv q0]) rfl ?_
    show Steps p.tables e below (T5.setTop (mkF m 35 #[rv a1, iv (1 : Int32), rv a2, iv (0 : Int32), iv (2 : Int32), iv (0 : Int32), iv q0] [])) _
    refine XS.iinc X5.here hx rfl (hb hby d_jdk_52_method_21_code_35) rfl (l' := #[rv a1, iv (1 : Int32), rv a2, iv (1 : Int32), iv (2 : Int32), iv (0 : Int32), iv q0]) rfl ?_
    show Steps p.tables e below (T5.setTop (mkF m 38 #[rv a1, iv (1 : Int32), rv a2, iv (1 : Int32), iv (2 : Int32), iv (0 : Int32), iv q0] [])) _
    refine XS.iinc X5.here hx rfl (hb hby d_jdk_52_method_21_code_38) rfl (l' := #[rv a1, iv (1 : Int32), rv a2, iv (1 : Int32), iv (2 : Int32), iv (1 : Int32), iv q0]) rfl ?_
    show Steps p.tables e below (T5.setTop (mkF m 41 #[rv a1, iv (1 : Int32), rv a2, iv (1 : Int32), iv (2 : Int32), iv (1 : Int32), iv q0] [])) _
    refine XS.goto X5.here hx rfl (pc0 := 41) (pc' := 3) rfl (hb hby d_jdk_52_method_21_code_41) (by decide) (by decide) ?_
    show Steps p.tables e below (T5.setTop (mkF m 3 #[rv a1, iv (1 : Int32), rv a2, iv (1 : Int32), iv (2 : Int32), iv (1 : Int32), iv q0] [])) _
    refine XS.iload X5.here hx rfl (hb hby d_jdk_52_method_21_code_3) rfl ?_
    show Steps p.tables e below (T5.setTop (mkF m 5 #[rv a1, iv (1 : Int32), rv a2, iv (1 : Int32), iv (2 : Int32), iv (1 : Int32), iv q0] [(.int (1 : Int32))])) _
    refine XS.iload X5.here hx rfl (hb hby d_jdk_52_method_21_code_5) rfl ?_
    show Steps p.tables e below (T5.setTop (mkF m 7 #[rv a1, iv (1 : Int32), rv a2, iv (1 : Int32), iv (2 : Int32), iv (1 : Int32), iv q0] [(.int (2 : Int32)), (.int (1 : Int32))])) _
    refine XS.icmpNo X5.here hx rfl (hb hby d_jdk_52_method_21_code_7) rfl (tlt ((by decide) : (1 : Int32) < (2 : Int32))).2.1 ?_
    show Steps p.tables e below (T5.setTop (mkF m 10 #[rv a1, iv (1 : Int32), rv a2, iv (1 : Int32), iv (2 : Int32), iv (1 : Int32), iv q0] [])) _
    refine XS.aloadN X5.here hx rfl (hb hby d_jdk_52_method_21_code_10) rfl rfl ?_
    show Steps p.tables e below (T5.setTop (mkF m 11 #[rv a1, iv (1 : Int32), rv a2, iv (1 : Int32), iv (2 : Int32), iv (1 : Int32), iv q0] [(.ref a1)])) _
    refine XS.iloadN X5.here hx rfl (hb hby d_jdk_52_method_21_code_11) rfl ?_
    show Steps p.tables e below (T5.setTop (mkF m 12 #[rv a1, iv (1 : Int32), rv a2, iv (1 : Int32), iv (2 : Int32), iv (1 : Int32), iv q0] [(.int (1 : Int32)), (.ref a1)])) _
    exact k
  have f8 : Arv Z h5 a1 kc .char (2 : Int32) [(.int q0), (.int q1)] (.int (0 : Int32)) := (a_0.other W5 hne)
  obtain ⟨cl9, Ar9, qc9, S9, M9, U9, G9⟩ := id (f8)
  have hin9 : ¬ ((1 : Int32) < 0 ∨ cl9.slots.size ≤ ((1 : Int32)).toNatClampNeg) := inb_of S9 ⟨by decide, by decide⟩
  have hat9 : cl9.slots[((1 : Int32)).toNatClampNeg]? = some (.int q1) := Has.at U9 hin9 rfl
  have k10 : Way p e below S0 T5 (mkF m 13 #[rv a1, iv (1 : Int32), rv a2, iv (1 : Int32), iv (2 : Int32), iv (1 : Int32), iv q0] [(.int q1)]) := fun t k => k7 t (X5.caload hx (j := (1 : Int32)) (v := (.int q1)) (by rw [e5]; exact Ar9.1) (State.isArrayOf_alike hZ.alike Ar9.2.1) Ar9.2.2 hin9 hat9 (g := (mkF m 12 #[rv a1, iv (1 : Int32), rv a2, iv (1 : Int32), iv (2 : Int32), iv (1 : Int32), iv q0] [(.int (1 : Int32)), (.ref a1)])) rfl rfl (hb hby d_jdk_52_method_21_code_12) _ k)
  have k11 : Way p e below S0 T5 (mkF m 31 #[rv a1, iv (1 : Int32), rv a2, iv (1 : Int32), iv (2 : Int32), iv (1 : Int32), iv q1] [(.int (q1.toInt8.toInt32)), (.int (1 : Int32)), (.ref a2)]) := by
    intro t k
    refine k10 t ?_
    refine XS.istore X5.here hx rfl (hb hby d_jdk_52_method_21_code_13) rfl (l' := #[rv a1, iv (1 : Int32), rv a2, iv (1 : Int32), iv (2 : Int32), iv (1 : Int32), iv q1]) rfl ?_
    show Steps p.tables e below (T5.setTop (mkF m 15 #[rv a1, iv (1 : Int32), rv a2, iv (1 : Int32), iv (2 : Int32), iv (1 : Int32), iv q1] [])) _
    refine XS.iload X5.here hx rfl (hb hby d_jdk_52_method_21_code_15) rfl ?_
    show Steps p.tables e below (T5.setTop (mkF m 17 #[rv a1, iv (1 : Int32), rv a2, iv (1 : Int32), iv (2 : Int32), iv (1 : Int32), iv q1] [(.int q1)])) _
    refine XS.sipush X5.here hx rfl (hb hby d_jdk_52_method_21_code_17) ?_
    show Steps p.tables e below (T5.setTop (mkF m 20 #[rv a1, iv (1 : Int32), rv a2, iv (1 : Int32), iv (2 : Int32), iv (1 : Int32), iv q1] [(.int (255 : Int32)), (.int q1)])) _
    refine XS.icmpYes X5.here hx rfl (pc0 := 20) (pc' := 26) rfl (hb hby d_jdk_52_method_21_code_20) rfl (flt (hq1 : ¬ ((255 : Int32) < q1))).2.2.2 (by decide) (by decide) ?_
    show Steps p.tables e below (T5.setTop (mkF m 26 #[rv a1, iv (1 : Int32), rv a2, iv (1 : Int32), iv (2 : Int32), iv (1 : Int32), iv q1] [])) _
    refine XS.aloadN X5.here hx rfl (hb hby d_jdk_52_method_21_code_26) rfl rfl ?_
    show Steps p.tables e below (T5.setTop (mkF m 27 #[rv a1, iv (1 : Int32), rv a2, iv (1 : Int32), iv (2 : Int32), iv (1 : Int32), iv q1] [(.ref a2)])) _
    refine XS.iloadN X5.here hx rfl (hb hby d_jdk_52_method_21_code_27) rfl ?_
    show Steps p.tables e below (T5.setTop (mkF m 28 #[rv a1, iv (1 : Int32), rv a2, iv (1 : Int32), iv (2 : Int32), iv (1 : Int32), iv q1] [(.int (1 : Int32)), (.ref a2)])) _
    refine XS.iload X5.here hx rfl (hb hby d_jdk_52_method_21_code_28) rfl ?_
    show Steps p.tables e below (T5.setTop (mkF m 30 #[rv a1, iv (1 : Int32), rv a2, iv (1 : Int32), iv (2 : Int32), iv (1 : Int32), iv q1] [(.int q1), (.int (1 : Int32)), (.ref a2)])) _
    refine XS.i2b X5.here hx rfl (hb hby d_jdk_52_method_21_code_30) rfl ?_
    show Steps p.tables e below (T5.setTop (mkF m 31 #[rv a1, iv (1 : Int32), rv a2, iv (1 : Int32), iv (2 : Int32), iv (1 : Int32), iv q1] [(.int (q1.toInt8.toInt32)), (.int (1 : Int32)), (.ref a2)])) _
    exact k
  obtain ⟨cl12, Ar12, qc12, S12, M12, U12, G12⟩ := id (va5)
  have hin12 : ¬ ((1 : Int32) < 0 ∨ cl12.slots.size ≤ ((1 : Int32)).toNatClampNeg) := inb_of S12 ⟨by decide, by decide⟩
  obtain ⟨T12, h12, X12, e12, W12, st12⟩ := stB X5 hx hZ e5 Ar12 (j := (1 : Int32)) hin12 (g := (mkF m 31 #[rv a1, iv (1 : Int32), rv a2, iv (1 : Int32), iv (2 : Int32), iv (1 : Int32), iv q1] [(.int (q1.toInt8.toInt32)), (.int (1 : Int32)), (.ref a2)])) rfl rfl (hb hby d_jdk_52_method_21_code_31)
  have O12 := O5.wr W12 ga2
  have N12 := Fr.snoc X12 N5 ga2
  have K12 : Keep h0 h12 [a2] := K5.wr W12 (Or.inl (List.mem_of_getElem? (i := 0) rfl))
  have va12 : Arv Z h12 a2 kb .byte (2 : Int32) [(.int ((q0.toInt8.toInt32).toInt8.toInt32)), (.int ((q1.toInt8.toInt32).toInt8.toInt32))] (.int (0 : Int32)) := Arv.set Ar12 qc12 S12 M12 U12 G12 (fits_nar_byte _) W12 1 rfl (Nat.le_of_ble_eq_true rfl)
  have k13 : Way p e below S0 T12 (mkF m 32 #[rv a1, iv (1 : Int32), rv a2, iv (1 : Int32), iv (2 : Int32), iv (1 : Int32), iv q1] []) := fun t k => k11 t (st12 _ k)
  have k14 : Way p e below S0 T12 (mkF m 46 #[rv a1, iv (2 : Int32), rv a2, iv (2 : Int32), iv (2 : Int32), iv (2 : Int32), iv q1] [(.int (2 : Int32))]) := by
    intro t k
    refine k13 t ?_
    refine XS.iinc X12.here hx rfl (hb hby d_jdk_52_method_21_code_32) rfl (l' := #[rv a1, iv (2 : Int32), rv a2, iv (1 : Int32), iv (2 : Int32), iv (1 : Int32), iv q1]) rfl ?_
    show Steps p.tables e below (T12.setTop (mkF m 35 #[rv a1, iv (2 : Int32), rv a2, iv (1 : Int32), iv (2 : Int32), iv (1 : Int32), iv q1] [])) _
    refine XS.iinc X12.here hx rfl (hb hby d_jdk_52_method_21_code_35) rfl (l' := #[rv a1, iv (2 : Int32), rv a2, iv (2 : Int32), iv (2 : Int32), iv (1 : Int32), iv q1]) rfl ?_
    show Steps p.tables e below (T12.setTop (mkF m 38 #[rv a1, iv (2 : Int32), rv a2, iv (2 : Int32), iv (2 : Int32), iv (1 : Int32), iv q1] [])) _
    refine XS.iinc X12.here hx rfl (hb hby d_jdk_52_method_21_code_38) rfl (l' := #[rv a1, iv (2 : Int32), rv a2, iv (2 : Int32), iv (2 : Int32), iv (2 : Int32), iv q1]) rfl ?_
    show Steps p.tables e below (T12.setTop (mkF m 41 #[rv a1, iv (2 : Int32), rv a2, iv (2 : Int32), iv (2 : Int32), iv (2 : Int32), iv q1] [])) _
    refine XS.goto X12.here hx rfl (pc0 := 41) (pc' := 3) rfl (hb hby d_jdk_52_method_21_code_41) (by decide) (by decide) ?_
    show Steps p.tables e below (T12.setTop (mkF m 3 #[rv a1, iv (2 : Int32), rv a2, iv (2 : Int32), iv (2 : Int32), iv (2 : Int32), iv q1] [])) _
    refine XS.iload X12.here hx rfl (hb hby d_jdk_52_method_21_code_3) rfl ?_
    show Steps p.tables e below (T12.setTop (mkF m 5 #[rv a1, iv (2 : Int32), rv a2, iv (2 : Int32), iv (2 : Int32), iv (2 : Int32), iv q1] [(.int (2 : Int32))])) _
    refine XS.iload X12.here hx rfl (hb hby d_jdk_52_method_21_code_5) rfl ?_
    show Steps p.tables e below (T12.setTop (mkF m 7 #[rv a1, iv (2 : Int32), rv a2, iv (2 : Int32), iv (2 : Int32), iv (2 : Int32), iv q1] [(.int (2 : Int32)), (.int (2 : Int32))])) _
    refine XS.icmpYes X12.here hx rfl (pc0 := 7) (pc' := 44) rfl (hb hby d_jdk_52_method_21_code_7) rfl (flt ((by decide) : ¬ ((2 : Int32) < (2 : Int32)))).2.1 (by decide) (by decide) ?_
    show Steps p.tables e below (T12.setTop (mkF m 44 #[rv a1, iv (2 : Int32), rv a2, iv (2 : Int32), iv (2 : Int32), iv (2 : Int32), iv q1] [])) _
    refine XS.iload X12.here hx rfl (hb hby d_jdk_52_method_21_code_44) rfl ?_
    show Steps p.tables e below (T12.setTop (mkF m 46 #[rv a1, iv (2 : Int32), rv a2, iv (2 : Int32), iv (2 : Int32), iv (2 : Int32), iv q1] [(.int (2 : Int32))])) _
    exact k
  obtain ⟨fs, hr, hrun, hended, hW, hsame⟩ := X12.leave (v := some (.int (2 : Int32))) (fun h => by rw [Bd.returns] at h; cases h)
  refine ⟨_, _, k14 _ (retOut X12 hx Bd.returns rfl (Or.inl ⟨rfl, Or.inl rfl, _, rfl⟩) (hb hby d_jdk_52_method_21_code_46) hr), hrun, hended, _, _, rfl, ?_, ⟨_, rfl⟩, hW, hsame.mono (by decide) (by decide)⟩
  show Q_scomp1_2 Z wCS w_US w_SS a1 a2 kc kb q0 q1 h0 n0 _ T12.heap _
  rw [e12]
  exact ⟨rfl, N12, K12, va12⟩
def Q_scomp_2 (Z : State) (wCS : Int32) (w_US : Addr) (w_SS : Addr) (a1 : Addr) (kc : ClassId) (q0 : Int32) (q1 : Int32) (h0 : Heap) (n0 : Nat) (v : Option Value) (h : Heap) (L : List Loc) : Prop := ∃ b1 : Addr, ∃ kb : ClassId, (v = some (.ref b1)) ∧ (Fr n0 L) ∧ (Keep h0 h []) ∧ (h0.size ≤ b1) ∧ (Arv Z h b1 kb .byte (2 : Int32) [(.int ((q0.toInt8.toInt32).toInt8.toInt32)), (.int ((q1.toInt8.toInt32).toInt8.toInt32))] (.int (0 : Int32))) ∧ (Exa Z h b1 "[B")
set_option maxRecDepth 65536 in
set_option maxHeartbeats 40000000 in
theorem scomp_2 (l : Launch) (Z : State) (a0 : Array Value) (hw : ∀ d ∈ tables_1, d.before a0 Z = true) (ws : List Jvm.Cond) (wCS : Int32) (w_US : Addr) (w_SS : Addr) (G : Gst Z wCS w_US w_SS) (a1 : Addr) (kc : ClassId) (q0 : Int32) (q1 : Int32) (h0 : Heap) (n0 : Nat) (O0 : Old Z n0 h0) (a_0 : Arv Z h0 a1 kc .char (2 : Int32) [(.int q0), (.int q1)] (.int (0 : Int32))) (hq0 : ¬ ((255 : Int32) < q0)) (hq1 : ¬ ((255 : Int32) < q1)) :
    MetFree l (⟨"java/lang/StringUTF16", "compress", "([CII)[B"⟩ : MethodName) (head1 (Jvm.Cond.code (⟨"java/lang/StringUTF16", "compress", "([CII)[B"⟩ : MethodName) jdk_52_method_16_code 6 (some (.array .byte)) :: ws) ({ frames := 1, cells := 1, slots := 2, locals := 18 } : Room)) (fun a U => a = #[(.ref a1), (.int (0 : Int32)), (.int (2 : Int32))] ∧ Z.Warmed39 U.vm ∧ U.heap = h0) (fun _ _ _ _ _ => True) (fun _ U o U' => ∃ v L, o = .returned v ∧ Q_scomp_2 Z wCS w_US w_SS a1 kc q0 q1 h0 n0 v U'.heap L ∧ FrameEnd U o U' L ({ frames := 1, cells := 1, slots := 2, locals := 18 } : Room).cells ({ frames := 1, cells := 1, slots := 2, locals := 18 } : Room).slots) := by
  refine MetFree.of_bodySF (plainFor_of_name pn_0) hisR ?_
  intro p e s m args below meth c s₁ Bd hml0 hP hK
  obtain ⟨rfl, hZ, hh⟩ := hP
  have hx := Bd.exec
  have hby := Bd.bytes
  have hml : c.maxLocals = 6 := hml0
  have hown : s.vm.findClass "java/lang/StringUTF16" = some m.cls := findClass_of_methodNamed Bd.named
  have hnm := (name_of_methodNamed Bd.named Bd.method).1
  have X0 : Stand p l e ({ frames := 1, cells := 1, slots := 2, locals := 18 } : Room) s m #[(.ref a1), (.int (0 : Int32)), (.int (2 : Int32))] below meth c s₁ [] 0 0 := Stand.of_body Bd
  have e0 : s₁.heap = h0 := by rw [← hh, Bd.state]; rfl
  have N0 := Fr.nil n0
  obtain ⟨S_CS, hCS, S_US, S_SS⟩ := id G
  have k0 : Way p e below (s₁.setTop (entryFrame m #[(.ref a1), (.int (0 : Int32)), (.int (2 : Int32))] 6)) s₁ (mkF m 0 #[rv a1, iv (0 : Int32), iv (2 : Int32), .unset, .unset, .unset] []) := fun t k => castTop (by first | (simp [entryFrame, mkF, argsToLocals, Value.category]; done) | rfl) k
  generalize s₁.setTop (entryFrame m #[(.ref a1), (.int (0 : Int32)), (.int (2 : Int32))] 6) = S0 at k0 ⊢
  have k1 : Way p e below S0 s₁ (mkF m 1 #[rv a1, iv (0 : Int32), iv (2 : Int32), .unset, .unset, .unset] [(.int (2 : Int32))]) := by
    intro t k
    refine k0 t ?_
    refine XS.iloadN X0.here hx rfl (hb hby d_jdk_52_method_16_code_0) rfl ?_
    show Steps p.tables e below (s₁.setTop (mkF m 1 #[rv a1, iv (0 : Int32), iv (2 : Int32), .unset, .unset, .unset] [(.int (2 : Int32))])) _
    exact k
  obtain ⟨T2, h2, c2, X2, e2, E2, A2, B2, st2⟩ := newPE X0 hx hZ (hw _ (List.mem_of_getElem? (i := 19) rfl)) e0 (g := (mkF m 1 #[rv a1, iv (0 : Int32), iv (2 : Int32), .unset, .unset, .unset] [(.int (2 : Int32))])) rfl (hb hby d_jdk_52_method_16_code_1) rfl (by decide) (cap := 2) (by decide) (by decide) (by decide) (by decide) (ad := "[B") (by decide)
  obtain ⟨b2, g2⟩ : ∃ z, z = h0.size := ⟨_, rfl⟩
  rw [← g2] at A2 B2 st2
  have O2 := O0.ext E2
  have K2 : Keep h0 h2 [] := (Keep.refl h0 []).ext E2
  have v2 : Arv Z h2 b2 c2 .byte (2 : Int32) [(.int (0 : Int32)), (.int (0 : Int32))] (.int (0 : Int32)) := (Arv.new A2 (by decide)).pad (pad_rep [] (.int (0 : Int32)) 2)
  have k3 : Way p e below S0 T2 (mkF m 3 #[rv a1, iv (0 : Int32), iv (2 : Int32), .unset, .unset, .unset] [(.ref b2)]) := fun t k => k1 t (st2 _ k)
  have k4 : Way p e below S0 T2 (mkF m 9 #[rv a1, iv (0 : Int32), iv (2 : Int32), rv b2, .unset, .unset] [(.int (2 : Int32)), (.int (0 : Int32)), (.ref b2), (.int (0 : Int32)), (.ref a1)]) := by
    intro t k
    refine k3 t ?_
    refine XS.astoreN X2.here hx rfl (hb hby d_jdk_52_method_16_code_3) rfl rfl (l' := #[rv a1, iv (0 : Int32), iv (2 : Int32), rv b2, .unset, .unset]) rfl ?_
    show Steps p.tables e below (T2.setTop (mkF m 4 #[rv a1, iv (0 : Int32), iv (2 : Int32), rv b2, .unset, .unset] [])) _
    refine XS.aloadN X2.here hx rfl (hb hby d_jdk_52_method_16_code_4) rfl rfl ?_
    show Steps p.tables e below (T2.setTop (mkF m 5 #[rv a1, iv (0 : Int32), iv (2 : Int32), rv b2, .unset, .unset] [(.ref a1)])) _
    refine XS.iloadN X2.here hx rfl (hb hby d_jdk_52_method_16_code_5) rfl ?_
    show Steps p.tables e below (T2.setTop (mkF m 6 #[rv a1, iv (0 : Int32), iv (2 : Int32), rv b2, .unset, .unset] [(.int (0 : Int32)), (.ref a1)])) _
    refine XS.aloadN X2.here hx rfl (hb hby d_jdk_52_method_16_code_6) rfl rfl ?_
    show Steps p.tables e below (T2.setTop (mkF m 7 #[rv a1, iv (0 : Int32), iv (2 : Int32), rv b2, .unset, .unset] [(.ref b2), (.int (0 : Int32)), (.ref a1)])) _
    refine XS.iconst X2.here hx rfl (hb hby d_jdk_52_method_16_code_7) ?_
    show Steps p.tables e below (T2.setTop (mkF m 8 #[rv a1, iv (0 : Int32), iv (2 : Int32), rv b2, .unset, .unset] [(.int (0 : Int32)), (.ref b2), (.int (0 : Int32)), (.ref a1)])) _
    refine XS.iloadN X2.here hx rfl (hb hby d_jdk_52_method_16_code_8) rfl ?_
    show Steps p.tables e below (T2.setTop (mkF m 9 #[rv a1, iv (0 : Int32), iv (2 : Int32), rv b2, .unset, .unset] [(.int (2 : Int32)), (.int (0 : Int32)), (.ref b2), (.int (0 : Int32)), (.ref a1)])) _
    exact k
  have f5 : Arv Z h2 a1 kc .char (2 : Int32) [(.int q0), (.int q1)] (.int (0 : Int32)) := (a_0.ext E2)
  have ge6 : n0 ≤ b2 := Nat.le_trans (own_old O0) (Nat.le_of_eq g2.symm)
  obtain ⟨_, _, ⟨T7, L7, kk7, nn7⟩, -, X7, ⟨Lc7, hQ7, l7, y7, z7⟩, st7⟩ := Jvm.LawKit.callS X2 hx (y := (⟨"java/lang/StringUTF16", "compress", "([CI[BII)I"⟩ : MethodName)) hown (mvT hZ (hw _ (List.mem_of_getElem? (i := 20) rfl))) (mvT hZ (hw _ (List.mem_of_getElem? (i := 21) rfl))) (mvT hZ (hw _ (List.mem_of_getElem? (i := 17) rfl))) (mvT hZ (hw _ (List.mem_of_getElem? (i := 22) rfl))) (by decide) (backOf (W := 0) (scomp1_2 l Z a0 hw [] wCS w_US w_SS G a1 b2 kc c2 q0 q1 h2 n0 O2 (f5 : Arv Z h2 a1 kc .char (2 : Int32) [(.int q0), (.int q1)] (.int (0 : Int32))) (v2 : Arv Z h2 b2 c2 .byte (2 : Int32) [(.int (0 : Int32)), (.int (0 : Int32))] (.int (0 : Int32))) ((Nat.ne_of_lt (Nat.lt_of_lt_of_le a_0.lt (Nat.le_of_eq g2.symm))) : a1 ≠ b2) (ge6 : n0 ≤ b2) (by first | assumption | decide | omega : ¬ ((255 : Int32) < q0)) (by first | assumption | decide | omega : ¬ ((255 : Int32) < q1))) hZ (hw _ (List.mem_of_getElem? (i := 22) rfl)) (hw _ (List.mem_of_getElem? (i := 17) rfl)) (by decide) (by decide)) (g := (mkF m 9 #[rv a1, iv (0 : Int32), iv (2 : Int32), rv b2, .unset, .unset] [(.int (2 : Int32)), (.int (0 : Int32)), (.ref b2), (.int (0 : Int32)), (.ref a1)])) rfl (by rw [hml]; rfl) (argsL := [(.ref a1), (.int (0 : Int32)), (.ref b2), (.int (0 : Int32)), (.int (2 : Int32))]) (rest := []) (lenOf pd_0 rfl) rfl (by show 2 * 0 + _ ≤ _; exact Nat.le_of_eq rfl) (hb hby d_jdk_52_method_16_code_9) (fun _ _ => ⟨rfl, e2, (by decide : 1 + 0 ≤ _), (by decide : 2 + 0 ≤ _)⟩)
  dsimp only [Pt.U, Pt.locs, Pt.cells, Pt.slots] at X7 l7 y7 z7 st7 hQ7
  subst l7 y7 z7
  obtain ⟨rfl, Nq7, Kq7, po7_0⟩ := hQ7
  have N7 := Fr.app N0 Nq7
  have O7 := O2.keep Kq7 (allS ge6 all0)
  have gz8 : h0.size ≤ b2 := Nat.le_trans (Keep.refl h0 []).1 (Nat.le_of_eq g2.symm)
  have K7 : Keep h0 T7.heap [] := K2.trans Kq7 (allS (Or.inr gz8) all0)
  have k9 : Way p e below S0 T7 (mkF m 12 #[rv a1, iv (0 : Int32), iv (2 : Int32), rv b2, .unset, .unset] [(.int (2 : Int32))]) := fun t k => k4 t (st7 _ k)
  have k10 : Way p e below S0 T7 (mkF m 58 #[rv a1, iv (0 : Int32), iv (2 : Int32), rv b2, iv (2 : Int32), .unset] [(.ref b2)]) := by
    intro t k
    refine k9 t ?_
    refine XS.istore X7.here hx rfl (hb hby d_jdk_52_method_16_code_12) rfl (l' := #[rv a1, iv (0 : Int32), iv (2 : Int32), rv b2, iv (2 : Int32), .unset]) rfl ?_
    show Steps p.tables e below (T7.setTop (mkF m 14 #[rv a1, iv (0 : Int32), iv (2 : Int32), rv b2, iv (2 : Int32), .unset] [])) _
    refine XS.iload X7.here hx rfl (hb hby d_jdk_52_method_16_code_14) rfl ?_
    show Steps p.tables e below (T7.setTop (mkF m 16 #[rv a1, iv (0 : Int32), iv (2 : Int32), rv b2, iv (2 : Int32), .unset] [(.int (2 : Int32))])) _
    refine XS.iloadN X7.here hx rfl (hb hby d_jdk_52_method_16_code_16) rfl ?_
    show Steps p.tables e below (T7.setTop (mkF m 17 #[rv a1, iv (0 : Int32), iv (2 : Int32), rv b2, iv (2 : Int32), .unset] [(.int (2 : Int32)), (.int (2 : Int32))])) _
    refine XS.icmpYes X7.here hx rfl (pc0 := 17) (pc' := 57) rfl (hb hby d_jdk_52_method_16_code_17) rfl (teq ((by decide) : (2 : Int32) = (2 : Int32))).1 (by decide) (by decide) ?_
    show Steps p.tables e below (T7.setTop (mkF m 57 #[rv a1, iv (0 : Int32), iv (2 : Int32), rv b2, iv (2 : Int32), .unset] [])) _
    refine XS.aloadN X7.here hx rfl (hb hby d_jdk_52_method_16_code_57) rfl rfl ?_
    show Steps p.tables e below (T7.setTop (mkF m 58 #[rv a1, iv (0 : Int32), iv (2 : Int32), rv b2, iv (2 : Int32), .unset] [(.ref b2)])) _
    exact k
  obtain ⟨fs, hr, hrun, hended, hW, hsame⟩ := X7.leave (v := some (.ref b2)) (fun h => by rw [Bd.returns] at h; cases h)
  have f11 : Exa Z T7.heap b2 "[B" := (B2.keep Kq7)
  refine ⟨_, _, k10 _ (retOut X7 hx Bd.returns rfl (Or.inr (Or.inr (Or.inr (Or.inr ⟨rfl, rfl, rfl⟩)))) (hb hby d_jdk_52_method_16_code_58) hr), hrun, hended, _, _, rfl, ?_, ⟨_, rfl⟩, hW, hsame.mono (by decide) (by decide)⟩
  show Q_scomp_2 Z wCS w_US w_SS a1 kc q0 q1 h0 n0 _ T7.heap _
  exact ⟨b2, c2, rfl, N7, K7, gz8, po7_0, f11⟩
def Q_scoder_2 (Z : State) (wCS : Int32) (w_US : Addr) (w_SS : Addr) (a1 : Addr) (kb : ClassId) (q0 : Int32) (q1 : Int32) (h0 : Heap) (n0 : Nat) (v : Option Value) (h : Heap) (L : List Loc) : Prop := (v = some (.int (0 : Int32))) ∧ (Fr n0 L) ∧ (h = h0)
set_option maxRecDepth 65536 in
set_option maxHeartbeats 40000000 in
theorem scoder_2 (l : Launch) (Z : State) (a0 : Array Value) (hw : ∀ d ∈ tables_1, d.before a0 Z = true) (ws : List Jvm.Cond) (wCS : Int32) (w_US : Addr) (w_SS : Addr) (G : Gst Z wCS w_US w_SS) (a1 : Addr) (kb : ClassId) (q0 : Int32) (q1 : Int32) (h0 : Heap) (n0 : Nat) (O0 : Old Z n0 h0) (a_0 : Arv Z h0 a1 kb .byte (2 : Int32) [(.int q0), (.int q1)] (.int (0 : Int32))) :
    MetFree l (⟨"java/lang/StringUTF16", "coderFromArrayLen", "([BI)B"⟩ : MethodName) (head1 (Jvm.Cond.code (⟨"java/lang/StringUTF16", "coderFromArrayLen", "([BI)B"⟩ : MethodName) jdk_52_method_15_code 2 (some .byte) :: ws) ({ frames := 0, cells := 0, slots := 0, locals := 0 } : Room)) (fun a U => a = #[(.ref a1), (.int (2 : Int32))] ∧ Z.Warmed39 U.vm ∧ U.heap = h0) (fun _ _ _ _ _ => True) (fun _ U o U' => ∃ v L, o = .returned v ∧ Q_scoder_2 Z wCS w_US w_SS a1 kb q0 q1 h0 n0 v U'.heap L ∧ FrameEnd U o U' L ({ frames := 0, cells := 0, slots := 0, locals := 0 } : Room).cells ({ frames := 0, cells := 0, slots := 0, locals := 0 } : Room).slots) := by
  refine MetFree.of_bodySF (plainFor_of_name pn_0) hisR ?_
  intro p e s m args below meth c s₁ Bd hml0 hP hK
  obtain ⟨rfl, hZ, hh⟩ := hP
  have hx := Bd.exec
  have hby := Bd.bytes
  have hml : c.maxLocals = 2 := hml0
  have hown : s.vm.findClass "java/lang/StringUTF16" = some m.cls := findClass_of_methodNamed Bd.named
  have hnm := (name_of_methodNamed Bd.named Bd.method).1
  have X0 : Stand p l e ({ frames := 0, cells := 0, slots := 0, locals := 0 } : Room) s m #[(.ref a1), (.int (2 : Int32))] below meth c s₁ [] 0 0 := Stand.of_body Bd
  have e0 : s₁.heap = h0 := by rw [← hh, Bd.state]; rfl
  have N0 := Fr.nil n0
  obtain ⟨S_CS, hCS, S_US, S_SS⟩ := id G
  have k0 : Way p e below (s₁.setTop (entryFrame m #[(.ref a1), (.int (2 : Int32))] 2)) s₁ (mkF m 0 #[rv a1, iv (2 : Int32)] []) := fun t k => castTop (by first | (simp [entryFrame, mkF, argsToLocals, Value.category]; done) | rfl) k
  generalize s₁.setTop (entryFrame m #[(.ref a1), (.int (2 : Int32))] 2) = S0 at k0 ⊢
  have k1 : Way p e below S0 s₁ (mkF m 2 #[rv a1, iv (2 : Int32)] [(.ref a1), (.int (2 : Int32))]) := by
    intro t k
    refine k0 t ?_
    refine XS.iloadN X0.here hx rfl (hb hby d_jdk_52_method_15_code_0) rfl ?_
    show Steps p.tables e below (s₁.setTop (mkF m 1 #[rv a1, iv (2 : Int32)] [(.int (2 : Int32))])) _
    refine XS.aloadN X0.here hx rfl (hb hby d_jdk_52_method_15_code_1) rfl rfl ?_
    show Steps p.tables e below (s₁.setTop (mkF m 2 #[rv a1, iv (2 : Int32)] [(.ref a1), (.int (2 : Int32))])) _
    exact k
  obtain ⟨cl2, Ar2, -, S2, M2, -, -⟩ := id (a_0)
  have k3 : Way p e below S0 s₁ (mkF m 3 #[rv a1, iv (2 : Int32)] [(.int (2 : Int32)), (.int (2 : Int32))]) := fun t k => k1 t (X0.arraylength hx (by rw [e0]; exact Ar2.1) (State.isArrayOf_alike hZ.alike Ar2.2.1) (g := (mkF m 2 #[rv a1, iv (2 : Int32)] [(.ref a1), (.int (2 : Int32))])) rfl rfl (hb hby d_jdk_52_method_15_code_2) _ (by rw [len_of S2 M2]; exact k))
  have k4 : Way p e below S0 s₁ (mkF m 8 #[rv a1, iv (2 : Int32)] [(.int (0 : Int32))]) := by
    intro t k
    refine k3 t ?_
    refine XS.isub X0.here hx rfl (hb hby d_jdk_52_method_15_code_3) rfl ?_
    show Steps p.tables e below (s₁.setTop (mkF m 4 #[rv a1, iv (2 : Int32)] [(.int (0 : Int32))])) _
    refine XS.bipush X0.here hx rfl (hb hby d_jdk_52_method_15_code_4) ?_
    show Steps p.tables e below (s₁.setTop (mkF m 6 #[rv a1, iv (2 : Int32)] [(.int (31 : Int32)), (.int (0 : Int32))])) _
    refine XS.iushr X0.here hx rfl (hb hby d_jdk_52_method_15_code_6) rfl ?_
    show Steps p.tables e below (s₁.setTop (mkF m 7 #[rv a1, iv (2 : Int32)] [(.int (0 : Int32))])) _
    refine XS.i2b X0.here hx rfl (hb hby d_jdk_52_method_15_code_7) rfl ?_
    show Steps p.tables e below (s₁.setTop (mkF m 8 #[rv a1, iv (2 : Int32)] [(.int (0 : Int32))])) _
    exact k
  obtain ⟨fs, hr, hrun, hended, hW, hsame⟩ := X0.leave (v := some (.int (0 : Int32))) (fun h => by rw [Bd.returns] at h; cases h)
  refine ⟨_, _, k4 _ (retN X0 hx (t := .byte) Bd.returns (by simp) (hb hby d_jdk_52_method_15_code_8) hr), hrun, hended, _, _, rfl, ?_, ⟨_, rfl⟩, hW, hsame.mono (by decide) (by decide)⟩
  show Q_scoder_2 Z wCS w_US w_SS a1 kb q0 q1 h0 n0 _ s₁.heap _
  rw [e0]
  exact ⟨rfl, N0, rfl⟩
def Q_sinit4_2 (Z : State) (wCS : Int32) (w_US : Addr) (w_SS : Addr) (a1 : Addr) (a2 : Addr) (kc : ClassId) (q0 : Int32) (q1 : Int32) (h0 : Heap) (n0 : Nat) (v : Option Value) (h : Heap) (L : List Loc) : Prop := ∃ d1 : Addr, ∃ kb : ClassId, (v = none) ∧ (Fr n0 L) ∧ (Keep h0 h [a1]) ∧ (h0.size ≤ d1) ∧ (Exa Z h a1 "java/lang/String") ∧ (Fld Z h a1 "java/lang/String" "value" "[B" (.ref d1)) ∧ (Fld Z h a1 "java/lang/String" "coder" "B" (.int (0 : Int32))) ∧ (Arv Z h d1 kb .byte (2 : Int32) [(.int ((q0.toInt8.toInt32).toInt8.toInt32)), (.int ((q1.toInt8.toInt32).toInt8.toInt32))] (.int (0 : Int32))) ∧ (Exa Z h d1 "[B")
set_option maxRecDepth 65536 in
set_option maxHeartbeats 40000000 in
theorem sinit4_2 (l : Launch) (Z : State) (a0 : Array Value) (hw : ∀ d ∈ tables_1, d.before a0 Z = true) (ws : List Jvm.Cond) (wCS : Int32) (w_US : Addr) (w_SS : Addr) (G : Gst Z wCS w_US w_SS) (a1 : Addr) (a2 : Addr) (kc : ClassId) (q0 : Int32) (q1 : Int32) (h0 : Heap) (n0 : Nat) (O0 : Old Z n0 h0) (a_0 : Exa Z h0 a1 "java/lang/String") (a_1 : Fld Z h0 a1 "java/lang/String" "value" "[B" .null) (a_2 : Fld Z h0 a1 "java/lang/String" "coder" "B" (.int (0 : Int32))) (ga1 : n0 ≤ a1) (hne : a1 ≠ a2) (a_5 : Arv Z h0 a2 kc .char (2 : Int32) [(.int q0), (.int q1)] (.int (0 : Int32))) (hq0 : ¬ ((255 : Int32) < q0)) (hq1 : ¬ ((255 : Int32) < q1)) :
    MetFree l (⟨"java/lang/String", "<init>", "([CIILjava/lang/Void;)V"⟩ : MethodName) (head1 (Jvm.Cond.code (⟨"java/lang/String", "<init>", "([CIILjava/lang/Void;)V"⟩ : MethodName) jdk_42_method_149_code 6 none :: ws) ({ frames := 2, cells := 1, slots := 2, locals := 35 } : Room)) (fun a U => a = #[(.ref a1), (.ref a2), (.int (0 : Int32)), (.int (2 : Int32)), .null] ∧ Z.Warmed39 U.vm ∧ U.heap = h0) (fun _ _ _ _ _ => True) (fun _ U o U' => ∃ v L, o = .returned v ∧ Q_sinit4_2 Z wCS w_US w_SS a1 a2 kc q0 q1 h0 n0 v U'.heap L ∧ FrameEnd U o U' L ({ frames := 2, cells := 1, slots := 2, locals := 35 } : Room).cells ({ frames := 2, cells := 1, slots := 2, locals := 35 } : Room).slots) := by
  refine MetFree.of_bodySF (plainFor_of_name pn_1) hisR ?_
  intro p e s m args below meth c s₁ Bd hml0 hP hK
  obtain ⟨rfl, hZ, hh⟩ := hP
  have hx := Bd.exec
  have hby := Bd.bytes
  have hml : c.maxLocals = 6 := hml0
  have hown : s.vm.findClass "java/lang/String" = some m.cls := findClass_of_methodNamed Bd.named
  have hnm := (name_of_methodNamed Bd.named Bd.method).1
  have X0 : Stand p l e ({ frames := 2, cells := 1, slots := 2, locals := 35 } : Room) s m #[(.ref a1), (.ref a2), (.int (0 : Int32)), (.int (2 : Int32)), .null] below meth c s₁ [] 0 0 := Stand.of_body Bd
  have e0 : s₁.heap = h0 := by rw [← hh, Bd.state]; rfl
  have N0 := Fr.nil n0
  obtain ⟨S_CS, hCS, S_US, S_SS⟩ := id G
  have k0 : Way p e below (s₁.setTop (entryFrame m #[(.ref a1), (.ref a2), (.int (0 : Int32)), (.int (2 : Int32)), .null] 6)) s₁ (mkF m 0 #[rv a1, rv a2, iv (0 : Int32), iv (2 : Int32), .val .null, .unset] []) := fun t k => castTop (by first | (simp [entryFrame, mkF, argsToLocals, Value.category]; done) | rfl) k
  generalize s₁.setTop (entryFrame m #[(.ref a1), (.ref a2), (.int (0 : Int32)), (.int (2 : Int32)), .null] 6) = S0 at k0 ⊢
  have k1 : Way p e below S0 s₁ (mkF m 1 #[rv a1, rv a2, iv (0 : Int32), iv (2 : Int32), .val .null, .unset] [(.ref a1)]) := by
    intro t k
    refine k0 t ?_
    refine XS.aloadN X0.here hx rfl (hb hby d_jdk_42_method_149_code_0) rfl rfl ?_
    show Steps p.tables e below (s₁.setTop (mkF m 1 #[rv a1, rv a2, iv (0 : Int32), iv (2 : Int32), .val .null, .unset] [(.ref a1)])) _
    exact k
  obtain ⟨T2, X2, e2, st2⟩ := initO X0 hx hZ hown (hw _ (List.mem_of_getElem? (i := 11) rfl)) (hw _ (List.mem_of_getElem? (i := 12) rfl)) (hw _ (List.mem_of_getElem? (i := 13) rfl)) e0 (g := (mkF m 1 #[rv a1, rv a2, iv (0 : Int32), iv (2 : Int32), .val .null, .unset] [(.ref a1)])) rfl (by rw [hml]; rfl) rfl (hb hby d_jdk_42_method_149_code_1) (by decide) (W := 0) (by show 2 * 0 + _ ≤ _; exact Nat.le_of_eq rfl) (by decide)
  have k3 : Way p e below S0 T2 (mkF m 4 #[rv a1, rv a2, iv (0 : Int32), iv (2 : Int32), .val .null, .unset] []) := fun t k => k1 t (st2 _ k)
  have k4 : Way p e below S0 T2 (mkF m 27 #[rv a1, rv a2, iv (0 : Int32), iv (2 : Int32), .val .null, .unset] []) := by
    intro t k
    refine k3 t ?_
    refine XS.iloadN X2.here hx rfl (hb hby d_jdk_42_method_149_code_4) rfl ?_
    show Steps p.tables e below (T2.setTop (mkF m 5 #[rv a1, rv a2, iv (0 : Int32), iv (2 : Int32), .val .null, .unset] [(.int (2 : Int32))])) _
    refine XS.ifYes X2.here hx rfl (pc0 := 5) (pc' := 27) rfl (hb hby d_jdk_42_method_149_code_5) rfl ((if0 _ _).trans (feq ((by decide) : ¬ ((2 : Int32) = (0 : Int32)))).2) (by decide) (by decide) ?_
    show Steps p.tables e below (T2.setTop (mkF m 27 #[rv a1, rv a2, iv (0 : Int32), iv (2 : Int32), .val .null, .unset] [])) _
    exact k
  obtain ⟨T5, X5, e5, st5⟩ := getS2 X2 hx hZ hown (host := "") (Or.inl (hw _ (List.mem_of_getElem? (i := 14) rfl))) Via.refl e2 (S_CS.ext O0.2) (g := (mkF m 27 #[rv a1, rv a2, iv (0 : Int32), iv (2 : Int32), .val .null, .unset] [])) rfl (hb hby d_jdk_42_method_149_code_27)
  have k6 : Way p e below S0 T5 (mkF m 30 #[rv a1, rv a2, iv (0 : Int32), iv (2 : Int32), .val .null, .unset] [(.int wCS)]) := fun t k => k4 t (st5 _ k)
  have k7 : Way p e below S0 T5 (mkF m 36 #[rv a1, rv a2, iv (0 : Int32), iv (2 : Int32), .val .null, .unset] [(.int (2 : Int32)), (.int (0 : Int32)), (.ref a2)]) := by
    intro t k
    refine k6 t ?_
    refine XS.ifNo X5.here hx rfl (hb hby d_jdk_42_method_149_code_30) rfl ((if0 _ _).trans (feq (hCS : ¬ (wCS = (0 : Int32)))).1) ?_
    show Steps p.tables e below (T5.setTop (mkF m 33 #[rv a1, rv a2, iv (0 : Int32), iv (2 : Int32), .val .null, .unset] [])) _
    refine XS.aloadN X5.here hx rfl (hb hby d_jdk_42_method_149_code_33) rfl rfl ?_
    show Steps p.tables e below (T5.setTop (mkF m 34 #[rv a1, rv a2, iv (0 : Int32), iv (2 : Int32), .val .null, .unset] [(.ref a2)])) _
    refine XS.iloadN X5.here hx rfl (hb hby d_jdk_42_method_149_code_34) rfl ?_
    show Steps p.tables e below (T5.setTop (mkF m 35 #[rv a1, rv a2, iv (0 : Int32), iv (2 : Int32), .val .null, .unset] [(.int (0 : Int32)), (.ref a2)])) _
    refine XS.iloadN X5.here hx rfl (hb hby d_jdk_42_method_149_code_35) rfl ?_
    show Steps p.tables e below (T5.setTop (mkF m 36 #[rv a1, rv a2, iv (0 : Int32), iv (2 : Int32), .val .null, .unset] [(.int (2 : Int32)), (.int (0 : Int32)), (.ref a2)])) _
    exact k
  obtain ⟨_, _, ⟨T8, L8, kk8, nn8⟩, -, X8, ⟨Lc8, hQ8, l8, y8, z8⟩, st8⟩ := Jvm.LawKit.callS X5 hx (y := (⟨"java/lang/StringUTF16", "compress", "([CII)[B"⟩ : MethodName)) hown (mvT hZ (hw _ (List.mem_of_getElem? (i := 15) rfl))) (mvT hZ (hw _ (List.mem_of_getElem? (i := 16) rfl))) (mvT hZ (hw _ (List.mem_of_getElem? (i := 17) rfl))) (mvT hZ (hw _ (List.mem_of_getElem? (i := 18) rfl))) (by decide) (backOf (W := 0) (scomp_2 l Z a0 hw [] wCS w_US w_SS G a2 kc q0 q1 h0 n0 O0 (a_5 : Arv Z h0 a2 kc .char (2 : Int32) [(.int q0), (.int q1)] (.int (0 : Int32))) (by first | assumption | decide | omega : ¬ ((255 : Int32) < q0)) (by first | assumption | decide | omega : ¬ ((255 : Int32) < q1))) hZ (hw _ (List.mem_of_getElem? (i := 18) rfl)) (hw _ (List.mem_of_getElem? (i := 17) rfl)) (by decide) (by decide)) (g := (mkF m 36 #[rv a1, rv a2, iv (0 : Int32), iv (2 : Int32), .val .null, .unset] [(.int (2 : Int32)), (.int (0 : Int32)), (.ref a2)])) rfl (by rw [hml]; rfl) (argsL := [(.ref a2), (.int (0 : Int32)), (.int (2 : Int32))]) (rest := []) (lenOf pd_1 rfl) rfl (by show 2 * 0 + _ ≤ _; exact Nat.le_of_eq rfl) (hb hby d_jdk_42_method_149_code_36) (fun _ _ => ⟨rfl, e5, (by decide : 0 + 1 ≤ _), (by decide : 0 + 2 ≤ _)⟩)
  dsimp only [Pt.U, Pt.locs, Pt.cells, Pt.slots] at X8 l8 y8 z8 st8 hQ8
  subst l8 y8 z8
  obtain ⟨b1_8, kb_8, rfl, Nq8, Kq8, po8_0, po8_1, po8_2⟩ := hQ8
  have N8 := Fr.app N0 Nq8
  have O8 := O0.keep Kq8 all0
  have K8 : Keep h0 T8.heap [a1] := (Keep.refl h0 [a1]).trans Kq8 all0
  have k9 : Way p e below S0 T8 (mkF m 39 #[rv a1, rv a2, iv (0 : Int32), iv (2 : Int32), .val .null, .unset] [(.ref b1_8)]) := fun t k => k7 t (st8 _ k)
  have k10 : Way p e below S0 T8 (mkF m 45 #[rv a1, rv a2, iv (0 : Int32), iv (2 : Int32), .val .null, rv b1_8] [(.int (2 : Int32)), (.ref b1_8), (.ref a1)]) := by
    intro t k
    refine k9 t ?_
    refine XS.astore X8.here hx rfl (hb hby d_jdk_42_method_149_code_39) rfl rfl (l' := #[rv a1, rv a2, iv (0 : Int32), iv (2 : Int32), .val .null, rv b1_8]) rfl ?_
    show Steps p.tables e below (T8.setTop (mkF m 41 #[rv a1, rv a2, iv (0 : Int32), iv (2 : Int32), .val .null, rv b1_8] [])) _
    refine XS.aloadN X8.here hx rfl (hb hby d_jdk_42_method_149_code_41) rfl rfl ?_
    show Steps p.tables e below (T8.setTop (mkF m 42 #[rv a1, rv a2, iv (0 : Int32), iv (2 : Int32), .val .null, rv b1_8] [(.ref a1)])) _
    refine XS.aload X8.here hx rfl (hb hby d_jdk_42_method_149_code_42) rfl rfl ?_
    show Steps p.tables e below (T8.setTop (mkF m 44 #[rv a1, rv a2, iv (0 : Int32), iv (2 : Int32), .val .null, rv b1_8] [(.ref b1_8), (.ref a1)])) _
    refine XS.iloadN X8.here hx rfl (hb hby d_jdk_42_method_149_code_44) rfl ?_
    show Steps p.tables e below (T8.setTop (mkF m 45 #[rv a1, rv a2, iv (0 : Int32), iv (2 : Int32), .val .null, rv b1_8] [(.int (2 : Int32)), (.ref b1_8), (.ref a1)])) _
    exact k
  obtain ⟨_, _, ⟨T11, L11, kk11, nn11⟩, -, X11, ⟨Lc11, hQ11, l11, y11, z11⟩, st11⟩ := Jvm.LawKit.callS X8 hx (y := (⟨"java/lang/StringUTF16", "coderFromArrayLen", "([BI)B"⟩ : MethodName)) hown (mvT hZ (hw _ (List.mem_of_getElem? (i := 23) rfl))) (mvT hZ (hw _ (List.mem_of_getElem? (i := 24) rfl))) (mvT hZ (hw _ (List.mem_of_getElem? (i := 17) rfl))) (mvT hZ (hw _ (List.mem_of_getElem? (i := 25) rfl))) (by decide) (backOf (W := 1) (scoder_2 l Z a0 hw [] wCS w_US w_SS G b1_8 kb_8 ((q0.toInt8.toInt32).toInt8.toInt32) ((q1.toInt8.toInt32).toInt8.toInt32) T8.heap n0 O8 (po8_1 : Arv Z T8.heap b1_8 kb_8 .byte (2 : Int32) [(.int ((q0.toInt8.toInt32).toInt8.toInt32)), (.int ((q1.toInt8.toInt32).toInt8.toInt32))] (.int (0 : Int32)))) hZ (hw _ (List.mem_of_getElem? (i := 25) rfl)) (hw _ (List.mem_of_getElem? (i := 17) rfl)) (by decide) (by decide)) (g := (mkF m 45 #[rv a1, rv a2, iv (0 : Int32), iv (2 : Int32), .val .null, rv b1_8] [(.int (2 : Int32)), (.ref b1_8), (.ref a1)])) rfl (by rw [hml]; rfl) (argsL := [(.ref b1_8), (.int (2 : Int32))]) (rest := [(.ref a1)]) (lenOf pd_2 rfl) rfl (by show 2 * 0 + _ ≤ _; exact Nat.le_of_eq rfl) (hb hby d_jdk_42_method_149_code_45) (fun _ _ => ⟨rfl, rfl, (by decide : 1 + 0 ≤ _), (by decide : 2 + 0 ≤ _)⟩)
  dsimp only [Pt.U, Pt.locs, Pt.cells, Pt.slots] at X11 l11 y11 z11 st11 hQ11
  subst l11 y11 z11
  obtain ⟨rfl, Nq11, e11⟩ := hQ11
  have N11 := Fr.app N8 Nq11
  have k12 : Way p e below S0 T11 (mkF m 48 #[rv a1, rv a2, iv (0 : Int32), iv (2 : Int32), .val .null, rv b1_8] [(.int (0 : Int32)), (.ref a1)]) := fun t k => k10 t (st11 _ k)
  have f13 : Fld Z T8.heap a1 "java/lang/String" "coder" "B" (.int (0 : Int32)) := (a_2.keep Kq8 nin0)
  have f14 : Exa Z T8.heap a1 "java/lang/String" := (a_0.keep Kq8)
  obtain ⟨T15, h15, X15, e15, W15, st15⟩ := putFN X11 hx hZ hown (hw _ (List.mem_of_getElem? (i := 26) rfl)) Via.refl e11 f13 f14 (Or.inr ⟨(hw _ (List.mem_of_getElem? (i := 27) rfl)), rfl, hnm⟩) (hw _ (List.mem_of_getElem? (i := 2) rfl)) (ty := .byte) (v' := (.int (0 : Int32))) (by decide) rfl rfl (g := (mkF m 48 #[rv a1, rv a2, iv (0 : Int32), iv (2 : Int32), .val .null, rv b1_8] [(.int (0 : Int32)), (.ref a1)])) rfl rfl (hb hby d_jdk_42_method_149_code_48)
  have O15 := O8.wr W15 ga1
  have N15 := Fr.snoc X15 N11 ga1
  have K15 : Keep h0 h15 [a1] := K8.wr W15 (Or.inl (List.mem_of_getElem? (i := 0) rfl))
  have fw15 : Fld Z h15 a1 "java/lang/String" "coder" "B" (.int (0 : Int32)) := f13.same W15
  have k16 : Way p e below S0 T15 (mkF m 51 #[rv a1, rv a2, iv (0 : Int32), iv (2 : Int32), .val .null, rv b1_8] []) := fun t k => k12 t (st15 _ k)
  have k17 : Way p e below S0 T15 (mkF m 54 #[rv a1, rv a2, iv (0 : Int32), iv (2 : Int32), .val .null, rv b1_8] [(.ref b1_8), (.ref a1)]) := by
    intro t k
    refine k16 t ?_
    refine XS.aloadN X15.here hx rfl (hb hby d_jdk_42_method_149_code_51) rfl rfl ?_
    show Steps p.tables e below (T15.setTop (mkF m 52 #[rv a1, rv a2, iv (0 : Int32), iv (2 : Int32), .val .null, rv b1_8] [(.ref a1)])) _
    refine XS.aload X15.here hx rfl (hb hby d_jdk_42_method_149_code_52) rfl rfl ?_
    show Steps p.tables e below (T15.setTop (mkF m 54 #[rv a1, rv a2, iv (0 : Int32), iv (2 : Int32), .val .null, rv b1_8] [(.ref b1_8), (.ref a1)])) _
    exact k
  have f18 : Fld Z h15 a1 "java/lang/String" "value" "[B" .null := ((a_1.keep Kq8 nin0).other W15 (Or.inr (slot_ne (Or.inr (hw _ (List.mem_of_getElem? (i := 29) rfl))) (Or.inr (hw _ (List.mem_of_getElem? (i := 27) rfl))) (by decide) (t := (.array .byte)) (t' := .byte) (by decide) (by decide))))
  have f19 : Exa Z h15 a1 "java/lang/String" := (f14.wr W15)
  obtain ⟨T20, h20, X20, e20, W20, st20⟩ := putF X15 hx hZ hown (host := "") (Or.inl (hw _ (List.mem_of_getElem? (i := 28) rfl))) Via.refl e15 f18 f19 (Or.inr ⟨(hw _ (List.mem_of_getElem? (i := 29) rfl)), rfl, hnm⟩) (hw _ (List.mem_of_getElem? (i := 2) rfl)) (ty := (.array .byte)) (by decide) rfl rfl (g := (mkF m 54 #[rv a1, rv a2, iv (0 : Int32), iv (2 : Int32), .val .null, rv b1_8] [(.ref b1_8), (.ref a1)])) rfl rfl (hb hby d_jdk_42_method_149_code_54)
  have O20 := O15.wr W20 ga1
  have N20 := Fr.snoc X20 N15 ga1
  have K20 : Keep h0 h20 [a1] := K15.wr W20 (Or.inl (List.mem_of_getElem? (i := 0) rfl))
  have fw20 : Fld Z h20 a1 "java/lang/String" "value" "[B" (.ref b1_8) := f18.same W20
  have k21 : Way p e below S0 T20 (mkF m 57 #[rv a1, rv a2, iv (0 : Int32), iv (2 : Int32), .val .null, rv b1_8] []) := fun t k => k17 t (st20 _ k)
  obtain ⟨fs, hr, hrun, hended, hW, hsame⟩ := X20.leave (v := none) (fun _ => rfl)
  have gz22 : h0.size ≤ b1_8 := Nat.le_trans (Keep.refl h0 [a1]).1 po8_0
  have f23 : Exa Z h20 a1 "java/lang/String" := (f19.wr W20)
  have f24 : Fld Z h20 a1 "java/lang/String" "coder" "B" (.int (0 : Int32)) := (fw15.other W20 (Or.inr (slot_ne (Or.inr (hw _ (List.mem_of_getElem? (i := 27) rfl))) (Or.inr (hw _ (List.mem_of_getElem? (i := 29) rfl))) (by decide) (t := .byte) (t' := (.array .byte)) (by decide) (by decide))))
  have f25 : Arv Z h20 b1_8 kb_8 .byte (2 : Int32) [(.int ((q0.toInt8.toInt32).toInt8.toInt32)), (.int ((q1.toInt8.toInt32).toInt8.toInt32))] (.int (0 : Int32)) := ((po8_1.other W15 (Ne.symm (Nat.ne_of_lt (Nat.lt_of_lt_of_le a_0.lt po8_0)))).other W20 (Ne.symm (Nat.ne_of_lt (Nat.lt_of_lt_of_le a_0.lt po8_0))))
  have f26 : Exa Z h20 b1_8 "[B" := ((po8_2.wr W15).wr W20)
  refine ⟨_, _, k21 _ (X20.returnOut hx Bd.returns (hb hby d_jdk_42_method_149_code_57) hr), hrun, hended, _, _, rfl, ?_, ⟨_, rfl⟩, hW, hsame.mono (by decide) (by decide)⟩
  show Q_sinit4_2 Z wCS w_US w_SS a1 a2 kc q0 q1 h0 n0 _ T20.heap _
  rw [e20]
  exact ⟨b1_8, kb_8, rfl, N20, K20, gz22, f23, fw20, f24, f25, f26⟩
def Q_sinit_2 (Z : State) (wCS : Int32) (w_US : Addr) (w_SS : Addr) (a1 : Addr) (a2 : Addr) (kc : ClassId) (q0 : Int32) (q1 : Int32) (h0 : Heap) (n0 : Nat) (v : Option Value) (h : Heap) (L : List Loc) : Prop := ∃ d1 : Addr, ∃ kb : ClassId, (v = none) ∧ (Fr n0 L) ∧ (Keep h0 h [a1]) ∧ (h0.size ≤ d1) ∧ (Exa Z h a1 "java/lang/String") ∧ (Fld Z h a1 "java/lang/String" "value" "[B" (.ref d1)) ∧ (Fld Z h a1 "java/lang/String" "coder" "B" (.int (0 : Int32))) ∧ (Arv Z h d1 kb .byte (2 : Int32) [(.int ((q0.toInt8.toInt32).toInt8.toInt32)), (.int ((q1.toInt8.toInt32).toInt8.toInt32))] (.int (0 : Int32))) ∧ (Exa Z h d1 "[B")
set_option maxRecDepth 65536 in
set_option maxHeartbeats 40000000 in
theorem sinit_2 (l : Launch) (Z : State) (a0 : Array Value) (hw : ∀ d ∈ tables_1, d.before a0 Z = true) (ws : List Jvm.Cond) (wCS : Int32) (w_US : Addr) (w_SS : Addr) (G : Gst Z wCS w_US w_SS) (a1 : Addr) (a2 : Addr) (kc : ClassId) (q0 : Int32) (q1 : Int32) (h0 : Heap) (n0 : Nat) (O0 : Old Z n0 h0) (a_0 : Exa Z h0 a1 "java/lang/String") (a_1 : Fld Z h0 a1 "java/lang/String" "value" "[B" .null) (a_2 : Fld Z h0 a1 "java/lang/String" "coder" "B" (.int (0 : Int32))) (ga1 : n0 ≤ a1) (hne : a1 ≠ a2) (a_5 : Arv Z h0 a2 kc .char (2 : Int32) [(.int q0), (.int q1)] (.int (0 : Int32))) (hq0 : ¬ ((255 : Int32) < q0)) (hq1 : ¬ ((255 : Int32) < q1)) :
    MetFree l (⟨"java/lang/String", "<init>", "([C)V"⟩ : MethodName) (head1 (Jvm.Cond.code (⟨"java/lang/String", "<init>", "([C)V"⟩ : MethodName) jdk_42_method_3_code 2 none :: ws) ({ frames := 3, cells := 1, slots := 2, locals := 52 } : Room)) (fun a U => a = #[(.ref a1), (.ref a2)] ∧ Z.Warmed39 U.vm ∧ U.heap = h0) (fun _ _ _ _ _ => True) (fun _ U o U' => ∃ v L, o = .returned v ∧ Q_sinit_2 Z wCS w_US w_SS a1 a2 kc q0 q1 h0 n0 v U'.heap L ∧ FrameEnd U o U' L ({ frames := 3, cells := 1, slots := 2, locals := 52 } : Room).cells ({ frames := 3, cells := 1, slots := 2, locals := 52 } : Room).slots) := by
  refine MetFree.of_bodySF (plainFor_of_name pn_1) hisR ?_
  intro p e s m args below meth c s₁ Bd hml0 hP hK
  obtain ⟨rfl, hZ, hh⟩ := hP
  have hx := Bd.exec
  have hby := Bd.bytes
  have hml : c.maxLocals = 2 := hml0
  have hown : s.vm.findClass "java/lang/String" = some m.cls := findClass_of_methodNamed Bd.named
  have hnm := (name_of_methodNamed Bd.named Bd.method).1
  have X0 : Stand p l e ({ frames := 3, cells := 1, slots := 2, locals := 52 } : Room) s m #[(.ref a1), (.ref a2)] below meth c s₁ [] 0 0 := Stand.of_body Bd
  have e0 : s₁.heap = h0 := by rw [← hh, Bd.state]; rfl
  have N0 := Fr.nil n0
  obtain ⟨S_CS, hCS, S_US, S_SS⟩ := id G
  have k0 : Way p e below (s₁.setTop (entryFrame m #[(.ref a1), (.ref a2)] 2)) s₁ (mkF m 0 #[rv a1, rv a2] []) := fun t k => castTop (by first | (simp [entryFrame, mkF, argsToLocals, Value.category]; done) | rfl) k
  generalize s₁.setTop (entryFrame m #[(.ref a1), (.ref a2)] 2) = S0 at k0 ⊢
  have k1 : Way p e below S0 s₁ (mkF m 4 #[rv a1, rv a2] [(.ref a2), (.int (0 : Int32)), (.ref a2), (.ref a1)]) := by
    intro t k
    refine k0 t ?_
    refine XS.aloadN X0.here hx rfl (hb hby d_jdk_42_method_3_code_0) rfl rfl ?_
    show Steps p.tables e below (s₁.setTop (mkF m 1 #[rv a1, rv a2] [(.ref a1)])) _
    refine XS.aloadN X0.here hx rfl (hb hby d_jdk_42_method_3_code_1) rfl rfl ?_
    show Steps p.tables e below (s₁.setTop (mkF m 2 #[rv a1, rv a2] [(.ref a2), (.ref a1)])) _
    refine XS.iconst X0.here hx rfl (hb hby d_jdk_42_method_3_code_2) ?_
    show Steps p.tables e below (s₁.setTop (mkF m 3 #[rv a1, rv a2] [(.int (0 : Int32)), (.ref a2), (.ref a1)])) _
    refine XS.aloadN X0.here hx rfl (hb hby d_jdk_42_method_3_code_3) rfl rfl ?_
    show Steps p.tables e below (s₁.setTop (mkF m 4 #[rv a1, rv a2] [(.ref a2), (.int (0 : Int32)), (.ref a2), (.ref a1)])) _
    exact k
  obtain ⟨cl2, Ar2, -, S2, M2, -, -⟩ := id (a_5)
  have k3 : Way p e below S0 s₁ (mkF m 5 #[rv a1, rv a2] [(.int (2 : Int32)), (.int (0 : Int32)), (.ref a2), (.ref a1)]) := fun t k => k1 t (X0.arraylength hx (by rw [e0]; exact Ar2.1) (State.isArrayOf_alike hZ.alike Ar2.2.1) (g := (mkF m 4 #[rv a1, rv a2] [(.ref a2), (.int (0 : Int32)), (.ref a2), (.ref a1)])) rfl rfl (hb hby d_jdk_42_method_3_code_4) _ (by rw [len_of S2 M2]; exact k))
  have k4 : Way p e below S0 s₁ (mkF m 6 #[rv a1, rv a2] [.null, (.int (2 : Int32)), (.int (0 : Int32)), (.ref a2), (.ref a1)]) := by
    intro t k
    refine k3 t ?_
    refine XS.aconstNull X0.here hx rfl (hb hby d_jdk_42_method_3_code_5) ?_
    show Steps p.tables e below (s₁.setTop (mkF m 6 #[rv a1, rv a2] [.null, (.int (2 : Int32)), (.int (0 : Int32)), (.ref a2), (.ref a1)])) _
    exact k
  obtain ⟨_, _, ⟨T5, L5, kk5, nn5⟩, -, X5, ⟨Lc5, hQ5, l5, y5, z5⟩, st5⟩ := X0.specialBack hx (y := (⟨"java/lang/String", "<init>", "([CIILjava/lang/Void;)V"⟩ : MethodName)) rfl hown (mvT hZ (hw _ (List.mem_of_getElem? (i := 7) rfl))) (mvT hZ (hw _ (List.mem_of_getElem? (i := 8) rfl))) (mvT hZ (hw _ (List.mem_of_getElem? (i := 10) rfl))) (by decide) (backOf (W := 0) (sinit4_2 l Z a0 hw [] wCS w_US w_SS G a1 a2 kc q0 q1 h0 n0 O0 (a_0 : Exa Z h0 a1 "java/lang/String") (a_1 : Fld Z h0 a1 "java/lang/String" "value" "[B" .null) (a_2 : Fld Z h0 a1 "java/lang/String" "coder" "B" (.int (0 : Int32))) (ga1 : n0 ≤ a1) (hne : a1 ≠ a2) (a_5 : Arv Z h0 a2 kc .char (2 : Int32) [(.int q0), (.int q1)] (.int (0 : Int32))) (by first | assumption | decide | omega : ¬ ((255 : Int32) < q0)) (by first | assumption | decide | omega : ¬ ((255 : Int32) < q1))) hZ (hw _ (List.mem_of_getElem? (i := 10) rfl)) (hw _ (List.mem_of_getElem? (i := 3) rfl)) (by decide) (by decide)) (g := (mkF m 6 #[rv a1, rv a2] [.null, (.int (2 : Int32)), (.int (0 : Int32)), (.ref a2), (.ref a1)])) rfl (by rw [hml]; rfl) (Steps.refl _) (a := a1) (argsL := [(.ref a2), (.int (0 : Int32)), (.int (2 : Int32)), .null]) (rest := []) (lenOf pd_3 rfl) rfl (by show 2 * 0 + _ ≤ _; exact Nat.le_of_eq rfl) (hb hby d_jdk_42_method_3_code_6) (fun _ _ => ⟨rfl, e0, (by decide : 0 + 1 ≤ _), (by decide : 0 + 2 ≤ _)⟩)
  dsimp only [Pt.U, Pt.locs, Pt.cells, Pt.slots] at X5 l5 y5 z5 st5 hQ5
  subst l5 y5 z5
  obtain ⟨d1_5, kb_5, rfl, Nq5, Kq5, po5_0, po5_1, po5_2, po5_3, po5_4, po5_5⟩ := hQ5
  have N5 := Fr.app N0 Nq5
  have O5 := O0.keep Kq5 (allS ga1 all0)
  have K5 : Keep h0 T5.heap [a1] := (Keep.refl h0 [a1]).trans Kq5 (allS (Or.inl (List.mem_of_getElem? (i := 0) rfl)) all0)
  have k6 : Way p e below S0 T5 (mkF m 9 #[rv a1, rv a2] []) := fun t k => k4 t (st5.trans k)
  obtain ⟨fs, hr, hrun, hended, hW, hsame⟩ := X5.leave (v := none) (fun _ => rfl)
  have gz7 : h0.size ≤ d1_5 := Nat.le_trans (Keep.refl h0 [a1]).1 po5_0
  refine ⟨_, _, k6 _ (X5.returnOut hx Bd.returns (hb hby d_jdk_42_method_3_code_9) hr), hrun, hended, _, _, rfl, ?_, ⟨_, rfl⟩, hW, hsame.mono (by decide) (by decide)⟩
  show Q_sinit_2 Z wCS w_US w_SS a1 a2 kc q0 q1 h0 n0 _ T5.heap _
  exact ⟨d1_5, kb_5, rfl, N5, K5, gz7, po5_1, po5_2, po5_3, po5_4, po5_5⟩
def Q_thi (Z : State) (wCS : Int32) (w_US : Addr) (w_SS : Addr) (a1 : Addr) (a3 : Addr) (h0 : Heap) (n0 : Nat) (v : Option Value) (h : Heap) (L : List Loc) : Prop := (v = none) ∧ (Fr n0 L) ∧ (Keep h0 h [a1]) ∧ (Exa Z h a1 "caseward/web/RequestHead$Malformed") ∧ (Fld Z h a1 "caseward/web/RequestHead$Malformed" "status" "I" (.int (0 : Int32)))
set_option maxRecDepth 65536 in
set_option maxHeartbeats 40000000 in
theorem thi (l : Launch) (Z : State) (a0 : Array Value) (hw : ∀ d ∈ tables_1, d.before a0 Z = true) (ws : List Jvm.Cond) (wCS : Int32) (w_US : Addr) (w_SS : Addr) (G : Gst Z wCS w_US w_SS) (a1 : Addr) (a3 : Addr) (h0 : Heap) (n0 : Nat) (O0 : Old Z n0 h0) (a_0 : Exa Z h0 a1 "caseward/web/RequestHead$Malformed") (a_1 : Fld Z h0 a1 "java/lang/Throwable" "cause" "Ljava/lang/Throwable;" .null) (a_2 : Fld Z h0 a1 "java/lang/Throwable" "stackTrace" "[Ljava/lang/StackTraceElement;" .null) (a_3 : Fld Z h0 a1 "java/lang/Throwable" "suppressedExceptions" "Ljava/util/List;" .null) (a_4 : Fld Z h0 a1 "java/lang/Throwable" "backtrace" "Ljava/lang/Object;" .null) (a_5 : Fld Z h0 a1 "java/lang/Throwable" "detailMessage" "Ljava/lang/String;" .null) (a_6 : Fld Z h0 a1 "caseward/web/RequestHead$Malformed" "status" "I" (.int (0 : Int32))) (a_7 : Unt h0 a1) (ga1 : n0 ≤ a1) (htr : l.stackTraces = true) :
    MetFree l (⟨"java/lang/Throwable", "<init>", "(Ljava/lang/String;)V"⟩ : MethodName) (head1 (Jvm.Cond.code (⟨"java/lang/Throwable", "<init>", "(Ljava/lang/String;)V"⟩ : MethodName) jdk_78_method_2_code 2 none :: ws) ({ frames := 3, cells := 1, slots := 2752, locals := 42 } : Room)) (fun a U => a = #[(.ref a1), (.ref a3)] ∧ Z.Warmed39 U.vm ∧ U.heap = h0) (fun _ _ bl s _ => s.vm.MethodsKnown ∧ s.vm.FramesKnown bl) (fun _ U o U' => ∃ v L, o = .returned v ∧ Q_thi Z wCS w_US w_SS a1 a3 h0 n0 v U'.heap L ∧ FrameEnd U o U' L ({ frames := 3, cells := 1, slots := 2752, locals := 42 } : Room).cells ({ frames := 3, cells := 1, slots := 2752, locals := 42 } : Room).slots) := by
  refine MetFree.of_bodySF (plainFor_of_name pn_2) hisR ?_
  intro p e s m args below meth c s₁ Bd hml0 hP hK
  obtain ⟨rfl, hZ, hh⟩ := hP
  have hx := Bd.exec
  have hby := Bd.bytes
  have hml : c.maxLocals = 2 := hml0
  have hown : s.vm.findClass "java/lang/Throwable" = some m.cls := findClass_of_methodNamed Bd.named
  have hnm := (name_of_methodNamed Bd.named Bd.method).1
  have X0 : Stand p l e ({ frames := 3, cells := 1, slots := 2752, locals := 42 } : Room) s m #[(.ref a1), (.ref a3)] below meth c s₁ [] 0 0 := Stand.of_body Bd
  have e0 : s₁.heap = h0 := by rw [← hh, Bd.state]; rfl
  have N0 := Fr.nil n0
  obtain ⟨hTK, hBelow⟩ := hK
  obtain ⟨S_CS, hCS, S_US, S_SS⟩ := id G
  have k0 : Way p e below (s₁.setTop (entryFrame m #[(.ref a1), (.ref a3)] 2)) s₁ (mkF m 0 #[rv a1, rv a3] []) := fun t k => castTop (by first | (simp [entryFrame, mkF, argsToLocals, Value.category]; done) | rfl) k
  generalize s₁.setTop (entryFrame m #[(.ref a1), (.ref a3)] 2) = S0 at k0 ⊢
  have k1 : Way p e below S0 s₁ (mkF m 1 #[rv a1, rv a3] [(.ref a1)]) := by
    intro t k
    refine k0 t ?_
    refine XS.aloadN X0.here hx rfl (hb hby d_jdk_78_method_2_code_0) rfl rfl ?_
    show Steps p.tables e below (s₁.setTop (mkF m 1 #[rv a1, rv a3] [(.ref a1)])) _
    exact k
  obtain ⟨T2, X2, e2, st2⟩ := initO X0 hx hZ hown (hw _ (List.mem_of_getElem? (i := 53) rfl)) (hw _ (List.mem_of_getElem? (i := 12) rfl)) (hw _ (List.mem_of_getElem? (i := 13) rfl)) e0 (g := (mkF m 1 #[rv a1, rv a3] [(.ref a1)])) rfl (by rw [hml]; rfl) rfl (hb hby d_jdk_78_method_2_code_1) (by decide) (W := 0) (by show 2 * 0 + _ ≤ _; exact Nat.le_of_eq rfl) (by decide)
  have k3 : Way p e below S0 T2 (mkF m 4 #[rv a1, rv a3] []) := fun t k => k1 t (st2 _ k)
  have k4 : Way p e below S0 T2 (mkF m 6 #[rv a1, rv a3] [(.ref a1), (.ref a1)]) := by
    intro t k
    refine k3 t ?_
    refine XS.aloadN X2.here hx rfl (hb hby d_jdk_78_method_2_code_4) rfl rfl ?_
    show Steps p.tables e below (T2.setTop (mkF m 5 #[rv a1, rv a3] [(.ref a1)])) _
    refine XS.aloadN X2.here hx rfl (hb hby d_jdk_78_method_2_code_5) rfl rfl ?_
    show Steps p.tables e below (T2.setTop (mkF m 6 #[rv a1, rv a3] [(.ref a1), (.ref a1)])) _
    exact k
  obtain ⟨T5, h5, X5, e5, W5, st5⟩ := putF X2 hx hZ hown (host := "") (Or.inl (hw _ (List.mem_of_getElem? (i := 54) rfl))) Via.refl e2 a_1 a_0 (Or.inl (hw _ (List.mem_of_getElem? (i := 55) rfl))) (hw _ (List.mem_of_getElem? (i := 31) rfl)) (ty := (.object "java/lang/Throwable")) (by decide) rfl rfl (g := (mkF m 6 #[rv a1, rv a3] [(.ref a1), (.ref a1)])) rfl rfl (hb hby d_jdk_78_method_2_code_6)
  have O5 := O0.wr W5 ga1
  have N5 := Fr.snoc X5 N0 ga1
  have K5 : Keep h0 h5 [a1] := (Keep.refl h0 [a1]).wr W5 (Or.inl (List.mem_of_getElem? (i := 0) rfl))
  have fw5 : Fld Z h5 a1 "java/lang/Throwable" "cause" "Ljava/lang/Throwable;" (.ref a1) := a_1.same W5
  have k6 : Way p e below S0 T5 (mkF m 9 #[rv a1, rv a3] []) := fun t k => k4 t (st5 _ k)
  have k7 : Way p e below S0 T5 (mkF m 10 #[rv a1, rv a3] [(.ref a1)]) := by
    intro t k
    refine k6 t ?_
    refine XS.aloadN X5.here hx rfl (hb hby d_jdk_78_method_2_code_9) rfl rfl ?_
    show Steps p.tables e below (T5.setTop (mkF m 10 #[rv a1, rv a3] [(.ref a1)])) _
    exact k
  obtain ⟨T8, X8, e8, st8⟩ := getS2 X5 hx hZ hown (host := "") (Or.inl (hw _ (List.mem_of_getElem? (i := 56) rfl))) Via.refl e5 (S_US.ext O5.2) (g := (mkF m 10 #[rv a1, rv a3] [(.ref a1)])) rfl (hb hby d_jdk_78_method_2_code_10)
  have k9 : Way p e below S0 T8 (mkF m 13 #[rv a1, rv a3] [(.ref w_US), (.ref a1)]) := fun t k => k7 t (st8 _ k)
  have f10 : Fld Z h5 a1 "java/lang/Throwable" "stackTrace" "[Ljava/lang/StackTraceElement;" .null := (a_2.other W5 (Or.inr (slot_ne (Or.inl (hw _ (List.mem_of_getElem? (i := 58) rfl))) (Or.inl (hw _ (List.mem_of_getElem? (i := 55) rfl))) (by decide) (t := (.array (.object "java/lang/StackTraceElement"))) (t' := (.object "java/lang/Throwable")) (by decide) (by decide))))
  have f11 : Exa Z h5 a1 "caseward/web/RequestHead$Malformed" := (a_0.wr W5)
  obtain ⟨T12, h12, X12, e12, W12, st12⟩ := putF X8 hx hZ hown (host := "") (Or.inl (hw _ (List.mem_of_getElem? (i := 57) rfl))) Via.refl e8 f10 f11 (Or.inl (hw _ (List.mem_of_getElem? (i := 58) rfl))) (hw _ (List.mem_of_getElem? (i := 31) rfl)) (ty := (.array (.object "java/lang/StackTraceElement"))) (by decide) rfl rfl (g := (mkF m 13 #[rv a1, rv a3] [(.ref w_US), (.ref a1)])) rfl rfl (hb hby d_jdk_78_method_2_code_13)
  have O12 := O5.wr W12 ga1
  have N12 := Fr.snoc X12 N5 ga1
  have K12 : Keep h0 h12 [a1] := K5.wr W12 (Or.inl (List.mem_of_getElem? (i := 0) rfl))
  have fw12 : Fld Z h12 a1 "java/lang/Throwable" "stackTrace" "[Ljava/lang/StackTraceElement;" (.ref w_US) := f10.same W12
  have k13 : Way p e below S0 T12 (mkF m 16 #[rv a1, rv a3] []) := fun t k => k9 t (st12 _ k)
  have k14 : Way p e below S0 T12 (mkF m 17 #[rv a1, rv a3] [(.ref a1)]) := by
    intro t k
    refine k13 t ?_
    refine XS.aloadN X12.here hx rfl (hb hby d_jdk_78_method_2_code_16) rfl rfl ?_
    show Steps p.tables e below (T12.setTop (mkF m 17 #[rv a1, rv a3] [(.ref a1)])) _
    exact k
  obtain ⟨T15, X15, e15, st15⟩ := getS2 X12 hx hZ hown (host := "") (Or.inl (hw _ (List.mem_of_getElem? (i := 59) rfl))) Via.refl e12 (S_SS.ext O12.2) (g := (mkF m 17 #[rv a1, rv a3] [(.ref a1)])) rfl (hb hby d_jdk_78_method_2_code_17)
  have k16 : Way p e below S0 T15 (mkF m 20 #[rv a1, rv a3] [(.ref w_SS), (.ref a1)]) := fun t k => k14 t (st15 _ k)
  have f17 : Fld Z h12 a1 "java/lang/Throwable" "suppressedExceptions" "Ljava/util/List;" .null := ((a_3.other W5 (Or.inr (slot_ne (Or.inl (hw _ (List.mem_of_getElem? (i := 61) rfl))) (Or.inl (hw _ (List.mem_of_getElem? (i := 55) rfl))) (by decide) (t := (.object "java/util/List")) (t' := (.object "java/lang/Throwable")) (by decide) (by decide)))).other W12 (Or.inr (slot_ne (Or.inl (hw _ (List.mem_of_getElem? (i := 61) rfl))) (Or.inl (hw _ (List.mem_of_getElem? (i := 58) rfl))) (by decide) (t := (.object "java/util/List")) (t' := (.array (.object "java/lang/StackTraceElement"))) (by decide) (by decide))))
  have f18 : Exa Z h12 a1 "caseward/web/RequestHead$Malformed" := (f11.wr W12)
  obtain ⟨T19, h19, X19, e19, W19, st19⟩ := putF X15 hx hZ hown (host := "") (Or.inl (hw _ (List.mem_of_getElem? (i := 60) rfl))) Via.refl e15 f17 f18 (Or.inl (hw _ (List.mem_of_getElem? (i := 61) rfl))) (hw _ (List.mem_of_getElem? (i := 31) rfl)) (ty := (.object "java/util/List")) (by decide) rfl rfl (g := (mkF m 20 #[rv a1, rv a3] [(.ref w_SS), (.ref a1)])) rfl rfl (hb hby d_jdk_78_method_2_code_20)
  have O19 := O12.wr W19 ga1
  have N19 := Fr.snoc X19 N12 ga1
  have K19 : Keep h0 h19 [a1] := K12.wr W19 (Or.inl (List.mem_of_getElem? (i := 0) rfl))
  have fw19 : Fld Z h19 a1 "java/lang/Throwable" "suppressedExceptions" "Ljava/util/List;" (.ref w_SS) := f17.same W19
  have k20 : Way p e below S0 T19 (mkF m 23 #[rv a1, rv a3] []) := fun t k => k16 t (st19 _ k)
  have k21 : Way p e below S0 T19 (mkF m 24 #[rv a1, rv a3] [(.ref a1)]) := by
    intro t k
    refine k20 t ?_
    refine XS.aloadN X19.here hx rfl (hb hby d_jdk_78_method_2_code_23) rfl rfl ?_
    show Steps p.tables e below (T19.setTop (mkF m 24 #[rv a1, rv a3] [(.ref a1)])) _
    exact k
  have f23 : Exa Z h19 a1 "caseward/web/RequestHead$Malformed" := (f18.wr W19)
  have f24 : Unt h19 a1 := (((a_7.wr W5).wr W12).wr W19)
  have f25 : Fld Z h19 a1 "java/lang/Throwable" "backtrace" "Ljava/lang/Object;" .null := (((a_4.other W5 (Or.inr (slot_ne (Or.inl (hw _ (List.mem_of_getElem? (i := 86) rfl))) (Or.inl (hw _ (List.mem_of_getElem? (i := 55) rfl))) (by decide) (t := (.object "java/lang/Object")) (t' := (.object "java/lang/Throwable")) (by decide) (by decide)))).other W12 (Or.inr (slot_ne (Or.inl (hw _ (List.mem_of_getElem? (i := 86) rfl))) (Or.inl (hw _ (List.mem_of_getElem? (i := 58) rfl))) (by decide) (t := (.object "java/lang/Object")) (t' := (.array (.object "java/lang/StackTraceElement"))) (by decide) (by decide)))).other W19 (Or.inr (slot_ne (Or.inl (hw _ (List.mem_of_getElem? (i := 86) rfl))) (Or.inl (hw _ (List.mem_of_getElem? (i := 61) rfl))) (by decide) (t := (.object "java/lang/Object")) (t' := (.object "java/util/List")) (by decide) (by decide))))
  have f26 : Fld Z h19 a1 "java/lang/Throwable" "stackTrace" "[Ljava/lang/StackTraceElement;" (.ref w_US) := (fw12.other W19 (Or.inr (slot_ne (Or.inl (hw _ (List.mem_of_getElem? (i := 58) rfl))) (Or.inl (hw _ (List.mem_of_getElem? (i := 61) rfl))) (by decide) (t := (.array (.object "java/lang/StackTraceElement"))) (t' := (.object "java/util/List")) (by decide) (by decide))))
  have f27 : Fld Z h19 a1 "caseward/web/RequestHead$Malformed" "status" "I" (.int (0 : Int32)) := (((a_6.other W5 (Or.inr (slot_ne (Or.inr (hw _ (List.mem_of_getElem? (i := 91) rfl))) (Or.inl (hw _ (List.mem_of_getElem? (i := 55) rfl))) (by decide) (t := .int) (t' := (.object "java/lang/Throwable")) (by decide) (by decide)))).other W12 (Or.inr (slot_ne (Or.inr (hw _ (List.mem_of_getElem? (i := 91) rfl))) (Or.inl (hw _ (List.mem_of_getElem? (i := 58) rfl))) (by decide) (t := .int) (t' := (.array (.object "java/lang/StackTraceElement"))) (by decide) (by decide)))).other W19 (Or.inr (slot_ne (Or.inr (hw _ (List.mem_of_getElem? (i := 91) rfl))) (Or.inl (hw _ (List.mem_of_getElem? (i := 61) rfl))) (by decide) (t := .int) (t' := (.object "java/util/List")) (by decide) (by decide))))
  have f28 : Fld Z h19 a1 "java/lang/Throwable" "detailMessage" "Ljava/lang/String;" .null := (((a_5.other W5 (Or.inr (slot_ne (Or.inl (hw _ (List.mem_of_getElem? (i := 85) rfl))) (Or.inl (hw _ (List.mem_of_getElem? (i := 55) rfl))) (by decide) (t := (.object "java/lang/String")) (t' := (.object "java/lang/Throwable")) (by decide) (by decide)))).other W12 (Or.inr (slot_ne (Or.inl (hw _ (List.mem_of_getElem? (i := 85) rfl))) (Or.inl (hw _ (List.mem_of_getElem? (i := 58) rfl))) (by decide) (t := (.object "java/lang/String")) (t' := (.array (.object "java/lang/StackTraceElement"))) (by decide) (by decide)))).other W19 (Or.inr (slot_ne (Or.inl (hw _ (List.mem_of_getElem? (i := 85) rfl))) (Or.inl (hw _ (List.mem_of_getElem? (i := 61) rfl))) (by decide) (t := (.object "java/lang/String")) (t' := (.object "java/util/List")) (by decide) (by decide))))
  obtain ⟨T22, h22, L22, X22, e22, hL22, Ee22, Ff22, st22⟩ := own_fill X19 hx htr hZ hown hw (by rw [hh]; exact ThS.ext O0.2 ThS.start) hTK hBelow e19 f23 f24 f25 f26 (S_US.ext O19.2) (g := (mkF m 24 #[rv a1, rv a3] [(.ref a1)])) rfl (by rw [hml]; rfl) (rest := []) rfl (hb hby d_jdk_78_method_2_code_24) (by decide) (by show 2 * 0 + 0 + 42 ≤ 42; decide) (by decide) (by decide)
  have K22 : Keep h0 h22 [a1] := e22 ▸ own_keepX hh X22 (fun y hy => (List.mem_append.mp hy).elim (fun q => by simp at q; rcases q with rfl | rfl | rfl <;> simp) (fun q => by rw [hL22 y q]; simp))
  have O22 := O0.keep K22 (allS ga1 all0)
  have N22 := N19.app (fun y hy => by rw [hL22 y hy]; exact ga1)
  have fk22_status : Fld Z h22 a1 "caseward/web/RequestHead$Malformed" "status" "I" (.int (0 : Int32)) := Ff22 f27 (slot_ne (Or.inl (hw _ (List.mem_of_getElem? (i := 86) rfl))) (Or.inr (hw _ (List.mem_of_getElem? (i := 91) rfl))) (by decide) (t := (.object "java/lang/Object")) (t' := .int) (by decide) (by decide)) (slot_ne (Or.inl (hw _ (List.mem_of_getElem? (i := 87) rfl))) (Or.inr (hw _ (List.mem_of_getElem? (i := 91) rfl))) (by decide) (t := .int) (t' := .int) (by decide) (by decide)) (slot_ne (Or.inl (hw _ (List.mem_of_getElem? (i := 58) rfl))) (Or.inr (hw _ (List.mem_of_getElem? (i := 91) rfl))) (by decide) (t := (.array (.object "java/lang/StackTraceElement"))) (t' := .int) (by decide) (by decide))
  have fk22_detailMessage : Fld Z h22 a1 "java/lang/Throwable" "detailMessage" "Ljava/lang/String;" .null := Ff22 f28 (slot_ne (Or.inl (hw _ (List.mem_of_getElem? (i := 86) rfl))) (Or.inl (hw _ (List.mem_of_getElem? (i := 85) rfl))) (by decide) (t := (.object "java/lang/Object")) (t' := (.object "java/lang/String")) (by decide) (by decide)) (slot_ne (Or.inl (hw _ (List.mem_of_getElem? (i := 87) rfl))) (Or.inl (hw _ (List.mem_of_getElem? (i := 85) rfl))) (by decide) (t := .int) (t' := (.object "java/lang/String")) (by decide) (by decide)) (slot_ne (Or.inl (hw _ (List.mem_of_getElem? (i := 58) rfl))) (Or.inl (hw _ (List.mem_of_getElem? (i := 85) rfl))) (by decide) (t := (.array (.object "java/lang/StackTraceElement"))) (t' := (.object "java/lang/String")) (by decide) (by decide))
  have k29 : Way p e below S0 T22 (mkF m 27 #[rv a1, rv a3] [(.ref a1)]) := fun t k => k21 t (st22 _ k)
  have k30 : Way p e below S0 T22 (mkF m 30 #[rv a1, rv a3] [(.ref a3), (.ref a1)]) := by
    intro t k
    refine k29 t ?_
    refine XS.pop X22.here hx rfl (hb hby d_jdk_78_method_2_code_27) rfl rfl ?_
    show Steps p.tables e below (T22.setTop (mkF m 28 #[rv a1, rv a3] [])) _
    refine XS.aloadN X22.here hx rfl (hb hby d_jdk_78_method_2_code_28) rfl rfl ?_
    show Steps p.tables e below (T22.setTop (mkF m 29 #[rv a1, rv a3] [(.ref a1)])) _
    refine XS.aloadN X22.here hx rfl (hb hby d_jdk_78_method_2_code_29) rfl rfl ?_
    show Steps p.tables e below (T22.setTop (mkF m 30 #[rv a1, rv a3] [(.ref a3), (.ref a1)])) _
    exact k
  obtain ⟨T31, h31, X31, e31, W31, st31⟩ := putF X22 hx hZ hown (host := "") (Or.inl (hw _ (List.mem_of_getElem? (i := 89) rfl))) Via.refl e22 fk22_detailMessage Ee22 (Or.inl (hw _ (List.mem_of_getElem? (i := 85) rfl))) (hw _ (List.mem_of_getElem? (i := 31) rfl)) (ty := (.object "java/lang/String")) (by decide) rfl rfl (g := (mkF m 30 #[rv a1, rv a3] [(.ref a3), (.ref a1)])) rfl rfl (hb hby d_jdk_78_method_2_code_30)
  have O31 := O22.wr W31 ga1
  have N31 := Fr.snoc X31 N22 ga1
  have K31 : Keep h0 h31 [a1] := K22.wr W31 (Or.inl (List.mem_of_getElem? (i := 0) rfl))
  have fw31 : Fld Z h31 a1 "java/lang/Throwable" "detailMessage" "Ljava/lang/String;" (.ref a3) := fk22_detailMessage.same W31
  have k32 : Way p e below S0 T31 (mkF m 33 #[rv a1, rv a3] []) := fun t k => k30 t (st31 _ k)
  obtain ⟨fs, hr, hrun, hended, hW, hsame⟩ := X31.leave (v := none) (fun _ => rfl)
  have f33 : Exa Z h31 a1 "caseward/web/RequestHead$Malformed" := (Ee22.wr W31)
  have f34 : Fld Z h31 a1 "caseward/web/RequestHead$Malformed" "status" "I" (.int (0 : Int32)) := (fk22_status.other W31 (Or.inr (slot_ne (Or.inr (hw _ (List.mem_of_getElem? (i := 91) rfl))) (Or.inl (hw _ (List.mem_of_getElem? (i := 85) rfl))) (by decide) (t := .int) (t' := (.object "java/lang/String")) (by decide) (by decide))))
  refine ⟨_, _, k32 _ (X31.returnOut hx Bd.returns (hb hby d_jdk_78_method_2_code_33) hr), hrun, hended, _, _, rfl, ?_, ⟨_, rfl⟩, hW, hsame.mono (by decide) (by decide)⟩
  show Q_thi Z wCS w_US w_SS a1 a3 h0 n0 _ T31.heap _
  rw [e31]
  exact ⟨rfl, N31, K31, f33, f34⟩
def Q_exi (Z : State) (wCS : Int32) (w_US : Addr) (w_SS : Addr) (a1 : Addr) (a3 : Addr) (h0 : Heap) (n0 : Nat) (v : Option Value) (h : Heap) (L : List Loc) : Prop := (v = none) ∧ (Fr n0 L) ∧ (Keep h0 h [a1]) ∧ (Exa Z h a1 "caseward/web/RequestHead$Malformed") ∧ (Fld Z h a1 "caseward/web/RequestHead$Malformed" "status" "I" (.int (0 : Int32)))
set_option maxRecDepth 65536 in
set_option maxHeartbeats 40000000 in
theorem exi (l : Launch) (Z : State) (a0 : Array Value) (hw : ∀ d ∈ tables_1, d.before a0 Z = true) (ws : List Jvm.Cond) (wCS : Int32) (w_US : Addr) (w_SS : Addr) (G : Gst Z wCS w_US w_SS) (a1 : Addr) (a3 : Addr) (h0 : Heap) (n0 : Nat) (O0 : Old Z n0 h0) (a_0 : Exa Z h0 a1 "caseward/web/RequestHead$Malformed") (a_1 : Fld Z h0 a1 "java/lang/Throwable" "cause" "Ljava/lang/Throwable;" .null) (a_2 : Fld Z h0 a1 "java/lang/Throwable" "stackTrace" "[Ljava/lang/StackTraceElement;" .null) (a_3 : Fld Z h0 a1 "java/lang/Throwable" "suppressedExceptions" "Ljava/util/List;" .null) (a_4 : Fld Z h0 a1 "java/lang/Throwable" "backtrace" "Ljava/lang/Object;" .null) (a_5 : Fld Z h0 a1 "java/lang/Throwable" "detailMessage" "Ljava/lang/String;" .null) (a_6 : Fld Z h0 a1 "caseward/web/RequestHead$Malformed" "status" "I" (.int (0 : Int32))) (a_7 : Unt h0 a1) (ga1 : n0 ≤ a1) (htr : l.stackTraces = true) :
    MetFree l (⟨"java/lang/Exception", "<init>", "(Ljava/lang/String;)V"⟩ : MethodName) (head1 (Jvm.Cond.code (⟨"java/lang/Exception", "<init>", "(Ljava/lang/String;)V"⟩ : MethodName) jdk_59_method_2_code 2 none :: ws) ({ frames := 4, cells := 1, slots := 2752, locals := 55 } : Room)) (fun a U => a = #[(.ref a1), (.ref a3)] ∧ Z.Warmed39 U.vm ∧ U.heap = h0) (fun _ _ bl s _ => s.vm.MethodsKnown ∧ s.vm.FramesKnown bl) (fun _ U o U' => ∃ v L, o = .returned v ∧ Q_exi Z wCS w_US w_SS a1 a3 h0 n0 v U'.heap L ∧ FrameEnd U o U' L ({ frames := 4, cells := 1, slots := 2752, locals := 55 } : Room).cells ({ frames := 4, cells := 1, slots := 2752, locals := 55 } : Room).slots) := by
  refine MetFree.of_bodySF (plainFor_of_name pn_3) hisR ?_
  intro p e s m args below meth c s₁ Bd hml0 hP hK
  obtain ⟨rfl, hZ, hh⟩ := hP
  have hx := Bd.exec
  have hby := Bd.bytes
  have hml : c.maxLocals = 2 := hml0
  have hown : s.vm.findClass "java/lang/Exception" = some m.cls := findClass_of_methodNamed Bd.named
  have hnm := (name_of_methodNamed Bd.named Bd.method).1
  have X0 : Stand p l e ({ frames := 4, cells := 1, slots := 2752, locals := 55 } : Room) s m #[(.ref a1), (.ref a3)] below meth c s₁ [] 0 0 := Stand.of_body Bd
  have e0 : s₁.heap = h0 := by rw [← hh, Bd.state]; rfl
  have N0 := Fr.nil n0
  obtain ⟨hTK, hBelow⟩ := hK
  obtain ⟨S_CS, hCS, S_US, S_SS⟩ := id G
  have k0 : Way p e below (s₁.setTop (entryFrame m #[(.ref a1), (.ref a3)] 2)) s₁ (mkF m 0 #[rv a1, rv a3] []) := fun t k => castTop (by first | (simp [entryFrame, mkF, argsToLocals, Value.category]; done) | rfl) k
  generalize s₁.setTop (entryFrame m #[(.ref a1), (.ref a3)] 2) = S0 at k0 ⊢
  have k1 : Way p e below S0 s₁ (mkF m 2 #[rv a1, rv a3] [(.ref a3), (.ref a1)]) := by
    intro t k
    refine k0 t ?_
    refine XS.aloadN X0.here hx rfl (hb hby d_jdk_59_method_2_code_0) rfl rfl ?_
    show Steps p.tables e below (s₁.setTop (mkF m 1 #[rv a1, rv a3] [(.ref a1)])) _
    refine XS.aloadN X0.here hx rfl (hb hby d_jdk_59_method_2_code_1) rfl rfl ?_
    show Steps p.tables e below (s₁.setTop (mkF m 2 #[rv a1, rv a3] [(.ref a3), (.ref a1)])) _
    exact k
  obtain ⟨_, _, ⟨T2, L2, kk2, nn2⟩, -, X2, ⟨Lc2, hQ2, l2, y2, z2⟩, st2⟩ := X0.specialBack hx (y := (⟨"java/lang/Throwable", "<init>", "(Ljava/lang/String;)V"⟩ : MethodName)) rfl hown (mvT hZ (hw _ (List.mem_of_getElem? (i := 47) rfl))) (mvT hZ (hw _ (List.mem_of_getElem? (i := 48) rfl))) (mvT hZ (hw _ (List.mem_of_getElem? (i := 52) rfl))) (by decide) (backOfKL (W := 0) (thi l Z a0 hw [] wCS w_US w_SS G a1 a3 h0 n0 O0 (a_0 : Exa Z h0 a1 "caseward/web/RequestHead$Malformed") (a_1 : Fld Z h0 a1 "java/lang/Throwable" "cause" "Ljava/lang/Throwable;" .null) (a_2 : Fld Z h0 a1 "java/lang/Throwable" "stackTrace" "[Ljava/lang/StackTraceElement;" .null) (a_3 : Fld Z h0 a1 "java/lang/Throwable" "suppressedExceptions" "Ljava/util/List;" .null) (a_4 : Fld Z h0 a1 "java/lang/Throwable" "backtrace" "Ljava/lang/Object;" .null) (a_5 : Fld Z h0 a1 "java/lang/Throwable" "detailMessage" "Ljava/lang/String;" .null) (a_6 : Fld Z h0 a1 "caseward/web/RequestHead$Malformed" "status" "I" (.int (0 : Int32))) (a_7 : Unt h0 a1) (ga1 : n0 ≤ a1) (htr : l.stackTraces = true)) hZ (hw _ (List.mem_of_getElem? (i := 52) rfl)) (hw _ (List.mem_of_getElem? (i := 51) rfl)) (by decide) (by decide) hTK hBelow) (g := (mkF m 2 #[rv a1, rv a3] [(.ref a3), (.ref a1)])) rfl (by rw [hml]; rfl) (Steps.refl _) (a := a1) (argsL := [(.ref a3)]) (rest := []) (lenOf pd_4 rfl) rfl (by show 2 * 0 + _ ≤ _; exact Nat.le_of_eq rfl) (hb hby d_jdk_59_method_2_code_2) (fun _ _ => ⟨rfl, e0, (by decide : 0 + 1 ≤ _), (by decide : 0 + 2752 ≤ _)⟩)
  dsimp only [Pt.U, Pt.locs, Pt.cells, Pt.slots] at X2 l2 y2 z2 st2 hQ2
  subst l2 y2 z2
  obtain ⟨rfl, Nq2, Kq2, po2_0, po2_1⟩ := hQ2
  have N2 := Fr.app N0 Nq2
  have O2 := O0.keep Kq2 (allS ga1 all0)
  have K2 : Keep h0 T2.heap [a1] := (Keep.refl h0 [a1]).trans Kq2 (allS (Or.inl (List.mem_of_getElem? (i := 0) rfl)) all0)
  have k3 : Way p e below S0 T2 (mkF m 5 #[rv a1, rv a3] []) := fun t k => k1 t (st2.trans k)
  obtain ⟨fs, hr, hrun, hended, hW, hsame⟩ := X2.leave (v := none) (fun _ => rfl)
  refine ⟨_, _, k3 _ (X2.returnOut hx Bd.returns (hb hby d_jdk_59_method_2_code_5) hr), hrun, hended, _, _, rfl, ?_, ⟨_, rfl⟩, hW, hsame.mono (by decide) (by decide)⟩
  show Q_exi Z wCS w_US w_SS a1 a3 h0 n0 _ T2.heap _
  exact ⟨rfl, N2, K2, po2_0, po2_1⟩
def Q_ioi (Z : State) (wCS : Int32) (w_US : Addr) (w_SS : Addr) (a1 : Addr) (a3 : Addr) (h0 : Heap) (n0 : Nat) (v : Option Value) (h : Heap) (L : List Loc) : Prop := (v = none) ∧ (Fr n0 L) ∧ (Keep h0 h [a1]) ∧ (Exa Z h a1 "caseward/web/RequestHead$Malformed") ∧ (Fld Z h a1 "caseward/web/RequestHead$Malformed" "status" "I" (.int (0 : Int32)))
set_option maxRecDepth 65536 in
set_option maxHeartbeats 40000000 in
theorem ioi (l : Launch) (Z : State) (a0 : Array Value) (hw : ∀ d ∈ tables_1, d.before a0 Z = true) (ws : List Jvm.Cond) (wCS : Int32) (w_US : Addr) (w_SS : Addr) (G : Gst Z wCS w_US w_SS) (a1 : Addr) (a3 : Addr) (h0 : Heap) (n0 : Nat) (O0 : Old Z n0 h0) (a_0 : Exa Z h0 a1 "caseward/web/RequestHead$Malformed") (a_1 : Fld Z h0 a1 "java/lang/Throwable" "cause" "Ljava/lang/Throwable;" .null) (a_2 : Fld Z h0 a1 "java/lang/Throwable" "stackTrace" "[Ljava/lang/StackTraceElement;" .null) (a_3 : Fld Z h0 a1 "java/lang/Throwable" "suppressedExceptions" "Ljava/util/List;" .null) (a_4 : Fld Z h0 a1 "java/lang/Throwable" "backtrace" "Ljava/lang/Object;" .null) (a_5 : Fld Z h0 a1 "java/lang/Throwable" "detailMessage" "Ljava/lang/String;" .null) (a_6 : Fld Z h0 a1 "caseward/web/RequestHead$Malformed" "status" "I" (.int (0 : Int32))) (a_7 : Unt h0 a1) (ga1 : n0 ≤ a1) (htr : l.stackTraces = true) :
    MetFree l (⟨"java/io/IOException", "<init>", "(Ljava/lang/String;)V"⟩ : MethodName) (head1 (Jvm.Cond.code (⟨"java/io/IOException", "<init>", "(Ljava/lang/String;)V"⟩ : MethodName) jdk_131_method_2_code 2 none :: ws) ({ frames := 5, cells := 1, slots := 2752, locals := 68 } : Room)) (fun a U => a = #[(.ref a1), (.ref a3)] ∧ Z.Warmed39 U.vm ∧ U.heap = h0) (fun _ _ bl s _ => s.vm.MethodsKnown ∧ s.vm.FramesKnown bl) (fun _ U o U' => ∃ v L, o = .returned v ∧ Q_ioi Z wCS w_US w_SS a1 a3 h0 n0 v U'.heap L ∧ FrameEnd U o U' L ({ frames := 5, cells := 1, slots := 2752, locals := 68 } : Room).cells ({ frames := 5, cells := 1, slots := 2752, locals := 68 } : Room).slots) := by
  refine MetFree.of_bodySF (plainFor_of_name pn_4) hisR ?_
  intro p e s m args below meth c s₁ Bd hml0 hP hK
  obtain ⟨rfl, hZ, hh⟩ := hP
  have hx := Bd.exec
  have hby := Bd.bytes
  have hml : c.maxLocals = 2 := hml0
  have hown : s.vm.findClass "java/io/IOException" = some m.cls := findClass_of_methodNamed Bd.named
  have hnm := (name_of_methodNamed Bd.named Bd.method).1
  have X0 : Stand p l e ({ frames := 5, cells := 1, slots := 2752, locals := 68 } : Room) s m #[(.ref a1), (.ref a3)] below meth c s₁ [] 0 0 := Stand.of_body Bd
  have e0 : s₁.heap = h0 := by rw [← hh, Bd.state]; rfl
  have N0 := Fr.nil n0
  obtain ⟨hTK, hBelow⟩ := hK
  obtain ⟨S_CS, hCS, S_US, S_SS⟩ := id G
  have k0 : Way p e below (s₁.setTop (entryFrame m #[(.ref a1), (.ref a3)] 2)) s₁ (mkF m 0 #[rv a1, rv a3] []) := fun t k => castTop (by first | (simp [entryFrame, mkF, argsToLocals, Value.category]; done) | rfl) k
  generalize s₁.setTop (entryFrame m #[(.ref a1), (.ref a3)] 2) = S0 at k0 ⊢
  have k1 : Way p e below S0 s₁ (mkF m 2 #[rv a1, rv a3] [(.ref a3), (.ref a1)]) := by
    intro t k
    refine k0 t ?_
    refine XS.aloadN X0.here hx rfl (hb hby d_jdk_131_method_2_code_0) rfl rfl ?_
    show Steps p.tables e below (s₁.setTop (mkF m 1 #[rv a1, rv a3] [(.ref a1)])) _
    refine XS.aloadN X0.here hx rfl (hb hby d_jdk_131_method_2_code_1) rfl rfl ?_
    show Steps p.tables e below (s₁.setTop (mkF m 2 #[rv a1, rv a3] [(.ref a3), (.ref a1)])) _
    exact k
  obtain ⟨_, _, ⟨T2, L2, kk2, nn2⟩, -, X2, ⟨Lc2, hQ2, l2, y2, z2⟩, st2⟩ := X0.specialBack hx (y := (⟨"java/lang/Exception", "<init>", "(Ljava/lang/String;)V"⟩ : MethodName)) rfl hown (mvT hZ (hw _ (List.mem_of_getElem? (i := 41) rfl))) (mvT hZ (hw _ (List.mem_of_getElem? (i := 42) rfl))) (mvT hZ (hw _ (List.mem_of_getElem? (i := 46) rfl))) (by decide) (backOfKL (W := 0) (exi l Z a0 hw [] wCS w_US w_SS G a1 a3 h0 n0 O0 (a_0 : Exa Z h0 a1 "caseward/web/RequestHead$Malformed") (a_1 : Fld Z h0 a1 "java/lang/Throwable" "cause" "Ljava/lang/Throwable;" .null) (a_2 : Fld Z h0 a1 "java/lang/Throwable" "stackTrace" "[Ljava/lang/StackTraceElement;" .null) (a_3 : Fld Z h0 a1 "java/lang/Throwable" "suppressedExceptions" "Ljava/util/List;" .null) (a_4 : Fld Z h0 a1 "java/lang/Throwable" "backtrace" "Ljava/lang/Object;" .null) (a_5 : Fld Z h0 a1 "java/lang/Throwable" "detailMessage" "Ljava/lang/String;" .null) (a_6 : Fld Z h0 a1 "caseward/web/RequestHead$Malformed" "status" "I" (.int (0 : Int32))) (a_7 : Unt h0 a1) (ga1 : n0 ≤ a1) (htr : l.stackTraces = true)) hZ (hw _ (List.mem_of_getElem? (i := 46) rfl)) (hw _ (List.mem_of_getElem? (i := 45) rfl)) (by decide) (by decide) hTK hBelow) (g := (mkF m 2 #[rv a1, rv a3] [(.ref a3), (.ref a1)])) rfl (by rw [hml]; rfl) (Steps.refl _) (a := a1) (argsL := [(.ref a3)]) (rest := []) (lenOf pd_4 rfl) rfl (by show 2 * 0 + _ ≤ _; exact Nat.le_of_eq rfl) (hb hby d_jdk_131_method_2_code_2) (fun _ _ => ⟨rfl, e0, (by decide : 0 + 1 ≤ _), (by decide : 0 + 2752 ≤ _)⟩)
  dsimp only [Pt.U, Pt.locs, Pt.cells, Pt.slots] at X2 l2 y2 z2 st2 hQ2
  subst l2 y2 z2
  obtain ⟨rfl, Nq2, Kq2, po2_0, po2_1⟩ := hQ2
  have N2 := Fr.app N0 Nq2
  have O2 := O0.keep Kq2 (allS ga1 all0)
  have K2 : Keep h0 T2.heap [a1] := (Keep.refl h0 [a1]).trans Kq2 (allS (Or.inl (List.mem_of_getElem? (i := 0) rfl)) all0)
  have k3 : Way p e below S0 T2 (mkF m 5 #[rv a1, rv a3] []) := fun t k => k1 t (st2.trans k)
  obtain ⟨fs, hr, hrun, hended, hW, hsame⟩ := X2.leave (v := none) (fun _ => rfl)
  refine ⟨_, _, k3 _ (X2.returnOut hx Bd.returns (hb hby d_jdk_131_method_2_code_5) hr), hrun, hended, _, _, rfl, ?_, ⟨_, rfl⟩, hW, hsame.mono (by decide) (by decide)⟩
  show Q_ioi Z wCS w_US w_SS a1 a3 h0 n0 _ T2.heap _
  exact ⟨rfl, N2, K2, po2_0, po2_1⟩
def Q_mi (Z : State) (wCS : Int32) (w_US : Addr) (w_SS : Addr) (a1 : Addr) (p2 : Int32) (a3 : Addr) (h0 : Heap) (n0 : Nat) (v : Option Value) (h : Heap) (L : List Loc) : Prop := (v = none) ∧ (Fr n0 L) ∧ (Keep h0 h [a1]) ∧ (Exa Z h a1 "caseward/web/RequestHead$Malformed") ∧ (Fld Z h a1 "caseward/web/RequestHead$Malformed" "status" "I" (.int p2))
set_option maxRecDepth 65536 in
set_option maxHeartbeats 40000000 in
theorem mi (l : Launch) (Z : State) (a0 : Array Value) (hw : ∀ d ∈ tables_1, d.before a0 Z = true) (ws : List Jvm.Cond) (wCS : Int32) (w_US : Addr) (w_SS : Addr) (G : Gst Z wCS w_US w_SS) (a1 : Addr) (p2 : Int32) (a3 : Addr) (h0 : Heap) (n0 : Nat) (O0 : Old Z n0 h0) (a_0 : Exa Z h0 a1 "caseward/web/RequestHead$Malformed") (a_1 : Fld Z h0 a1 "java/lang/Throwable" "cause" "Ljava/lang/Throwable;" .null) (a_2 : Fld Z h0 a1 "java/lang/Throwable" "stackTrace" "[Ljava/lang/StackTraceElement;" .null) (a_3 : Fld Z h0 a1 "java/lang/Throwable" "suppressedExceptions" "Ljava/util/List;" .null) (a_4 : Fld Z h0 a1 "java/lang/Throwable" "backtrace" "Ljava/lang/Object;" .null) (a_5 : Fld Z h0 a1 "java/lang/Throwable" "detailMessage" "Ljava/lang/String;" .null) (a_6 : Fld Z h0 a1 "caseward/web/RequestHead$Malformed" "status" "I" (.int (0 : Int32))) (a_7 : Unt h0 a1) (ga1 : n0 ≤ a1) (htr : l.stackTraces = true) :
    MetFree l (⟨"caseward/web/RequestHead$Malformed", "<init>", "(ILjava/lang/String;)V"⟩ : MethodName) (head1 (Jvm.Cond.code (⟨"caseward/web/RequestHead$Malformed", "<init>", "(ILjava/lang/String;)V"⟩ : MethodName) prog_80_method_2_code 3 none :: ws) ({ frames := 6, cells := 1, slots := 2752, locals := 81 } : Room)) (fun a U => a = #[(.ref a1), (.int p2), (.ref a3)] ∧ Z.Warmed39 U.vm ∧ U.heap = h0) (fun _ _ bl s _ => s.vm.MethodsKnown ∧ s.vm.FramesKnown bl) (fun _ U o U' => ∃ v L, o = .returned v ∧ Q_mi Z wCS w_US w_SS a1 p2 a3 h0 n0 v U'.heap L ∧ FrameEnd U o U' L ({ frames := 6, cells := 1, slots := 2752, locals := 81 } : Room).cells ({ frames := 6, cells := 1, slots := 2752, locals := 81 } : Room).slots) := by
  refine MetFree.of_bodySF (plainFor_of_name pn_5) hisR ?_
  intro p e s m args below meth c s₁ Bd hml0 hP hK
  obtain ⟨rfl, hZ, hh⟩ := hP
  have hx := Bd.exec
  have hby := Bd.bytes
  have hml : c.maxLocals = 3 := hml0
  have hown : s.vm.findClass "caseward/web/RequestHead$Malformed" = some m.cls := findClass_of_methodNamed Bd.named
  have hnm := (name_of_methodNamed Bd.named Bd.method).1
  have X0 : Stand p l e ({ frames := 6, cells := 1, slots := 2752, locals := 81 } : Room) s m #[(.ref a1), (.int p2), (.ref a3)] below meth c s₁ [] 0 0 := Stand.of_body Bd
  have e0 : s₁.heap = h0 := by rw [← hh, Bd.state]; rfl
  have N0 := Fr.nil n0
  obtain ⟨hTK, hBelow⟩ := hK
  obtain ⟨S_CS, hCS, S_US, S_SS⟩ := id G
  have k0 : Way p e below (s₁.setTop (entryFrame m #[(.ref a1), (.int p2), (.ref a3)] 3)) s₁ (mkF m 0 #[rv a1, iv p2, rv a3] []) := fun t k => castTop (by first | (simp [entryFrame, mkF, argsToLocals, Value.category]; done) | rfl) k
  generalize s₁.setTop (entryFrame m #[(.ref a1), (.int p2), (.ref a3)] 3) = S0 at k0 ⊢
  have k1 : Way p e below S0 s₁ (mkF m 2 #[rv a1, iv p2, rv a3] [(.ref a3), (.ref a1)]) := by
    intro t k
    refine k0 t ?_
    refine XS.aloadN X0.here hx rfl (hb hby d_prog_80_method_2_code_0) rfl rfl ?_
    show Steps p.tables e below (s₁.setTop (mkF m 1 #[rv a1, iv p2, rv a3] [(.ref a1)])) _
    refine XS.aloadN X0.here hx rfl (hb hby d_prog_80_method_2_code_1) rfl rfl ?_
    show Steps p.tables e below (s₁.setTop (mkF m 2 #[rv a1, iv p2, rv a3] [(.ref a3), (.ref a1)])) _
    exact k
  obtain ⟨_, _, ⟨T2, L2, kk2, nn2⟩, -, X2, ⟨Lc2, hQ2, l2, y2, z2⟩, st2⟩ := X0.specialBack hx (y := (⟨"java/io/IOException", "<init>", "(Ljava/lang/String;)V"⟩ : MethodName)) rfl hown (mvT hZ (hw _ (List.mem_of_getElem? (i := 36) rfl))) (mvT hZ (hw _ (List.mem_of_getElem? (i := 37) rfl))) (mvT hZ (hw _ (List.mem_of_getElem? (i := 40) rfl))) (by decide) (backOfKL (W := 0) (ioi l Z a0 hw [] wCS w_US w_SS G a1 a3 h0 n0 O0 (a_0 : Exa Z h0 a1 "caseward/web/RequestHead$Malformed") (a_1 : Fld Z h0 a1 "java/lang/Throwable" "cause" "Ljava/lang/Throwable;" .null) (a_2 : Fld Z h0 a1 "java/lang/Throwable" "stackTrace" "[Ljava/lang/StackTraceElement;" .null) (a_3 : Fld Z h0 a1 "java/lang/Throwable" "suppressedExceptions" "Ljava/util/List;" .null) (a_4 : Fld Z h0 a1 "java/lang/Throwable" "backtrace" "Ljava/lang/Object;" .null) (a_5 : Fld Z h0 a1 "java/lang/Throwable" "detailMessage" "Ljava/lang/String;" .null) (a_6 : Fld Z h0 a1 "caseward/web/RequestHead$Malformed" "status" "I" (.int (0 : Int32))) (a_7 : Unt h0 a1) (ga1 : n0 ≤ a1) (htr : l.stackTraces = true)) hZ (hw _ (List.mem_of_getElem? (i := 40) rfl)) (hw _ (List.mem_of_getElem? (i := 39) rfl)) (by decide) (by decide) hTK hBelow) (g := (mkF m 2 #[rv a1, iv p2, rv a3] [(.ref a3), (.ref a1)])) rfl (by rw [hml]; rfl) (Steps.refl _) (a := a1) (argsL := [(.ref a3)]) (rest := []) (lenOf pd_4 rfl) rfl (by show 2 * 0 + _ ≤ _; exact Nat.le_of_eq rfl) (hb hby d_prog_80_method_2_code_2) (fun _ _ => ⟨rfl, e0, (by decide : 0 + 1 ≤ _), (by decide : 0 + 2752 ≤ _)⟩)
  dsimp only [Pt.U, Pt.locs, Pt.cells, Pt.slots] at X2 l2 y2 z2 st2 hQ2
  subst l2 y2 z2
  obtain ⟨rfl, Nq2, Kq2, po2_0, po2_1⟩ := hQ2
  have N2 := Fr.app N0 Nq2
  have O2 := O0.keep Kq2 (allS ga1 all0)
  have K2 : Keep h0 T2.heap [a1] := (Keep.refl h0 [a1]).trans Kq2 (allS (Or.inl (List.mem_of_getElem? (i := 0) rfl)) all0)
  have k3 : Way p e below S0 T2 (mkF m 5 #[rv a1, iv p2, rv a3] []) := fun t k => k1 t (st2.trans k)
  have k4 : Way p e below S0 T2 (mkF m 7 #[rv a1, iv p2, rv a3] [(.int p2), (.ref a1)]) := by
    intro t k
    refine k3 t ?_
    refine XS.aloadN X2.here hx rfl (hb hby d_prog_80_method_2_code_5) rfl rfl ?_
    show Steps p.tables e below (T2.setTop (mkF m 6 #[rv a1, iv p2, rv a3] [(.ref a1)])) _
    refine XS.iloadN X2.here hx rfl (hb hby d_prog_80_method_2_code_6) rfl ?_
    show Steps p.tables e below (T2.setTop (mkF m 7 #[rv a1, iv p2, rv a3] [(.int p2), (.ref a1)])) _
    exact k
  obtain ⟨T5, h5, X5, e5, W5, st5⟩ := putF X2 hx hZ hown (host := "") (Or.inl (hw _ (List.mem_of_getElem? (i := 90) rfl))) Via.refl rfl po2_1 po2_0 (Or.inr ⟨(hw _ (List.mem_of_getElem? (i := 91) rfl)), rfl, hnm⟩) (hw _ (List.mem_of_getElem? (i := 31) rfl)) (ty := .int) (by decide) rfl rfl (g := (mkF m 7 #[rv a1, iv p2, rv a3] [(.int p2), (.ref a1)])) rfl rfl (hb hby d_prog_80_method_2_code_7)
  have O5 := O2.wr W5 ga1
  have N5 := Fr.snoc X5 N2 ga1
  have K5 : Keep h0 h5 [a1] := K2.wr W5 (Or.inl (List.mem_of_getElem? (i := 0) rfl))
  have fw5 : Fld Z h5 a1 "caseward/web/RequestHead$Malformed" "status" "I" (.int p2) := po2_1.same W5
  have k6 : Way p e below S0 T5 (mkF m 10 #[rv a1, iv p2, rv a3] []) := fun t k => k4 t (st5 _ k)
  obtain ⟨fs, hr, hrun, hended, hW, hsame⟩ := X5.leave (v := none) (fun _ => rfl)
  have f7 : Exa Z h5 a1 "caseward/web/RequestHead$Malformed" := (po2_0.wr W5)
  refine ⟨_, _, k6 _ (X5.returnOut hx Bd.returns (hb hby d_prog_80_method_2_code_10) hr), hrun, hended, _, _, rfl, ?_, ⟨_, rfl⟩, hW, hsame.mono (by decide) (by decide)⟩
  show Q_mi Z wCS w_US w_SS a1 p2 a3 h0 n0 _ T5.heap _
  rw [e5]
  exact ⟨rfl, N5, K5, f7, fw5⟩
def Q_ms (Z : State) (wCS : Int32) (w_US : Addr) (w_SS : Addr) (a1 : Addr) (a3 : Addr) (h0 : Heap) (n0 : Nat) (v : Option Value) (h : Heap) (L : List Loc) : Prop := (v = none) ∧ (Fr n0 L) ∧ (Keep h0 h [a1]) ∧ (Exa Z h a1 "caseward/web/RequestHead$Malformed") ∧ (Fld Z h a1 "caseward/web/RequestHead$Malformed" "status" "I" (.int (400 : Int32)))
set_option maxRecDepth 65536 in
set_option maxHeartbeats 40000000 in
theorem ms (l : Launch) (Z : State) (a0 : Array Value) (hw : ∀ d ∈ tables_1, d.before a0 Z = true) (ws : List Jvm.Cond) (wCS : Int32) (w_US : Addr) (w_SS : Addr) (G : Gst Z wCS w_US w_SS) (a1 : Addr) (a3 : Addr) (h0 : Heap) (n0 : Nat) (O0 : Old Z n0 h0) (a_0 : Exa Z h0 a1 "caseward/web/RequestHead$Malformed") (a_1 : Fld Z h0 a1 "java/lang/Throwable" "cause" "Ljava/lang/Throwable;" .null) (a_2 : Fld Z h0 a1 "java/lang/Throwable" "stackTrace" "[Ljava/lang/StackTraceElement;" .null) (a_3 : Fld Z h0 a1 "java/lang/Throwable" "suppressedExceptions" "Ljava/util/List;" .null) (a_4 : Fld Z h0 a1 "java/lang/Throwable" "backtrace" "Ljava/lang/Object;" .null) (a_5 : Fld Z h0 a1 "java/lang/Throwable" "detailMessage" "Ljava/lang/String;" .null) (a_6 : Fld Z h0 a1 "caseward/web/RequestHead$Malformed" "status" "I" (.int (0 : Int32))) (a_7 : Unt h0 a1) (ga1 : n0 ≤ a1) (htr : l.stackTraces = true) :
    MetFree l (⟨"caseward/web/RequestHead$Malformed", "<init>", "(Ljava/lang/String;)V"⟩ : MethodName) (head1 (Jvm.Cond.code (⟨"caseward/web/RequestHead$Malformed", "<init>", "(Ljava/lang/String;)V"⟩ : MethodName) prog_80_method_1_code 2 none :: ws) ({ frames := 7, cells := 1, slots := 2752, locals := 95 } : Room)) (fun a U => a = #[(.ref a1), (.ref a3)] ∧ Z.Warmed39 U.vm ∧ U.heap = h0) (fun _ _ bl s _ => s.vm.MethodsKnown ∧ s.vm.FramesKnown bl) (fun _ U o U' => ∃ v L, o = .returned v ∧ Q_ms Z wCS w_US w_SS a1 a3 h0 n0 v U'.heap L ∧ FrameEnd U o U' L ({ frames := 7, cells := 1, slots := 2752, locals := 95 } : Room).cells ({ frames := 7, cells := 1, slots := 2752, locals := 95 } : Room).slots) := by
  refine MetFree.of_bodySF (plainFor_of_name pn_5) hisR ?_
  intro p e s m args below meth c s₁ Bd hml0 hP hK
  obtain ⟨rfl, hZ, hh⟩ := hP
  have hx := Bd.exec
  have hby := Bd.bytes
  have hml : c.maxLocals = 2 := hml0
  have hown : s.vm.findClass "caseward/web/RequestHead$Malformed" = some m.cls := findClass_of_methodNamed Bd.named
  have hnm := (name_of_methodNamed Bd.named Bd.method).1
  have X0 : Stand p l e ({ frames := 7, cells := 1, slots := 2752, locals := 95 } : Room) s m #[(.ref a1), (.ref a3)] below meth c s₁ [] 0 0 := Stand.of_body Bd
  have e0 : s₁.heap = h0 := by rw [← hh, Bd.state]; rfl
  have N0 := Fr.nil n0
  obtain ⟨hTK, hBelow⟩ := hK
  obtain ⟨S_CS, hCS, S_US, S_SS⟩ := id G
  have k0 : Way p e below (s₁.setTop (entryFrame m #[(.ref a1), (.ref a3)] 2)) s₁ (mkF m 0 #[rv a1, rv a3] []) := fun t k => castTop (by first | (simp [entryFrame, mkF, argsToLocals, Value.category]; done) | rfl) k
  generalize s₁.setTop (entryFrame m #[(.ref a1), (.ref a3)] 2) = S0 at k0 ⊢
  have k1 : Way p e below S0 s₁ (mkF m 5 #[rv a1, rv a3] [(.ref a3), (.int (400 : Int32)), (.ref a1)]) := by
    intro t k
    refine k0 t ?_
    refine XS.aloadN X0.here hx rfl (hb hby d_prog_80_method_1_code_0) rfl rfl ?_
    show Steps p.tables e below (s₁.setTop (mkF m 1 #[rv a1, rv a3] [(.ref a1)])) _
    refine XS.sipush X0.here hx rfl (hb hby d_prog_80_method_1_code_1) ?_
    show Steps p.tables e below (s₁.setTop (mkF m 4 #[rv a1, rv a3] [(.int (400 : Int32)), (.ref a1)])) _
    refine XS.aloadN X0.here hx rfl (hb hby d_prog_80_method_1_code_4) rfl rfl ?_
    show Steps p.tables e below (s₁.setTop (mkF m 5 #[rv a1, rv a3] [(.ref a3), (.int (400 : Int32)), (.ref a1)])) _
    exact k
  obtain ⟨_, _, ⟨T2, L2, kk2, nn2⟩, -, X2, ⟨Lc2, hQ2, l2, y2, z2⟩, st2⟩ := X0.specialBack hx (y := (⟨"caseward/web/RequestHead$Malformed", "<init>", "(ILjava/lang/String;)V"⟩ : MethodName)) rfl hown (mvT hZ (hw _ (List.mem_of_getElem? (i := 105) rfl))) (mvT hZ (hw _ (List.mem_of_getElem? (i := 34) rfl))) (mvT hZ (hw _ (List.mem_of_getElem? (i := 35) rfl))) (by decide) (backOfKL (W := 0) (mi l Z a0 hw [] wCS w_US w_SS G a1 (400 : Int32) a3 h0 n0 O0 (a_0 : Exa Z h0 a1 "caseward/web/RequestHead$Malformed") (a_1 : Fld Z h0 a1 "java/lang/Throwable" "cause" "Ljava/lang/Throwable;" .null) (a_2 : Fld Z h0 a1 "java/lang/Throwable" "stackTrace" "[Ljava/lang/StackTraceElement;" .null) (a_3 : Fld Z h0 a1 "java/lang/Throwable" "suppressedExceptions" "Ljava/util/List;" .null) (a_4 : Fld Z h0 a1 "java/lang/Throwable" "backtrace" "Ljava/lang/Object;" .null) (a_5 : Fld Z h0 a1 "java/lang/Throwable" "detailMessage" "Ljava/lang/String;" .null) (a_6 : Fld Z h0 a1 "caseward/web/RequestHead$Malformed" "status" "I" (.int (0 : Int32))) (a_7 : Unt h0 a1) (ga1 : n0 ≤ a1) (htr : l.stackTraces = true)) hZ (hw _ (List.mem_of_getElem? (i := 35) rfl)) (hw _ (List.mem_of_getElem? (i := 32) rfl)) (by decide) (by decide) hTK hBelow) (g := (mkF m 5 #[rv a1, rv a3] [(.ref a3), (.int (400 : Int32)), (.ref a1)])) rfl (by rw [hml]; rfl) (Steps.refl _) (a := a1) (argsL := [(.int (400 : Int32)), (.ref a3)]) (rest := []) (lenOf pd_5 rfl) rfl (by show 2 * 0 + _ ≤ _; exact Nat.le_of_eq rfl) (hb hby d_prog_80_method_1_code_5) (fun _ _ => ⟨rfl, e0, (by decide : 0 + 1 ≤ _), (by decide : 0 + 2752 ≤ _)⟩)
  dsimp only [Pt.U, Pt.locs, Pt.cells, Pt.slots] at X2 l2 y2 z2 st2 hQ2
  subst l2 y2 z2
  obtain ⟨rfl, Nq2, Kq2, po2_0, po2_1⟩ := hQ2
  have N2 := Fr.app N0 Nq2
  have O2 := O0.keep Kq2 (allS ga1 all0)
  have K2 : Keep h0 T2.heap [a1] := (Keep.refl h0 [a1]).trans Kq2 (allS (Or.inl (List.mem_of_getElem? (i := 0) rfl)) all0)
  have k3 : Way p e below S0 T2 (mkF m 8 #[rv a1, rv a3] []) := fun t k => k1 t (st2.trans k)
  obtain ⟨fs, hr, hrun, hended, hW, hsame⟩ := X2.leave (v := none) (fun _ => rfl)
  refine ⟨_, _, k3 _ (X2.returnOut hx Bd.returns (hb hby d_prog_80_method_1_code_8) hr), hrun, hended, _, _, rfl, ?_, ⟨_, rfl⟩, hW, hsame.mono (by decide) (by decide)⟩
  show Q_ms Z wCS w_US w_SS a1 a3 h0 n0 _ T2.heap _
  exact ⟨rfl, N2, K2, po2_0, po2_1⟩
def Q_isT (Z : State) (wCS : Int32) (w_US : Addr) (w_SS : Addr) (a1 : Addr) (q1 : Int32) (h0 : Heap) (n0 : Nat) (v : Option Value) (h : Heap) (L : List Loc) : Prop := (v = some (.int (1 : Int32))) ∧ (Fr n0 L) ∧ (h = h0)
set_option maxRecDepth 65536 in
set_option maxHeartbeats 40000000 in
theorem isT (l : Launch) (Z : State) (a0 : Array Value) (hw : ∀ d ∈ tables_1, d.before a0 Z = true) (ws : List Jvm.Cond) (wCS : Int32) (w_US : Addr) (w_SS : Addr) (G : Gst Z wCS w_US w_SS) (a1 : Addr) (q1 : Int32) (h0 : Heap) (n0 : Nat) (O0 : Old Z n0 h0) (a_0 : Fld Z h0 a1 "caseward/web/RequestHead$Malformed" "status" "I" (.int q1)) (hq : q1 = (503 : Int32)) :
    MetFree l (⟨"caseward/web/RequestHead$Malformed", "isForWantOfRoom", "()Z"⟩ : MethodName) (head1 (Jvm.Cond.code (⟨"caseward/web/RequestHead$Malformed", "isForWantOfRoom", "()Z"⟩ : MethodName) prog_80_method_4_code 1 (some .boolean) :: ws) ({ frames := 0, cells := 0, slots := 0, locals := 0 } : Room)) (fun a U => a = #[(.ref a1)] ∧ Z.Warmed39 U.vm ∧ U.heap = h0) (fun _ _ _ _ _ => True) (fun _ U o U' => ∃ v L, o = .returned v ∧ Q_isT Z wCS w_US w_SS a1 q1 h0 n0 v U'.heap L ∧ FrameEnd U o U' L ({ frames := 0, cells := 0, slots := 0, locals := 0 } : Room).cells ({ frames := 0, cells := 0, slots := 0, locals := 0 } : Room).slots) := by
  refine MetFree.of_bodySF (plainFor_of_name pn_5) hisR ?_
  intro p e s m args below meth c s₁ Bd hml0 hP hK
  obtain ⟨rfl, hZ, hh⟩ := hP
  have hx := Bd.exec
  have hby := Bd.bytes
  have hml : c.maxLocals = 1 := hml0
  have hown : s.vm.findClass "caseward/web/RequestHead$Malformed" = some m.cls := findClass_of_methodNamed Bd.named
  have hnm := (name_of_methodNamed Bd.named Bd.method).1
  have X0 : Stand p l e ({ frames := 0, cells := 0, slots := 0, locals := 0 } : Room) s m #[(.ref a1)] below meth c s₁ [] 0 0 := Stand.of_body Bd
  have e0 : s₁.heap = h0 := by rw [← hh, Bd.state]; rfl
  have N0 := Fr.nil n0
  obtain ⟨S_CS, hCS, S_US, S_SS⟩ := id G
  have k0 : Way p e below (s₁.setTop (entryFrame m #[(.ref a1)] 1)) s₁ (mkF m 0 #[rv a1] []) := fun t k => castTop (by first | (simp [entryFrame, mkF, argsToLocals, Value.category]; done) | rfl) k
  generalize s₁.setTop (entryFrame m #[(.ref a1)] 1) = S0 at k0 ⊢
  have k1 : Way p e below S0 s₁ (mkF m 1 #[rv a1] [(.ref a1)]) := by
    intro t k
    refine k0 t ?_
    refine XS.aloadN X0.here hx rfl (hb hby d_prog_80_method_4_code_0) rfl rfl ?_
    show Steps p.tables e below (s₁.setTop (mkF m 1 #[rv a1] [(.ref a1)])) _
    exact k
  obtain ⟨T2, X2, e2, st2⟩ := getF X0 hx hZ hown (host := "") (Or.inl (hw _ (List.mem_of_getElem? (i := 90) rfl))) Via.refl e0 a_0 (g := (mkF m 1 #[rv a1] [(.ref a1)])) rfl rfl (hb hby d_prog_80_method_4_code_1)
  have k3 : Way p e below S0 T2 (mkF m 4 #[rv a1] [(.int q1)]) := fun t k => k1 t (st2 _ k)
  have k4 : Way p e below S0 T2 (mkF m 15 #[rv a1] [(.int (1 : Int32))]) := by
    intro t k
    refine k3 t ?_
    refine XS.sipush X2.here hx rfl (hb hby d_prog_80_method_4_code_4) ?_
    show Steps p.tables e below (T2.setTop (mkF m 7 #[rv a1] [(.int (503 : Int32)), (.int q1)])) _
    refine XS.icmpNo X2.here hx rfl (hb hby d_prog_80_method_4_code_7) rfl (teq (hq : q1 = (503 : Int32))).2 ?_
    show Steps p.tables e below (T2.setTop (mkF m 10 #[rv a1] [])) _
    refine XS.iconst X2.here hx rfl (hb hby d_prog_80_method_4_code_10) ?_
    show Steps p.tables e below (T2.setTop (mkF m 11 #[rv a1] [(.int (1 : Int32))])) _
    refine XS.goto X2.here hx rfl (pc0 := 11) (pc' := 15) rfl (hb hby d_prog_80_method_4_code_11) (by decide) (by decide) ?_
    show Steps p.tables e below (T2.setTop (mkF m 15 #[rv a1] [(.int (1 : Int32))])) _
    exact k
  obtain ⟨fs, hr, hrun, hended, hW, hsame⟩ := X2.leave (v := some (.int (1 : Int32))) (fun h => by rw [Bd.returns] at h; cases h)
  refine ⟨_, _, k4 _ (retN X2 hx (t := .boolean) Bd.returns (by simp) (hb hby d_prog_80_method_4_code_15) hr), hrun, hended, _, _, rfl, ?_, ⟨_, rfl⟩, hW, hsame.mono (by decide) (by decide)⟩
  show Q_isT Z wCS w_US w_SS a1 q1 h0 n0 _ T2.heap _
  rw [e2]
  exact ⟨rfl, N0, rfl⟩
def Q_isF (Z : State) (wCS : Int32) (w_US : Addr) (w_SS : Addr) (a1 : Addr) (q1 : Int32) (h0 : Heap) (n0 : Nat) (v : Option Value) (h : Heap) (L : List Loc) : Prop := (v = some (.int (0 : Int32))) ∧ (Fr n0 L) ∧ (h = h0)
set_option maxRecDepth 65536 in
set_option maxHeartbeats 40000000 in
theorem isF (l : Launch) (Z : State) (a0 : Array Value) (hw : ∀ d ∈ tables_1, d.before a0 Z = true) (ws : List Jvm.Cond) (wCS : Int32) (w_US : Addr) (w_SS : Addr) (G : Gst Z wCS w_US w_SS) (a1 : Addr) (q1 : Int32) (h0 : Heap) (n0 : Nat) (O0 : Old Z n0 h0) (a_0 : Fld Z h0 a1 "caseward/web/RequestHead$Malformed" "status" "I" (.int q1)) (hq : ¬ (q1 = (503 : Int32))) :
    MetFree l (⟨"caseward/web/RequestHead$Malformed", "isForWantOfRoom", "()Z"⟩ : MethodName) (head1 (Jvm.Cond.code (⟨"caseward/web/RequestHead$Malformed", "isForWantOfRoom", "()Z"⟩ : MethodName) prog_80_method_4_code 1 (some .boolean) :: ws) ({ frames := 0, cells := 0, slots := 0, locals := 0 } : Room)) (fun a U => a = #[(.ref a1)] ∧ Z.Warmed39 U.vm ∧ U.heap = h0) (fun _ _ _ _ _ => True) (fun _ U o U' => ∃ v L, o = .returned v ∧ Q_isF Z wCS w_US w_SS a1 q1 h0 n0 v U'.heap L ∧ FrameEnd U o U' L ({ frames := 0, cells := 0, slots := 0, locals := 0 } : Room).cells ({ frames := 0, cells := 0, slots := 0, locals := 0 } : Room).slots) := by
  refine MetFree.of_bodySF (plainFor_of_name pn_5) hisR ?_
  intro p e s m args below meth c s₁ Bd hml0 hP hK
  obtain ⟨rfl, hZ, hh⟩ := hP
  have hx := Bd.exec
  have hby := Bd.bytes
  have hml : c.maxLocals = 1 := hml0
  have hown : s.vm.findClass "caseward/web/RequestHead$Malformed" = some m.cls := findClass_of_methodNamed Bd.named
  have hnm := (name_of_methodNamed Bd.named Bd.method).1
  have X0 : Stand p l e ({ frames := 0, cells := 0, slots := 0, locals := 0 } : Room) s m #[(.ref a1)] below meth c s₁ [] 0 0 := Stand.of_body Bd
  have e0 : s₁.heap = h0 := by rw [← hh, Bd.state]; rfl
  have N0 := Fr.nil n0
  obtain ⟨S_CS, hCS, S_US, S_SS⟩ := id G
  have k0 : Way p e below (s₁.setTop (entryFrame m #[(.ref a1)] 1)) s₁ (mkF m 0 #[rv a1] []) := fun t k => castTop (by first | (simp [entryFrame, mkF, argsToLocals, Value.category]; done) | rfl) k
  generalize s₁.setTop (entryFrame m #[(.ref a1)] 1) = S0 at k0 ⊢
  have k1 : Way p e below S0 s₁ (mkF m 1 #[rv a1] [(.ref a1)]) := by
    intro t k
    refine k0 t ?_
    refine XS.aloadN X0.here hx rfl (hb hby d_prog_80_method_4_code_0) rfl rfl ?_
    show Steps p.tables e below (s₁.setTop (mkF m 1 #[rv a1] [(.ref a1)])) _
    exact k
  obtain ⟨T2, X2, e2, st2⟩ := getF X0 hx hZ hown (host := "") (Or.inl (hw _ (List.mem_of_getElem? (i := 90) rfl))) Via.refl e0 a_0 (g := (mkF m 1 #[rv a1] [(.ref a1)])) rfl rfl (hb hby d_prog_80_method_4_code_1)
  have k3 : Way p e below S0 T2 (mkF m 4 #[rv a1] [(.int q1)]) := fun t k => k1 t (st2 _ k)
  have k4 : Way p e below S0 T2 (mkF m 15 #[rv a1] [(.int (0 : Int32))]) := by
    intro t k
    refine k3 t ?_
    refine XS.sipush X2.here hx rfl (hb hby d_prog_80_method_4_code_4) ?_
    show Steps p.tables e below (T2.setTop (mkF m 7 #[rv a1] [(.int (503 : Int32)), (.int q1)])) _
    refine XS.icmpYes X2.here hx rfl (pc0 := 7) (pc' := 14) rfl (hb hby d_prog_80_method_4_code_7) rfl (feq (hq : ¬ (q1 = (503 : Int32)))).2 (by decide) (by decide) ?_
    show Steps p.tables e below (T2.setTop (mkF m 14 #[rv a1] [])) _
    refine XS.iconst X2.here hx rfl (hb hby d_prog_80_method_4_code_14) ?_
    show Steps p.tables e below (T2.setTop (mkF m 15 #[rv a1] [(.int (0 : Int32))])) _
    exact k
  obtain ⟨fs, hr, hrun, hended, hW, hsame⟩ := X2.leave (v := some (.int (0 : Int32))) (fun h => by rw [Bd.returns] at h; cases h)
  refine ⟨_, _, k4 _ (retN X2 hx (t := .boolean) Bd.returns (by simp) (hb hby d_prog_80_method_4_code_15) hr), hrun, hended, _, _, rfl, ?_, ⟨_, rfl⟩, hW, hsame.mono (by decide) (by decide)⟩
  show Q_isF Z wCS w_US w_SS a1 q1 h0 n0 _ T2.heap _
  rw [e2]
  exact ⟨rfl, N0, rfl⟩
def Q_stt (Z : State) (wCS : Int32) (w_US : Addr) (w_SS : Addr) (a1 : Addr) (q1 : Int32) (h0 : Heap) (n0 : Nat) (v : Option Value) (h : Heap) (L : List Loc) : Prop := (v = some (.int q1)) ∧ (Fr n0 L) ∧ (h = h0)
set_option maxRecDepth 65536 in
set_option maxHeartbeats 40000000 in
theorem stt (l : Launch) (Z : State) (a0 : Array Value) (hw : ∀ d ∈ tables_1, d.before a0 Z = true) (ws : List Jvm.Cond) (wCS : Int32) (w_US : Addr) (w_SS : Addr) (G : Gst Z wCS w_US w_SS) (a1 : Addr) (q1 : Int32) (h0 : Heap) (n0 : Nat) (O0 : Old Z n0 h0) (a_0 : Fld Z h0 a1 "caseward/web/RequestHead$Malformed" "status" "I" (.int q1)) :
    MetFree l (⟨"caseward/web/RequestHead$Malformed", "status", "()I"⟩ : MethodName) (head1 (Jvm.Cond.code (⟨"caseward/web/RequestHead$Malformed", "status", "()I"⟩ : MethodName) prog_80_method_3_code 1 (some .int) :: ws) ({ frames := 0, cells := 0, slots := 0, locals := 0 } : Room)) (fun a U => a = #[(.ref a1)] ∧ Z.Warmed39 U.vm ∧ U.heap = h0) (fun _ _ _ _ _ => True) (fun _ U o U' => ∃ v L, o = .returned v ∧ Q_stt Z wCS w_US w_SS a1 q1 h0 n0 v U'.heap L ∧ FrameEnd U o U' L ({ frames := 0, cells := 0, slots := 0, locals := 0 } : Room).cells ({ frames := 0, cells := 0, slots := 0, locals := 0 } : Room).slots) := by
  refine MetFree.of_bodySF (plainFor_of_name pn_5) hisR ?_
  intro p e s m args below meth c s₁ Bd hml0 hP hK
  obtain ⟨rfl, hZ, hh⟩ := hP
  have hx := Bd.exec
  have hby := Bd.bytes
  have hml : c.maxLocals = 1 := hml0
  have hown : s.vm.findClass "caseward/web/RequestHead$Malformed" = some m.cls := findClass_of_methodNamed Bd.named
  have hnm := (name_of_methodNamed Bd.named Bd.method).1
  have X0 : Stand p l e ({ frames := 0, cells := 0, slots := 0, locals := 0 } : Room) s m #[(.ref a1)] below meth c s₁ [] 0 0 := Stand.of_body Bd
  have e0 : s₁.heap = h0 := by rw [← hh, Bd.state]; rfl
  have N0 := Fr.nil n0
  obtain ⟨S_CS, hCS, S_US, S_SS⟩ := id G
  have k0 : Way p e below (s₁.setTop (entryFrame m #[(.ref a1)] 1)) s₁ (mkF m 0 #[rv a1] []) := fun t k => castTop (by first | (simp [entryFrame, mkF, argsToLocals, Value.category]; done) | rfl) k
  generalize s₁.setTop (entryFrame m #[(.ref a1)] 1) = S0 at k0 ⊢
  have k1 : Way p e below S0 s₁ (mkF m 1 #[rv a1] [(.ref a1)]) := by
    intro t k
    refine k0 t ?_
    refine XS.aloadN X0.here hx rfl (hb hby d_prog_80_method_3_code_0) rfl rfl ?_
    show Steps p.tables e below (s₁.setTop (mkF m 1 #[rv a1] [(.ref a1)])) _
    exact k
  obtain ⟨T2, X2, e2, st2⟩ := getF X0 hx hZ hown (host := "") (Or.inl (hw _ (List.mem_of_getElem? (i := 90) rfl))) Via.refl e0 a_0 (g := (mkF m 1 #[rv a1] [(.ref a1)])) rfl rfl (hb hby d_prog_80_method_3_code_1)
  have k3 : Way p e below S0 T2 (mkF m 4 #[rv a1] [(.int q1)]) := fun t k => k1 t (st2 _ k)
  obtain ⟨fs, hr, hrun, hended, hW, hsame⟩ := X2.leave (v := some (.int q1)) (fun h => by rw [Bd.returns] at h; cases h)
  refine ⟨_, _, k3 _ (retOut X2 hx Bd.returns rfl (Or.inl ⟨rfl, Or.inl rfl, _, rfl⟩) (hb hby d_prog_80_method_3_code_4) hr), hrun, hended, _, _, rfl, ?_, ⟨_, rfl⟩, hW, hsame.mono (by decide) (by decide)⟩
  show Q_stt Z wCS w_US w_SS a1 q1 h0 n0 _ T2.heap _
  rw [e2]
  exact ⟨rfl, N0, rfl⟩
def Q_law_met (Z : State) (wCS : Int32) (w_US : Addr) (w_SS : Addr) (p1 : Int32) (p2 : Int32) (p3 : Int32) (p4 : Int32) (h0 : Heap) (n0 : Nat) (v : Option Value) (h : Heap) (L : List Loc) : Prop := (v = some (.int (1 : Int32))) ∧ (Fr n0 L)
set_option maxRecDepth 65536 in
set_option maxHeartbeats 40000000 in
theorem law_met (l : Launch) (Z : State) (a0 : Array Value) (hw : ∀ d ∈ tables_1, d.before a0 Z = true) (ws : List Jvm.Cond) (wCS : Int32) (w_US : Addr) (w_SS : Addr) (G : Gst Z wCS w_US w_SS) (p1 : Int32) (p2 : Int32) (p3 : Int32) (p4 : Int32) (h0 : Heap) (n0 : Nat) (O0 : Old Z n0 h0) (htr : l.stackTraces = true) :
    MetFree l x (head1 (Jvm.Cond.code x code maxLocals ret :: ws) room_1) (fun a U => a = #[(.int p1), (.int p2), (.int p3), (.int p4)] ∧ Z.Warmed39 U.vm ∧ U.heap = h0) (fun _ _ bl s _ => s.vm.MethodsKnown ∧ s.vm.FramesKnown bl) (fun _ U o U' => ∃ v L, o = .returned v ∧ Q_law_met Z wCS w_US w_SS p1 p2 p3 p4 h0 n0 v U'.heap L ∧ FrameEnd U o U' L 24 5632) := by
  refine MetFree.of_bodySF (plainFor_of_name pn_6) hisR ?_
  intro p e s m args below meth c s₁ Bd hml0 hP hK
  obtain ⟨rfl, hZ, hh⟩ := hP
  have hx := Bd.exec
  have hby := Bd.bytes
  have hml : c.maxLocals = 13 := hml0
  have hown : s.vm.findClass "caseward/web/MalformedIsForWantOfRoomPinLaw" = some m.cls := findClass_of_methodNamed Bd.named
  have hnm := (name_of_methodNamed Bd.named Bd.method).1
  have X0 : Stand p l e room_1 s m #[(.int p1), (.int p2), (.int p3), (.int p4)] below meth c s₁ [] 0 0 := Stand.of_body Bd
  have e0 : s₁.heap = h0 := by rw [← hh, Bd.state]; rfl
  have N0 := Fr.nil n0
  obtain ⟨hTK, hBelow⟩ := hK
  obtain ⟨S_CS, hCS, S_US, S_SS⟩ := id G
  have k0 : Way p e below (s₁.setTop (entryFrame m #[(.int p1), (.int p2), (.int p3), (.int p4)] maxLocals)) s₁ (mkF m 0 #[iv p1, iv p2, iv p3, iv p4, .unset, .unset, .unset, .unset, .unset, .unset, .unset, .unset, .unset] []) := fun t k => castTop (by first | (simp [entryFrame, mkF, argsToLocals, Value.category, maxLocals]; done) | rfl) k
  generalize s₁.setTop (entryFrame m #[(.int p1), (.int p2), (.int p3), (.int p4)] maxLocals) = S0 at k0 ⊢
  have k1 : Way p e below S0 s₁ (mkF m 5 #[iv p1, iv p2, iv p3, iv p4, iv (p1 &&& (3 : Int32)), .unset, .unset, .unset, .unset, .unset, .unset, .unset, .unset] []) := by
    intro t k
    refine k0 t ?_
    refine XS.iloadN X0.here hx rfl (hb hby at_0) rfl ?_
    show Steps p.tables e below (s₁.setTop (mkF m 1 #[iv p1, iv p2, iv p3, iv p4, .unset, .unset, .unset, .unset, .unset, .unset, .unset, .unset, .unset] [(.int p1)])) _
    refine XS.iconst X0.here hx rfl (hb hby at_1) ?_
    show Steps p.tables e below (s₁.setTop (mkF m 2 #[iv p1, iv p2, iv p3, iv p4, .unset, .unset, .unset, .unset, .unset, .unset, .unset, .unset, .unset] [(.int (3 : Int32)), (.int p1)])) _
    refine XS.iand X0.here hx rfl (hb hby at_2) rfl ?_
    show Steps p.tables e below (s₁.setTop (mkF m 3 #[iv p1, iv p2, iv p3, iv p4, .unset, .unset, .unset, .unset, .unset, .unset, .unset, .unset, .unset] [(.int (p1 &&& (3 : Int32)))])) _
    refine XS.istore X0.here hx rfl (hb hby at_3) rfl (l' := #[iv p1, iv p2, iv p3, iv p4, iv (p1 &&& (3 : Int32)), .unset, .unset, .unset, .unset, .unset, .unset, .unset, .unset]) rfl ?_
    show Steps p.tables e below (s₁.setTop (mkF m 5 #[iv p1, iv p2, iv p3, iv p4, iv (p1 &&& (3 : Int32)), .unset, .unset, .unset, .unset, .unset, .unset, .unset, .unset] [])) _
    exact k
  have hr2 : (p1 &&& (3 : Int32)) = (0 : Int32) ∨ (p1 &&& (3 : Int32)) = (1 : Int32) ∨ (p1 &&& (3 : Int32)) = (2 : Int32) ∨ (p1 &&& (3 : Int32)) = (3 : Int32) := own_mask3 p1
  rcases hr2 with hi2 | hi2 | hi2 | hi2
  · have k3 : Way p e below S0 s₁ (mkF m 5 #[iv p1, iv p2, iv p3, iv p4, iv (0 : Int32), .unset, .unset, .unset, .unset, .unset, .unset, .unset, .unset] []) := by have q := k1; rw [hi2] at q; exact q
    have k4 : Way p e below S0 s₁ (mkF m 44 #[iv p1, iv p2, iv p3, iv p4, iv (0 : Int32), iv (503 : Int32), .unset, .unset, .unset, .unset, .unset, .unset, .unset] [(.int (2 : Int32))]) := by
      intro t k
      refine k3 t ?_
      refine XS.iload X0.here hx rfl (hb hby at_5) rfl ?_
      show Steps p.tables e below (s₁.setTop (mkF m 7 #[iv p1, iv p2, iv p3, iv p4, iv (0 : Int32), .unset, .unset, .unset, .unset, .unset, .unset, .unset, .unset] [(.int (0 : Int32))])) _
      refine XS.ifNo X0.here hx rfl (hb hby at_7) rfl ((if0 _ _).trans (teq ((by decide) : (0 : Int32) = (0 : Int32))).2) ?_
      show Steps p.tables e below (s₁.setTop (mkF m 10 #[iv p1, iv p2, iv p3, iv p4, iv (0 : Int32), .unset, .unset, .unset, .unset, .unset, .unset, .unset, .unset] [])) _
      refine XS.sipush X0.here hx rfl (hb hby at_10) ?_
      show Steps p.tables e below (s₁.setTop (mkF m 13 #[iv p1, iv p2, iv p3, iv p4, iv (0 : Int32), .unset, .unset, .unset, .unset, .unset, .unset, .unset, .unset] [(.int (503 : Int32))])) _
      refine XS.goto X0.here hx rfl (pc0 := 13) (pc' := 41) rfl (hb hby at_13) (by decide) (by decide) ?_
      show Steps p.tables e below (s₁.setTop (mkF m 41 #[iv p1, iv p2, iv p3, iv p4, iv (0 : Int32), .unset, .unset, .unset, .unset, .unset, .unset, .unset, .unset] [(.int (503 : Int32))])) _
      refine XS.istore X0.here hx rfl (hb hby at_41) rfl (l' := #[iv p1, iv p2, iv p3, iv p4, iv (0 : Int32), iv (503 : Int32), .unset, .unset, .unset, .unset, .unset, .unset, .unset]) rfl ?_
      show Steps p.tables e below (s₁.setTop (mkF m 43 #[iv p1, iv p2, iv p3, iv p4, iv (0 : Int32), iv (503 : Int32), .unset, .unset, .unset, .unset, .unset, .unset, .unset] [])) _
      refine XS.iconst X0.here hx rfl (hb hby at_43) ?_
      show Steps p.tables e below (s₁.setTop (mkF m 44 #[iv p1, iv p2, iv p3, iv p4, iv (0 : Int32), iv (503 : Int32), .unset, .unset, .unset, .unset, .unset, .unset, .unset] [(.int (2 : Int32))])) _
      exact k
    obtain ⟨T5, h5, c5, X5, e5, E5, A5, B5, st5⟩ := newPE X0 hx hZ (hw _ (List.mem_of_getElem? (i := 0) rfl)) e0 (g := (mkF m 44 #[iv p1, iv p2, iv p3, iv p4, iv (0 : Int32), iv (503 : Int32), .unset, .unset, .unset, .unset, .unset, .unset, .unset] [(.int (2 : Int32))])) rfl (hb hby at_44) rfl (by decide) (cap := 2) (by decide) (by decide) (by decide) (by decide) (ad := "[C") (by decide)
    obtain ⟨b5, g5⟩ : ∃ z, z = h0.size := ⟨_, rfl⟩
    rw [← g5] at A5 B5 st5
    have O5 := O0.ext E5
    have v5 : Arv Z h5 b5 c5 .char (2 : Int32) [(.int (0 : Int32)), (.int (0 : Int32))] (.int (0 : Int32)) := (Arv.new A5 (by decide)).pad (pad_rep [] (.int (0 : Int32)) 2)
    have k6 : Way p e below S0 T5 (mkF m 46 #[iv p1, iv p2, iv p3, iv p4, iv (0 : Int32), iv (503 : Int32), .unset, .unset, .unset, .unset, .unset, .unset, .unset] [(.ref b5)]) := fun t k => k4 t (st5 _ k)
    have k7 : Way p e below S0 T5 (mkF m 54 #[iv p1, iv p2, iv p3, iv p4, iv (0 : Int32), iv (503 : Int32), .unset, .unset, .unset, .unset, .unset, .unset, .unset] [(.int ((p3 &&& (255 : Int32)).toUInt32.toUInt16.toUInt32.toInt32)), (.int (0 : Int32)), (.ref b5), (.ref b5)]) := by
      intro t k
      refine k6 t ?_
      refine XS.dup X5.here hx rfl (hb hby at_46) rfl rfl ?_
      show Steps p.tables e below (T5.setTop (mkF m 47 #[iv p1, iv p2, iv p3, iv p4, iv (0 : Int32), iv (503 : Int32), .unset, .unset, .unset, .unset, .unset, .unset, .unset] [(.ref b5), (.ref b5)])) _
      refine XS.iconst X5.here hx rfl (hb hby at_47) ?_
      show Steps p.tables e below (T5.setTop (mkF m 48 #[iv p1, iv p2, iv p3, iv p4, iv (0 : Int32), iv (503 : Int32), .unset, .unset, .unset, .unset, .unset, .unset, .unset] [(.int (0 : Int32)), (.ref b5), (.ref b5)])) _
      refine XS.iloadN X5.here hx rfl (hb hby at_48) rfl ?_
      show Steps p.tables e below (T5.setTop (mkF m 49 #[iv p1, iv p2, iv p3, iv p4, iv (0 : Int32), iv (503 : Int32), .unset, .unset, .unset, .unset, .unset, .unset, .unset] [(.int p3), (.int (0 : Int32)), (.ref b5), (.ref b5)])) _
      refine XS.sipush X5.here hx rfl (hb hby at_49) ?_
      show Steps p.tables e below (T5.setTop (mkF m 52 #[iv p1, iv p2, iv p3, iv p4, iv (0 : Int32), iv (503 : Int32), .unset, .unset, .unset, .unset, .unset, .unset, .unset] [(.int (255 : Int32)), (.int p3), (.int (0 : Int32)), (.ref b5), (.ref b5)])) _
      refine XS.iand X5.here hx rfl (hb hby at_52) rfl ?_
      show Steps p.tables e below (T5.setTop (mkF m 53 #[iv p1, iv p2, iv p3, iv p4, iv (0 : Int32), iv (503 : Int32), .unset, .unset, .unset, .unset, .unset, .unset, .unset] [(.int (p3 &&& (255 : Int32))), (.int (0 : Int32)), (.ref b5), (.ref b5)])) _
      refine XS.i2c X5.here hx rfl (hb hby at_53) rfl ?_
      show Steps p.tables e below (T5.setTop (mkF m 54 #[iv p1, iv p2, iv p3, iv p4, iv (0 : Int32), iv (503 : Int32), .unset, .unset, .unset, .unset, .unset, .unset, .unset] [(.int ((p3 &&& (255 : Int32)).toUInt32.toUInt16.toUInt32.toInt32)), (.int (0 : Int32)), (.ref b5), (.ref b5)])) _
      exact k
    obtain ⟨cl8, Ar8, qc8, S8, M8, U8, G8⟩ := id (v5)
    have hin8 : ¬ ((0 : Int32) < 0 ∨ cl8.slots.size ≤ ((0 : Int32)).toNatClampNeg) := inb_of S8 ⟨by decide, by decide⟩
    obtain ⟨T8, h8, X8, e8, W8, st8⟩ := stC X5 hx hZ e5 Ar8 (j := (0 : Int32)) hin8 (g := (mkF m 54 #[iv p1, iv p2, iv p3, iv p4, iv (0 : Int32), iv (503 : Int32), .unset, .unset, .unset, .unset, .unset, .unset, .unset] [(.int ((p3 &&& (255 : Int32)).toUInt32.toUInt16.toUInt32.toInt32)), (.int (0 : Int32)), (.ref b5), (.ref b5)])) rfl rfl (hb hby at_54)
    have ge9 : n0 ≤ b5 := Nat.le_trans (own_old O0) (Nat.le_of_eq g5.symm)
    have O8 := O5.wr W8 ge9
    have N8 := Fr.snoc X8 N0 ge9
    have va8 : Arv Z h8 b5 c5 .char (2 : Int32) [(.int (((p3 &&& (255 : Int32)).toUInt32.toUInt16.toUInt32.toInt32).toUInt32.toUInt16.toUInt32.toInt32)), (.int (0 : Int32))] (.int (0 : Int32)) := Arv.set Ar8 qc8 S8 M8 U8 G8 (fits_nar_char _) W8 0 rfl (Nat.le_of_ble_eq_true rfl)
    have k10 : Way p e below S0 T8 (mkF m 55 #[iv p1, iv p2, iv p3, iv p4, iv (0 : Int32), iv (503 : Int32), .unset, .unset, .unset, .unset, .unset, .unset, .unset] [(.ref b5)]) := fun t k => k7 t (st8 _ k)
    have k11 : Way p e below S0 T8 (mkF m 63 #[iv p1, iv p2, iv p3, iv p4, iv (0 : Int32), iv (503 : Int32), .unset, .unset, .unset, .unset, .unset, .unset, .unset] [(.int ((p4 &&& (255 : Int32)).toUInt32.toUInt16.toUInt32.toInt32)), (.int (1 : Int32)), (.ref b5), (.ref b5)]) := by
      intro t k
      refine k10 t ?_
      refine XS.dup X8.here hx rfl (hb hby at_55) rfl rfl ?_
      show Steps p.tables e below (T8.setTop (mkF m 56 #[iv p1, iv p2, iv p3, iv p4, iv (0 : Int32), iv (503 : Int32), .unset, .unset, .unset, .unset, .unset, .unset, .unset] [(.ref b5), (.ref b5)])) _
      refine XS.iconst X8.here hx rfl (hb hby at_56) ?_
      show Steps p.tables e below (T8.setTop (mkF m 57 #[iv p1, iv p2, iv p3, iv p4, iv (0 : Int32), iv (503 : Int32), .unset, .unset, .unset, .unset, .unset, .unset, .unset] [(.int (1 : Int32)), (.ref b5), (.ref b5)])) _
      refine XS.iloadN X8.here hx rfl (hb hby at_57) rfl ?_
      show Steps p.tables e below (T8.setTop (mkF m 58 #[iv p1, iv p2, iv p3, iv p4, iv (0 : Int32), iv (503 : Int32), .unset, .unset, .unset, .unset, .unset, .unset, .unset] [(.int p4), (.int (1 : Int32)), (.ref b5), (.ref b5)])) _
      refine XS.sipush X8.here hx rfl (hb hby at_58) ?_
      show Steps p.tables e below (T8.setTop (mkF m 61 #[iv p1, iv p2, iv p3, iv p4, iv (0 : Int32), iv (503 : Int32), .unset, .unset, .unset, .unset, .unset, .unset, .unset] [(.int (255 : Int32)), (.int p4), (.int (1 : Int32)), (.ref b5), (.ref b5)])) _
      refine XS.iand X8.here hx rfl (hb hby at_61) rfl ?_
      show Steps p.tables e below (T8.setTop (mkF m 62 #[iv p1, iv p2, iv p3, iv p4, iv (0 : Int32), iv (503 : Int32), .unset, .unset, .unset, .unset, .unset, .unset, .unset] [(.int (p4 &&& (255 : Int32))), (.int (1 : Int32)), (.ref b5), (.ref b5)])) _
      refine XS.i2c X8.here hx rfl (hb hby at_62) rfl ?_
      show Steps p.tables e below (T8.setTop (mkF m 63 #[iv p1, iv p2, iv p3, iv p4, iv (0 : Int32), iv (503 : Int32), .unset, .unset, .unset, .unset, .unset, .unset, .unset] [(.int ((p4 &&& (255 : Int32)).toUInt32.toUInt16.toUInt32.toInt32)), (.int (1 : Int32)), (.ref b5), (.ref b5)])) _
      exact k
    obtain ⟨cl12, Ar12, qc12, S12, M12, U12, G12⟩ := id (va8)
    have hin12 : ¬ ((1 : Int32) < 0 ∨ cl12.slots.size ≤ ((1 : Int32)).toNatClampNeg) := inb_of S12 ⟨by decide, by decide⟩
    obtain ⟨T12, h12, X12, e12, W12, st12⟩ := stC X8 hx hZ e8 Ar12 (j := (1 : Int32)) hin12 (g := (mkF m 63 #[iv p1, iv p2, iv p3, iv p4, iv (0 : Int32), iv (503 : Int32), .unset, .unset, .unset, .unset, .unset, .unset, .unset] [(.int ((p4 &&& (255 : Int32)).toUInt32.toUInt16.toUInt32.toInt32)), (.int (1 : Int32)), (.ref b5), (.ref b5)])) rfl rfl (hb hby at_63)
    have O12 := O8.wr W12 ge9
    have N12 := Fr.snoc X12 N8 ge9
    have va12 : Arv Z h12 b5 c5 .char (2 : Int32) [(.int (((p3 &&& (255 : Int32)).toUInt32.toUInt16.toUInt32.toInt32).toUInt32.toUInt16.toUInt32.toInt32)), (.int (((p4 &&& (255 : Int32)).toUInt32.toUInt16.toUInt32.toInt32).toUInt32.toUInt16.toUInt32.toInt32))] (.int (0 : Int32)) := Arv.set Ar12 qc12 S12 M12 U12 G12 (fits_nar_char _) W12 1 rfl (Nat.le_of_ble_eq_true rfl)
    have k13 : Way p e below S0 T12 (mkF m 64 #[iv p1, iv p2, iv p3, iv p4, iv (0 : Int32), iv (503 : Int32), .unset, .unset, .unset, .unset, .unset, .unset, .unset] [(.ref b5)]) := fun t k => k11 t (st12 _ k)
    have k14 : Way p e below S0 T12 (mkF m 66 #[iv p1, iv p2, iv p3, iv p4, iv (0 : Int32), iv (503 : Int32), rv b5, .unset, .unset, .unset, .unset, .unset, .unset] []) := by
      intro t k
      refine k13 t ?_
      refine XS.astore X12.here hx rfl (hb hby at_64) rfl rfl (l' := #[iv p1, iv p2, iv p3, iv p4, iv (0 : Int32), iv (503 : Int32), rv b5, .unset, .unset, .unset, .unset, .unset, .unset]) rfl ?_
      show Steps p.tables e below (T12.setTop (mkF m 66 #[iv p1, iv p2, iv p3, iv p4, iv (0 : Int32), iv (503 : Int32), rv b5, .unset, .unset, .unset, .unset, .unset, .unset] [])) _
      exact k
    obtain ⟨T15, h15, X15, e15, E15, A15, D15, U15, st15⟩ := newO X12 hx hZ hown (hw _ (List.mem_of_getElem? (i := 1) rfl)) (hw _ (List.mem_of_getElem? (i := 2) rfl)) (hw _ (List.mem_of_getElem? (i := 3) rfl)) e12 (g := (mkF m 66 #[iv p1, iv p2, iv p3, iv p4, iv (0 : Int32), iv (503 : Int32), rv b5, .unset, .unset, .unset, .unset, .unset, .unset] [])) rfl (hb hby at_66) (by decide) (by decide)
    obtain ⟨b15, g15⟩ : ∃ z, z = h12.size := ⟨_, rfl⟩
    rw [← g15] at A15 D15 U15 st15
    have O15 := O12.ext E15
    have i15_coder : Fld Z h15 b15 "java/lang/String" "coder" "B" (.int (0 : Int32)) := D15 (Or.inr (hw _ (List.mem_of_getElem? (i := 27) rfl))) (ty := .byte) (by decide)
    have i15_value : Fld Z h15 b15 "java/lang/String" "value" "[B" .null := D15 (Or.inr (hw _ (List.mem_of_getElem? (i := 29) rfl))) (ty := (.array .byte)) (by decide)
    have k16 : Way p e below S0 T15 (mkF m 69 #[iv p1, iv p2, iv p3, iv p4, iv (0 : Int32), iv (503 : Int32), rv b5, .unset, .unset, .unset, .unset, .unset, .unset] [(.ref b15)]) := fun t k => k14 t (st15 _ k)
    have k17 : Way p e below S0 T15 (mkF m 72 #[iv p1, iv p2, iv p3, iv p4, iv (0 : Int32), iv (503 : Int32), rv b5, .unset, .unset, .unset, .unset, .unset, .unset] [(.ref b5), (.ref b15), (.ref b15)]) := by
      intro t k
      refine k16 t ?_
      refine XS.dup X15.here hx rfl (hb hby at_69) rfl rfl ?_
      show Steps p.tables e below (T15.setTop (mkF m 70 #[iv p1, iv p2, iv p3, iv p4, iv (0 : Int32), iv (503 : Int32), rv b5, .unset, .unset, .unset, .unset, .unset, .unset] [(.ref b15), (.ref b15)])) _
      refine XS.aload X15.here hx rfl (hb hby at_70) rfl rfl ?_
      show Steps p.tables e below (T15.setTop (mkF m 72 #[iv p1, iv p2, iv p3, iv p4, iv (0 : Int32), iv (503 : Int32), rv b5, .unset, .unset, .unset, .unset, .unset, .unset] [(.ref b5), (.ref b15), (.ref b15)])) _
      exact k
    have ge18 : n0 ≤ b15 := Nat.le_trans (own_old O12) (Nat.le_of_eq g15.symm)
    have f19 : Arv Z h15 b5 c5 .char (2 : Int32) [(.int (((p3 &&& (255 : Int32)).toUInt32.toUInt16.toUInt32.toInt32).toUInt32.toUInt16.toUInt32.toInt32)), (.int (((p4 &&& (255 : Int32)).toUInt32.toUInt16.toUInt32.toInt32).toUInt32.toUInt16.toUInt32.toInt32))] (.int (0 : Int32)) := (va12.ext E15)
    obtain ⟨_, _, ⟨T20, L20, kk20, nn20⟩, -, X20, ⟨Lc20, hQ20, l20, y20, z20⟩, st20⟩ := X15.specialBack hx (y := (⟨"java/lang/String", "<init>", "([C)V"⟩ : MethodName)) rfl hown (mvT hZ (hw _ (List.mem_of_getElem? (i := 4) rfl))) (mvT hZ (hw _ (List.mem_of_getElem? (i := 5) rfl))) (mvT hZ (hw _ (List.mem_of_getElem? (i := 6) rfl))) (by decide) (backOf (W := 1) (sinit_2 l Z a0 hw [] wCS w_US w_SS G b15 b5 c5 (((p3 &&& (255 : Int32)).toUInt32.toUInt16.toUInt32.toInt32).toUInt32.toUInt16.toUInt32.toInt32) (((p4 &&& (255 : Int32)).toUInt32.toUInt16.toUInt32.toInt32).toUInt32.toUInt16.toUInt32.toInt32) h15 n0 O15 (A15 : Exa Z h15 b15 "java/lang/String") (i15_value : Fld Z h15 b15 "java/lang/String" "value" "[B" .null) (i15_coder : Fld Z h15 b15 "java/lang/String" "coder" "B" (.int (0 : Int32))) (ge18 : n0 ≤ b15) ((Ne.symm (Nat.ne_of_lt (Nat.lt_of_lt_of_le ((B5.wr W8).wr W12).lt (Nat.le_of_eq g15.symm)))) : b15 ≠ b5) (f19 : Arv Z h15 b5 c5 .char (2 : Int32) [(.int (((p3 &&& (255 : Int32)).toUInt32.toUInt16.toUInt32.toInt32).toUInt32.toUInt16.toUInt32.toInt32)), (.int (((p4 &&& (255 : Int32)).toUInt32.toUInt16.toUInt32.toInt32).toUInt32.toUInt16.toUInt32.toInt32))] (.int (0 : Int32))) (own_chr _ : ¬ ((255 : Int32) < (((p3 &&& (255 : Int32)).toUInt32.toUInt16.toUInt32.toInt32).toUInt32.toUInt16.toUInt32.toInt32))) (own_chr _ : ¬ ((255 : Int32) < (((p4 &&& (255 : Int32)).toUInt32.toUInt16.toUInt32.toInt32).toUInt32.toUInt16.toUInt32.toInt32)))) hZ (hw _ (List.mem_of_getElem? (i := 6) rfl)) (hw _ (List.mem_of_getElem? (i := 3) rfl)) (by decide) (by decide)) (g := (mkF m 72 #[iv p1, iv p2, iv p3, iv p4, iv (0 : Int32), iv (503 : Int32), rv b5, .unset, .unset, .unset, .unset, .unset, .unset] [(.ref b5), (.ref b15), (.ref b15)])) rfl (by rw [hml]; rfl) (Steps.refl _) (a := b15) (argsL := [(.ref b5)]) (rest := [(.ref b15)]) (lenOf pd_6 rfl) rfl (by show 2 * 0 + _ ≤ _; exact Nat.le_of_eq rfl) (hb hby at_72) (fun _ _ => ⟨rfl, e15, (by decide : 2 + 1 ≤ _), (by decide : 6 + 2 ≤ _)⟩)
    dsimp only [Pt.U, Pt.locs, Pt.cells, Pt.slots] at X20 l20 y20 z20 st20 hQ20
    subst l20 y20 z20
    obtain ⟨d1_20, kb_20, rfl, Nq20, Kq20, po20_0, po20_1, po20_2, po20_3, po20_4, po20_5⟩ := hQ20
    have N20 := Fr.app N12 Nq20
    have O20 := O15.keep Kq20 (allS ge18 all0)
    have k21 : Way p e below S0 T20 (mkF m 75 #[iv p1, iv p2, iv p3, iv p4, iv (0 : Int32), iv (503 : Int32), rv b5, .unset, .unset, .unset, .unset, .unset, .unset] [(.ref b15)]) := fun t k => k17 t (st20.trans k)
    have k23 : Way p e below S0 T20 (mkF m 80 #[iv p1, iv p2, iv p3, iv p4, iv (0 : Int32), iv (503 : Int32), rv b5, rv b15, .unset, .unset, .unset, .unset, .unset] [(.int (p1 &&& (4 : Int32)))]) := by
      intro t k
      refine k21 t ?_
      refine XS.astore X20.here hx rfl (hb hby at_75) rfl rfl (l' := #[iv p1, iv p2, iv p3, iv p4, iv (0 : Int32), iv (503 : Int32), rv b5, rv b15, .unset, .unset, .unset, .unset, .unset]) rfl ?_
      show Steps p.tables e below (T20.setTop (mkF m 77 #[iv p1, iv p2, iv p3, iv p4, iv (0 : Int32), iv (503 : Int32), rv b5, rv b15, .unset, .unset, .unset, .unset, .unset] [])) _
      refine XS.iloadN X20.here hx rfl (hb hby at_77) rfl ?_
      show Steps p.tables e below (T20.setTop (mkF m 78 #[iv p1, iv p2, iv p3, iv p4, iv (0 : Int32), iv (503 : Int32), rv b5, rv b15, .unset, .unset, .unset, .unset, .unset] [(.int p1)])) _
      refine XS.iconst X20.here hx rfl (hb hby at_78) ?_
      show Steps p.tables e below (T20.setTop (mkF m 79 #[iv p1, iv p2, iv p3, iv p4, iv (0 : Int32), iv (503 : Int32), rv b5, rv b15, .unset, .unset, .unset, .unset, .unset] [(.int (4 : Int32)), (.int p1)])) _
      refine XS.iand X20.here hx rfl (hb hby at_79) rfl ?_
      show Steps p.tables e below (T20.setTop (mkF m 80 #[iv p1, iv p2, iv p3, iv p4, iv (0 : Int32), iv (503 : Int32), rv b5, rv b15, .unset, .unset, .unset, .unset, .unset] [(.int (p1 &&& (4 : Int32)))])) _
      exact k
    by_cases hc22 : (p1 &&& (4 : Int32)) = (0 : Int32)
    · have k24 : Way p e below S0 T20 (mkF m 114 #[iv p1, iv p2, iv p3, iv p4, iv (0 : Int32), iv (503 : Int32), rv b5, rv b15, iv (0 : Int32), .unset, .unset, .unset, .unset] []) := by
        intro t k
        refine k23 t ?_
        refine XS.ifYes X20.here hx rfl (pc0 := 80) (pc' := 87) rfl (hb hby at_80) rfl ((if0 _ _).trans (teq (hc22 : (p1 &&& (4 : Int32)) = (0 : Int32))).1) (by decide) (by decide) ?_
        show Steps p.tables e below (T20.setTop (mkF m 87 #[iv p1, iv p2, iv p3, iv p4, iv (0 : Int32), iv (503 : Int32), rv b5, rv b15, .unset, .unset, .unset, .unset, .unset] [])) _
        refine XS.iconst X20.here hx rfl (hb hby at_87) ?_
        show Steps p.tables e below (T20.setTop (mkF m 88 #[iv p1, iv p2, iv p3, iv p4, iv (0 : Int32), iv (503 : Int32), rv b5, rv b15, .unset, .unset, .unset, .unset, .unset] [(.int (0 : Int32))])) _
        refine XS.istore X20.here hx rfl (hb hby at_88) rfl (l' := #[iv p1, iv p2, iv p3, iv p4, iv (0 : Int32), iv (503 : Int32), rv b5, rv b15, iv (0 : Int32), .unset, .unset, .unset, .unset]) rfl ?_
        show Steps p.tables e below (T20.setTop (mkF m 90 #[iv p1, iv p2, iv p3, iv p4, iv (0 : Int32), iv (503 : Int32), rv b5, rv b15, iv (0 : Int32), .unset, .unset, .unset, .unset] [])) _
        refine XS.iload X20.here hx rfl (hb hby at_90) rfl ?_
        show Steps p.tables e below (T20.setTop (mkF m 92 #[iv p1, iv p2, iv p3, iv p4, iv (0 : Int32), iv (503 : Int32), rv b5, rv b15, iv (0 : Int32), .unset, .unset, .unset, .unset] [(.int (0 : Int32))])) _
        refine XS.ifYes X20.here hx rfl (pc0 := 92) (pc' := 114) rfl (hb hby at_92) rfl ((if0 _ _).trans (teq ((by decide) : (0 : Int32) = (0 : Int32))).1) (by decide) (by decide) ?_
        show Steps p.tables e below (T20.setTop (mkF m 114 #[iv p1, iv p2, iv p3, iv p4, iv (0 : Int32), iv (503 : Int32), rv b5, rv b15, iv (0 : Int32), .unset, .unset, .unset, .unset] [])) _
        exact k
      obtain ⟨T25, h25, X25, e25, E25, A25, D25, U25, st25⟩ := newO X20 hx hZ hown (hw _ (List.mem_of_getElem? (i := 30) rfl)) (hw _ (List.mem_of_getElem? (i := 31) rfl)) (hw _ (List.mem_of_getElem? (i := 32) rfl)) rfl (g := (mkF m 114 #[iv p1, iv p2, iv p3, iv p4, iv (0 : Int32), iv (503 : Int32), rv b5, rv b15, iv (0 : Int32), .unset, .unset, .unset, .unset] [])) rfl (hb hby at_114) (by decide) (by decide)
      obtain ⟨b25, g25⟩ : ∃ z, z = T20.heap.size := ⟨_, rfl⟩
      rw [← g25] at A25 D25 U25 st25
      have O25 := O20.ext E25
      have i25_cause : Fld Z h25 b25 "java/lang/Throwable" "cause" "Ljava/lang/Throwable;" .null := D25 (Or.inl (hw _ (List.mem_of_getElem? (i := 55) rfl))) (ty := (.object "java/lang/Throwable")) (by decide)
      have i25_stackTrace : Fld Z h25 b25 "java/lang/Throwable" "stackTrace" "[Ljava/lang/StackTraceElement;" .null := D25 (Or.inl (hw _ (List.mem_of_getElem? (i := 58) rfl))) (ty := (.array (.object "java/lang/StackTraceElement"))) (by decide)
      have i25_suppressedExceptions : Fld Z h25 b25 "java/lang/Throwable" "suppressedExceptions" "Ljava/util/List;" .null := D25 (Or.inl (hw _ (List.mem_of_getElem? (i := 61) rfl))) (ty := (.object "java/util/List")) (by decide)
      have i25_detailMessage : Fld Z h25 b25 "java/lang/Throwable" "detailMessage" "Ljava/lang/String;" .null := D25 (Or.inl (hw _ (List.mem_of_getElem? (i := 85) rfl))) (ty := (.object "java/lang/String")) (by decide)
      have i25_backtrace : Fld Z h25 b25 "java/lang/Throwable" "backtrace" "Ljava/lang/Object;" .null := D25 (Or.inl (hw _ (List.mem_of_getElem? (i := 86) rfl))) (ty := (.object "java/lang/Object")) (by decide)
      have i25_depth : Fld Z h25 b25 "java/lang/Throwable" "depth" "I" (.int (0 : Int32)) := D25 (Or.inl (hw _ (List.mem_of_getElem? (i := 87) rfl))) (ty := .int) (by decide)
      have i25_status : Fld Z h25 b25 "caseward/web/RequestHead$Malformed" "status" "I" (.int (0 : Int32)) := D25 (Or.inr (hw _ (List.mem_of_getElem? (i := 91) rfl))) (ty := .int) (by decide)
      have k26 : Way p e below S0 T25 (mkF m 117 #[iv p1, iv p2, iv p3, iv p4, iv (0 : Int32), iv (503 : Int32), rv b5, rv b15, iv (0 : Int32), .unset, .unset, .unset, .unset] [(.ref b25)]) := fun t k => k24 t (st25 _ k)
      have k27 : Way p e below S0 T25 (mkF m 122 #[iv p1, iv p2, iv p3, iv p4, iv (0 : Int32), iv (503 : Int32), rv b5, rv b15, iv (0 : Int32), .unset, .unset, .unset, .unset] [(.ref b15), (.int (503 : Int32)), (.ref b25), (.ref b25)]) := by
        intro t k
        refine k26 t ?_
        refine XS.dup X25.here hx rfl (hb hby at_117) rfl rfl ?_
        show Steps p.tables e below (T25.setTop (mkF m 118 #[iv p1, iv p2, iv p3, iv p4, iv (0 : Int32), iv (503 : Int32), rv b5, rv b15, iv (0 : Int32), .unset, .unset, .unset, .unset] [(.ref b25), (.ref b25)])) _
        refine XS.iload X25.here hx rfl (hb hby at_118) rfl ?_
        show Steps p.tables e below (T25.setTop (mkF m 120 #[iv p1, iv p2, iv p3, iv p4, iv (0 : Int32), iv (503 : Int32), rv b5, rv b15, iv (0 : Int32), .unset, .unset, .unset, .unset] [(.int (503 : Int32)), (.ref b25), (.ref b25)])) _
        refine XS.aload X25.here hx rfl (hb hby at_120) rfl rfl ?_
        show Steps p.tables e below (T25.setTop (mkF m 122 #[iv p1, iv p2, iv p3, iv p4, iv (0 : Int32), iv (503 : Int32), rv b5, rv b15, iv (0 : Int32), .unset, .unset, .unset, .unset] [(.ref b15), (.int (503 : Int32)), (.ref b25), (.ref b25)])) _
        exact k
      have ge28 : n0 ≤ b25 := Nat.le_trans (own_old O20) (Nat.le_of_eq g25.symm)
      obtain ⟨_, _, ⟨T29, L29, kk29, nn29⟩, -, X29, ⟨Lc29, hQ29, l29, y29, z29⟩, st29⟩ := X25.specialBack hx (y := (⟨"caseward/web/RequestHead$Malformed", "<init>", "(ILjava/lang/String;)V"⟩ : MethodName)) rfl hown (mvT hZ (hw _ (List.mem_of_getElem? (i := 33) rfl))) (mvT hZ (hw _ (List.mem_of_getElem? (i := 34) rfl))) (mvT hZ (hw _ (List.mem_of_getElem? (i := 35) rfl))) (by decide) (backOfKL (W := 1) (mi l Z a0 hw [] wCS w_US w_SS G b25 (503 : Int32) b15 h25 n0 O25 (A25 : Exa Z h25 b25 "caseward/web/RequestHead$Malformed") (i25_cause : Fld Z h25 b25 "java/lang/Throwable" "cause" "Ljava/lang/Throwable;" .null) (i25_stackTrace : Fld Z h25 b25 "java/lang/Throwable" "stackTrace" "[Ljava/lang/StackTraceElement;" .null) (i25_suppressedExceptions : Fld Z h25 b25 "java/lang/Throwable" "suppressedExceptions" "Ljava/util/List;" .null) (i25_backtrace : Fld Z h25 b25 "java/lang/Throwable" "backtrace" "Ljava/lang/Object;" .null) (i25_detailMessage : Fld Z h25 b25 "java/lang/Throwable" "detailMessage" "Ljava/lang/String;" .null) (i25_status : Fld Z h25 b25 "caseward/web/RequestHead$Malformed" "status" "I" (.int (0 : Int32))) (U25 : Unt h25 b25) (ge28 : n0 ≤ b25) (htr : l.stackTraces = true)) hZ (hw _ (List.mem_of_getElem? (i := 35) rfl)) (hw _ (List.mem_of_getElem? (i := 32) rfl)) (by decide) (by decide) hTK hBelow) (g := (mkF m 122 #[iv p1, iv p2, iv p3, iv p4, iv (0 : Int32), iv (503 : Int32), rv b5, rv b15, iv (0 : Int32), .unset, .unset, .unset, .unset] [(.ref b15), (.int (503 : Int32)), (.ref b25), (.ref b25)])) rfl (by rw [hml]; rfl) (Steps.refl _) (a := b25) (argsL := [(.int (503 : Int32)), (.ref b15)]) (rest := [(.ref b25)]) (lenOf pd_5 rfl) rfl (by show 2 * 0 + _ ≤ _; exact Nat.le_of_eq rfl) (hb hby at_122) (fun _ _ => ⟨rfl, e25, (by decide : 4 + 1 ≤ _), (by decide : 15 + 2752 ≤ _)⟩)
      dsimp only [Pt.U, Pt.locs, Pt.cells, Pt.slots] at X29 l29 y29 z29 st29 hQ29
      subst l29 y29 z29
      obtain ⟨rfl, Nq29, Kq29, po29_0, po29_1⟩ := hQ29
      have N29 := Fr.app N20 Nq29
      have O29 := O25.keep Kq29 (allS ge28 all0)
      have k30 : Way p e below S0 T29 (mkF m 125 #[iv p1, iv p2, iv p3, iv p4, iv (0 : Int32), iv (503 : Int32), rv b5, rv b15, iv (0 : Int32), .unset, .unset, .unset, .unset] [(.ref b25)]) := fun t k => k27 t (st29.trans k)
      have k31 : Way p e below S0 T29 (mkF m 133 #[iv p1, iv p2, iv p3, iv p4, iv (0 : Int32), iv (503 : Int32), rv b5, rv b15, iv (0 : Int32), rv b25, iv (503 : Int32), .unset, .unset] [(.ref b25)]) := by
        intro t k
        refine k30 t ?_
        refine XS.astore X29.here hx rfl (hb hby at_125) rfl rfl (l' := #[iv p1, iv p2, iv p3, iv p4, iv (0 : Int32), iv (503 : Int32), rv b5, rv b15, iv (0 : Int32), rv b25, .unset, .unset, .unset]) rfl ?_
        show Steps p.tables e below (T29.setTop (mkF m 127 #[iv p1, iv p2, iv p3, iv p4, iv (0 : Int32), iv (503 : Int32), rv b5, rv b15, iv (0 : Int32), rv b25, .unset, .unset, .unset] [])) _
        refine XS.iload X29.here hx rfl (hb hby at_127) rfl ?_
        show Steps p.tables e below (T29.setTop (mkF m 129 #[iv p1, iv p2, iv p3, iv p4, iv (0 : Int32), iv (503 : Int32), rv b5, rv b15, iv (0 : Int32), rv b25, .unset, .unset, .unset] [(.int (503 : Int32))])) _
        refine XS.istore X29.here hx rfl (hb hby at_129) rfl (l' := #[iv p1, iv p2, iv p3, iv p4, iv (0 : Int32), iv (503 : Int32), rv b5, rv b15, iv (0 : Int32), rv b25, iv (503 : Int32), .unset, .unset]) rfl ?_
        show Steps p.tables e below (T29.setTop (mkF m 131 #[iv p1, iv p2, iv p3, iv p4, iv (0 : Int32), iv (503 : Int32), rv b5, rv b15, iv (0 : Int32), rv b25, iv (503 : Int32), .unset, .unset] [])) _
        refine XS.aload X29.here hx rfl (hb hby at_131) rfl rfl ?_
        show Steps p.tables e below (T29.setTop (mkF m 133 #[iv p1, iv p2, iv p3, iv p4, iv (0 : Int32), iv (503 : Int32), rv b5, rv b15, iv (0 : Int32), rv b25, iv (503 : Int32), .unset, .unset] [(.ref b25)])) _
        exact k
      obtain ⟨cq32, kq32, qq32a, qq32b, qq32c⟩ := isOf hZ rfl po29_0
      obtain ⟨_, _, ⟨T32, L32, kk32, nn32⟩, -, X32, ⟨Lc32, hQ32, l32, y32, z32⟩, st32⟩ := X29.virtualBack hx (y := (⟨"caseward/web/RequestHead$Malformed", "isForWantOfRoom", "()Z"⟩ : MethodName)) (z := (⟨"caseward/web/RequestHead$Malformed", "isForWantOfRoom", "()Z"⟩ : MethodName)) hown (mvT hZ (hw _ (List.mem_of_getElem? (i := 92) rfl))) (mvT hZ (hw _ (List.mem_of_getElem? (i := 93) rfl))) (notFace_of_selects (args := #[]) (mvT hZ (hw _ (List.mem_of_getElem? (i := 95) rfl)))) (mvT hZ (hw _ (List.mem_of_getElem? (i := 95) rfl))) (mvT hZ (hw _ (List.mem_of_getElem? (i := 94) rfl))) (by decide) (backOf (W := 0) (isT l Z a0 hw [] wCS w_US w_SS G b25 (503 : Int32) T29.heap n0 O29 (po29_1 : Fld Z T29.heap b25 "caseward/web/RequestHead$Malformed" "status" "I" (.int (503 : Int32))) (by decide : (503 : Int32) = (503 : Int32))) hZ (hw _ (List.mem_of_getElem? (i := 96) rfl)) (hw _ (List.mem_of_getElem? (i := 32) rfl)) (by decide) (by decide)) qq32a qq32c (g := (mkF m 133 #[iv p1, iv p2, iv p3, iv p4, iv (0 : Int32), iv (503 : Int32), rv b5, rv b15, iv (0 : Int32), rv b25, iv (503 : Int32), .unset, .unset] [(.ref b25)])) rfl (by rw [hml]; rfl) (Steps.refl _) (argsL := []) (rest := []) (lenOf pd_7 rfl) rfl (by show 2 * 0 + _ ≤ _; exact Nat.le_of_eq rfl) (hb hby at_133) (fun _ _ => ⟨rfl, rfl, (by decide : 5 + 0 ≤ _), (by decide : 2767 + 0 ≤ _)⟩)
      dsimp only [Pt.U, Pt.locs, Pt.cells, Pt.slots] at X32 l32 y32 z32 st32 hQ32
      subst l32 y32 z32
      obtain ⟨rfl, Nq32, e32⟩ := hQ32
      have N32 := Fr.app N29 Nq32
      have k33 : Way p e below S0 T32 (mkF m 136 #[iv p1, iv p2, iv p3, iv p4, iv (0 : Int32), iv (503 : Int32), rv b5, rv b15, iv (0 : Int32), rv b25, iv (503 : Int32), .unset, .unset] [(.int (1 : Int32))]) := fun t k => k31 t (st32.trans k)
      have k34 : Way p e below S0 T32 (mkF m 162 #[iv p1, iv p2, iv p3, iv p4, iv (0 : Int32), iv (503 : Int32), rv b5, rv b15, iv (0 : Int32), rv b25, iv (503 : Int32), iv (1 : Int32), iv (1 : Int32)] [(.ref b25)]) := by
        intro t k
        refine k33 t ?_
        refine XS.istore X32.here hx rfl (hb hby at_136) rfl (l' := #[iv p1, iv p2, iv p3, iv p4, iv (0 : Int32), iv (503 : Int32), rv b5, rv b15, iv (0 : Int32), rv b25, iv (503 : Int32), iv (1 : Int32), .unset]) rfl ?_
        show Steps p.tables e below (T32.setTop (mkF m 138 #[iv p1, iv p2, iv p3, iv p4, iv (0 : Int32), iv (503 : Int32), rv b5, rv b15, iv (0 : Int32), rv b25, iv (503 : Int32), iv (1 : Int32), .unset] [])) _
        refine XS.iload X32.here hx rfl (hb hby at_138) rfl ?_
        show Steps p.tables e below (T32.setTop (mkF m 140 #[iv p1, iv p2, iv p3, iv p4, iv (0 : Int32), iv (503 : Int32), rv b5, rv b15, iv (0 : Int32), rv b25, iv (503 : Int32), iv (1 : Int32), .unset] [(.int (503 : Int32))])) _
        refine XS.sipush X32.here hx rfl (hb hby at_140) ?_
        show Steps p.tables e below (T32.setTop (mkF m 143 #[iv p1, iv p2, iv p3, iv p4, iv (0 : Int32), iv (503 : Int32), rv b5, rv b15, iv (0 : Int32), rv b25, iv (503 : Int32), iv (1 : Int32), .unset] [(.int (503 : Int32)), (.int (503 : Int32))])) _
        refine XS.icmpNo X32.here hx rfl (hb hby at_143) rfl (teq ((by decide) : (503 : Int32) = (503 : Int32))).2 ?_
        show Steps p.tables e below (T32.setTop (mkF m 146 #[iv p1, iv p2, iv p3, iv p4, iv (0 : Int32), iv (503 : Int32), rv b5, rv b15, iv (0 : Int32), rv b25, iv (503 : Int32), iv (1 : Int32), .unset] [])) _
        refine XS.iconst X32.here hx rfl (hb hby at_146) ?_
        show Steps p.tables e below (T32.setTop (mkF m 147 #[iv p1, iv p2, iv p3, iv p4, iv (0 : Int32), iv (503 : Int32), rv b5, rv b15, iv (0 : Int32), rv b25, iv (503 : Int32), iv (1 : Int32), .unset] [(.int (1 : Int32))])) _
        refine XS.goto X32.here hx rfl (pc0 := 147) (pc' := 151) rfl (hb hby at_147) (by decide) (by decide) ?_
        show Steps p.tables e below (T32.setTop (mkF m 151 #[iv p1, iv p2, iv p3, iv p4, iv (0 : Int32), iv (503 : Int32), rv b5, rv b15, iv (0 : Int32), rv b25, iv (503 : Int32), iv (1 : Int32), .unset] [(.int (1 : Int32))])) _
        refine XS.istore X32.here hx rfl (hb hby at_151) rfl (l' := #[iv p1, iv p2, iv p3, iv p4, iv (0 : Int32), iv (503 : Int32), rv b5, rv b15, iv (0 : Int32), rv b25, iv (503 : Int32), iv (1 : Int32), iv (1 : Int32)]) rfl ?_
        show Steps p.tables e below (T32.setTop (mkF m 153 #[iv p1, iv p2, iv p3, iv p4, iv (0 : Int32), iv (503 : Int32), rv b5, rv b15, iv (0 : Int32), rv b25, iv (503 : Int32), iv (1 : Int32), iv (1 : Int32)] [])) _
        refine XS.iload X32.here hx rfl (hb hby at_153) rfl ?_
        show Steps p.tables e below (T32.setTop (mkF m 155 #[iv p1, iv p2, iv p3, iv p4, iv (0 : Int32), iv (503 : Int32), rv b5, rv b15, iv (0 : Int32), rv b25, iv (503 : Int32), iv (1 : Int32), iv (1 : Int32)] [(.int (1 : Int32))])) _
        refine XS.iload X32.here hx rfl (hb hby at_155) rfl ?_
        show Steps p.tables e below (T32.setTop (mkF m 157 #[iv p1, iv p2, iv p3, iv p4, iv (0 : Int32), iv (503 : Int32), rv b5, rv b15, iv (0 : Int32), rv b25, iv (503 : Int32), iv (1 : Int32), iv (1 : Int32)] [(.int (1 : Int32)), (.int (1 : Int32))])) _
        refine XS.icmpNo X32.here hx rfl (hb hby at_157) rfl (teq ((by decide) : (1 : Int32) = (1 : Int32))).2 ?_
        show Steps p.tables e below (T32.setTop (mkF m 160 #[iv p1, iv p2, iv p3, iv p4, iv (0 : Int32), iv (503 : Int32), rv b5, rv b15, iv (0 : Int32), rv b25, iv (503 : Int32), iv (1 : Int32), iv (1 : Int32)] [])) _
        refine XS.aload X32.here hx rfl (hb hby at_160) rfl rfl ?_
        show Steps p.tables e below (T32.setTop (mkF m 162 #[iv p1, iv p2, iv p3, iv p4, iv (0 : Int32), iv (503 : Int32), rv b5, rv b15, iv (0 : Int32), rv b25, iv (503 : Int32), iv (1 : Int32), iv (1 : Int32)] [(.ref b25)])) _
        exact k
      obtain ⟨cq35, kq35, qq35a, qq35b, qq35c⟩ := isOf hZ e32 po29_0
      obtain ⟨_, _, ⟨T35, L35, kk35, nn35⟩, -, X35, ⟨Lc35, hQ35, l35, y35, z35⟩, st35⟩ := X32.virtualBack hx (y := (⟨"caseward/web/RequestHead$Malformed", "status", "()I"⟩ : MethodName)) (z := (⟨"caseward/web/RequestHead$Malformed", "status", "()I"⟩ : MethodName)) hown (mvT hZ (hw _ (List.mem_of_getElem? (i := 97) rfl))) (mvT hZ (hw _ (List.mem_of_getElem? (i := 98) rfl))) (notFace_of_selects (args := #[]) (mvT hZ (hw _ (List.mem_of_getElem? (i := 100) rfl)))) (mvT hZ (hw _ (List.mem_of_getElem? (i := 100) rfl))) (mvT hZ (hw _ (List.mem_of_getElem? (i := 99) rfl))) (by decide) (backOf (W := 0) (stt l Z a0 hw [] wCS w_US w_SS G b25 (503 : Int32) T29.heap n0 O29 (po29_1 : Fld Z T29.heap b25 "caseward/web/RequestHead$Malformed" "status" "I" (.int (503 : Int32)))) hZ (hw _ (List.mem_of_getElem? (i := 101) rfl)) (hw _ (List.mem_of_getElem? (i := 32) rfl)) (by decide) (by decide)) qq35a qq35c (g := (mkF m 162 #[iv p1, iv p2, iv p3, iv p4, iv (0 : Int32), iv (503 : Int32), rv b5, rv b15, iv (0 : Int32), rv b25, iv (503 : Int32), iv (1 : Int32), iv (1 : Int32)] [(.ref b25)])) rfl (by rw [hml]; rfl) (Steps.refl _) (argsL := []) (rest := []) (lenOf pd_8 rfl) rfl (by show 2 * 0 + _ ≤ _; exact Nat.le_of_eq rfl) (hb hby at_162) (fun _ _ => ⟨rfl, e32, (by decide : 5 + 0 ≤ _), (by decide : 2767 + 0 ≤ _)⟩)
      dsimp only [Pt.U, Pt.locs, Pt.cells, Pt.slots] at X35 l35 y35 z35 st35 hQ35
      subst l35 y35 z35
      obtain ⟨rfl, Nq35, e35⟩ := hQ35
      have N35 := Fr.app N32 Nq35
      have k36 : Way p e below S0 T35 (mkF m 165 #[iv p1, iv p2, iv p3, iv p4, iv (0 : Int32), iv (503 : Int32), rv b5, rv b15, iv (0 : Int32), rv b25, iv (503 : Int32), iv (1 : Int32), iv (1 : Int32)] [(.int (503 : Int32))]) := fun t k => k34 t (st35.trans k)
      have k37 : Way p e below S0 T35 (mkF m 175 #[iv p1, iv p2, iv p3, iv p4, iv (0 : Int32), iv (503 : Int32), rv b5, rv b15, iv (0 : Int32), rv b25, iv (503 : Int32), iv (1 : Int32), iv (1 : Int32)] [(.int (1 : Int32))]) := by
        intro t k
        refine k36 t ?_
        refine XS.iload X35.here hx rfl (hb hby at_165) rfl ?_
        show Steps p.tables e below (T35.setTop (mkF m 167 #[iv p1, iv p2, iv p3, iv p4, iv (0 : Int32), iv (503 : Int32), rv b5, rv b15, iv (0 : Int32), rv b25, iv (503 : Int32), iv (1 : Int32), iv (1 : Int32)] [(.int (503 : Int32)), (.int (503 : Int32))])) _
        refine XS.icmpNo X35.here hx rfl (hb hby at_167) rfl (teq ((by decide) : (503 : Int32) = (503 : Int32))).2 ?_
        show Steps p.tables e below (T35.setTop (mkF m 170 #[iv p1, iv p2, iv p3, iv p4, iv (0 : Int32), iv (503 : Int32), rv b5, rv b15, iv (0 : Int32), rv b25, iv (503 : Int32), iv (1 : Int32), iv (1 : Int32)] [])) _
        refine XS.iconst X35.here hx rfl (hb hby at_170) ?_
        show Steps p.tables e below (T35.setTop (mkF m 171 #[iv p1, iv p2, iv p3, iv p4, iv (0 : Int32), iv (503 : Int32), rv b5, rv b15, iv (0 : Int32), rv b25, iv (503 : Int32), iv (1 : Int32), iv (1 : Int32)] [(.int (1 : Int32))])) _
        refine XS.goto X35.here hx rfl (pc0 := 171) (pc' := 175) rfl (hb hby at_171) (by decide) (by decide) ?_
        show Steps p.tables e below (T35.setTop (mkF m 175 #[iv p1, iv p2, iv p3, iv p4, iv (0 : Int32), iv (503 : Int32), rv b5, rv b15, iv (0 : Int32), rv b25, iv (503 : Int32), iv (1 : Int32), iv (1 : Int32)] [(.int (1 : Int32))])) _
        exact k
      obtain ⟨fs, hr, hrun, hended, hW, hsame⟩ := X35.leave (v := some (.int (1 : Int32))) (fun h => by rw [Bd.returns] at h; cases h)
      refine ⟨_, _, k37 _ (retN X35 hx (t := .boolean) Bd.returns (by simp) (hb hby at_175) hr), hrun, hended, _, _, rfl, ?_, ⟨_, rfl⟩, hW, hsame.mono (by decide) (by decide)⟩
      show Q_law_met Z wCS w_US w_SS p1 p2 p3 p4 h0 n0 _ T35.heap _
      rw [e35]
      exact ⟨rfl, N35⟩
    · have k38 : Way p e below S0 T20 (mkF m 95 #[iv p1, iv p2, iv p3, iv p4, iv (0 : Int32), iv (503 : Int32), rv b5, rv b15, iv (1 : Int32), .unset, .unset, .unset, .unset] []) := by
        intro t k
        refine k23 t ?_
        refine XS.ifNo X20.here hx rfl (hb hby at_80) rfl ((if0 _ _).trans (feq (hc22 : ¬ ((p1 &&& (4 : Int32)) = (0 : Int32)))).1) ?_
        show Steps p.tables e below (T20.setTop (mkF m 83 #[iv p1, iv p2, iv p3, iv p4, iv (0 : Int32), iv (503 : Int32), rv b5, rv b15, .unset, .unset, .unset, .unset, .unset] [])) _
        refine XS.iconst X20.here hx rfl (hb hby at_83) ?_
        show Steps p.tables e below (T20.setTop (mkF m 84 #[iv p1, iv p2, iv p3, iv p4, iv (0 : Int32), iv (503 : Int32), rv b5, rv b15, .unset, .unset, .unset, .unset, .unset] [(.int (1 : Int32))])) _
        refine XS.goto X20.here hx rfl (pc0 := 84) (pc' := 88) rfl (hb hby at_84) (by decide) (by decide) ?_
        show Steps p.tables e below (T20.setTop (mkF m 88 #[iv p1, iv p2, iv p3, iv p4, iv (0 : Int32), iv (503 : Int32), rv b5, rv b15, .unset, .unset, .unset, .unset, .unset] [(.int (1 : Int32))])) _
        refine XS.istore X20.here hx rfl (hb hby at_88) rfl (l' := #[iv p1, iv p2, iv p3, iv p4, iv (0 : Int32), iv (503 : Int32), rv b5, rv b15, iv (1 : Int32), .unset, .unset, .unset, .unset]) rfl ?_
        show Steps p.tables e below (T20.setTop (mkF m 90 #[iv p1, iv p2, iv p3, iv p4, iv (0 : Int32), iv (503 : Int32), rv b5, rv b15, iv (1 : Int32), .unset, .unset, .unset, .unset] [])) _
        refine XS.iload X20.here hx rfl (hb hby at_90) rfl ?_
        show Steps p.tables e below (T20.setTop (mkF m 92 #[iv p1, iv p2, iv p3, iv p4, iv (0 : Int32), iv (503 : Int32), rv b5, rv b15, iv (1 : Int32), .unset, .unset, .unset, .unset] [(.int (1 : Int32))])) _
        refine XS.ifNo X20.here hx rfl (hb hby at_92) rfl ((if0 _ _).trans (feq ((by decide) : ¬ ((1 : Int32) = (0 : Int32)))).1) ?_
        show Steps p.tables e below (T20.setTop (mkF m 95 #[iv p1, iv p2, iv p3, iv p4, iv (0 : Int32), iv (503 : Int32), rv b5, rv b15, iv (1 : Int32), .unset, .unset, .unset, .unset] [])) _
        exact k
      obtain ⟨T39, h39, X39, e39, E39, A39, D39, U39, st39⟩ := newO X20 hx hZ hown (hw _ (List.mem_of_getElem? (i := 30) rfl)) (hw _ (List.mem_of_getElem? (i := 31) rfl)) (hw _ (List.mem_of_getElem? (i := 32) rfl)) rfl (g := (mkF m 95 #[iv p1, iv p2, iv p3, iv p4, iv (0 : Int32), iv (503 : Int32), rv b5, rv b15, iv (1 : Int32), .unset, .unset, .unset, .unset] [])) rfl (hb hby at_95) (by decide) (by decide)
      obtain ⟨b39, g39⟩ : ∃ z, z = T20.heap.size := ⟨_, rfl⟩
      rw [← g39] at A39 D39 U39 st39
      have O39 := O20.ext E39
      have i39_cause : Fld Z h39 b39 "java/lang/Throwable" "cause" "Ljava/lang/Throwable;" .null := D39 (Or.inl (hw _ (List.mem_of_getElem? (i := 55) rfl))) (ty := (.object "java/lang/Throwable")) (by decide)
      have i39_stackTrace : Fld Z h39 b39 "java/lang/Throwable" "stackTrace" "[Ljava/lang/StackTraceElement;" .null := D39 (Or.inl (hw _ (List.mem_of_getElem? (i := 58) rfl))) (ty := (.array (.object "java/lang/StackTraceElement"))) (by decide)
      have i39_suppressedExceptions : Fld Z h39 b39 "java/lang/Throwable" "suppressedExceptions" "Ljava/util/List;" .null := D39 (Or.inl (hw _ (List.mem_of_getElem? (i := 61) rfl))) (ty := (.object "java/util/List")) (by decide)
      have i39_detailMessage : Fld Z h39 b39 "java/lang/Throwable" "detailMessage" "Ljava/lang/String;" .null := D39 (Or.inl (hw _ (List.mem_of_getElem? (i := 85) rfl))) (ty := (.object "java/lang/String")) (by decide)
      have i39_backtrace : Fld Z h39 b39 "java/lang/Throwable" "backtrace" "Ljava/lang/Object;" .null := D39 (Or.inl (hw _ (List.mem_of_getElem? (i := 86) rfl))) (ty := (.object "java/lang/Object")) (by decide)
      have i39_depth : Fld Z h39 b39 "java/lang/Throwable" "depth" "I" (.int (0 : Int32)) := D39 (Or.inl (hw _ (List.mem_of_getElem? (i := 87) rfl))) (ty := .int) (by decide)
      have i39_status : Fld Z h39 b39 "caseward/web/RequestHead$Malformed" "status" "I" (.int (0 : Int32)) := D39 (Or.inr (hw _ (List.mem_of_getElem? (i := 91) rfl))) (ty := .int) (by decide)
      have k40 : Way p e below S0 T39 (mkF m 98 #[iv p1, iv p2, iv p3, iv p4, iv (0 : Int32), iv (503 : Int32), rv b5, rv b15, iv (1 : Int32), .unset, .unset, .unset, .unset] [(.ref b39)]) := fun t k => k38 t (st39 _ k)
      have k41 : Way p e below S0 T39 (mkF m 101 #[iv p1, iv p2, iv p3, iv p4, iv (0 : Int32), iv (503 : Int32), rv b5, rv b15, iv (1 : Int32), .unset, .unset, .unset, .unset] [(.ref b15), (.ref b39), (.ref b39)]) := by
        intro t k
        refine k40 t ?_
        refine XS.dup X39.here hx rfl (hb hby at_98) rfl rfl ?_
        show Steps p.tables e below (T39.setTop (mkF m 99 #[iv p1, iv p2, iv p3, iv p4, iv (0 : Int32), iv (503 : Int32), rv b5, rv b15, iv (1 : Int32), .unset, .unset, .unset, .unset] [(.ref b39), (.ref b39)])) _
        refine XS.aload X39.here hx rfl (hb hby at_99) rfl rfl ?_
        show Steps p.tables e below (T39.setTop (mkF m 101 #[iv p1, iv p2, iv p3, iv p4, iv (0 : Int32), iv (503 : Int32), rv b5, rv b15, iv (1 : Int32), .unset, .unset, .unset, .unset] [(.ref b15), (.ref b39), (.ref b39)])) _
        exact k
      have ge42 : n0 ≤ b39 := Nat.le_trans (own_old O20) (Nat.le_of_eq g39.symm)
      obtain ⟨_, _, ⟨T43, L43, kk43, nn43⟩, -, X43, ⟨Lc43, hQ43, l43, y43, z43⟩, st43⟩ := X39.specialBack hx (y := (⟨"caseward/web/RequestHead$Malformed", "<init>", "(Ljava/lang/String;)V"⟩ : MethodName)) rfl hown (mvT hZ (hw _ (List.mem_of_getElem? (i := 102) rfl))) (mvT hZ (hw _ (List.mem_of_getElem? (i := 103) rfl))) (mvT hZ (hw _ (List.mem_of_getElem? (i := 104) rfl))) (by decide) (backOfKL (W := 1) (ms l Z a0 hw [] wCS w_US w_SS G b39 b15 h39 n0 O39 (A39 : Exa Z h39 b39 "caseward/web/RequestHead$Malformed") (i39_cause : Fld Z h39 b39 "java/lang/Throwable" "cause" "Ljava/lang/Throwable;" .null) (i39_stackTrace : Fld Z h39 b39 "java/lang/Throwable" "stackTrace" "[Ljava/lang/StackTraceElement;" .null) (i39_suppressedExceptions : Fld Z h39 b39 "java/lang/Throwable" "suppressedExceptions" "Ljava/util/List;" .null) (i39_backtrace : Fld Z h39 b39 "java/lang/Throwable" "backtrace" "Ljava/lang/Object;" .null) (i39_detailMessage : Fld Z h39 b39 "java/lang/Throwable" "detailMessage" "Ljava/lang/String;" .null) (i39_status : Fld Z h39 b39 "caseward/web/RequestHead$Malformed" "status" "I" (.int (0 : Int32))) (U39 : Unt h39 b39) (ge42 : n0 ≤ b39) (htr : l.stackTraces = true)) hZ (hw _ (List.mem_of_getElem? (i := 104) rfl)) (hw _ (List.mem_of_getElem? (i := 32) rfl)) (by decide) (by decide) hTK hBelow) (g := (mkF m 101 #[iv p1, iv p2, iv p3, iv p4, iv (0 : Int32), iv (503 : Int32), rv b5, rv b15, iv (1 : Int32), .unset, .unset, .unset, .unset] [(.ref b15), (.ref b39), (.ref b39)])) rfl (by rw [hml]; rfl) (Steps.refl _) (a := b39) (argsL := [(.ref b15)]) (rest := [(.ref b39)]) (lenOf pd_4 rfl) rfl (by show 2 * 0 + _ ≤ _; exact Nat.le_of_eq rfl) (hb hby at_101) (fun _ _ => ⟨rfl, e39, (by decide : 4 + 1 ≤ _), (by decide : 15 + 2752 ≤ _)⟩)
      dsimp only [Pt.U, Pt.locs, Pt.cells, Pt.slots] at X43 l43 y43 z43 st43 hQ43
      subst l43 y43 z43
      obtain ⟨rfl, Nq43, Kq43, po43_0, po43_1⟩ := hQ43
      have N43 := Fr.app N20 Nq43
      have O43 := O39.keep Kq43 (allS ge42 all0)
      have k44 : Way p e below S0 T43 (mkF m 104 #[iv p1, iv p2, iv p3, iv p4, iv (0 : Int32), iv (503 : Int32), rv b5, rv b15, iv (1 : Int32), .unset, .unset, .unset, .unset] [(.ref b39)]) := fun t k => k41 t (st43.trans k)
      have k45 : Way p e below S0 T43 (mkF m 133 #[iv p1, iv p2, iv p3, iv p4, iv (0 : Int32), iv (503 : Int32), rv b5, rv b15, iv (1 : Int32), rv b39, iv (400 : Int32), .unset, .unset] [(.ref b39)]) := by
        intro t k
        refine k44 t ?_
        refine XS.astore X43.here hx rfl (hb hby at_104) rfl rfl (l' := #[iv p1, iv p2, iv p3, iv p4, iv (0 : Int32), iv (503 : Int32), rv b5, rv b15, iv (1 : Int32), rv b39, .unset, .unset, .unset]) rfl ?_
        show Steps p.tables e below (T43.setTop (mkF m 106 #[iv p1, iv p2, iv p3, iv p4, iv (0 : Int32), iv (503 : Int32), rv b5, rv b15, iv (1 : Int32), rv b39, .unset, .unset, .unset] [])) _
        refine XS.sipush X43.here hx rfl (hb hby at_106) ?_
        show Steps p.tables e below (T43.setTop (mkF m 109 #[iv p1, iv p2, iv p3, iv p4, iv (0 : Int32), iv (503 : Int32), rv b5, rv b15, iv (1 : Int32), rv b39, .unset, .unset, .unset] [(.int (400 : Int32))])) _
        refine XS.istore X43.here hx rfl (hb hby at_109) rfl (l' := #[iv p1, iv p2, iv p3, iv p4, iv (0 : Int32), iv (503 : Int32), rv b5, rv b15, iv (1 : Int32), rv b39, iv (400 : Int32), .unset, .unset]) rfl ?_
        show Steps p.tables e below (T43.setTop (mkF m 111 #[iv p1, iv p2, iv p3, iv p4, iv (0 : Int32), iv (503 : Int32), rv b5, rv b15, iv (1 : Int32), rv b39, iv (400 : Int32), .unset, .unset] [])) _
        refine XS.goto X43.here hx rfl (pc0 := 111) (pc' := 131) rfl (hb hby at_111) (by decide) (by decide) ?_
        show Steps p.tables e below (T43.setTop (mkF m 131 #[iv p1, iv p2, iv p3, iv p4, iv (0 : Int32), iv (503 : Int32), rv b5, rv b15, iv (1 : Int32), rv b39, iv (400 : Int32), .unset, .unset] [])) _
        refine XS.aload X43.here hx rfl (hb hby at_131) rfl rfl ?_
        show Steps p.tables e below (T43.setTop (mkF m 133 #[iv p1, iv p2, iv p3, iv p4, iv (0 : Int32), iv (503 : Int32), rv b5, rv b15, iv (1 : Int32), rv b39, iv (400 : Int32), .unset, .unset] [(.ref b39)])) _
        exact k
      obtain ⟨cq46, kq46, qq46a, qq46b, qq46c⟩ := isOf hZ rfl po43_0
      obtain ⟨_, _, ⟨T46, L46, kk46, nn46⟩, -, X46, ⟨Lc46, hQ46, l46, y46, z46⟩, st46⟩ := X43.virtualBack hx (y := (⟨"caseward/web/RequestHead$Malformed", "isForWantOfRoom", "()Z"⟩ : MethodName)) (z := (⟨"caseward/web/RequestHead$Malformed", "isForWantOfRoom", "()Z"⟩ : MethodName)) hown (mvT hZ (hw _ (List.mem_of_getElem? (i := 92) rfl))) (mvT hZ (hw _ (List.mem_of_getElem? (i := 93) rfl))) (notFace_of_selects (args := #[]) (mvT hZ (hw _ (List.mem_of_getElem? (i := 95) rfl)))) (mvT hZ (hw _ (List.mem_of_getElem? (i := 95) rfl))) (mvT hZ (hw _ (List.mem_of_getElem? (i := 94) rfl))) (by decide) (backOf (W := 0) (isF l Z a0 hw [] wCS w_US w_SS G b39 (400 : Int32) T43.heap n0 O43 (po43_1 : Fld Z T43.heap b39 "caseward/web/RequestHead$Malformed" "status" "I" (.int (400 : Int32))) (by decide : ¬ ((400 : Int32) = (503 : Int32)))) hZ (hw _ (List.mem_of_getElem? (i := 96) rfl)) (hw _ (List.mem_of_getElem? (i := 32) rfl)) (by decide) (by decide)) qq46a qq46c (g := (mkF m 133 #[iv p1, iv p2, iv p3, iv p4, iv (0 : Int32), iv (503 : Int32), rv b5, rv b15, iv (1 : Int32), rv b39, iv (400 : Int32), .unset, .unset] [(.ref b39)])) rfl (by rw [hml]; rfl) (Steps.refl _) (argsL := []) (rest := []) (lenOf pd_7 rfl) rfl (by show 2 * 0 + _ ≤ _; exact Nat.le_of_eq rfl) (hb hby at_133) (fun _ _ => ⟨rfl, rfl, (by decide : 5 + 0 ≤ _), (by decide : 2767 + 0 ≤ _)⟩)
      dsimp only [Pt.U, Pt.locs, Pt.cells, Pt.slots] at X46 l46 y46 z46 st46 hQ46
      subst l46 y46 z46
      obtain ⟨rfl, Nq46, e46⟩ := hQ46
      have N46 := Fr.app N43 Nq46
      have k47 : Way p e below S0 T46 (mkF m 136 #[iv p1, iv p2, iv p3, iv p4, iv (0 : Int32), iv (503 : Int32), rv b5, rv b15, iv (1 : Int32), rv b39, iv (400 : Int32), .unset, .unset] [(.int (0 : Int32))]) := fun t k => k45 t (st46.trans k)
      have k48 : Way p e below S0 T46 (mkF m 162 #[iv p1, iv p2, iv p3, iv p4, iv (0 : Int32), iv (503 : Int32), rv b5, rv b15, iv (1 : Int32), rv b39, iv (400 : Int32), iv (0 : Int32), iv (0 : Int32)] [(.ref b39)]) := by
        intro t k
        refine k47 t ?_
        refine XS.istore X46.here hx rfl (hb hby at_136) rfl (l' := #[iv p1, iv p2, iv p3, iv p4, iv (0 : Int32), iv (503 : Int32), rv b5, rv b15, iv (1 : Int32), rv b39, iv (400 : Int32), iv (0 : Int32), .unset]) rfl ?_
        show Steps p.tables e below (T46.setTop (mkF m 138 #[iv p1, iv p2, iv p3, iv p4, iv (0 : Int32), iv (503 : Int32), rv b5, rv b15, iv (1 : Int32), rv b39, iv (400 : Int32), iv (0 : Int32), .unset] [])) _
        refine XS.iload X46.here hx rfl (hb hby at_138) rfl ?_
        show Steps p.tables e below (T46.setTop (mkF m 140 #[iv p1, iv p2, iv p3, iv p4, iv (0 : Int32), iv (503 : Int32), rv b5, rv b15, iv (1 : Int32), rv b39, iv (400 : Int32), iv (0 : Int32), .unset] [(.int (400 : Int32))])) _
        refine XS.sipush X46.here hx rfl (hb hby at_140) ?_
        show Steps p.tables e below (T46.setTop (mkF m 143 #[iv p1, iv p2, iv p3, iv p4, iv (0 : Int32), iv (503 : Int32), rv b5, rv b15, iv (1 : Int32), rv b39, iv (400 : Int32), iv (0 : Int32), .unset] [(.int (503 : Int32)), (.int (400 : Int32))])) _
        refine XS.icmpYes X46.here hx rfl (pc0 := 143) (pc' := 150) rfl (hb hby at_143) rfl (feq ((by decide) : ¬ ((400 : Int32) = (503 : Int32)))).2 (by decide) (by decide) ?_
        show Steps p.tables e below (T46.setTop (mkF m 150 #[iv p1, iv p2, iv p3, iv p4, iv (0 : Int32), iv (503 : Int32), rv b5, rv b15, iv (1 : Int32), rv b39, iv (400 : Int32), iv (0 : Int32), .unset] [])) _
        refine XS.iconst X46.here hx rfl (hb hby at_150) ?_
        show Steps p.tables e below (T46.setTop (mkF m 151 #[iv p1, iv p2, iv p3, iv p4, iv (0 : Int32), iv (503 : Int32), rv b5, rv b15, iv (1 : Int32), rv b39, iv (400 : Int32), iv (0 : Int32), .unset] [(.int (0 : Int32))])) _
        refine XS.istore X46.here hx rfl (hb hby at_151) rfl (l' := #[iv p1, iv p2, iv p3, iv p4, iv (0 : Int32), iv (503 : Int32), rv b5, rv b15, iv (1 : Int32), rv b39, iv (400 : Int32), iv (0 : Int32), iv (0 : Int32)]) rfl ?_
        show Steps p.tables e below (T46.setTop (mkF m 153 #[iv p1, iv p2, iv p3, iv p4, iv (0 : Int32), iv (503 : Int32), rv b5, rv b15, iv (1 : Int32), rv b39, iv (400 : Int32), iv (0 : Int32), iv (0 : Int32)] [])) _
        refine XS.iload X46.here hx rfl (hb hby at_153) rfl ?_
        show Steps p.tables e below (T46.setTop (mkF m 155 #[iv p1, iv p2, iv p3, iv p4, iv (0 : Int32), iv (503 : Int32), rv b5, rv b15, iv (1 : Int32), rv b39, iv (400 : Int32), iv (0 : Int32), iv (0 : Int32)] [(.int (0 : Int32))])) _
        refine XS.iload X46.here hx rfl (hb hby at_155) rfl ?_
        show Steps p.tables e below (T46.setTop (mkF m 157 #[iv p1, iv p2, iv p3, iv p4, iv (0 : Int32), iv (503 : Int32), rv b5, rv b15, iv (1 : Int32), rv b39, iv (400 : Int32), iv (0 : Int32), iv (0 : Int32)] [(.int (0 : Int32)), (.int (0 : Int32))])) _
        refine XS.icmpNo X46.here hx rfl (hb hby at_157) rfl (teq ((by decide) : (0 : Int32) = (0 : Int32))).2 ?_
        show Steps p.tables e below (T46.setTop (mkF m 160 #[iv p1, iv p2, iv p3, iv p4, iv (0 : Int32), iv (503 : Int32), rv b5, rv b15, iv (1 : Int32), rv b39, iv (400 : Int32), iv (0 : Int32), iv (0 : Int32)] [])) _
        refine XS.aload X46.here hx rfl (hb hby at_160) rfl rfl ?_
        show Steps p.tables e below (T46.setTop (mkF m 162 #[iv p1, iv p2, iv p3, iv p4, iv (0 : Int32), iv (503 : Int32), rv b5, rv b15, iv (1 : Int32), rv b39, iv (400 : Int32), iv (0 : Int32), iv (0 : Int32)] [(.ref b39)])) _
        exact k
      obtain ⟨cq49, kq49, qq49a, qq49b, qq49c⟩ := isOf hZ e46 po43_0
      obtain ⟨_, _, ⟨T49, L49, kk49, nn49⟩, -, X49, ⟨Lc49, hQ49, l49, y49, z49⟩, st49⟩ := X46.virtualBack hx (y := (⟨"caseward/web/RequestHead$Malformed", "status", "()I"⟩ : MethodName)) (z := (⟨"caseward/web/RequestHead$Malformed", "status", "()I"⟩ : MethodName)) hown (mvT hZ (hw _ (List.mem_of_getElem? (i := 97) rfl))) (mvT hZ (hw _ (List.mem_of_getElem? (i := 98) rfl))) (notFace_of_selects (args := #[]) (mvT hZ (hw _ (List.mem_of_getElem? (i := 100) rfl)))) (mvT hZ (hw _ (List.mem_of_getElem? (i := 100) rfl))) (mvT hZ (hw _ (List.mem_of_getElem? (i := 99) rfl))) (by decide) (backOf (W := 0) (stt l Z a0 hw [] wCS w_US w_SS G b39 (400 : Int32) T43.heap n0 O43 (po43_1 : Fld Z T43.heap b39 "caseward/web/RequestHead$Malformed" "status" "I" (.int (400 : Int32)))) hZ (hw _ (List.mem_of_getElem? (i := 101) rfl)) (hw _ (List.mem_of_getElem? (i := 32) rfl)) (by decide) (by decide)) qq49a qq49c (g := (mkF m 162 #[iv p1, iv p2, iv p3, iv p4, iv (0 : Int32), iv (503 : Int32), rv b5, rv b15, iv (1 : Int32), rv b39, iv (400 : Int32), iv (0 : Int32), iv (0 : Int32)] [(.ref b39)])) rfl (by rw [hml]; rfl) (Steps.refl _) (argsL := []) (rest := []) (lenOf pd_8 rfl) rfl (by show 2 * 0 + _ ≤ _; exact Nat.le_of_eq rfl) (hb hby at_162) (fun _ _ => ⟨rfl, e46, (by decide : 5 + 0 ≤ _), (by decide : 2767 + 0 ≤ _)⟩)
      dsimp only [Pt.U, Pt.locs, Pt.cells, Pt.slots] at X49 l49 y49 z49 st49 hQ49
      subst l49 y49 z49
      obtain ⟨rfl, Nq49, e49⟩ := hQ49
      have N49 := Fr.app N46 Nq49
      have k50 : Way p e below S0 T49 (mkF m 165 #[iv p1, iv p2, iv p3, iv p4, iv (0 : Int32), iv (503 : Int32), rv b5, rv b15, iv (1 : Int32), rv b39, iv (400 : Int32), iv (0 : Int32), iv (0 : Int32)] [(.int (400 : Int32))]) := fun t k => k48 t (st49.trans k)
      have k51 : Way p e below S0 T49 (mkF m 175 #[iv p1, iv p2, iv p3, iv p4, iv (0 : Int32), iv (503 : Int32), rv b5, rv b15, iv (1 : Int32), rv b39, iv (400 : Int32), iv (0 : Int32), iv (0 : Int32)] [(.int (1 : Int32))]) := by
        intro t k
        refine k50 t ?_
        refine XS.iload X49.here hx rfl (hb hby at_165) rfl ?_
        show Steps p.tables e below (T49.setTop (mkF m 167 #[iv p1, iv p2, iv p3, iv p4, iv (0 : Int32), iv (503 : Int32), rv b5, rv b15, iv (1 : Int32), rv b39, iv (400 : Int32), iv (0 : Int32), iv (0 : Int32)] [(.int (400 : Int32)), (.int (400 : Int32))])) _
        refine XS.icmpNo X49.here hx rfl (hb hby at_167) rfl (teq ((by decide) : (400 : Int32) = (400 : Int32))).2 ?_
        show Steps p.tables e below (T49.setTop (mkF m 170 #[iv p1, iv p2, iv p3, iv p4, iv (0 : Int32), iv (503 : Int32), rv b5, rv b15, iv (1 : Int32), rv b39, iv (400 : Int32), iv (0 : Int32), iv (0 : Int32)] [])) _
        refine XS.iconst X49.here hx rfl (hb hby at_170) ?_
        show Steps p.tables e below (T49.setTop (mkF m 171 #[iv p1, iv p2, iv p3, iv p4, iv (0 : Int32), iv (503 : Int32), rv b5, rv b15, iv (1 : Int32), rv b39, iv (400 : Int32), iv (0 : Int32), iv (0 : Int32)] [(.int (1 : Int32))])) _
        refine XS.goto X49.here hx rfl (pc0 := 171) (pc' := 175) rfl (hb hby at_171) (by decide) (by decide) ?_
        show Steps p.tables e below (T49.setTop (mkF m 175 #[iv p1, iv p2, iv p3, iv p4, iv (0 : Int32), iv (503 : Int32), rv b5, rv b15, iv (1 : Int32), rv b39, iv (400 : Int32), iv (0 : Int32), iv (0 : Int32)] [(.int (1 : Int32))])) _
        exact k
      obtain ⟨fs, hr, hrun, hended, hW, hsame⟩ := X49.leave (v := some (.int (1 : Int32))) (fun h => by rw [Bd.returns] at h; cases h)
      refine ⟨_, _, k51 _ (retN X49 hx (t := .boolean) Bd.returns (by simp) (hb hby at_175) hr), hrun, hended, _, _, rfl, ?_, ⟨_, rfl⟩, hW, hsame.mono (by decide) (by decide)⟩
      show Q_law_met Z wCS w_US w_SS p1 p2 p3 p4 h0 n0 _ T49.heap _
      rw [e49]
      exact ⟨rfl, N49⟩
  · have k52 : Way p e below S0 s₁ (mkF m 5 #[iv p1, iv p2, iv p3, iv p4, iv (1 : Int32), .unset, .unset, .unset, .unset, .unset, .unset, .unset, .unset] []) := by have q := k1; rw [hi2] at q; exact q
    have k53 : Way p e below S0 s₁ (mkF m 44 #[iv p1, iv p2, iv p3, iv p4, iv (1 : Int32), iv (502 : Int32), .unset, .unset, .unset, .unset, .unset, .unset, .unset] [(.int (2 : Int32))]) := by
      intro t k
      refine k52 t ?_
      refine XS.iload X0.here hx rfl (hb hby at_5) rfl ?_
      show Steps p.tables e below (s₁.setTop (mkF m 7 #[iv p1, iv p2, iv p3, iv p4, iv (1 : Int32), .unset, .unset, .unset, .unset, .unset, .unset, .unset, .unset] [(.int (1 : Int32))])) _
      refine XS.ifYes X0.here hx rfl (pc0 := 7) (pc' := 16) rfl (hb hby at_7) rfl ((if0 _ _).trans (feq ((by decide) : ¬ ((1 : Int32) = (0 : Int32)))).2) (by decide) (by decide) ?_
      show Steps p.tables e below (s₁.setTop (mkF m 16 #[iv p1, iv p2, iv p3, iv p4, iv (1 : Int32), .unset, .unset, .unset, .unset, .unset, .unset, .unset, .unset] [])) _
      refine XS.iload X0.here hx rfl (hb hby at_16) rfl ?_
      show Steps p.tables e below (s₁.setTop (mkF m 18 #[iv p1, iv p2, iv p3, iv p4, iv (1 : Int32), .unset, .unset, .unset, .unset, .unset, .unset, .unset, .unset] [(.int (1 : Int32))])) _
      refine XS.iconst X0.here hx rfl (hb hby at_18) ?_
      show Steps p.tables e below (s₁.setTop (mkF m 19 #[iv p1, iv p2, iv p3, iv p4, iv (1 : Int32), .unset, .unset, .unset, .unset, .unset, .unset, .unset, .unset] [(.int (1 : Int32)), (.int (1 : Int32))])) _
      refine XS.icmpNo X0.here hx rfl (hb hby at_19) rfl (teq ((by decide) : (1 : Int32) = (1 : Int32))).2 ?_
      show Steps p.tables e below (s₁.setTop (mkF m 22 #[iv p1, iv p2, iv p3, iv p4, iv (1 : Int32), .unset, .unset, .unset, .unset, .unset, .unset, .unset, .unset] [])) _
      refine XS.sipush X0.here hx rfl (hb hby at_22) ?_
      show Steps p.tables e below (s₁.setTop (mkF m 25 #[iv p1, iv p2, iv p3, iv p4, iv (1 : Int32), .unset, .unset, .unset, .unset, .unset, .unset, .unset, .unset] [(.int (502 : Int32))])) _
      refine XS.goto X0.here hx rfl (pc0 := 25) (pc' := 41) rfl (hb hby at_25) (by decide) (by decide) ?_
      show Steps p.tables e below (s₁.setTop (mkF m 41 #[iv p1, iv p2, iv p3, iv p4, iv (1 : Int32), .unset, .unset, .unset, .unset, .unset, .unset, .unset, .unset] [(.int (502 : Int32))])) _
      refine XS.istore X0.here hx rfl (hb hby at_41) rfl (l' := #[iv p1, iv p2, iv p3, iv p4, iv (1 : Int32), iv (502 : Int32), .unset, .unset, .unset, .unset, .unset, .unset, .unset]) rfl ?_
      show Steps p.tables e below (s₁.setTop (mkF m 43 #[iv p1, iv p2, iv p3, iv p4, iv (1 : Int32), iv (502 : Int32), .unset, .unset, .unset, .unset, .unset, .unset, .unset] [])) _
      refine XS.iconst X0.here hx rfl (hb hby at_43) ?_
      show Steps p.tables e below (s₁.setTop (mkF m 44 #[iv p1, iv p2, iv p3, iv p4, iv (1 : Int32), iv (502 : Int32), .unset, .unset, .unset, .unset, .unset, .unset, .unset] [(.int (2 : Int32))])) _
      exact k
    obtain ⟨T54, h54, c54, X54, e54, E54, A54, B54, st54⟩ := newPE X0 hx hZ (hw _ (List.mem_of_getElem? (i := 0) rfl)) e0 (g := (mkF m 44 #[iv p1, iv p2, iv p3, iv p4, iv (1 : Int32), iv (502 : Int32), .unset, .unset, .unset, .unset, .unset, .unset, .unset] [(.int (2 : Int32))])) rfl (hb hby at_44) rfl (by decide) (cap := 2) (by decide) (by decide) (by decide) (by decide) (ad := "[C") (by decide)
    obtain ⟨b54, g54⟩ : ∃ z, z = h0.size := ⟨_, rfl⟩
    rw [← g54] at A54 B54 st54
    have O54 := O0.ext E54
    have v54 : Arv Z h54 b54 c54 .char (2 : Int32) [(.int (0 : Int32)), (.int (0 : Int32))] (.int (0 : Int32)) := (Arv.new A54 (by decide)).pad (pad_rep [] (.int (0 : Int32)) 2)
    have k55 : Way p e below S0 T54 (mkF m 46 #[iv p1, iv p2, iv p3, iv p4, iv (1 : Int32), iv (502 : Int32), .unset, .unset, .unset, .unset, .unset, .unset, .unset] [(.ref b54)]) := fun t k => k53 t (st54 _ k)
    have k56 : Way p e below S0 T54 (mkF m 54 #[iv p1, iv p2, iv p3, iv p4, iv (1 : Int32), iv (502 : Int32), .unset, .unset, .unset, .unset, .unset, .unset, .unset] [(.int ((p3 &&& (255 : Int32)).toUInt32.toUInt16.toUInt32.toInt32)), (.int (0 : Int32)), (.ref b54), (.ref b54)]) := by
      intro t k
      refine k55 t ?_
      refine XS.dup X54.here hx rfl (hb hby at_46) rfl rfl ?_
      show Steps p.tables e below (T54.setTop (mkF m 47 #[iv p1, iv p2, iv p3, iv p4, iv (1 : Int32), iv (502 : Int32), .unset, .unset, .unset, .unset, .unset, .unset, .unset] [(.ref b54), (.ref b54)])) _
      refine XS.iconst X54.here hx rfl (hb hby at_47) ?_
      show Steps p.tables e below (T54.setTop (mkF m 48 #[iv p1, iv p2, iv p3, iv p4, iv (1 : Int32), iv (502 : Int32), .unset, .unset, .unset, .unset, .unset, .unset, .unset] [(.int (0 : Int32)), (.ref b54), (.ref b54)])) _
      refine XS.iloadN X54.here hx rfl (hb hby at_48) rfl ?_
      show Steps p.tables e below (T54.setTop (mkF m 49 #[iv p1, iv p2, iv p3, iv p4, iv (1 : Int32), iv (502 : Int32), .unset, .unset, .unset, .unset, .unset, .unset, .unset] [(.int p3), (.int (0 : Int32)), (.ref b54), (.ref b54)])) _
      refine XS.sipush X54.here hx rfl (hb hby at_49) ?_
      show Steps p.tables e below (T54.setTop (mkF m 52 #[iv p1, iv p2, iv p3, iv p4, iv (1 : Int32), iv (502 : Int32), .unset, .unset, .unset, .unset, .unset, .unset, .unset] [(.int (255 : Int32)), (.int p3), (.int (0 : Int32)), (.ref b54), (.ref b54)])) _
      refine XS.iand X54.here hx rfl (hb hby at_52) rfl ?_
      show Steps p.tables e below (T54.setTop (mkF m 53 #[iv p1, iv p2, iv p3, iv p4, iv (1 : Int32), iv (502 : Int32), .unset, .unset, .unset, .unset, .unset, .unset, .unset] [(.int (p3 &&& (255 : Int32))), (.int (0 : Int32)), (.ref b54), (.ref b54)])) _
      refine XS.i2c X54.here hx rfl (hb hby at_53) rfl ?_
      show Steps p.tables e below (T54.setTop (mkF m 54 #[iv p1, iv p2, iv p3, iv p4, iv (1 : Int32), iv (502 : Int32), .unset, .unset, .unset, .unset, .unset, .unset, .unset] [(.int ((p3 &&& (255 : Int32)).toUInt32.toUInt16.toUInt32.toInt32)), (.int (0 : Int32)), (.ref b54), (.ref b54)])) _
      exact k
    obtain ⟨cl57, Ar57, qc57, S57, M57, U57, G57⟩ := id (v54)
    have hin57 : ¬ ((0 : Int32) < 0 ∨ cl57.slots.size ≤ ((0 : Int32)).toNatClampNeg) := inb_of S57 ⟨by decide, by decide⟩
    obtain ⟨T57, h57, X57, e57, W57, st57⟩ := stC X54 hx hZ e54 Ar57 (j := (0 : Int32)) hin57 (g := (mkF m 54 #[iv p1, iv p2, iv p3, iv p4, iv (1 : Int32), iv (502 : Int32), .unset, .unset, .unset, .unset, .unset, .unset, .unset] [(.int ((p3 &&& (255 : Int32)).toUInt32.toUInt16.toUInt32.toInt32)), (.int (0 : Int32)), (.ref b54), (.ref b54)])) rfl rfl (hb hby at_54)
    have ge58 : n0 ≤ b54 := Nat.le_trans (own_old O0) (Nat.le_of_eq g54.symm)
    have O57 := O54.wr W57 ge58
    have N57 := Fr.snoc X57 N0 ge58
    have va57 : Arv Z h57 b54 c54 .char (2 : Int32) [(.int (((p3 &&& (255 : Int32)).toUInt32.toUInt16.toUInt32.toInt32).toUInt32.toUInt16.toUInt32.toInt32)), (.int (0 : Int32))] (.int (0 : Int32)) := Arv.set Ar57 qc57 S57 M57 U57 G57 (fits_nar_char _) W57 0 rfl (Nat.le_of_ble_eq_true rfl)
    have k59 : Way p e below S0 T57 (mkF m 55 #[iv p1, iv p2, iv p3, iv p4, iv (1 : Int32), iv (502 : Int32), .unset, .unset, .unset, .unset, .unset, .unset, .unset] [(.ref b54)]) := fun t k => k56 t (st57 _ k)
    have k60 : Way p e below S0 T57 (mkF m 63 #[iv p1, iv p2, iv p3, iv p4, iv (1 : Int32), iv (502 : Int32), .unset, .unset, .unset, .unset, .unset, .unset, .unset] [(.int ((p4 &&& (255 : Int32)).toUInt32.toUInt16.toUInt32.toInt32)), (.int (1 : Int32)), (.ref b54), (.ref b54)]) := by
      intro t k
      refine k59 t ?_
      refine XS.dup X57.here hx rfl (hb hby at_55) rfl rfl ?_
      show Steps p.tables e below (T57.setTop (mkF m 56 #[iv p1, iv p2, iv p3, iv p4, iv (1 : Int32), iv (502 : Int32), .unset, .unset, .unset, .unset, .unset, .unset, .unset] [(.ref b54), (.ref b54)])) _
      refine XS.iconst X57.here hx rfl (hb hby at_56) ?_
      show Steps p.tables e below (T57.setTop (mkF m 57 #[iv p1, iv p2, iv p3, iv p4, iv (1 : Int32), iv (502 : Int32), .unset, .unset, .unset, .unset, .unset, .unset, .unset] [(.int (1 : Int32)), (.ref b54), (.ref b54)])) _
      refine XS.iloadN X57.here hx rfl (hb hby at_57) rfl ?_
      show Steps p.tables e below (T57.setTop (mkF m 58 #[iv p1, iv p2, iv p3, iv p4, iv (1 : Int32), iv (502 : Int32), .unset, .unset, .unset, .unset, .unset, .unset, .unset] [(.int p4), (.int (1 : Int32)), (.ref b54), (.ref b54)])) _
      refine XS.sipush X57.here hx rfl (hb hby at_58) ?_
      show Steps p.tables e below (T57.setTop (mkF m 61 #[iv p1, iv p2, iv p3, iv p4, iv (1 : Int32), iv (502 : Int32), .unset, .unset, .unset, .unset, .unset, .unset, .unset] [(.int (255 : Int32)), (.int p4), (.int (1 : Int32)), (.ref b54), (.ref b54)])) _
      refine XS.iand X57.here hx rfl (hb hby at_61) rfl ?_
      show Steps p.tables e below (T57.setTop (mkF m 62 #[iv p1, iv p2, iv p3, iv p4, iv (1 : Int32), iv (502 : Int32), .unset, .unset, .unset, .unset, .unset, .unset, .unset] [(.int (p4 &&& (255 : Int32))), (.int (1 : Int32)), (.ref b54), (.ref b54)])) _
      refine XS.i2c X57.here hx rfl (hb hby at_62) rfl ?_
      show Steps p.tables e below (T57.setTop (mkF m 63 #[iv p1, iv p2, iv p3, iv p4, iv (1 : Int32), iv (502 : Int32), .unset, .unset, .unset, .unset, .unset, .unset, .unset] [(.int ((p4 &&& (255 : Int32)).toUInt32.toUInt16.toUInt32.toInt32)), (.int (1 : Int32)), (.ref b54), (.ref b54)])) _
      exact k
    obtain ⟨cl61, Ar61, qc61, S61, M61, U61, G61⟩ := id (va57)
    have hin61 : ¬ ((1 : Int32) < 0 ∨ cl61.slots.size ≤ ((1 : Int32)).toNatClampNeg) := inb_of S61 ⟨by decide, by decide⟩
    obtain ⟨T61, h61, X61, e61, W61, st61⟩ := stC X57 hx hZ e57 Ar61 (j := (1 : Int32)) hin61 (g := (mkF m 63 #[iv p1, iv p2, iv p3, iv p4, iv (1 : Int32), iv (502 : Int32), .unset, .unset, .unset, .unset, .unset, .unset, .unset] [(.int ((p4 &&& (255 : Int32)).toUInt32.toUInt16.toUInt32.toInt32)), (.int (1 : Int32)), (.ref b54), (.ref b54)])) rfl rfl (hb hby at_63)
    have O61 := O57.wr W61 ge58
    have N61 := Fr.snoc X61 N57 ge58
    have va61 : Arv Z h61 b54 c54 .char (2 : Int32) [(.int (((p3 &&& (255 : Int32)).toUInt32.toUInt16.toUInt32.toInt32).toUInt32.toUInt16.toUInt32.toInt32)), (.int (((p4 &&& (255 : Int32)).toUInt32.toUInt16.toUInt32.toInt32).toUInt32.toUInt16.toUInt32.toInt32))] (.int (0 : Int32)) := Arv.set Ar61 qc61 S61 M61 U61 G61 (fits_nar_char _) W61 1 rfl (Nat.le_of_ble_eq_true rfl)
    have k62 : Way p e below S0 T61 (mkF m 64 #[iv p1, iv p2, iv p3, iv p4, iv (1 : Int32), iv (502 : Int32), .unset, .unset, .unset, .unset, .unset, .unset, .unset] [(.ref b54)]) := fun t k => k60 t (st61 _ k)
    have k63 : Way p e below S0 T61 (mkF m 66 #[iv p1, iv p2, iv p3, iv p4, iv (1 : Int32), iv (502 : Int32), rv b54, .unset, .unset, .unset, .unset, .unset, .unset] []) := by
      intro t k
      refine k62 t ?_
      refine XS.astore X61.here hx rfl (hb hby at_64) rfl rfl (l' := #[iv p1, iv p2, iv p3, iv p4, iv (1 : Int32), iv (502 : Int32), rv b54, .unset, .unset, .unset, .unset, .unset, .unset]) rfl ?_
      show Steps p.tables e below (T61.setTop (mkF m 66 #[iv p1, iv p2, iv p3, iv p4, iv (1 : Int32), iv (502 : Int32), rv b54, .unset, .unset, .unset, .unset, .unset, .unset] [])) _
      exact k
    obtain ⟨T64, h64, X64, e64, E64, A64, D64, U64, st64⟩ := newO X61 hx hZ hown (hw _ (List.mem_of_getElem? (i := 1) rfl)) (hw _ (List.mem_of_getElem? (i := 2) rfl)) (hw _ (List.mem_of_getElem? (i := 3) rfl)) e61 (g := (mkF m 66 #[iv p1, iv p2, iv p3, iv p4, iv (1 : Int32), iv (502 : Int32), rv b54, .unset, .unset, .unset, .unset, .unset, .unset] [])) rfl (hb hby at_66) (by decide) (by decide)
    obtain ⟨b64, g64⟩ : ∃ z, z = h61.size := ⟨_, rfl⟩
    rw [← g64] at A64 D64 U64 st64
    have O64 := O61.ext E64
    have i64_coder : Fld Z h64 b64 "java/lang/String" "coder" "B" (.int (0 : Int32)) := D64 (Or.inr (hw _ (List.mem_of_getElem? (i := 27) rfl))) (ty := .byte) (by decide)
    have i64_value : Fld Z h64 b64 "java/lang/String" "value" "[B" .null := D64 (Or.inr (hw _ (List.mem_of_getElem? (i := 29) rfl))) (ty := (.array .byte)) (by decide)
    have k65 : Way p e below S0 T64 (mkF m 69 #[iv p1, iv p2, iv p3, iv p4, iv (1 : Int32), iv (502 : Int32), rv b54, .unset, .unset, .unset, .unset, .unset, .unset] [(.ref b64)]) := fun t k => k63 t (st64 _ k)
    have k66 : Way p e below S0 T64 (mkF m 72 #[iv p1, iv p2, iv p3, iv p4, iv (1 : Int32), iv (502 : Int32), rv b54, .unset, .unset, .unset, .unset, .unset, .unset] [(.ref b54), (.ref b64), (.ref b64)]) := by
      intro t k
      refine k65 t ?_
      refine XS.dup X64.here hx rfl (hb hby at_69) rfl rfl ?_
      show Steps p.tables e below (T64.setTop (mkF m 70 #[iv p1, iv p2, iv p3, iv p4, iv (1 : Int32), iv (502 : Int32), rv b54, .unset, .unset, .unset, .unset, .unset, .unset] [(.ref b64), (.ref b64)])) _
      refine XS.aload X64.here hx rfl (hb hby at_70) rfl rfl ?_
      show Steps p.tables e below (T64.setTop (mkF m 72 #[iv p1, iv p2, iv p3, iv p4, iv (1 : Int32), iv (502 : Int32), rv b54, .unset, .unset, .unset, .unset, .unset, .unset] [(.ref b54), (.ref b64), (.ref b64)])) _
      exact k
    have ge67 : n0 ≤ b64 := Nat.le_trans (own_old O61) (Nat.le_of_eq g64.symm)
    have f68 : Arv Z h64 b54 c54 .char (2 : Int32) [(.int (((p3 &&& (255 : Int32)).toUInt32.toUInt16.toUInt32.toInt32).toUInt32.toUInt16.toUInt32.toInt32)), (.int (((p4 &&& (255 : Int32)).toUInt32.toUInt16.toUInt32.toInt32).toUInt32.toUInt16.toUInt32.toInt32))] (.int (0 : Int32)) := (va61.ext E64)
    obtain ⟨_, _, ⟨T69, L69, kk69, nn69⟩, -, X69, ⟨Lc69, hQ69, l69, y69, z69⟩, st69⟩ := X64.specialBack hx (y := (⟨"java/lang/String", "<init>", "([C)V"⟩ : MethodName)) rfl hown (mvT hZ (hw _ (List.mem_of_getElem? (i := 4) rfl))) (mvT hZ (hw _ (List.mem_of_getElem? (i := 5) rfl))) (mvT hZ (hw _ (List.mem_of_getElem? (i := 6) rfl))) (by decide) (backOf (W := 1) (sinit_2 l Z a0 hw [] wCS w_US w_SS G b64 b54 c54 (((p3 &&& (255 : Int32)).toUInt32.toUInt16.toUInt32.toInt32).toUInt32.toUInt16.toUInt32.toInt32) (((p4 &&& (255 : Int32)).toUInt32.toUInt16.toUInt32.toInt32).toUInt32.toUInt16.toUInt32.toInt32) h64 n0 O64 (A64 : Exa Z h64 b64 "java/lang/String") (i64_value : Fld Z h64 b64 "java/lang/String" "value" "[B" .null) (i64_coder : Fld Z h64 b64 "java/lang/String" "coder" "B" (.int (0 : Int32))) (ge67 : n0 ≤ b64) ((Ne.symm (Nat.ne_of_lt (Nat.lt_of_lt_of_le ((B54.wr W57).wr W61).lt (Nat.le_of_eq g64.symm)))) : b64 ≠ b54) (f68 : Arv Z h64 b54 c54 .char (2 : Int32) [(.int (((p3 &&& (255 : Int32)).toUInt32.toUInt16.toUInt32.toInt32).toUInt32.toUInt16.toUInt32.toInt32)), (.int (((p4 &&& (255 : Int32)).toUInt32.toUInt16.toUInt32.toInt32).toUInt32.toUInt16.toUInt32.toInt32))] (.int (0 : Int32))) (own_chr _ : ¬ ((255 : Int32) < (((p3 &&& (255 : Int32)).toUInt32.toUInt16.toUInt32.toInt32).toUInt32.toUInt16.toUInt32.toInt32))) (own_chr _ : ¬ ((255 : Int32) < (((p4 &&& (255 : Int32)).toUInt32.toUInt16.toUInt32.toInt32).toUInt32.toUInt16.toUInt32.toInt32)))) hZ (hw _ (List.mem_of_getElem? (i := 6) rfl)) (hw _ (List.mem_of_getElem? (i := 3) rfl)) (by decide) (by decide)) (g := (mkF m 72 #[iv p1, iv p2, iv p3, iv p4, iv (1 : Int32), iv (502 : Int32), rv b54, .unset, .unset, .unset, .unset, .unset, .unset] [(.ref b54), (.ref b64), (.ref b64)])) rfl (by rw [hml]; rfl) (Steps.refl _) (a := b64) (argsL := [(.ref b54)]) (rest := [(.ref b64)]) (lenOf pd_6 rfl) rfl (by show 2 * 0 + _ ≤ _; exact Nat.le_of_eq rfl) (hb hby at_72) (fun _ _ => ⟨rfl, e64, (by decide : 2 + 1 ≤ _), (by decide : 6 + 2 ≤ _)⟩)
    dsimp only [Pt.U, Pt.locs, Pt.cells, Pt.slots] at X69 l69 y69 z69 st69 hQ69
    subst l69 y69 z69
    obtain ⟨d1_69, kb_69, rfl, Nq69, Kq69, po69_0, po69_1, po69_2, po69_3, po69_4, po69_5⟩ := hQ69
    have N69 := Fr.app N61 Nq69
    have O69 := O64.keep Kq69 (allS ge67 all0)
    have k70 : Way p e below S0 T69 (mkF m 75 #[iv p1, iv p2, iv p3, iv p4, iv (1 : Int32), iv (502 : Int32), rv b54, .unset, .unset, .unset, .unset, .unset, .unset] [(.ref b64)]) := fun t k => k66 t (st69.trans k)
    have k72 : Way p e below S0 T69 (mkF m 80 #[iv p1, iv p2, iv p3, iv p4, iv (1 : Int32), iv (502 : Int32), rv b54, rv b64, .unset, .unset, .unset, .unset, .unset] [(.int (p1 &&& (4 : Int32)))]) := by
      intro t k
      refine k70 t ?_
      refine XS.astore X69.here hx rfl (hb hby at_75) rfl rfl (l' := #[iv p1, iv p2, iv p3, iv p4, iv (1 : Int32), iv (502 : Int32), rv b54, rv b64, .unset, .unset, .unset, .unset, .unset]) rfl ?_
      show Steps p.tables e below (T69.setTop (mkF m 77 #[iv p1, iv p2, iv p3, iv p4, iv (1 : Int32), iv (502 : Int32), rv b54, rv b64, .unset, .unset, .unset, .unset, .unset] [])) _
      refine XS.iloadN X69.here hx rfl (hb hby at_77) rfl ?_
      show Steps p.tables e below (T69.setTop (mkF m 78 #[iv p1, iv p2, iv p3, iv p4, iv (1 : Int32), iv (502 : Int32), rv b54, rv b64, .unset, .unset, .unset, .unset, .unset] [(.int p1)])) _
      refine XS.iconst X69.here hx rfl (hb hby at_78) ?_
      show Steps p.tables e below (T69.setTop (mkF m 79 #[iv p1, iv p2, iv p3, iv p4, iv (1 : Int32), iv (502 : Int32), rv b54, rv b64, .unset, .unset, .unset, .unset, .unset] [(.int (4 : Int32)), (.int p1)])) _
      refine XS.iand X69.here hx rfl (hb hby at_79) rfl ?_
      show Steps p.tables e below (T69.setTop (mkF m 80 #[iv p1, iv p2, iv p3, iv p4, iv (1 : Int32), iv (502 : Int32), rv b54, rv b64, .unset, .unset, .unset, .unset, .unset] [(.int (p1 &&& (4 : Int32)))])) _
      exact k
    by_cases hc71 : (p1 &&& (4 : Int32)) = (0 : Int32)
    · have k73 : Way p e below S0 T69 (mkF m 114 #[iv p1, iv p2, iv p3, iv p4, iv (1 : Int32), iv (502 : Int32), rv b54, rv b64, iv (0 : Int32), .unset, .unset, .unset, .unset] []) := by
        intro t k
        refine k72 t ?_
        refine XS.ifYes X69.here hx rfl (pc0 := 80) (pc' := 87) rfl (hb hby at_80) rfl ((if0 _ _).trans (teq (hc71 : (p1 &&& (4 : Int32)) = (0 : Int32))).1) (by decide) (by decide) ?_
        show Steps p.tables e below (T69.setTop (mkF m 87 #[iv p1, iv p2, iv p3, iv p4, iv (1 : Int32), iv (502 : Int32), rv b54, rv b64, .unset, .unset, .unset, .unset, .unset] [])) _
        refine XS.iconst X69.here hx rfl (hb hby at_87) ?_
        show Steps p.tables e below (T69.setTop (mkF m 88 #[iv p1, iv p2, iv p3, iv p4, iv (1 : Int32), iv (502 : Int32), rv b54, rv b64, .unset, .unset, .unset, .unset, .unset] [(.int (0 : Int32))])) _
        refine XS.istore X69.here hx rfl (hb hby at_88) rfl (l' := #[iv p1, iv p2, iv p3, iv p4, iv (1 : Int32), iv (502 : Int32), rv b54, rv b64, iv (0 : Int32), .unset, .unset, .unset, .unset]) rfl ?_
        show Steps p.tables e below (T69.setTop (mkF m 90 #[iv p1, iv p2, iv p3, iv p4, iv (1 : Int32), iv (502 : Int32), rv b54, rv b64, iv (0 : Int32), .unset, .unset, .unset, .unset] [])) _
        refine XS.iload X69.here hx rfl (hb hby at_90) rfl ?_
        show Steps p.tables e below (T69.setTop (mkF m 92 #[iv p1, iv p2, iv p3, iv p4, iv (1 : Int32), iv (502 : Int32), rv b54, rv b64, iv (0 : Int32), .unset, .unset, .unset, .unset] [(.int (0 : Int32))])) _
        refine XS.ifYes X69.here hx rfl (pc0 := 92) (pc' := 114) rfl (hb hby at_92) rfl ((if0 _ _).trans (teq ((by decide) : (0 : Int32) = (0 : Int32))).1) (by decide) (by decide) ?_
        show Steps p.tables e below (T69.setTop (mkF m 114 #[iv p1, iv p2, iv p3, iv p4, iv (1 : Int32), iv (502 : Int32), rv b54, rv b64, iv (0 : Int32), .unset, .unset, .unset, .unset] [])) _
        exact k
      obtain ⟨T74, h74, X74, e74, E74, A74, D74, U74, st74⟩ := newO X69 hx hZ hown (hw _ (List.mem_of_getElem? (i := 30) rfl)) (hw _ (List.mem_of_getElem? (i := 31) rfl)) (hw _ (List.mem_of_getElem? (i := 32) rfl)) rfl (g := (mkF m 114 #[iv p1, iv p2, iv p3, iv p4, iv (1 : Int32), iv (502 : Int32), rv b54, rv b64, iv (0 : Int32), .unset, .unset, .unset, .unset] [])) rfl (hb hby at_114) (by decide) (by decide)
      obtain ⟨b74, g74⟩ : ∃ z, z = T69.heap.size := ⟨_, rfl⟩
      rw [← g74] at A74 D74 U74 st74
      have O74 := O69.ext E74
      have i74_cause : Fld Z h74 b74 "java/lang/Throwable" "cause" "Ljava/lang/Throwable;" .null := D74 (Or.inl (hw _ (List.mem_of_getElem? (i := 55) rfl))) (ty := (.object "java/lang/Throwable")) (by decide)
      have i74_stackTrace : Fld Z h74 b74 "java/lang/Throwable" "stackTrace" "[Ljava/lang/StackTraceElement;" .null := D74 (Or.inl (hw _ (List.mem_of_getElem? (i := 58) rfl))) (ty := (.array (.object "java/lang/StackTraceElement"))) (by decide)
      have i74_suppressedExceptions : Fld Z h74 b74 "java/lang/Throwable" "suppressedExceptions" "Ljava/util/List;" .null := D74 (Or.inl (hw _ (List.mem_of_getElem? (i := 61) rfl))) (ty := (.object "java/util/List")) (by decide)
      have i74_detailMessage : Fld Z h74 b74 "java/lang/Throwable" "detailMessage" "Ljava/lang/String;" .null := D74 (Or.inl (hw _ (List.mem_of_getElem? (i := 85) rfl))) (ty := (.object "java/lang/String")) (by decide)
      have i74_backtrace : Fld Z h74 b74 "java/lang/Throwable" "backtrace" "Ljava/lang/Object;" .null := D74 (Or.inl (hw _ (List.mem_of_getElem? (i := 86) rfl))) (ty := (.object "java/lang/Object")) (by decide)
      have i74_depth : Fld Z h74 b74 "java/lang/Throwable" "depth" "I" (.int (0 : Int32)) := D74 (Or.inl (hw _ (List.mem_of_getElem? (i := 87) rfl))) (ty := .int) (by decide)
      have i74_status : Fld Z h74 b74 "caseward/web/RequestHead$Malformed" "status" "I" (.int (0 : Int32)) := D74 (Or.inr (hw _ (List.mem_of_getElem? (i := 91) rfl))) (ty := .int) (by decide)
      have k75 : Way p e below S0 T74 (mkF m 117 #[iv p1, iv p2, iv p3, iv p4, iv (1 : Int32), iv (502 : Int32), rv b54, rv b64, iv (0 : Int32), .unset, .unset, .unset, .unset] [(.ref b74)]) := fun t k => k73 t (st74 _ k)
      have k76 : Way p e below S0 T74 (mkF m 122 #[iv p1, iv p2, iv p3, iv p4, iv (1 : Int32), iv (502 : Int32), rv b54, rv b64, iv (0 : Int32), .unset, .unset, .unset, .unset] [(.ref b64), (.int (502 : Int32)), (.ref b74), (.ref b74)]) := by
        intro t k
        refine k75 t ?_
        refine XS.dup X74.here hx rfl (hb hby at_117) rfl rfl ?_
        show Steps p.tables e below (T74.setTop (mkF m 118 #[iv p1, iv p2, iv p3, iv p4, iv (1 : Int32), iv (502 : Int32), rv b54, rv b64, iv (0 : Int32), .unset, .unset, .unset, .unset] [(.ref b74), (.ref b74)])) _
        refine XS.iload X74.here hx rfl (hb hby at_118) rfl ?_
        show Steps p.tables e below (T74.setTop (mkF m 120 #[iv p1, iv p2, iv p3, iv p4, iv (1 : Int32), iv (502 : Int32), rv b54, rv b64, iv (0 : Int32), .unset, .unset, .unset, .unset] [(.int (502 : Int32)), (.ref b74), (.ref b74)])) _
        refine XS.aload X74.here hx rfl (hb hby at_120) rfl rfl ?_
        show Steps p.tables e below (T74.setTop (mkF m 122 #[iv p1, iv p2, iv p3, iv p4, iv (1 : Int32), iv (502 : Int32), rv b54, rv b64, iv (0 : Int32), .unset, .unset, .unset, .unset] [(.ref b64), (.int (502 : Int32)), (.ref b74), (.ref b74)])) _
        exact k
      have ge77 : n0 ≤ b74 := Nat.le_trans (own_old O69) (Nat.le_of_eq g74.symm)
      obtain ⟨_, _, ⟨T78, L78, kk78, nn78⟩, -, X78, ⟨Lc78, hQ78, l78, y78, z78⟩, st78⟩ := X74.specialBack hx (y := (⟨"caseward/web/RequestHead$Malformed", "<init>", "(ILjava/lang/String;)V"⟩ : MethodName)) rfl hown (mvT hZ (hw _ (List.mem_of_getElem? (i := 33) rfl))) (mvT hZ (hw _ (List.mem_of_getElem? (i := 34) rfl))) (mvT hZ (hw _ (List.mem_of_getElem? (i := 35) rfl))) (by decide) (backOfKL (W := 1) (mi l Z a0 hw [] wCS w_US w_SS G b74 (502 : Int32) b64 h74 n0 O74 (A74 : Exa Z h74 b74 "caseward/web/RequestHead$Malformed") (i74_cause : Fld Z h74 b74 "java/lang/Throwable" "cause" "Ljava/lang/Throwable;" .null) (i74_stackTrace : Fld Z h74 b74 "java/lang/Throwable" "stackTrace" "[Ljava/lang/StackTraceElement;" .null) (i74_suppressedExceptions : Fld Z h74 b74 "java/lang/Throwable" "suppressedExceptions" "Ljava/util/List;" .null) (i74_backtrace : Fld Z h74 b74 "java/lang/Throwable" "backtrace" "Ljava/lang/Object;" .null) (i74_detailMessage : Fld Z h74 b74 "java/lang/Throwable" "detailMessage" "Ljava/lang/String;" .null) (i74_status : Fld Z h74 b74 "caseward/web/RequestHead$Malformed" "status" "I" (.int (0 : Int32))) (U74 : Unt h74 b74) (ge77 : n0 ≤ b74) (htr : l.stackTraces = true)) hZ (hw _ (List.mem_of_getElem? (i := 35) rfl)) (hw _ (List.mem_of_getElem? (i := 32) rfl)) (by decide) (by decide) hTK hBelow) (g := (mkF m 122 #[iv p1, iv p2, iv p3, iv p4, iv (1 : Int32), iv (502 : Int32), rv b54, rv b64, iv (0 : Int32), .unset, .unset, .unset, .unset] [(.ref b64), (.int (502 : Int32)), (.ref b74), (.ref b74)])) rfl (by rw [hml]; rfl) (Steps.refl _) (a := b74) (argsL := [(.int (502 : Int32)), (.ref b64)]) (rest := [(.ref b74)]) (lenOf pd_5 rfl) rfl (by show 2 * 0 + _ ≤ _; exact Nat.le_of_eq rfl) (hb hby at_122) (fun _ _ => ⟨rfl, e74, (by decide : 4 + 1 ≤ _), (by decide : 15 + 2752 ≤ _)⟩)
      dsimp only [Pt.U, Pt.locs, Pt.cells, Pt.slots] at X78 l78 y78 z78 st78 hQ78
      subst l78 y78 z78
      obtain ⟨rfl, Nq78, Kq78, po78_0, po78_1⟩ := hQ78
      have N78 := Fr.app N69 Nq78
      have O78 := O74.keep Kq78 (allS ge77 all0)
      have k79 : Way p e below S0 T78 (mkF m 125 #[iv p1, iv p2, iv p3, iv p4, iv (1 : Int32), iv (502 : Int32), rv b54, rv b64, iv (0 : Int32), .unset, .unset, .unset, .unset] [(.ref b74)]) := fun t k => k76 t (st78.trans k)
      have k80 : Way p e below S0 T78 (mkF m 133 #[iv p1, iv p2, iv p3, iv p4, iv (1 : Int32), iv (502 : Int32), rv b54, rv b64, iv (0 : Int32), rv b74, iv (502 : Int32), .unset, .unset] [(.ref b74)]) := by
        intro t k
        refine k79 t ?_
        refine XS.astore X78.here hx rfl (hb hby at_125) rfl rfl (l' := #[iv p1, iv p2, iv p3, iv p4, iv (1 : Int32), iv (502 : Int32), rv b54, rv b64, iv (0 : Int32), rv b74, .unset, .unset, .unset]) rfl ?_
        show Steps p.tables e below (T78.setTop (mkF m 127 #[iv p1, iv p2, iv p3, iv p4, iv (1 : Int32), iv (502 : Int32), rv b54, rv b64, iv (0 : Int32), rv b74, .unset, .unset, .unset] [])) _
        refine XS.iload X78.here hx rfl (hb hby at_127) rfl ?_
        show Steps p.tables e below (T78.setTop (mkF m 129 #[iv p1, iv p2, iv p3, iv p4, iv (1 : Int32), iv (502 : Int32), rv b54, rv b64, iv (0 : Int32), rv b74, .unset, .unset, .unset] [(.int (502 : Int32))])) _
        refine XS.istore X78.here hx rfl (hb hby at_129) rfl (l' := #[iv p1, iv p2, iv p3, iv p4, iv (1 : Int32), iv (502 : Int32), rv b54, rv b64, iv (0 : Int32), rv b74, iv (502 : Int32), .unset, .unset]) rfl ?_
        show Steps p.tables e below (T78.setTop (mkF m 131 #[iv p1, iv p2, iv p3, iv p4, iv (1 : Int32), iv (502 : Int32), rv b54, rv b64, iv (0 : Int32), rv b74, iv (502 : Int32), .unset, .unset] [])) _
        refine XS.aload X78.here hx rfl (hb hby at_131) rfl rfl ?_
        show Steps p.tables e below (T78.setTop (mkF m 133 #[iv p1, iv p2, iv p3, iv p4, iv (1 : Int32), iv (502 : Int32), rv b54, rv b64, iv (0 : Int32), rv b74, iv (502 : Int32), .unset, .unset] [(.ref b74)])) _
        exact k
      obtain ⟨cq81, kq81, qq81a, qq81b, qq81c⟩ := isOf hZ rfl po78_0
      obtain ⟨_, _, ⟨T81, L81, kk81, nn81⟩, -, X81, ⟨Lc81, hQ81, l81, y81, z81⟩, st81⟩ := X78.virtualBack hx (y := (⟨"caseward/web/RequestHead$Malformed", "isForWantOfRoom", "()Z"⟩ : MethodName)) (z := (⟨"caseward/web/RequestHead$Malformed", "isForWantOfRoom", "()Z"⟩ : MethodName)) hown (mvT hZ (hw _ (List.mem_of_getElem? (i := 92) rfl))) (mvT hZ (hw _ (List.mem_of_getElem? (i := 93) rfl))) (notFace_of_selects (args := #[]) (mvT hZ (hw _ (List.mem_of_getElem? (i := 95) rfl)))) (mvT hZ (hw _ (List.mem_of_getElem? (i := 95) rfl))) (mvT hZ (hw _ (List.mem_of_getElem? (i := 94) rfl))) (by decide) (backOf (W := 0) (isF l Z a0 hw [] wCS w_US w_SS G b74 (502 : Int32) T78.heap n0 O78 (po78_1 : Fld Z T78.heap b74 "caseward/web/RequestHead$Malformed" "status" "I" (.int (502 : Int32))) (by decide : ¬ ((502 : Int32) = (503 : Int32)))) hZ (hw _ (List.mem_of_getElem? (i := 96) rfl)) (hw _ (List.mem_of_getElem? (i := 32) rfl)) (by decide) (by decide)) qq81a qq81c (g := (mkF m 133 #[iv p1, iv p2, iv p3, iv p4, iv (1 : Int32), iv (502 : Int32), rv b54, rv b64, iv (0 : Int32), rv b74, iv (502 : Int32), .unset, .unset] [(.ref b74)])) rfl (by rw [hml]; rfl) (Steps.refl _) (argsL := []) (rest := []) (lenOf pd_7 rfl) rfl (by show 2 * 0 + _ ≤ _; exact Nat.le_of_eq rfl) (hb hby at_133) (fun _ _ => ⟨rfl, rfl, (by decide : 5 + 0 ≤ _), (by decide : 2767 + 0 ≤ _)⟩)
      dsimp only [Pt.U, Pt.locs, Pt.cells, Pt.slots] at X81 l81 y81 z81 st81 hQ81
      subst l81 y81 z81
      obtain ⟨rfl, Nq81, e81⟩ := hQ81
      have N81 := Fr.app N78 Nq81
      have k82 : Way p e below S0 T81 (mkF m 136 #[iv p1, iv p2, iv p3, iv p4, iv (1 : Int32), iv (502 : Int32), rv b54, rv b64, iv (0 : Int32), rv b74, iv (502 : Int32), .unset, .unset] [(.int (0 : Int32))]) := fun t k => k80 t (st81.trans k)
      have k83 : Way p e below S0 T81 (mkF m 162 #[iv p1, iv p2, iv p3, iv p4, iv (1 : Int32), iv (502 : Int32), rv b54, rv b64, iv (0 : Int32), rv b74, iv (502 : Int32), iv (0 : Int32), iv (0 : Int32)] [(.ref b74)]) := by
        intro t k
        refine k82 t ?_
        refine XS.istore X81.here hx rfl (hb hby at_136) rfl (l' := #[iv p1, iv p2, iv p3, iv p4, iv (1 : Int32), iv (502 : Int32), rv b54, rv b64, iv (0 : Int32), rv b74, iv (502 : Int32), iv (0 : Int32), .unset]) rfl ?_
        show Steps p.tables e below (T81.setTop (mkF m 138 #[iv p1, iv p2, iv p3, iv p4, iv (1 : Int32), iv (502 : Int32), rv b54, rv b64, iv (0 : Int32), rv b74, iv (502 : Int32), iv (0 : Int32), .unset] [])) _
        refine XS.iload X81.here hx rfl (hb hby at_138) rfl ?_
        show Steps p.tables e below (T81.setTop (mkF m 140 #[iv p1, iv p2, iv p3, iv p4, iv (1 : Int32), iv (502 : Int32), rv b54, rv b64, iv (0 : Int32), rv b74, iv (502 : Int32), iv (0 : Int32), .unset] [(.int (502 : Int32))])) _
        refine XS.sipush X81.here hx rfl (hb hby at_140) ?_
        show Steps p.tables e below (T81.setTop (mkF m 143 #[iv p1, iv p2, iv p3, iv p4, iv (1 : Int32), iv (502 : Int32), rv b54, rv b64, iv (0 : Int32), rv b74, iv (502 : Int32), iv (0 : Int32), .unset] [(.int (503 : Int32)), (.int (502 : Int32))])) _
        refine XS.icmpYes X81.here hx rfl (pc0 := 143) (pc' := 150) rfl (hb hby at_143) rfl (feq ((by decide) : ¬ ((502 : Int32) = (503 : Int32)))).2 (by decide) (by decide) ?_
        show Steps p.tables e below (T81.setTop (mkF m 150 #[iv p1, iv p2, iv p3, iv p4, iv (1 : Int32), iv (502 : Int32), rv b54, rv b64, iv (0 : Int32), rv b74, iv (502 : Int32), iv (0 : Int32), .unset] [])) _
        refine XS.iconst X81.here hx rfl (hb hby at_150) ?_
        show Steps p.tables e below (T81.setTop (mkF m 151 #[iv p1, iv p2, iv p3, iv p4, iv (1 : Int32), iv (502 : Int32), rv b54, rv b64, iv (0 : Int32), rv b74, iv (502 : Int32), iv (0 : Int32), .unset] [(.int (0 : Int32))])) _
        refine XS.istore X81.here hx rfl (hb hby at_151) rfl (l' := #[iv p1, iv p2, iv p3, iv p4, iv (1 : Int32), iv (502 : Int32), rv b54, rv b64, iv (0 : Int32), rv b74, iv (502 : Int32), iv (0 : Int32), iv (0 : Int32)]) rfl ?_
        show Steps p.tables e below (T81.setTop (mkF m 153 #[iv p1, iv p2, iv p3, iv p4, iv (1 : Int32), iv (502 : Int32), rv b54, rv b64, iv (0 : Int32), rv b74, iv (502 : Int32), iv (0 : Int32), iv (0 : Int32)] [])) _
        refine XS.iload X81.here hx rfl (hb hby at_153) rfl ?_
        show Steps p.tables e below (T81.setTop (mkF m 155 #[iv p1, iv p2, iv p3, iv p4, iv (1 : Int32), iv (502 : Int32), rv b54, rv b64, iv (0 : Int32), rv b74, iv (502 : Int32), iv (0 : Int32), iv (0 : Int32)] [(.int (0 : Int32))])) _
        refine XS.iload X81.here hx rfl (hb hby at_155) rfl ?_
        show Steps p.tables e below (T81.setTop (mkF m 157 #[iv p1, iv p2, iv p3, iv p4, iv (1 : Int32), iv (502 : Int32), rv b54, rv b64, iv (0 : Int32), rv b74, iv (502 : Int32), iv (0 : Int32), iv (0 : Int32)] [(.int (0 : Int32)), (.int (0 : Int32))])) _
        refine XS.icmpNo X81.here hx rfl (hb hby at_157) rfl (teq ((by decide) : (0 : Int32) = (0 : Int32))).2 ?_
        show Steps p.tables e below (T81.setTop (mkF m 160 #[iv p1, iv p2, iv p3, iv p4, iv (1 : Int32), iv (502 : Int32), rv b54, rv b64, iv (0 : Int32), rv b74, iv (502 : Int32), iv (0 : Int32), iv (0 : Int32)] [])) _
        refine XS.aload X81.here hx rfl (hb hby at_160) rfl rfl ?_
        show Steps p.tables e below (T81.setTop (mkF m 162 #[iv p1, iv p2, iv p3, iv p4, iv (1 : Int32), iv (502 : Int32), rv b54, rv b64, iv (0 : Int32), rv b74, iv (502 : Int32), iv (0 : Int32), iv (0 : Int32)] [(.ref b74)])) _
        exact k
      obtain ⟨cq84, kq84, qq84a, qq84b, qq84c⟩ := isOf hZ e81 po78_0
      obtain ⟨_, _, ⟨T84, L84, kk84, nn84⟩, -, X84, ⟨Lc84, hQ84, l84, y84, z84⟩, st84⟩ := X81.virtualBack hx (y := (⟨"caseward/web/RequestHead$Malformed", "status", "()I"⟩ : MethodName)) (z := (⟨"caseward/web/RequestHead$Malformed", "status", "()I"⟩ : MethodName)) hown (mvT hZ (hw _ (List.mem_of_getElem? (i := 97) rfl))) (mvT hZ (hw _ (List.mem_of_getElem? (i := 98) rfl))) (notFace_of_selects (args := #[]) (mvT hZ (hw _ (List.mem_of_getElem? (i := 100) rfl)))) (mvT hZ (hw _ (List.mem_of_getElem? (i := 100) rfl))) (mvT hZ (hw _ (List.mem_of_getElem? (i := 99) rfl))) (by decide) (backOf (W := 0) (stt l Z a0 hw [] wCS w_US w_SS G b74 (502 : Int32) T78.heap n0 O78 (po78_1 : Fld Z T78.heap b74 "caseward/web/RequestHead$Malformed" "status" "I" (.int (502 : Int32)))) hZ (hw _ (List.mem_of_getElem? (i := 101) rfl)) (hw _ (List.mem_of_getElem? (i := 32) rfl)) (by decide) (by decide)) qq84a qq84c (g := (mkF m 162 #[iv p1, iv p2, iv p3, iv p4, iv (1 : Int32), iv (502 : Int32), rv b54, rv b64, iv (0 : Int32), rv b74, iv (502 : Int32), iv (0 : Int32), iv (0 : Int32)] [(.ref b74)])) rfl (by rw [hml]; rfl) (Steps.refl _) (argsL := []) (rest := []) (lenOf pd_8 rfl) rfl (by show 2 * 0 + _ ≤ _; exact Nat.le_of_eq rfl) (hb hby at_162) (fun _ _ => ⟨rfl, e81, (by decide : 5 + 0 ≤ _), (by decide : 2767 + 0 ≤ _)⟩)
      dsimp only [Pt.U, Pt.locs, Pt.cells, Pt.slots] at X84 l84 y84 z84 st84 hQ84
      subst l84 y84 z84
      obtain ⟨rfl, Nq84, e84⟩ := hQ84
      have N84 := Fr.app N81 Nq84
      have k85 : Way p e below S0 T84 (mkF m 165 #[iv p1, iv p2, iv p3, iv p4, iv (1 : Int32), iv (502 : Int32), rv b54, rv b64, iv (0 : Int32), rv b74, iv (502 : Int32), iv (0 : Int32), iv (0 : Int32)] [(.int (502 : Int32))]) := fun t k => k83 t (st84.trans k)
      have k86 : Way p e below S0 T84 (mkF m 175 #[iv p1, iv p2, iv p3, iv p4, iv (1 : Int32), iv (502 : Int32), rv b54, rv b64, iv (0 : Int32), rv b74, iv (502 : Int32), iv (0 : Int32), iv (0 : Int32)] [(.int (1 : Int32))]) := by
        intro t k
        refine k85 t ?_
        refine XS.iload X84.here hx rfl (hb hby at_165) rfl ?_
        show Steps p.tables e below (T84.setTop (mkF m 167 #[iv p1, iv p2, iv p3, iv p4, iv (1 : Int32), iv (502 : Int32), rv b54, rv b64, iv (0 : Int32), rv b74, iv (502 : Int32), iv (0 : Int32), iv (0 : Int32)] [(.int (502 : Int32)), (.int (502 : Int32))])) _
        refine XS.icmpNo X84.here hx rfl (hb hby at_167) rfl (teq ((by decide) : (502 : Int32) = (502 : Int32))).2 ?_
        show Steps p.tables e below (T84.setTop (mkF m 170 #[iv p1, iv p2, iv p3, iv p4, iv (1 : Int32), iv (502 : Int32), rv b54, rv b64, iv (0 : Int32), rv b74, iv (502 : Int32), iv (0 : Int32), iv (0 : Int32)] [])) _
        refine XS.iconst X84.here hx rfl (hb hby at_170) ?_
        show Steps p.tables e below (T84.setTop (mkF m 171 #[iv p1, iv p2, iv p3, iv p4, iv (1 : Int32), iv (502 : Int32), rv b54, rv b64, iv (0 : Int32), rv b74, iv (502 : Int32), iv (0 : Int32), iv (0 : Int32)] [(.int (1 : Int32))])) _
        refine XS.goto X84.here hx rfl (pc0 := 171) (pc' := 175) rfl (hb hby at_171) (by decide) (by decide) ?_
        show Steps p.tables e below (T84.setTop (mkF m 175 #[iv p1, iv p2, iv p3, iv p4, iv (1 : Int32), iv (502 : Int32), rv b54, rv b64, iv (0 : Int32), rv b74, iv (502 : Int32), iv (0 : Int32), iv (0 : Int32)] [(.int (1 : Int32))])) _
        exact k
      obtain ⟨fs, hr, hrun, hended, hW, hsame⟩ := X84.leave (v := some (.int (1 : Int32))) (fun h => by rw [Bd.returns] at h; cases h)
      refine ⟨_, _, k86 _ (retN X84 hx (t := .boolean) Bd.returns (by simp) (hb hby at_175) hr), hrun, hended, _, _, rfl, ?_, ⟨_, rfl⟩, hW, hsame.mono (by decide) (by decide)⟩
      show Q_law_met Z wCS w_US w_SS p1 p2 p3 p4 h0 n0 _ T84.heap _
      rw [e84]
      exact ⟨rfl, N84⟩
    · have k87 : Way p e below S0 T69 (mkF m 95 #[iv p1, iv p2, iv p3, iv p4, iv (1 : Int32), iv (502 : Int32), rv b54, rv b64, iv (1 : Int32), .unset, .unset, .unset, .unset] []) := by
        intro t k
        refine k72 t ?_
        refine XS.ifNo X69.here hx rfl (hb hby at_80) rfl ((if0 _ _).trans (feq (hc71 : ¬ ((p1 &&& (4 : Int32)) = (0 : Int32)))).1) ?_
        show Steps p.tables e below (T69.setTop (mkF m 83 #[iv p1, iv p2, iv p3, iv p4, iv (1 : Int32), iv (502 : Int32), rv b54, rv b64, .unset, .unset, .unset, .unset, .unset] [])) _
        refine XS.iconst X69.here hx rfl (hb hby at_83) ?_
        show Steps p.tables e below (T69.setTop (mkF m 84 #[iv p1, iv p2, iv p3, iv p4, iv (1 : Int32), iv (502 : Int32), rv b54, rv b64, .unset, .unset, .unset, .unset, .unset] [(.int (1 : Int32))])) _
        refine XS.goto X69.here hx rfl (pc0 := 84) (pc' := 88) rfl (hb hby at_84) (by decide) (by decide) ?_
        show Steps p.tables e below (T69.setTop (mkF m 88 #[iv p1, iv p2, iv p3, iv p4, iv (1 : Int32), iv (502 : Int32), rv b54, rv b64, .unset, .unset, .unset, .unset, .unset] [(.int (1 : Int32))])) _
        refine XS.istore X69.here hx rfl (hb hby at_88) rfl (l' := #[iv p1, iv p2, iv p3, iv p4, iv (1 : Int32), iv (502 : Int32), rv b54, rv b64, iv (1 : Int32), .unset, .unset, .unset, .unset]) rfl ?_
        show Steps p.tables e below (T69.setTop (mkF m 90 #[iv p1, iv p2, iv p3, iv p4, iv (1 : Int32), iv (502 : Int32), rv b54, rv b64, iv (1 : Int32), .unset, .unset, .unset, .unset] [])) _
        refine XS.iload X69.here hx rfl (hb hby at_90) rfl ?_
        show Steps p.tables e below (T69.setTop (mkF m 92 #[iv p1, iv p2, iv p3, iv p4, iv (1 : Int32), iv (502 : Int32), rv b54, rv b64, iv (1 : Int32), .unset, .unset, .unset, .unset] [(.int (1 : Int32))])) _
        refine XS.ifNo X69.here hx rfl (hb hby at_92) rfl ((if0 _ _).trans (feq ((by decide) : ¬ ((1 : Int32) = (0 : Int32)))).1) ?_
        show Steps p.tables e below (T69.setTop (mkF m 95 #[iv p1, iv p2, iv p3, iv p4, iv (1 : Int32), iv (502 : Int32), rv b54, rv b64, iv (1 : Int32), .unset, .unset, .unset, .unset] [])) _
        exact k
      obtain ⟨T88, h88, X88, e88, E88, A88, D88, U88, st88⟩ := newO X69 hx hZ hown (hw _ (List.mem_of_getElem? (i := 30) rfl)) (hw _ (List.mem_of_getElem? (i := 31) rfl)) (hw _ (List.mem_of_getElem? (i := 32) rfl)) rfl (g := (mkF m 95 #[iv p1, iv p2, iv p3, iv p4, iv (1 : Int32), iv (502 : Int32), rv b54, rv b64, iv (1 : Int32), .unset, .unset, .unset, .unset] [])) rfl (hb hby at_95) (by decide) (by decide)
      obtain ⟨b88, g88⟩ : ∃ z, z = T69.heap.size := ⟨_, rfl⟩
      rw [← g88] at A88 D88 U88 st88
      have O88 := O69.ext E88
      have i88_cause : Fld Z h88 b88 "java/lang/Throwable" "cause" "Ljava/lang/Throwable;" .null := D88 (Or.inl (hw _ (List.mem_of_getElem? (i := 55) rfl))) (ty := (.object "java/lang/Throwable")) (by decide)
      have i88_stackTrace : Fld Z h88 b88 "java/lang/Throwable" "stackTrace" "[Ljava/lang/StackTraceElement;" .null := D88 (Or.inl (hw _ (List.mem_of_getElem? (i := 58) rfl))) (ty := (.array (.object "java/lang/StackTraceElement"))) (by decide)
      have i88_suppressedExceptions : Fld Z h88 b88 "java/lang/Throwable" "suppressedExceptions" "Ljava/util/List;" .null := D88 (Or.inl (hw _ (List.mem_of_getElem? (i := 61) rfl))) (ty := (.object "java/util/List")) (by decide)
      have i88_detailMessage : Fld Z h88 b88 "java/lang/Throwable" "detailMessage" "Ljava/lang/String;" .null := D88 (Or.inl (hw _ (List.mem_of_getElem? (i := 85) rfl))) (ty := (.object "java/lang/String")) (by decide)
      have i88_backtrace : Fld Z h88 b88 "java/lang/Throwable" "backtrace" "Ljava/lang/Object;" .null := D88 (Or.inl (hw _ (List.mem_of_getElem? (i := 86) rfl))) (ty := (.object "java/lang/Object")) (by decide)
      have i88_depth : Fld Z h88 b88 "java/lang/Throwable" "depth" "I" (.int (0 : Int32)) := D88 (Or.inl (hw _ (List.mem_of_getElem? (i := 87) rfl))) (ty := .int) (by decide)
      have i88_status : Fld Z h88 b88 "caseward/web/RequestHead$Malformed" "status" "I" (.int (0 : Int32)) := D88 (Or.inr (hw _ (List.mem_of_getElem? (i := 91) rfl))) (ty := .int) (by decide)
      have k89 : Way p e below S0 T88 (mkF m 98 #[iv p1, iv p2, iv p3, iv p4, iv (1 : Int32), iv (502 : Int32), rv b54, rv b64, iv (1 : Int32), .unset, .unset, .unset, .unset] [(.ref b88)]) := fun t k => k87 t (st88 _ k)
      have k90 : Way p e below S0 T88 (mkF m 101 #[iv p1, iv p2, iv p3, iv p4, iv (1 : Int32), iv (502 : Int32), rv b54, rv b64, iv (1 : Int32), .unset, .unset, .unset, .unset] [(.ref b64), (.ref b88), (.ref b88)]) := by
        intro t k
        refine k89 t ?_
        refine XS.dup X88.here hx rfl (hb hby at_98) rfl rfl ?_
        show Steps p.tables e below (T88.setTop (mkF m 99 #[iv p1, iv p2, iv p3, iv p4, iv (1 : Int32), iv (502 : Int32), rv b54, rv b64, iv (1 : Int32), .unset, .unset, .unset, .unset] [(.ref b88), (.ref b88)])) _
        refine XS.aload X88.here hx rfl (hb hby at_99) rfl rfl ?_
        show Steps p.tables e below (T88.setTop (mkF m 101 #[iv p1, iv p2, iv p3, iv p4, iv (1 : Int32), iv (502 : Int32), rv b54, rv b64, iv (1 : Int32), .unset, .unset, .unset, .unset] [(.ref b64), (.ref b88), (.ref b88)])) _
        exact k
      have ge91 : n0 ≤ b88 := Nat.le_trans (own_old O69) (Nat.le_of_eq g88.symm)
      obtain ⟨_, _, ⟨T92, L92, kk92, nn92⟩, -, X92, ⟨Lc92, hQ92, l92, y92, z92⟩, st92⟩ := X88.specialBack hx (y := (⟨"caseward/web/RequestHead$Malformed", "<init>", "(Ljava/lang/String;)V"⟩ : MethodName)) rfl hown (mvT hZ (hw _ (List.mem_of_getElem? (i := 102) rfl))) (mvT hZ (hw _ (List.mem_of_getElem? (i := 103) rfl))) (mvT hZ (hw _ (List.mem_of_getElem? (i := 104) rfl))) (by decide) (backOfKL (W := 1) (ms l Z a0 hw [] wCS w_US w_SS G b88 b64 h88 n0 O88 (A88 : Exa Z h88 b88 "caseward/web/RequestHead$Malformed") (i88_cause : Fld Z h88 b88 "java/lang/Throwable" "cause" "Ljava/lang/Throwable;" .null) (i88_stackTrace : Fld Z h88 b88 "java/lang/Throwable" "stackTrace" "[Ljava/lang/StackTraceElement;" .null) (i88_suppressedExceptions : Fld Z h88 b88 "java/lang/Throwable" "suppressedExceptions" "Ljava/util/List;" .null) (i88_backtrace : Fld Z h88 b88 "java/lang/Throwable" "backtrace" "Ljava/lang/Object;" .null) (i88_detailMessage : Fld Z h88 b88 "java/lang/Throwable" "detailMessage" "Ljava/lang/String;" .null) (i88_status : Fld Z h88 b88 "caseward/web/RequestHead$Malformed" "status" "I" (.int (0 : Int32))) (U88 : Unt h88 b88) (ge91 : n0 ≤ b88) (htr : l.stackTraces = true)) hZ (hw _ (List.mem_of_getElem? (i := 104) rfl)) (hw _ (List.mem_of_getElem? (i := 32) rfl)) (by decide) (by decide) hTK hBelow) (g := (mkF m 101 #[iv p1, iv p2, iv p3, iv p4, iv (1 : Int32), iv (502 : Int32), rv b54, rv b64, iv (1 : Int32), .unset, .unset, .unset, .unset] [(.ref b64), (.ref b88), (.ref b88)])) rfl (by rw [hml]; rfl) (Steps.refl _) (a := b88) (argsL := [(.ref b64)]) (rest := [(.ref b88)]) (lenOf pd_4 rfl) rfl (by show 2 * 0 + _ ≤ _; exact Nat.le_of_eq rfl) (hb hby at_101) (fun _ _ => ⟨rfl, e88, (by decide : 4 + 1 ≤ _), (by decide : 15 + 2752 ≤ _)⟩)
      dsimp only [Pt.U, Pt.locs, Pt.cells, Pt.slots] at X92 l92 y92 z92 st92 hQ92
      subst l92 y92 z92
      obtain ⟨rfl, Nq92, Kq92, po92_0, po92_1⟩ := hQ92
      have N92 := Fr.app N69 Nq92
      have O92 := O88.keep Kq92 (allS ge91 all0)
      have k93 : Way p e below S0 T92 (mkF m 104 #[iv p1, iv p2, iv p3, iv p4, iv (1 : Int32), iv (502 : Int32), rv b54, rv b64, iv (1 : Int32), .unset, .unset, .unset, .unset] [(.ref b88)]) := fun t k => k90 t (st92.trans k)
      have k94 : Way p e below S0 T92 (mkF m 133 #[iv p1, iv p2, iv p3, iv p4, iv (1 : Int32), iv (502 : Int32), rv b54, rv b64, iv (1 : Int32), rv b88, iv (400 : Int32), .unset, .unset] [(.ref b88)]) := by
        intro t k
        refine k93 t ?_
        refine XS.astore X92.here hx rfl (hb hby at_104) rfl rfl (l' := #[iv p1, iv p2, iv p3, iv p4, iv (1 : Int32), iv (502 : Int32), rv b54, rv b64, iv (1 : Int32), rv b88, .unset, .unset, .unset]) rfl ?_
        show Steps p.tables e below (T92.setTop (mkF m 106 #[iv p1, iv p2, iv p3, iv p4, iv (1 : Int32), iv (502 : Int32), rv b54, rv b64, iv (1 : Int32), rv b88, .unset, .unset, .unset] [])) _
        refine XS.sipush X92.here hx rfl (hb hby at_106) ?_
        show Steps p.tables e below (T92.setTop (mkF m 109 #[iv p1, iv p2, iv p3, iv p4, iv (1 : Int32), iv (502 : Int32), rv b54, rv b64, iv (1 : Int32), rv b88, .unset, .unset, .unset] [(.int (400 : Int32))])) _
        refine XS.istore X92.here hx rfl (hb hby at_109) rfl (l' := #[iv p1, iv p2, iv p3, iv p4, iv (1 : Int32), iv (502 : Int32), rv b54, rv b64, iv (1 : Int32), rv b88, iv (400 : Int32), .unset, .unset]) rfl ?_
        show Steps p.tables e below (T92.setTop (mkF m 111 #[iv p1, iv p2, iv p3, iv p4, iv (1 : Int32), iv (502 : Int32), rv b54, rv b64, iv (1 : Int32), rv b88, iv (400 : Int32), .unset, .unset] [])) _
        refine XS.goto X92.here hx rfl (pc0 := 111) (pc' := 131) rfl (hb hby at_111) (by decide) (by decide) ?_
        show Steps p.tables e below (T92.setTop (mkF m 131 #[iv p1, iv p2, iv p3, iv p4, iv (1 : Int32), iv (502 : Int32), rv b54, rv b64, iv (1 : Int32), rv b88, iv (400 : Int32), .unset, .unset] [])) _
        refine XS.aload X92.here hx rfl (hb hby at_131) rfl rfl ?_
        show Steps p.tables e below (T92.setTop (mkF m 133 #[iv p1, iv p2, iv p3, iv p4, iv (1 : Int32), iv (502 : Int32), rv b54, rv b64, iv (1 : Int32), rv b88, iv (400 : Int32), .unset, .unset] [(.ref b88)])) _
        exact k
      obtain ⟨cq95, kq95, qq95a, qq95b, qq95c⟩ := isOf hZ rfl po92_0
      obtain ⟨_, _, ⟨T95, L95, kk95, nn95⟩, -, X95, ⟨Lc95, hQ95, l95, y95, z95⟩, st95⟩ := X92.virtualBack hx (y := (⟨"caseward/web/RequestHead$Malformed", "isForWantOfRoom", "()Z"⟩ : MethodName)) (z := (⟨"caseward/web/RequestHead$Malformed", "isForWantOfRoom", "()Z"⟩ : MethodName)) hown (mvT hZ (hw _ (List.mem_of_getElem? (i := 92) rfl))) (mvT hZ (hw _ (List.mem_of_getElem? (i := 93) rfl))) (notFace_of_selects (args := #[]) (mvT hZ (hw _ (List.mem_of_getElem? (i := 95) rfl)))) (mvT hZ (hw _ (List.mem_of_getElem? (i := 95) rfl))) (mvT hZ (hw _ (List.mem_of_getElem? (i := 94) rfl))) (by decide) (backOf (W := 0) (isF l Z a0 hw [] wCS w_US w_SS G b88 (400 : Int32) T92.heap n0 O92 (po92_1 : Fld Z T92.heap b88 "caseward/web/RequestHead$Malformed" "status" "I" (.int (400 : Int32))) (by decide : ¬ ((400 : Int32) = (503 : Int32)))) hZ (hw _ (List.mem_of_getElem? (i := 96) rfl)) (hw _ (List.mem_of_getElem? (i := 32) rfl)) (by decide) (by decide)) qq95a qq95c (g := (mkF m 133 #[iv p1, iv p2, iv p3, iv p4, iv (1 : Int32), iv (502 : Int32), rv b54, rv b64, iv (1 : Int32), rv b88, iv (400 : Int32), .unset, .unset] [(.ref b88)])) rfl (by rw [hml]; rfl) (Steps.refl _) (argsL := []) (rest := []) (lenOf pd_7 rfl) rfl (by show 2 * 0 + _ ≤ _; exact Nat.le_of_eq rfl) (hb hby at_133) (fun _ _ => ⟨rfl, rfl, (by decide : 5 + 0 ≤ _), (by decide : 2767 + 0 ≤ _)⟩)
      dsimp only [Pt.U, Pt.locs, Pt.cells, Pt.slots] at X95 l95 y95 z95 st95 hQ95
      subst l95 y95 z95
      obtain ⟨rfl, Nq95, e95⟩ := hQ95
      have N95 := Fr.app N92 Nq95
      have k96 : Way p e below S0 T95 (mkF m 136 #[iv p1, iv p2, iv p3, iv p4, iv (1 : Int32), iv (502 : Int32), rv b54, rv b64, iv (1 : Int32), rv b88, iv (400 : Int32), .unset, .unset] [(.int (0 : Int32))]) := fun t k => k94 t (st95.trans k)
      have k97 : Way p e below S0 T95 (mkF m 162 #[iv p1, iv p2, iv p3, iv p4, iv (1 : Int32), iv (502 : Int32), rv b54, rv b64, iv (1 : Int32), rv b88, iv (400 : Int32), iv (0 : Int32), iv (0 : Int32)] [(.ref b88)]) := by
        intro t k
        refine k96 t ?_
        refine XS.istore X95.here hx rfl (hb hby at_136) rfl (l' := #[iv p1, iv p2, iv p3, iv p4, iv (1 : Int32), iv (502 : Int32), rv b54, rv b64, iv (1 : Int32), rv b88, iv (400 : Int32), iv (0 : Int32), .unset]) rfl ?_
        show Steps p.tables e below (T95.setTop (mkF m 138 #[iv p1, iv p2, iv p3, iv p4, iv (1 : Int32), iv (502 : Int32), rv b54, rv b64, iv (1 : Int32), rv b88, iv (400 : Int32), iv (0 : Int32), .unset] [])) _
        refine XS.iload X95.here hx rfl (hb hby at_138) rfl ?_
        show Steps p.tables e below (T95.setTop (mkF m 140 #[iv p1, iv p2, iv p3, iv p4, iv (1 : Int32), iv (502 : Int32), rv b54, rv b64, iv (1 : Int32), rv b88, iv (400 : Int32), iv (0 : Int32), .unset] [(.int (400 : Int32))])) _
        refine XS.sipush X95.here hx rfl (hb hby at_140) ?_
        show Steps p.tables e below (T95.setTop (mkF m 143 #[iv p1, iv p2, iv p3, iv p4, iv (1 : Int32), iv (502 : Int32), rv b54, rv b64, iv (1 : Int32), rv b88, iv (400 : Int32), iv (0 : Int32), .unset] [(.int (503 : Int32)), (.int (400 : Int32))])) _
        refine XS.icmpYes X95.here hx rfl (pc0 := 143) (pc' := 150) rfl (hb hby at_143) rfl (feq ((by decide) : ¬ ((400 : Int32) = (503 : Int32)))).2 (by decide) (by decide) ?_
        show Steps p.tables e below (T95.setTop (mkF m 150 #[iv p1, iv p2, iv p3, iv p4, iv (1 : Int32), iv (502 : Int32), rv b54, rv b64, iv (1 : Int32), rv b88, iv (400 : Int32), iv (0 : Int32), .unset] [])) _
        refine XS.iconst X95.here hx rfl (hb hby at_150) ?_
        show Steps p.tables e below (T95.setTop (mkF m 151 #[iv p1, iv p2, iv p3, iv p4, iv (1 : Int32), iv (502 : Int32), rv b54, rv b64, iv (1 : Int32), rv b88, iv (400 : Int32), iv (0 : Int32), .unset] [(.int (0 : Int32))])) _
        refine XS.istore X95.here hx rfl (hb hby at_151) rfl (l' := #[iv p1, iv p2, iv p3, iv p4, iv (1 : Int32), iv (502 : Int32), rv b54, rv b64, iv (1 : Int32), rv b88, iv (400 : Int32), iv (0 : Int32), iv (0 : Int32)]) rfl ?_
        show Steps p.tables e below (T95.setTop (mkF m 153 #[iv p1, iv p2, iv p3, iv p4, iv (1 : Int32), iv (502 : Int32), rv b54, rv b64, iv (1 : Int32), rv b88, iv (400 : Int32), iv (0 : Int32), iv (0 : Int32)] [])) _
        refine XS.iload X95.here hx rfl (hb hby at_153) rfl ?_
        show Steps p.tables e below (T95.setTop (mkF m 155 #[iv p1, iv p2, iv p3, iv p4, iv (1 : Int32), iv (502 : Int32), rv b54, rv b64, iv (1 : Int32), rv b88, iv (400 : Int32), iv (0 : Int32), iv (0 : Int32)] [(.int (0 : Int32))])) _
        refine XS.iload X95.here hx rfl (hb hby at_155) rfl ?_
        show Steps p.tables e below (T95.setTop (mkF m 157 #[iv p1, iv p2, iv p3, iv p4, iv (1 : Int32), iv (502 : Int32), rv b54, rv b64, iv (1 : Int32), rv b88, iv (400 : Int32), iv (0 : Int32), iv (0 : Int32)] [(.int (0 : Int32)), (.int (0 : Int32))])) _
        refine XS.icmpNo X95.here hx rfl (hb hby at_157) rfl (teq ((by decide) : (0 : Int32) = (0 : Int32))).2 ?_
        show Steps p.tables e below (T95.setTop (mkF m 160 #[iv p1, iv p2, iv p3, iv p4, iv (1 : Int32), iv (502 : Int32), rv b54, rv b64, iv (1 : Int32), rv b88, iv (400 : Int32), iv (0 : Int32), iv (0 : Int32)] [])) _
        refine XS.aload X95.here hx rfl (hb hby at_160) rfl rfl ?_
        show Steps p.tables e below (T95.setTop (mkF m 162 #[iv p1, iv p2, iv p3, iv p4, iv (1 : Int32), iv (502 : Int32), rv b54, rv b64, iv (1 : Int32), rv b88, iv (400 : Int32), iv (0 : Int32), iv (0 : Int32)] [(.ref b88)])) _
        exact k
      obtain ⟨cq98, kq98, qq98a, qq98b, qq98c⟩ := isOf hZ e95 po92_0
      obtain ⟨_, _, ⟨T98, L98, kk98, nn98⟩, -, X98, ⟨Lc98, hQ98, l98, y98, z98⟩, st98⟩ := X95.virtualBack hx (y := (⟨"caseward/web/RequestHead$Malformed", "status", "()I"⟩ : MethodName)) (z := (⟨"caseward/web/RequestHead$Malformed", "status", "()I"⟩ : MethodName)) hown (mvT hZ (hw _ (List.mem_of_getElem? (i := 97) rfl))) (mvT hZ (hw _ (List.mem_of_getElem? (i := 98) rfl))) (notFace_of_selects (args := #[]) (mvT hZ (hw _ (List.mem_of_getElem? (i := 100) rfl)))) (mvT hZ (hw _ (List.mem_of_getElem? (i := 100) rfl))) (mvT hZ (hw _ (List.mem_of_getElem? (i := 99) rfl))) (by decide) (backOf (W := 0) (stt l Z a0 hw [] wCS w_US w_SS G b88 (400 : Int32) T92.heap n0 O92 (po92_1 : Fld Z T92.heap b88 "caseward/web/RequestHead$Malformed" "status" "I" (.int (400 : Int32)))) hZ (hw _ (List.mem_of_getElem? (i := 101) rfl)) (hw _ (List.mem_of_getElem? (i := 32) rfl)) (by decide) (by decide)) qq98a qq98c (g := (mkF m 162 #[iv p1, iv p2, iv p3, iv p4, iv (1 : Int32), iv (502 : Int32), rv b54, rv b64, iv (1 : Int32), rv b88, iv (400 : Int32), iv (0 : Int32), iv (0 : Int32)] [(.ref b88)])) rfl (by rw [hml]; rfl) (Steps.refl _) (argsL := []) (rest := []) (lenOf pd_8 rfl) rfl (by show 2 * 0 + _ ≤ _; exact Nat.le_of_eq rfl) (hb hby at_162) (fun _ _ => ⟨rfl, e95, (by decide : 5 + 0 ≤ _), (by decide : 2767 + 0 ≤ _)⟩)
      dsimp only [Pt.U, Pt.locs, Pt.cells, Pt.slots] at X98 l98 y98 z98 st98 hQ98
      subst l98 y98 z98
      obtain ⟨rfl, Nq98, e98⟩ := hQ98
      have N98 := Fr.app N95 Nq98
      have k99 : Way p e below S0 T98 (mkF m 165 #[iv p1, iv p2, iv p3, iv p4, iv (1 : Int32), iv (502 : Int32), rv b54, rv b64, iv (1 : Int32), rv b88, iv (400 : Int32), iv (0 : Int32), iv (0 : Int32)] [(.int (400 : Int32))]) := fun t k => k97 t (st98.trans k)
      have k100 : Way p e below S0 T98 (mkF m 175 #[iv p1, iv p2, iv p3, iv p4, iv (1 : Int32), iv (502 : Int32), rv b54, rv b64, iv (1 : Int32), rv b88, iv (400 : Int32), iv (0 : Int32), iv (0 : Int32)] [(.int (1 : Int32))]) := by
        intro t k
        refine k99 t ?_
        refine XS.iload X98.here hx rfl (hb hby at_165) rfl ?_
        show Steps p.tables e below (T98.setTop (mkF m 167 #[iv p1, iv p2, iv p3, iv p4, iv (1 : Int32), iv (502 : Int32), rv b54, rv b64, iv (1 : Int32), rv b88, iv (400 : Int32), iv (0 : Int32), iv (0 : Int32)] [(.int (400 : Int32)), (.int (400 : Int32))])) _
        refine XS.icmpNo X98.here hx rfl (hb hby at_167) rfl (teq ((by decide) : (400 : Int32) = (400 : Int32))).2 ?_
        show Steps p.tables e below (T98.setTop (mkF m 170 #[iv p1, iv p2, iv p3, iv p4, iv (1 : Int32), iv (502 : Int32), rv b54, rv b64, iv (1 : Int32), rv b88, iv (400 : Int32), iv (0 : Int32), iv (0 : Int32)] [])) _
        refine XS.iconst X98.here hx rfl (hb hby at_170) ?_
        show Steps p.tables e below (T98.setTop (mkF m 171 #[iv p1, iv p2, iv p3, iv p4, iv (1 : Int32), iv (502 : Int32), rv b54, rv b64, iv (1 : Int32), rv b88, iv (400 : Int32), iv (0 : Int32), iv (0 : Int32)] [(.int (1 : Int32))])) _
        refine XS.goto X98.here hx rfl (pc0 := 171) (pc' := 175) rfl (hb hby at_171) (by decide) (by decide) ?_
        show Steps p.tables e below (T98.setTop (mkF m 175 #[iv p1, iv p2, iv p3, iv p4, iv (1 : Int32), iv (502 : Int32), rv b54, rv b64, iv (1 : Int32), rv b88, iv (400 : Int32), iv (0 : Int32), iv (0 : Int32)] [(.int (1 : Int32))])) _
        exact k
      obtain ⟨fs, hr, hrun, hended, hW, hsame⟩ := X98.leave (v := some (.int (1 : Int32))) (fun h => by rw [Bd.returns] at h; cases h)
      refine ⟨_, _, k100 _ (retN X98 hx (t := .boolean) Bd.returns (by simp) (hb hby at_175) hr), hrun, hended, _, _, rfl, ?_, ⟨_, rfl⟩, hW, hsame.mono (by decide) (by decide)⟩
      show Q_law_met Z wCS w_US w_SS p1 p2 p3 p4 h0 n0 _ T98.heap _
      rw [e98]
      exact ⟨rfl, N98⟩
  · have k101 : Way p e below S0 s₁ (mkF m 5 #[iv p1, iv p2, iv p3, iv p4, iv (2 : Int32), .unset, .unset, .unset, .unset, .unset, .unset, .unset, .unset] []) := by have q := k1; rw [hi2] at q; exact q
    have k102 : Way p e below S0 s₁ (mkF m 44 #[iv p1, iv p2, iv p3, iv p4, iv (2 : Int32), iv (504 : Int32), .unset, .unset, .unset, .unset, .unset, .unset, .unset] [(.int (2 : Int32))]) := by
      intro t k
      refine k101 t ?_
      refine XS.iload X0.here hx rfl (hb hby at_5) rfl ?_
      show Steps p.tables e below (s₁.setTop (mkF m 7 #[iv p1, iv p2, iv p3, iv p4, iv (2 : Int32), .unset, .unset, .unset, .unset, .unset, .unset, .unset, .unset] [(.int (2 : Int32))])) _
      refine XS.ifYes X0.here hx rfl (pc0 := 7) (pc' := 16) rfl (hb hby at_7) rfl ((if0 _ _).trans (feq ((by decide) : ¬ ((2 : Int32) = (0 : Int32)))).2) (by decide) (by decide) ?_
      show Steps p.tables e below (s₁.setTop (mkF m 16 #[iv p1, iv p2, iv p3, iv p4, iv (2 : Int32), .unset, .unset, .unset, .unset, .unset, .unset, .unset, .unset] [])) _
      refine XS.iload X0.here hx rfl (hb hby at_16) rfl ?_
      show Steps p.tables e below (s₁.setTop (mkF m 18 #[iv p1, iv p2, iv p3, iv p4, iv (2 : Int32), .unset, .unset, .unset, .unset, .unset, .unset, .unset, .unset] [(.int (2 : Int32))])) _
      refine XS.iconst X0.here hx rfl (hb hby at_18) ?_
      show Steps p.tables e below (s₁.setTop (mkF m 19 #[iv p1, iv p2, iv p3, iv p4, iv (2 : Int32), .unset, .unset, .unset, .unset, .unset, .unset, .unset, .unset] [(.int (1 : Int32)), (.int (2 : Int32))])) _
      refine XS.icmpYes X0.here hx rfl (pc0 := 19) (pc' := 28) rfl (hb hby at_19) rfl (feq ((by decide) : ¬ ((2 : Int32) = (1 : Int32)))).2 (by decide) (by decide) ?_
      show Steps p.tables e below (s₁.setTop (mkF m 28 #[iv p1, iv p2, iv p3, iv p4, iv (2 : Int32), .unset, .unset, .unset, .unset, .unset, .unset, .unset, .unset] [])) _
      refine XS.iload X0.here hx rfl (hb hby at_28) rfl ?_
      show Steps p.tables e below (s₁.setTop (mkF m 30 #[iv p1, iv p2, iv p3, iv p4, iv (2 : Int32), .unset, .unset, .unset, .unset, .unset, .unset, .unset, .unset] [(.int (2 : Int32))])) _
      refine XS.iconst X0.here hx rfl (hb hby at_30) ?_
      show Steps p.tables e below (s₁.setTop (mkF m 31 #[iv p1, iv p2, iv p3, iv p4, iv (2 : Int32), .unset, .unset, .unset, .unset, .unset, .unset, .unset, .unset] [(.int (2 : Int32)), (.int (2 : Int32))])) _
      refine XS.icmpNo X0.here hx rfl (hb hby at_31) rfl (teq ((by decide) : (2 : Int32) = (2 : Int32))).2 ?_
      show Steps p.tables e below (s₁.setTop (mkF m 34 #[iv p1, iv p2, iv p3, iv p4, iv (2 : Int32), .unset, .unset, .unset, .unset, .unset, .unset, .unset, .unset] [])) _
      refine XS.sipush X0.here hx rfl (hb hby at_34) ?_
      show Steps p.tables e below (s₁.setTop (mkF m 37 #[iv p1, iv p2, iv p3, iv p4, iv (2 : Int32), .unset, .unset, .unset, .unset, .unset, .unset, .unset, .unset] [(.int (504 : Int32))])) _
      refine XS.goto X0.here hx rfl (pc0 := 37) (pc' := 41) rfl (hb hby at_37) (by decide) (by decide) ?_
      show Steps p.tables e below (s₁.setTop (mkF m 41 #[iv p1, iv p2, iv p3, iv p4, iv (2 : Int32), .unset, .unset, .unset, .unset, .unset, .unset, .unset, .unset] [(.int (504 : Int32))])) _
      refine XS.istore X0.here hx rfl (hb hby at_41) rfl (l' := #[iv p1, iv p2, iv p3, iv p4, iv (2 : Int32), iv (504 : Int32), .unset, .unset, .unset, .unset, .unset, .unset, .unset]) rfl ?_
      show Steps p.tables e below (s₁.setTop (mkF m 43 #[iv p1, iv p2, iv p3, iv p4, iv (2 : Int32), iv (504 : Int32), .unset, .unset, .unset, .unset, .unset, .unset, .unset] [])) _
      refine XS.iconst X0.here hx rfl (hb hby at_43) ?_
      show Steps p.tables e below (s₁.setTop (mkF m 44 #[iv p1, iv p2, iv p3, iv p4, iv (2 : Int32), iv (504 : Int32), .unset, .unset, .unset, .unset, .unset, .unset, .unset] [(.int (2 : Int32))])) _
      exact k
    obtain ⟨T103, h103, c103, X103, e103, E103, A103, B103, st103⟩ := newPE X0 hx hZ (hw _ (List.mem_of_getElem? (i := 0) rfl)) e0 (g := (mkF m 44 #[iv p1, iv p2, iv p3, iv p4, iv (2 : Int32), iv (504 : Int32), .unset, .unset, .unset, .unset, .unset, .unset, .unset] [(.int (2 : Int32))])) rfl (hb hby at_44) rfl (by decide) (cap := 2) (by decide) (by decide) (by decide) (by decide) (ad := "[C") (by decide)
    obtain ⟨b103, g103⟩ : ∃ z, z = h0.size := ⟨_, rfl⟩
    rw [← g103] at A103 B103 st103
    have O103 := O0.ext E103
    have v103 : Arv Z h103 b103 c103 .char (2 : Int32) [(.int (0 : Int32)), (.int (0 : Int32))] (.int (0 : Int32)) := (Arv.new A103 (by decide)).pad (pad_rep [] (.int (0 : Int32)) 2)
    have k104 : Way p e below S0 T103 (mkF m 46 #[iv p1, iv p2, iv p3, iv p4, iv (2 : Int32), iv (504 : Int32), .unset, .unset, .unset, .unset, .unset, .unset, .unset] [(.ref b103)]) := fun t k => k102 t (st103 _ k)
    have k105 : Way p e below S0 T103 (mkF m 54 #[iv p1, iv p2, iv p3, iv p4, iv (2 : Int32), iv (504 : Int32), .unset, .unset, .unset, .unset, .unset, .unset, .unset] [(.int ((p3 &&& (255 : Int32)).toUInt32.toUInt16.toUInt32.toInt32)), (.int (0 : Int32)), (.ref b103), (.ref b103)]) := by
      intro t k
      refine k104 t ?_
      refine XS.dup X103.here hx rfl (hb hby at_46) rfl rfl ?_
      show Steps p.tables e below (T103.setTop (mkF m 47 #[iv p1, iv p2, iv p3, iv p4, iv (2 : Int32), iv (504 : Int32), .unset, .unset, .unset, .unset, .unset, .unset, .unset] [(.ref b103), (.ref b103)])) _
      refine XS.iconst X103.here hx rfl (hb hby at_47) ?_
      show Steps p.tables e below (T103.setTop (mkF m 48 #[iv p1, iv p2, iv p3, iv p4, iv (2 : Int32), iv (504 : Int32), .unset, .unset, .unset, .unset, .unset, .unset, .unset] [(.int (0 : Int32)), (.ref b103), (.ref b103)])) _
      refine XS.iloadN X103.here hx rfl (hb hby at_48) rfl ?_
      show Steps p.tables e below (T103.setTop (mkF m 49 #[iv p1, iv p2, iv p3, iv p4, iv (2 : Int32), iv (504 : Int32), .unset, .unset, .unset, .unset, .unset, .unset, .unset] [(.int p3), (.int (0 : Int32)), (.ref b103), (.ref b103)])) _
      refine XS.sipush X103.here hx rfl (hb hby at_49) ?_
      show Steps p.tables e below (T103.setTop (mkF m 52 #[iv p1, iv p2, iv p3, iv p4, iv (2 : Int32), iv (504 : Int32), .unset, .unset, .unset, .unset, .unset, .unset, .unset] [(.int (255 : Int32)), (.int p3), (.int (0 : Int32)), (.ref b103), (.ref b103)])) _
      refine XS.iand X103.here hx rfl (hb hby at_52) rfl ?_
      show Steps p.tables e below (T103.setTop (mkF m 53 #[iv p1, iv p2, iv p3, iv p4, iv (2 : Int32), iv (504 : Int32), .unset, .unset, .unset, .unset, .unset, .unset, .unset] [(.int (p3 &&& (255 : Int32))), (.int (0 : Int32)), (.ref b103), (.ref b103)])) _
      refine XS.i2c X103.here hx rfl (hb hby at_53) rfl ?_
      show Steps p.tables e below (T103.setTop (mkF m 54 #[iv p1, iv p2, iv p3, iv p4, iv (2 : Int32), iv (504 : Int32), .unset, .unset, .unset, .unset, .unset, .unset, .unset] [(.int ((p3 &&& (255 : Int32)).toUInt32.toUInt16.toUInt32.toInt32)), (.int (0 : Int32)), (.ref b103), (.ref b103)])) _
      exact k
    obtain ⟨cl106, Ar106, qc106, S106, M106, U106, G106⟩ := id (v103)
    have hin106 : ¬ ((0 : Int32) < 0 ∨ cl106.slots.size ≤ ((0 : Int32)).toNatClampNeg) := inb_of S106 ⟨by decide, by decide⟩
    obtain ⟨T106, h106, X106, e106, W106, st106⟩ := stC X103 hx hZ e103 Ar106 (j := (0 : Int32)) hin106 (g := (mkF m 54 #[iv p1, iv p2, iv p3, iv p4, iv (2 : Int32), iv (504 : Int32), .unset, .unset, .unset, .unset, .unset, .unset, .unset] [(.int ((p3 &&& (255 : Int32)).toUInt32.toUInt16.toUInt32.toInt32)), (.int (0 : Int32)), (.ref b103), (.ref b103)])) rfl rfl (hb hby at_54)
    have ge107 : n0 ≤ b103 := Nat.le_trans (own_old O0) (Nat.le_of_eq g103.symm)
    have O106 := O103.wr W106 ge107
    have N106 := Fr.snoc X106 N0 ge107
    have va106 : Arv Z h106 b103 c103 .char (2 : Int32) [(.int (((p3 &&& (255 : Int32)).toUInt32.toUInt16.toUInt32.toInt32).toUInt32.toUInt16.toUInt32.toInt32)), (.int (0 : Int32))] (.int (0 : Int32)) := Arv.set Ar106 qc106 S106 M106 U106 G106 (fits_nar_char _) W106 0 rfl (Nat.le_of_ble_eq_true rfl)
    have k108 : Way p e below S0 T106 (mkF m 55 #[iv p1, iv p2, iv p3, iv p4, iv (2 : Int32), iv (504 : Int32), .unset, .unset, .unset, .unset, .unset, .unset, .unset] [(.ref b103)]) := fun t k => k105 t (st106 _ k)
    have k109 : Way p e below S0 T106 (mkF m 63 #[iv p1, iv p2, iv p3, iv p4, iv (2 : Int32), iv (504 : Int32), .unset, .unset, .unset, .unset, .unset, .unset, .unset] [(.int ((p4 &&& (255 : Int32)).toUInt32.toUInt16.toUInt32.toInt32)), (.int (1 : Int32)), (.ref b103), (.ref b103)]) := by
      intro t k
      refine k108 t ?_
      refine XS.dup X106.here hx rfl (hb hby at_55) rfl rfl ?_
      show Steps p.tables e below (T106.setTop (mkF m 56 #[iv p1, iv p2, iv p3, iv p4, iv (2 : Int32), iv (504 : Int32), .unset, .unset, .unset, .unset, .unset, .unset, .unset] [(.ref b103), (.ref b103)])) _
      refine XS.iconst X106.here hx rfl (hb hby at_56) ?_
      show Steps p.tables e below (T106.setTop (mkF m 57 #[iv p1, iv p2, iv p3, iv p4, iv (2 : Int32), iv (504 : Int32), .unset, .unset, .unset, .unset, .unset, .unset, .unset] [(.int (1 : Int32)), (.ref b103), (.ref b103)])) _
      refine XS.iloadN X106.here hx rfl (hb hby at_57) rfl ?_
      show Steps p.tables e below (T106.setTop (mkF m 58 #[iv p1, iv p2, iv p3, iv p4, iv (2 : Int32), iv (504 : Int32), .unset, .unset, .unset, .unset, .unset, .unset, .unset] [(.int p4), (.int (1 : Int32)), (.ref b103), (.ref b103)])) _
      refine XS.sipush X106.here hx rfl (hb hby at_58) ?_
      show Steps p.tables e below (T106.setTop (mkF m 61 #[iv p1, iv p2, iv p3, iv p4, iv (2 : Int32), iv (504 : Int32), .unset, .unset, .unset, .unset, .unset, .unset, .unset] [(.int (255 : Int32)), (.int p4), (.int (1 : Int32)), (.ref b103), (.ref b103)])) _
      refine XS.iand X106.here hx rfl (hb hby at_61) rfl ?_
      show Steps p.tables e below (T106.setTop (mkF m 62 #[iv p1, iv p2, iv p3, iv p4, iv (2 : Int32), iv (504 : Int32), .unset, .unset, .unset, .unset, .unset, .unset, .unset] [(.int (p4 &&& (255 : Int32))), (.int (1 : Int32)), (.ref b103), (.ref b103)])) _
      refine XS.i2c X106.here hx rfl (hb hby at_62) rfl ?_
      show Steps p.tables e below (T106.setTop (mkF m 63 #[iv p1, iv p2, iv p3, iv p4, iv (2 : Int32), iv (504 : Int32), .unset, .unset, .unset, .unset, .unset, .unset, .unset] [(.int ((p4 &&& (255 : Int32)).toUInt32.toUInt16.toUInt32.toInt32)), (.int (1 : Int32)), (.ref b103), (.ref b103)])) _
      exact k
    obtain ⟨cl110, Ar110, qc110, S110, M110, U110, G110⟩ := id (va106)
    have hin110 : ¬ ((1 : Int32) < 0 ∨ cl110.slots.size ≤ ((1 : Int32)).toNatClampNeg) := inb_of S110 ⟨by decide, by decide⟩
    obtain ⟨T110, h110, X110, e110, W110, st110⟩ := stC X106 hx hZ e106 Ar110 (j := (1 : Int32)) hin110 (g := (mkF m 63 #[iv p1, iv p2, iv p3, iv p4, iv (2 : Int32), iv (504 : Int32), .unset, .unset, .unset, .unset, .unset, .unset, .unset] [(.int ((p4 &&& (255 : Int32)).toUInt32.toUInt16.toUInt32.toInt32)), (.int (1 : Int32)), (.ref b103), (.ref b103)])) rfl rfl (hb hby at_63)
    have O110 := O106.wr W110 ge107
    have N110 := Fr.snoc X110 N106 ge107
    have va110 : Arv Z h110 b103 c103 .char (2 : Int32) [(.int (((p3 &&& (255 : Int32)).toUInt32.toUInt16.toUInt32.toInt32).toUInt32.toUInt16.toUInt32.toInt32)), (.int (((p4 &&& (255 : Int32)).toUInt32.toUInt16.toUInt32.toInt32).toUInt32.toUInt16.toUInt32.toInt32))] (.int (0 : Int32)) := Arv.set Ar110 qc110 S110 M110 U110 G110 (fits_nar_char _) W110 1 rfl (Nat.le_of_ble_eq_true rfl)
    have k111 : Way p e below S0 T110 (mkF m 64 #[iv p1, iv p2, iv p3, iv p4, iv (2 : Int32), iv (504 : Int32), .unset, .unset, .unset, .unset, .unset, .unset, .unset] [(.ref b103)]) := fun t k => k109 t (st110 _ k)
    have k112 : Way p e below S0 T110 (mkF m 66 #[iv p1, iv p2, iv p3, iv p4, iv (2 : Int32), iv (504 : Int32), rv b103, .unset, .unset, .unset, .unset, .unset, .unset] []) := by
      intro t k
      refine k111 t ?_
      refine XS.astore X110.here hx rfl (hb hby at_64) rfl rfl (l' := #[iv p1, iv p2, iv p3, iv p4, iv (2 : Int32), iv (504 : Int32), rv b103, .unset, .unset, .unset, .unset, .unset, .unset]) rfl ?_
      show Steps p.tables e below (T110.setTop (mkF m 66 #[iv p1, iv p2, iv p3, iv p4, iv (2 : Int32), iv (504 : Int32), rv b103, .unset, .unset, .unset, .unset, .unset, .unset] [])) _
      exact k
    obtain ⟨T113, h113, X113, e113, E113, A113, D113, U113, st113⟩ := newO X110 hx hZ hown (hw _ (List.mem_of_getElem? (i := 1) rfl)) (hw _ (List.mem_of_getElem? (i := 2) rfl)) (hw _ (List.mem_of_getElem? (i := 3) rfl)) e110 (g := (mkF m 66 #[iv p1, iv p2, iv p3, iv p4, iv (2 : Int32), iv (504 : Int32), rv b103, .unset, .unset, .unset, .unset, .unset, .unset] [])) rfl (hb hby at_66) (by decide) (by decide)
    obtain ⟨b113, g113⟩ : ∃ z, z = h110.size := ⟨_, rfl⟩
    rw [← g113] at A113 D113 U113 st113
    have O113 := O110.ext E113
    have i113_coder : Fld Z h113 b113 "java/lang/String" "coder" "B" (.int (0 : Int32)) := D113 (Or.inr (hw _ (List.mem_of_getElem? (i := 27) rfl))) (ty := .byte) (by decide)
    have i113_value : Fld Z h113 b113 "java/lang/String" "value" "[B" .null := D113 (Or.inr (hw _ (List.mem_of_getElem? (i := 29) rfl))) (ty := (.array .byte)) (by decide)
    have k114 : Way p e below S0 T113 (mkF m 69 #[iv p1, iv p2, iv p3, iv p4, iv (2 : Int32), iv (504 : Int32), rv b103, .unset, .unset, .unset, .unset, .unset, .unset] [(.ref b113)]) := fun t k => k112 t (st113 _ k)
    have k115 : Way p e below S0 T113 (mkF m 72 #[iv p1, iv p2, iv p3, iv p4, iv (2 : Int32), iv (504 : Int32), rv b103, .unset, .unset, .unset, .unset, .unset, .unset] [(.ref b103), (.ref b113), (.ref b113)]) := by
      intro t k
      refine k114 t ?_
      refine XS.dup X113.here hx rfl (hb hby at_69) rfl rfl ?_
      show Steps p.tables e below (T113.setTop (mkF m 70 #[iv p1, iv p2, iv p3, iv p4, iv (2 : Int32), iv (504 : Int32), rv b103, .unset, .unset, .unset, .unset, .unset, .unset] [(.ref b113), (.ref b113)])) _
      refine XS.aload X113.here hx rfl (hb hby at_70) rfl rfl ?_
      show Steps p.tables e below (T113.setTop (mkF m 72 #[iv p1, iv p2, iv p3, iv p4, iv (2 : Int32), iv (504 : Int32), rv b103, .unset, .unset, .unset, .unset, .unset, .unset] [(.ref b103), (.ref b113), (.ref b113)])) _
      exact k
    have ge116 : n0 ≤ b113 := Nat.le_trans (own_old O110) (Nat.le_of_eq g113.symm)
    have f117 : Arv Z h113 b103 c103 .char (2 : Int32) [(.int (((p3 &&& (255 : Int32)).toUInt32.toUInt16.toUInt32.toInt32).toUInt32.toUInt16.toUInt32.toInt32)), (.int (((p4 &&& (255 : Int32)).toUInt32.toUInt16.toUInt32.toInt32).toUInt32.toUInt16.toUInt32.toInt32))] (.int (0 : Int32)) := (va110.ext E113)
    obtain ⟨_, _, ⟨T118, L118, kk118, nn118⟩, -, X118, ⟨Lc118, hQ118, l118, y118, z118⟩, st118⟩ := X113.specialBack hx (y := (⟨"java/lang/String", "<init>", "([C)V"⟩ : MethodName)) rfl hown (mvT hZ (hw _ (List.mem_of_getElem? (i := 4) rfl))) (mvT hZ (hw _ (List.mem_of_getElem? (i := 5) rfl))) (mvT hZ (hw _ (List.mem_of_getElem? (i := 6) rfl))) (by decide) (backOf (W := 1) (sinit_2 l Z a0 hw [] wCS w_US w_SS G b113 b103 c103 (((p3 &&& (255 : Int32)).toUInt32.toUInt16.toUInt32.toInt32).toUInt32.toUInt16.toUInt32.toInt32) (((p4 &&& (255 : Int32)).toUInt32.toUInt16.toUInt32.toInt32).toUInt32.toUInt16.toUInt32.toInt32) h113 n0 O113 (A113 : Exa Z h113 b113 "java/lang/String") (i113_value : Fld Z h113 b113 "java/lang/String" "value" "[B" .null) (i113_coder : Fld Z h113 b113 "java/lang/String" "coder" "B" (.int (0 : Int32))) (ge116 : n0 ≤ b113) ((Ne.symm (Nat.ne_of_lt (Nat.lt_of_lt_of_le ((B103.wr W106).wr W110).lt (Nat.le_of_eq g113.symm)))) : b113 ≠ b103) (f117 : Arv Z h113 b103 c103 .char (2 : Int32) [(.int (((p3 &&& (255 : Int32)).toUInt32.toUInt16.toUInt32.toInt32).toUInt32.toUInt16.toUInt32.toInt32)), (.int (((p4 &&& (255 : Int32)).toUInt32.toUInt16.toUInt32.toInt32).toUInt32.toUInt16.toUInt32.toInt32))] (.int (0 : Int32))) (own_chr _ : ¬ ((255 : Int32) < (((p3 &&& (255 : Int32)).toUInt32.toUInt16.toUInt32.toInt32).toUInt32.toUInt16.toUInt32.toInt32))) (own_chr _ : ¬ ((255 : Int32) < (((p4 &&& (255 : Int32)).toUInt32.toUInt16.toUInt32.toInt32).toUInt32.toUInt16.toUInt32.toInt32)))) hZ (hw _ (List.mem_of_getElem? (i := 6) rfl)) (hw _ (List.mem_of_getElem? (i := 3) rfl)) (by decide) (by decide)) (g := (mkF m 72 #[iv p1, iv p2, iv p3, iv p4, iv (2 : Int32), iv (504 : Int32), rv b103, .unset, .unset, .unset, .unset, .unset, .unset] [(.ref b103), (.ref b113), (.ref b113)])) rfl (by rw [hml]; rfl) (Steps.refl _) (a := b113) (argsL := [(.ref b103)]) (rest := [(.ref b113)]) (lenOf pd_6 rfl) rfl (by show 2 * 0 + _ ≤ _; exact Nat.le_of_eq rfl) (hb hby at_72) (fun _ _ => ⟨rfl, e113, (by decide : 2 + 1 ≤ _), (by decide : 6 + 2 ≤ _)⟩)
    dsimp only [Pt.U, Pt.locs, Pt.cells, Pt.slots] at X118 l118 y118 z118 st118 hQ118
    subst l118 y118 z118
    obtain ⟨d1_118, kb_118, rfl, Nq118, Kq118, po118_0, po118_1, po118_2, po118_3, po118_4, po118_5⟩ := hQ118
    have N118 := Fr.app N110 Nq118
    have O118 := O113.keep Kq118 (allS ge116 all0)
    have k119 : Way p e below S0 T118 (mkF m 75 #[iv p1, iv p2, iv p3, iv p4, iv (2 : Int32), iv (504 : Int32), rv b103, .unset, .unset, .unset, .unset, .unset, .unset] [(.ref b113)]) := fun t k => k115 t (st118.trans k)
    have k121 : Way p e below S0 T118 (mkF m 80 #[iv p1, iv p2, iv p3, iv p4, iv (2 : Int32), iv (504 : Int32), rv b103, rv b113, .unset, .unset, .unset, .unset, .unset] [(.int (p1 &&& (4 : Int32)))]) := by
      intro t k
      refine k119 t ?_
      refine XS.astore X118.here hx rfl (hb hby at_75) rfl rfl (l' := #[iv p1, iv p2, iv p3, iv p4, iv (2 : Int32), iv (504 : Int32), rv b103, rv b113, .unset, .unset, .unset, .unset, .unset]) rfl ?_
      show Steps p.tables e below (T118.setTop (mkF m 77 #[iv p1, iv p2, iv p3, iv p4, iv (2 : Int32), iv (504 : Int32), rv b103, rv b113, .unset, .unset, .unset, .unset, .unset] [])) _
      refine XS.iloadN X118.here hx rfl (hb hby at_77) rfl ?_
      show Steps p.tables e below (T118.setTop (mkF m 78 #[iv p1, iv p2, iv p3, iv p4, iv (2 : Int32), iv (504 : Int32), rv b103, rv b113, .unset, .unset, .unset, .unset, .unset] [(.int p1)])) _
      refine XS.iconst X118.here hx rfl (hb hby at_78) ?_
      show Steps p.tables e below (T118.setTop (mkF m 79 #[iv p1, iv p2, iv p3, iv p4, iv (2 : Int32), iv (504 : Int32), rv b103, rv b113, .unset, .unset, .unset, .unset, .unset] [(.int (4 : Int32)), (.int p1)])) _
      refine XS.iand X118.here hx rfl (hb hby at_79) rfl ?_
      show Steps p.tables e below (T118.setTop (mkF m 80 #[iv p1, iv p2, iv p3, iv p4, iv (2 : Int32), iv (504 : Int32), rv b103, rv b113, .unset, .unset, .unset, .unset, .unset] [(.int (p1 &&& (4 : Int32)))])) _
      exact k
    by_cases hc120 : (p1 &&& (4 : Int32)) = (0 : Int32)
    · have k122 : Way p e below S0 T118 (mkF m 114 #[iv p1, iv p2, iv p3, iv p4, iv (2 : Int32), iv (504 : Int32), rv b103, rv b113, iv (0 : Int32), .unset, .unset, .unset, .unset] []) := by
        intro t k
        refine k121 t ?_
        refine XS.ifYes X118.here hx rfl (pc0 := 80) (pc' := 87) rfl (hb hby at_80) rfl ((if0 _ _).trans (teq (hc120 : (p1 &&& (4 : Int32)) = (0 : Int32))).1) (by decide) (by decide) ?_
        show Steps p.tables e below (T118.setTop (mkF m 87 #[iv p1, iv p2, iv p3, iv p4, iv (2 : Int32), iv (504 : Int32), rv b103, rv b113, .unset, .unset, .unset, .unset, .unset] [])) _
        refine XS.iconst X118.here hx rfl (hb hby at_87) ?_
        show Steps p.tables e below (T118.setTop (mkF m 88 #[iv p1, iv p2, iv p3, iv p4, iv (2 : Int32), iv (504 : Int32), rv b103, rv b113, .unset, .unset, .unset, .unset, .unset] [(.int (0 : Int32))])) _
        refine XS.istore X118.here hx rfl (hb hby at_88) rfl (l' := #[iv p1, iv p2, iv p3, iv p4, iv (2 : Int32), iv (504 : Int32), rv b103, rv b113, iv (0 : Int32), .unset, .unset, .unset, .unset]) rfl ?_
        show Steps p.tables e below (T118.setTop (mkF m 90 #[iv p1, iv p2, iv p3, iv p4, iv (2 : Int32), iv (504 : Int32), rv b103, rv b113, iv (0 : Int32), .unset, .unset, .unset, .unset] [])) _
        refine XS.iload X118.here hx rfl (hb hby at_90) rfl ?_
        show Steps p.tables e below (T118.setTop (mkF m 92 #[iv p1, iv p2, iv p3, iv p4, iv (2 : Int32), iv (504 : Int32), rv b103, rv b113, iv (0 : Int32), .unset, .unset, .unset, .unset] [(.int (0 : Int32))])) _
        refine XS.ifYes X118.here hx rfl (pc0 := 92) (pc' := 114) rfl (hb hby at_92) rfl ((if0 _ _).trans (teq ((by decide) : (0 : Int32) = (0 : Int32))).1) (by decide) (by decide) ?_
        show Steps p.tables e below (T118.setTop (mkF m 114 #[iv p1, iv p2, iv p3, iv p4, iv (2 : Int32), iv (504 : Int32), rv b103, rv b113, iv (0 : Int32), .unset, .unset, .unset, .unset] [])) _
        exact k
      obtain ⟨T123, h123, X123, e123, E123, A123, D123, U123, st123⟩ := newO X118 hx hZ hown (hw _ (List.mem_of_getElem? (i := 30) rfl)) (hw _ (List.mem_of_getElem? (i := 31) rfl)) (hw _ (List.mem_of_getElem? (i := 32) rfl)) rfl (g := (mkF m 114 #[iv p1, iv p2, iv p3, iv p4, iv (2 : Int32), iv (504 : Int32), rv b103, rv b113, iv (0 : Int32), .unset, .unset, .unset, .unset] [])) rfl (hb hby at_114) (by decide) (by decide)
      obtain ⟨b123, g123⟩ : ∃ z, z = T118.heap.size := ⟨_, rfl⟩
      rw [← g123] at A123 D123 U123 st123
      have O123 := O118.ext E123
      have i123_cause : Fld Z h123 b123 "java/lang/Throwable" "cause" "Ljava/lang/Throwable;" .null := D123 (Or.inl (hw _ (List.mem_of_getElem? (i := 55) rfl))) (ty := (.object "java/lang/Throwable")) (by decide)
      have i123_stackTrace : Fld Z h123 b123 "java/lang/Throwable" "stackTrace" "[Ljava/lang/StackTraceElement;" .null := D123 (Or.inl (hw _ (List.mem_of_getElem? (i := 58) rfl))) (ty := (.array (.object "java/lang/StackTraceElement"))) (by decide)
      have i123_suppressedExceptions : Fld Z h123 b123 "java/lang/Throwable" "suppressedExceptions" "Ljava/util/List;" .null := D123 (Or.inl (hw _ (List.mem_of_getElem? (i := 61) rfl))) (ty := (.object "java/util/List")) (by decide)
      have i123_detailMessage : Fld Z h123 b123 "java/lang/Throwable" "detailMessage" "Ljava/lang/String;" .null := D123 (Or.inl (hw _ (List.mem_of_getElem? (i := 85) rfl))) (ty := (.object "java/lang/String")) (by decide)
      have i123_backtrace : Fld Z h123 b123 "java/lang/Throwable" "backtrace" "Ljava/lang/Object;" .null := D123 (Or.inl (hw _ (List.mem_of_getElem? (i := 86) rfl))) (ty := (.object "java/lang/Object")) (by decide)
      have i123_depth : Fld Z h123 b123 "java/lang/Throwable" "depth" "I" (.int (0 : Int32)) := D123 (Or.inl (hw _ (List.mem_of_getElem? (i := 87) rfl))) (ty := .int) (by decide)
      have i123_status : Fld Z h123 b123 "caseward/web/RequestHead$Malformed" "status" "I" (.int (0 : Int32)) := D123 (Or.inr (hw _ (List.mem_of_getElem? (i := 91) rfl))) (ty := .int) (by decide)
      have k124 : Way p e below S0 T123 (mkF m 117 #[iv p1, iv p2, iv p3, iv p4, iv (2 : Int32), iv (504 : Int32), rv b103, rv b113, iv (0 : Int32), .unset, .unset, .unset, .unset] [(.ref b123)]) := fun t k => k122 t (st123 _ k)
      have k125 : Way p e below S0 T123 (mkF m 122 #[iv p1, iv p2, iv p3, iv p4, iv (2 : Int32), iv (504 : Int32), rv b103, rv b113, iv (0 : Int32), .unset, .unset, .unset, .unset] [(.ref b113), (.int (504 : Int32)), (.ref b123), (.ref b123)]) := by
        intro t k
        refine k124 t ?_
        refine XS.dup X123.here hx rfl (hb hby at_117) rfl rfl ?_
        show Steps p.tables e below (T123.setTop (mkF m 118 #[iv p1, iv p2, iv p3, iv p4, iv (2 : Int32), iv (504 : Int32), rv b103, rv b113, iv (0 : Int32), .unset, .unset, .unset, .unset] [(.ref b123), (.ref b123)])) _
        refine XS.iload X123.here hx rfl (hb hby at_118) rfl ?_
        show Steps p.tables e below (T123.setTop (mkF m 120 #[iv p1, iv p2, iv p3, iv p4, iv (2 : Int32), iv (504 : Int32), rv b103, rv b113, iv (0 : Int32), .unset, .unset, .unset, .unset] [(.int (504 : Int32)), (.ref b123), (.ref b123)])) _
        refine XS.aload X123.here hx rfl (hb hby at_120) rfl rfl ?_
        show Steps p.tables e below (T123.setTop (mkF m 122 #[iv p1, iv p2, iv p3, iv p4, iv (2 : Int32), iv (504 : Int32), rv b103, rv b113, iv (0 : Int32), .unset, .unset, .unset, .unset] [(.ref b113), (.int (504 : Int32)), (.ref b123), (.ref b123)])) _
        exact k
      have ge126 : n0 ≤ b123 := Nat.le_trans (own_old O118) (Nat.le_of_eq g123.symm)
      obtain ⟨_, _, ⟨T127, L127, kk127, nn127⟩, -, X127, ⟨Lc127, hQ127, l127, y127, z127⟩, st127⟩ := X123.specialBack hx (y := (⟨"caseward/web/RequestHead$Malformed", "<init>", "(ILjava/lang/String;)V"⟩ : MethodName)) rfl hown (mvT hZ (hw _ (List.mem_of_getElem? (i := 33) rfl))) (mvT hZ (hw _ (List.mem_of_getElem? (i := 34) rfl))) (mvT hZ (hw _ (List.mem_of_getElem? (i := 35) rfl))) (by decide) (backOfKL (W := 1) (mi l Z a0 hw [] wCS w_US w_SS G b123 (504 : Int32) b113 h123 n0 O123 (A123 : Exa Z h123 b123 "caseward/web/RequestHead$Malformed") (i123_cause : Fld Z h123 b123 "java/lang/Throwable" "cause" "Ljava/lang/Throwable;" .null) (i123_stackTrace : Fld Z h123 b123 "java/lang/Throwable" "stackTrace" "[Ljava/lang/StackTraceElement;" .null) (i123_suppressedExceptions : Fld Z h123 b123 "java/lang/Throwable" "suppressedExceptions" "Ljava/util/List;" .null) (i123_backtrace : Fld Z h123 b123 "java/lang/Throwable" "backtrace" "Ljava/lang/Object;" .null) (i123_detailMessage : Fld Z h123 b123 "java/lang/Throwable" "detailMessage" "Ljava/lang/String;" .null) (i123_status : Fld Z h123 b123 "caseward/web/RequestHead$Malformed" "status" "I" (.int (0 : Int32))) (U123 : Unt h123 b123) (ge126 : n0 ≤ b123) (htr : l.stackTraces = true)) hZ (hw _ (List.mem_of_getElem? (i := 35) rfl)) (hw _ (List.mem_of_getElem? (i := 32) rfl)) (by decide) (by decide) hTK hBelow) (g := (mkF m 122 #[iv p1, iv p2, iv p3, iv p4, iv (2 : Int32), iv (504 : Int32), rv b103, rv b113, iv (0 : Int32), .unset, .unset, .unset, .unset] [(.ref b113), (.int (504 : Int32)), (.ref b123), (.ref b123)])) rfl (by rw [hml]; rfl) (Steps.refl _) (a := b123) (argsL := [(.int (504 : Int32)), (.ref b113)]) (rest := [(.ref b123)]) (lenOf pd_5 rfl) rfl (by show 2 * 0 + _ ≤ _; exact Nat.le_of_eq rfl) (hb hby at_122) (fun _ _ => ⟨rfl, e123, (by decide : 4 + 1 ≤ _), (by decide : 15 + 2752 ≤ _)⟩)
      dsimp only [Pt.U, Pt.locs, Pt.cells, Pt.slots] at X127 l127 y127 z127 st127 hQ127
      subst l127 y127 z127
      obtain ⟨rfl, Nq127, Kq127, po127_0, po127_1⟩ := hQ127
      have N127 := Fr.app N118 Nq127
      have O127 := O123.keep Kq127 (allS ge126 all0)
      have k128 : Way p e below S0 T127 (mkF m 125 #[iv p1, iv p2, iv p3, iv p4, iv (2 : Int32), iv (504 : Int32), rv b103, rv b113, iv (0 : Int32), .unset, .unset, .unset, .unset] [(.ref b123)]) := fun t k => k125 t (st127.trans k)
      have k129 : Way p e below S0 T127 (mkF m 133 #[iv p1, iv p2, iv p3, iv p4, iv (2 : Int32), iv (504 : Int32), rv b103, rv b113, iv (0 : Int32), rv b123, iv (504 : Int32), .unset, .unset] [(.ref b123)]) := by
        intro t k
        refine k128 t ?_
        refine XS.astore X127.here hx rfl (hb hby at_125) rfl rfl (l' := #[iv p1, iv p2, iv p3, iv p4, iv (2 : Int32), iv (504 : Int32), rv b103, rv b113, iv (0 : Int32), rv b123, .unset, .unset, .unset]) rfl ?_
        show Steps p.tables e below (T127.setTop (mkF m 127 #[iv p1, iv p2, iv p3, iv p4, iv (2 : Int32), iv (504 : Int32), rv b103, rv b113, iv (0 : Int32), rv b123, .unset, .unset, .unset] [])) _
        refine XS.iload X127.here hx rfl (hb hby at_127) rfl ?_
        show Steps p.tables e below (T127.setTop (mkF m 129 #[iv p1, iv p2, iv p3, iv p4, iv (2 : Int32), iv (504 : Int32), rv b103, rv b113, iv (0 : Int32), rv b123, .unset, .unset, .unset] [(.int (504 : Int32))])) _
        refine XS.istore X127.here hx rfl (hb hby at_129) rfl (l' := #[iv p1, iv p2, iv p3, iv p4, iv (2 : Int32), iv (504 : Int32), rv b103, rv b113, iv (0 : Int32), rv b123, iv (504 : Int32), .unset, .unset]) rfl ?_
        show Steps p.tables e below (T127.setTop (mkF m 131 #[iv p1, iv p2, iv p3, iv p4, iv (2 : Int32), iv (504 : Int32), rv b103, rv b113, iv (0 : Int32), rv b123, iv (504 : Int32), .unset, .unset] [])) _
        refine XS.aload X127.here hx rfl (hb hby at_131) rfl rfl ?_
        show Steps p.tables e below (T127.setTop (mkF m 133 #[iv p1, iv p2, iv p3, iv p4, iv (2 : Int32), iv (504 : Int32), rv b103, rv b113, iv (0 : Int32), rv b123, iv (504 : Int32), .unset, .unset] [(.ref b123)])) _
        exact k
      obtain ⟨cq130, kq130, qq130a, qq130b, qq130c⟩ := isOf hZ rfl po127_0
      obtain ⟨_, _, ⟨T130, L130, kk130, nn130⟩, -, X130, ⟨Lc130, hQ130, l130, y130, z130⟩, st130⟩ := X127.virtualBack hx (y := (⟨"caseward/web/RequestHead$Malformed", "isForWantOfRoom", "()Z"⟩ : MethodName)) (z := (⟨"caseward/web/RequestHead$Malformed", "isForWantOfRoom", "()Z"⟩ : MethodName)) hown (mvT hZ (hw _ (List.mem_of_getElem? (i := 92) rfl))) (mvT hZ (hw _ (List.mem_of_getElem? (i := 93) rfl))) (notFace_of_selects (args := #[]) (mvT hZ (hw _ (List.mem_of_getElem? (i := 95) rfl)))) (mvT hZ (hw _ (List.mem_of_getElem? (i := 95) rfl))) (mvT hZ (hw _ (List.mem_of_getElem? (i := 94) rfl))) (by decide) (backOf (W := 0) (isF l Z a0 hw [] wCS w_US w_SS G b123 (504 : Int32) T127.heap n0 O127 (po127_1 : Fld Z T127.heap b123 "caseward/web/RequestHead$Malformed" "status" "I" (.int (504 : Int32))) (by decide : ¬ ((504 : Int32) = (503 : Int32)))) hZ (hw _ (List.mem_of_getElem? (i := 96) rfl)) (hw _ (List.mem_of_getElem? (i := 32) rfl)) (by decide) (by decide)) qq130a qq130c (g := (mkF m 133 #[iv p1, iv p2, iv p3, iv p4, iv (2 : Int32), iv (504 : Int32), rv b103, rv b113, iv (0 : Int32), rv b123, iv (504 : Int32), .unset, .unset] [(.ref b123)])) rfl (by rw [hml]; rfl) (Steps.refl _) (argsL := []) (rest := []) (lenOf pd_7 rfl) rfl (by show 2 * 0 + _ ≤ _; exact Nat.le_of_eq rfl) (hb hby at_133) (fun _ _ => ⟨rfl, rfl, (by decide : 5 + 0 ≤ _), (by decide : 2767 + 0 ≤ _)⟩)
      dsimp only [Pt.U, Pt.locs, Pt.cells, Pt.slots] at X130 l130 y130 z130 st130 hQ130
      subst l130 y130 z130
      obtain ⟨rfl, Nq130, e130⟩ := hQ130
      have N130 := Fr.app N127 Nq130
      have k131 : Way p e below S0 T130 (mkF m 136 #[iv p1, iv p2, iv p3, iv p4, iv (2 : Int32), iv (504 : Int32), rv b103, rv b113, iv (0 : Int32), rv b123, iv (504 : Int32), .unset, .unset] [(.int (0 : Int32))]) := fun t k => k129 t (st130.trans k)
      have k132 : Way p e below S0 T130 (mkF m 162 #[iv p1, iv p2, iv p3, iv p4, iv (2 : Int32), iv (504 : Int32), rv b103, rv b113, iv (0 : Int32), rv b123, iv (504 : Int32), iv (0 : Int32), iv (0 : Int32)] [(.ref b123)]) := by
        intro t k
        refine k131 t ?_
        refine XS.istore X130.here hx rfl (hb hby at_136) rfl (l' := #[iv p1, iv p2, iv p3, iv p4, iv (2 : Int32), iv (504 : Int32), rv b103, rv b113, iv (0 : Int32), rv b123, iv (504 : Int32), iv (0 : Int32), .unset]) rfl ?_
        show Steps p.tables e below (T130.setTop (mkF m 138 #[iv p1, iv p2, iv p3, iv p4, iv (2 : Int32), iv (504 : Int32), rv b103, rv b113, iv (0 : Int32), rv b123, iv (504 : Int32), iv (0 : Int32), .unset] [])) _
        refine XS.iload X130.here hx rfl (hb hby at_138) rfl ?_
        show Steps p.tables e below (T130.setTop (mkF m 140 #[iv p1, iv p2, iv p3, iv p4, iv (2 : Int32), iv (504 : Int32), rv b103, rv b113, iv (0 : Int32), rv b123, iv (504 : Int32), iv (0 : Int32), .unset] [(.int (504 : Int32))])) _
        refine XS.sipush X130.here hx rfl (hb hby at_140) ?_
        show Steps p.tables e below (T130.setTop (mkF m 143 #[iv p1, iv p2, iv p3, iv p4, iv (2 : Int32), iv (504 : Int32), rv b103, rv b113, iv (0 : Int32), rv b123, iv (504 : Int32), iv (0 : Int32), .unset] [(.int (503 : Int32)), (.int (504 : Int32))])) _
        refine XS.icmpYes X130.here hx rfl (pc0 := 143) (pc' := 150) rfl (hb hby at_143) rfl (feq ((by decide) : ¬ ((504 : Int32) = (503 : Int32)))).2 (by decide) (by decide) ?_
        show Steps p.tables e below (T130.setTop (mkF m 150 #[iv p1, iv p2, iv p3, iv p4, iv (2 : Int32), iv (504 : Int32), rv b103, rv b113, iv (0 : Int32), rv b123, iv (504 : Int32), iv (0 : Int32), .unset] [])) _
        refine XS.iconst X130.here hx rfl (hb hby at_150) ?_
        show Steps p.tables e below (T130.setTop (mkF m 151 #[iv p1, iv p2, iv p3, iv p4, iv (2 : Int32), iv (504 : Int32), rv b103, rv b113, iv (0 : Int32), rv b123, iv (504 : Int32), iv (0 : Int32), .unset] [(.int (0 : Int32))])) _
        refine XS.istore X130.here hx rfl (hb hby at_151) rfl (l' := #[iv p1, iv p2, iv p3, iv p4, iv (2 : Int32), iv (504 : Int32), rv b103, rv b113, iv (0 : Int32), rv b123, iv (504 : Int32), iv (0 : Int32), iv (0 : Int32)]) rfl ?_
        show Steps p.tables e below (T130.setTop (mkF m 153 #[iv p1, iv p2, iv p3, iv p4, iv (2 : Int32), iv (504 : Int32), rv b103, rv b113, iv (0 : Int32), rv b123, iv (504 : Int32), iv (0 : Int32), iv (0 : Int32)] [])) _
        refine XS.iload X130.here hx rfl (hb hby at_153) rfl ?_
        show Steps p.tables e below (T130.setTop (mkF m 155 #[iv p1, iv p2, iv p3, iv p4, iv (2 : Int32), iv (504 : Int32), rv b103, rv b113, iv (0 : Int32), rv b123, iv (504 : Int32), iv (0 : Int32), iv (0 : Int32)] [(.int (0 : Int32))])) _
        refine XS.iload X130.here hx rfl (hb hby at_155) rfl ?_
        show Steps p.tables e below (T130.setTop (mkF m 157 #[iv p1, iv p2, iv p3, iv p4, iv (2 : Int32), iv (504 : Int32), rv b103, rv b113, iv (0 : Int32), rv b123, iv (504 : Int32), iv (0 : Int32), iv (0 : Int32)] [(.int (0 : Int32)), (.int (0 : Int32))])) _
        refine XS.icmpNo X130.here hx rfl (hb hby at_157) rfl (teq ((by decide) : (0 : Int32) = (0 : Int32))).2 ?_
        show Steps p.tables e below (T130.setTop (mkF m 160 #[iv p1, iv p2, iv p3, iv p4, iv (2 : Int32), iv (504 : Int32), rv b103, rv b113, iv (0 : Int32), rv b123, iv (504 : Int32), iv (0 : Int32), iv (0 : Int32)] [])) _
        refine XS.aload X130.here hx rfl (hb hby at_160) rfl rfl ?_
        show Steps p.tables e below (T130.setTop (mkF m 162 #[iv p1, iv p2, iv p3, iv p4, iv (2 : Int32), iv (504 : Int32), rv b103, rv b113, iv (0 : Int32), rv b123, iv (504 : Int32), iv (0 : Int32), iv (0 : Int32)] [(.ref b123)])) _
        exact k
      obtain ⟨cq133, kq133, qq133a, qq133b, qq133c⟩ := isOf hZ e130 po127_0
      obtain ⟨_, _, ⟨T133, L133, kk133, nn133⟩, -, X133, ⟨Lc133, hQ133, l133, y133, z133⟩, st133⟩ := X130.virtualBack hx (y := (⟨"caseward/web/RequestHead$Malformed", "status", "()I"⟩ : MethodName)) (z := (⟨"caseward/web/RequestHead$Malformed", "status", "()I"⟩ : MethodName)) hown (mvT hZ (hw _ (List.mem_of_getElem? (i := 97) rfl))) (mvT hZ (hw _ (List.mem_of_getElem? (i := 98) rfl))) (notFace_of_selects (args := #[]) (mvT hZ (hw _ (List.mem_of_getElem? (i := 100) rfl)))) (mvT hZ (hw _ (List.mem_of_getElem? (i := 100) rfl))) (mvT hZ (hw _ (List.mem_of_getElem? (i := 99) rfl))) (by decide) (backOf (W := 0) (stt l Z a0 hw [] wCS w_US w_SS G b123 (504 : Int32) T127.heap n0 O127 (po127_1 : Fld Z T127.heap b123 "caseward/web/RequestHead$Malformed" "status" "I" (.int (504 : Int32)))) hZ (hw _ (List.mem_of_getElem? (i := 101) rfl)) (hw _ (List.mem_of_getElem? (i := 32) rfl)) (by decide) (by decide)) qq133a qq133c (g := (mkF m 162 #[iv p1, iv p2, iv p3, iv p4, iv (2 : Int32), iv (504 : Int32), rv b103, rv b113, iv (0 : Int32), rv b123, iv (504 : Int32), iv (0 : Int32), iv (0 : Int32)] [(.ref b123)])) rfl (by rw [hml]; rfl) (Steps.refl _) (argsL := []) (rest := []) (lenOf pd_8 rfl) rfl (by show 2 * 0 + _ ≤ _; exact Nat.le_of_eq rfl) (hb hby at_162) (fun _ _ => ⟨rfl, e130, (by decide : 5 + 0 ≤ _), (by decide : 2767 + 0 ≤ _)⟩)
      dsimp only [Pt.U, Pt.locs, Pt.cells, Pt.slots] at X133 l133 y133 z133 st133 hQ133
      subst l133 y133 z133
      obtain ⟨rfl, Nq133, e133⟩ := hQ133
      have N133 := Fr.app N130 Nq133
      have k134 : Way p e below S0 T133 (mkF m 165 #[iv p1, iv p2, iv p3, iv p4, iv (2 : Int32), iv (504 : Int32), rv b103, rv b113, iv (0 : Int32), rv b123, iv (504 : Int32), iv (0 : Int32), iv (0 : Int32)] [(.int (504 : Int32))]) := fun t k => k132 t (st133.trans k)
      have k135 : Way p e below S0 T133 (mkF m 175 #[iv p1, iv p2, iv p3, iv p4, iv (2 : Int32), iv (504 : Int32), rv b103, rv b113, iv (0 : Int32), rv b123, iv (504 : Int32), iv (0 : Int32), iv (0 : Int32)] [(.int (1 : Int32))]) := by
        intro t k
        refine k134 t ?_
        refine XS.iload X133.here hx rfl (hb hby at_165) rfl ?_
        show Steps p.tables e below (T133.setTop (mkF m 167 #[iv p1, iv p2, iv p3, iv p4, iv (2 : Int32), iv (504 : Int32), rv b103, rv b113, iv (0 : Int32), rv b123, iv (504 : Int32), iv (0 : Int32), iv (0 : Int32)] [(.int (504 : Int32)), (.int (504 : Int32))])) _
        refine XS.icmpNo X133.here hx rfl (hb hby at_167) rfl (teq ((by decide) : (504 : Int32) = (504 : Int32))).2 ?_
        show Steps p.tables e below (T133.setTop (mkF m 170 #[iv p1, iv p2, iv p3, iv p4, iv (2 : Int32), iv (504 : Int32), rv b103, rv b113, iv (0 : Int32), rv b123, iv (504 : Int32), iv (0 : Int32), iv (0 : Int32)] [])) _
        refine XS.iconst X133.here hx rfl (hb hby at_170) ?_
        show Steps p.tables e below (T133.setTop (mkF m 171 #[iv p1, iv p2, iv p3, iv p4, iv (2 : Int32), iv (504 : Int32), rv b103, rv b113, iv (0 : Int32), rv b123, iv (504 : Int32), iv (0 : Int32), iv (0 : Int32)] [(.int (1 : Int32))])) _
        refine XS.goto X133.here hx rfl (pc0 := 171) (pc' := 175) rfl (hb hby at_171) (by decide) (by decide) ?_
        show Steps p.tables e below (T133.setTop (mkF m 175 #[iv p1, iv p2, iv p3, iv p4, iv (2 : Int32), iv (504 : Int32), rv b103, rv b113, iv (0 : Int32), rv b123, iv (504 : Int32), iv (0 : Int32), iv (0 : Int32)] [(.int (1 : Int32))])) _
        exact k
      obtain ⟨fs, hr, hrun, hended, hW, hsame⟩ := X133.leave (v := some (.int (1 : Int32))) (fun h => by rw [Bd.returns] at h; cases h)
      refine ⟨_, _, k135 _ (retN X133 hx (t := .boolean) Bd.returns (by simp) (hb hby at_175) hr), hrun, hended, _, _, rfl, ?_, ⟨_, rfl⟩, hW, hsame.mono (by decide) (by decide)⟩
      show Q_law_met Z wCS w_US w_SS p1 p2 p3 p4 h0 n0 _ T133.heap _
      rw [e133]
      exact ⟨rfl, N133⟩
    · have k136 : Way p e below S0 T118 (mkF m 95 #[iv p1, iv p2, iv p3, iv p4, iv (2 : Int32), iv (504 : Int32), rv b103, rv b113, iv (1 : Int32), .unset, .unset, .unset, .unset] []) := by
        intro t k
        refine k121 t ?_
        refine XS.ifNo X118.here hx rfl (hb hby at_80) rfl ((if0 _ _).trans (feq (hc120 : ¬ ((p1 &&& (4 : Int32)) = (0 : Int32)))).1) ?_
        show Steps p.tables e below (T118.setTop (mkF m 83 #[iv p1, iv p2, iv p3, iv p4, iv (2 : Int32), iv (504 : Int32), rv b103, rv b113, .unset, .unset, .unset, .unset, .unset] [])) _
        refine XS.iconst X118.here hx rfl (hb hby at_83) ?_
        show Steps p.tables e below (T118.setTop (mkF m 84 #[iv p1, iv p2, iv p3, iv p4, iv (2 : Int32), iv (504 : Int32), rv b103, rv b113, .unset, .unset, .unset, .unset, .unset] [(.int (1 : Int32))])) _
        refine XS.goto X118.here hx rfl (pc0 := 84) (pc' := 88) rfl (hb hby at_84) (by decide) (by decide) ?_
        show Steps p.tables e below (T118.setTop (mkF m 88 #[iv p1, iv p2, iv p3, iv p4, iv (2 : Int32), iv (504 : Int32), rv b103, rv b113, .unset, .unset, .unset, .unset, .unset] [(.int (1 : Int32))])) _
        refine XS.istore X118.here hx rfl (hb hby at_88) rfl (l' := #[iv p1, iv p2, iv p3, iv p4, iv (2 : Int32), iv (504 : Int32), rv b103, rv b113, iv (1 : Int32), .unset, .unset, .unset, .unset]) rfl ?_
        show Steps p.tables e below (T118.setTop (mkF m 90 #[iv p1, iv p2, iv p3, iv p4, iv (2 : Int32), iv (504 : Int32), rv b103, rv b113, iv (1 : Int32), .unset, .unset, .unset, .unset] [])) _
        refine XS.iload X118.here hx rfl (hb hby at_90) rfl ?_
        show Steps p.tables e below (T118.setTop (mkF m 92 #[iv p1, iv p2, iv p3, iv p4, iv (2 : Int32), iv (504 : Int32), rv b103, rv b113, iv (1 : Int32), .unset, .unset, .unset, .unset] [(.int (1 : Int32))])) _
        refine XS.ifNo X118.here hx rfl (hb hby at_92) rfl ((if0 _ _).trans (feq ((by decide) : ¬ ((1 : Int32) = (0 : Int32)))).1) ?_
        show Steps p.tables e below (T118.setTop (mkF m 95 #[iv p1, iv p2, iv p3, iv p4, iv (2 : Int32), iv (504 : Int32), rv b103, rv b113, iv (1 : Int32), .unset, .unset, .unset, .unset] [])) _
        exact k
      obtain ⟨T137, h137, X137, e137, E137, A137, D137, U137, st137⟩ := newO X118 hx hZ hown (hw _ (List.mem_of_getElem? (i := 30) rfl)) (hw _ (List.mem_of_getElem? (i := 31) rfl)) (hw _ (List.mem_of_getElem? (i := 32) rfl)) rfl (g := (mkF m 95 #[iv p1, iv p2, iv p3, iv p4, iv (2 : Int32), iv (504 : Int32), rv b103, rv b113, iv (1 : Int32), .unset, .unset, .unset, .unset] [])) rfl (hb hby at_95) (by decide) (by decide)
      obtain ⟨b137, g137⟩ : ∃ z, z = T118.heap.size := ⟨_, rfl⟩
      rw [← g137] at A137 D137 U137 st137
      have O137 := O118.ext E137
      have i137_cause : Fld Z h137 b137 "java/lang/Throwable" "cause" "Ljava/lang/Throwable;" .null := D137 (Or.inl (hw _ (List.mem_of_getElem? (i := 55) rfl))) (ty := (.object "java/lang/Throwable")) (by decide)
      have i137_stackTrace : Fld Z h137 b137 "java/lang/Throwable" "stackTrace" "[Ljava/lang/StackTraceElement;" .null := D137 (Or.inl (hw _ (List.mem_of_getElem? (i := 58) rfl))) (ty := (.array (.object "java/lang/StackTraceElement"))) (by decide)
      have i137_suppressedExceptions : Fld Z h137 b137 "java/lang/Throwable" "suppressedExceptions" "Ljava/util/List;" .null := D137 (Or.inl (hw _ (List.mem_of_getElem? (i := 61) rfl))) (ty := (.object "java/util/List")) (by decide)
      have i137_detailMessage : Fld Z h137 b137 "java/lang/Throwable" "detailMessage" "Ljava/lang/String;" .null := D137 (Or.inl (hw _ (List.mem_of_getElem? (i := 85) rfl))) (ty := (.object "java/lang/String")) (by decide)
      have i137_backtrace : Fld Z h137 b137 "java/lang/Throwable" "backtrace" "Ljava/lang/Object;" .null := D137 (Or.inl (hw _ (List.mem_of_getElem? (i := 86) rfl))) (ty := (.object "java/lang/Object")) (by decide)
      have i137_depth : Fld Z h137 b137 "java/lang/Throwable" "depth" "I" (.int (0 : Int32)) := D137 (Or.inl (hw _ (List.mem_of_getElem? (i := 87) rfl))) (ty := .int) (by decide)
      have i137_status : Fld Z h137 b137 "caseward/web/RequestHead$Malformed" "status" "I" (.int (0 : Int32)) := D137 (Or.inr (hw _ (List.mem_of_getElem? (i := 91) rfl))) (ty := .int) (by decide)
      have k138 : Way p e below S0 T137 (mkF m 98 #[iv p1, iv p2, iv p3, iv p4, iv (2 : Int32), iv (504 : Int32), rv b103, rv b113, iv (1 : Int32), .unset, .unset, .unset, .unset] [(.ref b137)]) := fun t k => k136 t (st137 _ k)
      have k139 : Way p e below S0 T137 (mkF m 101 #[iv p1, iv p2, iv p3, iv p4, iv (2 : Int32), iv (504 : Int32), rv b103, rv b113, iv (1 : Int32), .unset, .unset, .unset, .unset] [(.ref b113), (.ref b137), (.ref b137)]) := by
        intro t k
        refine k138 t ?_
        refine XS.dup X137.here hx rfl (hb hby at_98) rfl rfl ?_
        show Steps p.tables e below (T137.setTop (mkF m 99 #[iv p1, iv p2, iv p3, iv p4, iv (2 : Int32), iv (504 : Int32), rv b103, rv b113, iv (1 : Int32), .unset, .unset, .unset, .unset] [(.ref b137), (.ref b137)])) _
        refine XS.aload X137.here hx rfl (hb hby at_99) rfl rfl ?_
        show Steps p.tables e below (T137.setTop (mkF m 101 #[iv p1, iv p2, iv p3, iv p4, iv (2 : Int32), iv (504 : Int32), rv b103, rv b113, iv (1 : Int32), .unset, .unset, .unset, .unset] [(.ref b113), (.ref b137), (.ref b137)])) _
        exact k
      have ge140 : n0 ≤ b137 := Nat.le_trans (own_old O118) (Nat.le_of_eq g137.symm)
      obtain ⟨_, _, ⟨T141, L141, kk141, nn141⟩, -, X141, ⟨Lc141, hQ141, l141, y141, z141⟩, st141⟩ := X137.specialBack hx (y := (⟨"caseward/web/RequestHead$Malformed", "<init>", "(Ljava/lang/String;)V"⟩ : MethodName)) rfl hown (mvT hZ (hw _ (List.mem_of_getElem? (i := 102) rfl))) (mvT hZ (hw _ (List.mem_of_getElem? (i := 103) rfl))) (mvT hZ (hw _ (List.mem_of_getElem? (i := 104) rfl))) (by decide) (backOfKL (W := 1) (ms l Z a0 hw [] wCS w_US w_SS G b137 b113 h137 n0 O137 (A137 : Exa Z h137 b137 "caseward/web/RequestHead$Malformed") (i137_cause : Fld Z h137 b137 "java/lang/Throwable" "cause" "Ljava/lang/Throwable;" .null) (i137_stackTrace : Fld Z h137 b137 "java/lang/Throwable" "stackTrace" "[Ljava/lang/StackTraceElement;" .null) (i137_suppressedExceptions : Fld Z h137 b137 "java/lang/Throwable" "suppressedExceptions" "Ljava/util/List;" .null) (i137_backtrace : Fld Z h137 b137 "java/lang/Throwable" "backtrace" "Ljava/lang/Object;" .null) (i137_detailMessage : Fld Z h137 b137 "java/lang/Throwable" "detailMessage" "Ljava/lang/String;" .null) (i137_status : Fld Z h137 b137 "caseward/web/RequestHead$Malformed" "status" "I" (.int (0 : Int32))) (U137 : Unt h137 b137) (ge140 : n0 ≤ b137) (htr : l.stackTraces = true)) hZ (hw _ (List.mem_of_getElem? (i := 104) rfl)) (hw _ (List.mem_of_getElem? (i := 32) rfl)) (by decide) (by decide) hTK hBelow) (g := (mkF m 101 #[iv p1, iv p2, iv p3, iv p4, iv (2 : Int32), iv (504 : Int32), rv b103, rv b113, iv (1 : Int32), .unset, .unset, .unset, .unset] [(.ref b113), (.ref b137), (.ref b137)])) rfl (by rw [hml]; rfl) (Steps.refl _) (a := b137) (argsL := [(.ref b113)]) (rest := [(.ref b137)]) (lenOf pd_4 rfl) rfl (by show 2 * 0 + _ ≤ _; exact Nat.le_of_eq rfl) (hb hby at_101) (fun _ _ => ⟨rfl, e137, (by decide : 4 + 1 ≤ _), (by decide : 15 + 2752 ≤ _)⟩)
      dsimp only [Pt.U, Pt.locs, Pt.cells, Pt.slots] at X141 l141 y141 z141 st141 hQ141
      subst l141 y141 z141
      obtain ⟨rfl, Nq141, Kq141, po141_0, po141_1⟩ := hQ141
      have N141 := Fr.app N118 Nq141
      have O141 := O137.keep Kq141 (allS ge140 all0)
      have k142 : Way p e below S0 T141 (mkF m 104 #[iv p1, iv p2, iv p3, iv p4, iv (2 : Int32), iv (504 : Int32), rv b103, rv b113, iv (1 : Int32), .unset, .unset, .unset, .unset] [(.ref b137)]) := fun t k => k139 t (st141.trans k)
      have k143 : Way p e below S0 T141 (mkF m 133 #[iv p1, iv p2, iv p3, iv p4, iv (2 : Int32), iv (504 : Int32), rv b103, rv b113, iv (1 : Int32), rv b137, iv (400 : Int32), .unset, .unset] [(.ref b137)]) := by
        intro t k
        refine k142 t ?_
        refine XS.astore X141.here hx rfl (hb hby at_104) rfl rfl (l' := #[iv p1, iv p2, iv p3, iv p4, iv (2 : Int32), iv (504 : Int32), rv b103, rv b113, iv (1 : Int32), rv b137, .unset, .unset, .unset]) rfl ?_
        show Steps p.tables e below (T141.setTop (mkF m 106 #[iv p1, iv p2, iv p3, iv p4, iv (2 : Int32), iv (504 : Int32), rv b103, rv b113, iv (1 : Int32), rv b137, .unset, .unset, .unset] [])) _
        refine XS.sipush X141.here hx rfl (hb hby at_106) ?_
        show Steps p.tables e below (T141.setTop (mkF m 109 #[iv p1, iv p2, iv p3, iv p4, iv (2 : Int32), iv (504 : Int32), rv b103, rv b113, iv (1 : Int32), rv b137, .unset, .unset, .unset] [(.int (400 : Int32))])) _
        refine XS.istore X141.here hx rfl (hb hby at_109) rfl (l' := #[iv p1, iv p2, iv p3, iv p4, iv (2 : Int32), iv (504 : Int32), rv b103, rv b113, iv (1 : Int32), rv b137, iv (400 : Int32), .unset, .unset]) rfl ?_
        show Steps p.tables e below (T141.setTop (mkF m 111 #[iv p1, iv p2, iv p3, iv p4, iv (2 : Int32), iv (504 : Int32), rv b103, rv b113, iv (1 : Int32), rv b137, iv (400 : Int32), .unset, .unset] [])) _
        refine XS.goto X141.here hx rfl (pc0 := 111) (pc' := 131) rfl (hb hby at_111) (by decide) (by decide) ?_
        show Steps p.tables e below (T141.setTop (mkF m 131 #[iv p1, iv p2, iv p3, iv p4, iv (2 : Int32), iv (504 : Int32), rv b103, rv b113, iv (1 : Int32), rv b137, iv (400 : Int32), .unset, .unset] [])) _
        refine XS.aload X141.here hx rfl (hb hby at_131) rfl rfl ?_
        show Steps p.tables e below (T141.setTop (mkF m 133 #[iv p1, iv p2, iv p3, iv p4, iv (2 : Int32), iv (504 : Int32), rv b103, rv b113, iv (1 : Int32), rv b137, iv (400 : Int32), .unset, .unset] [(.ref b137)])) _
        exact k
      obtain ⟨cq144, kq144, qq144a, qq144b, qq144c⟩ := isOf hZ rfl po141_0
      obtain ⟨_, _, ⟨T144, L144, kk144, nn144⟩, -, X144, ⟨Lc144, hQ144, l144, y144, z144⟩, st144⟩ := X141.virtualBack hx (y := (⟨"caseward/web/RequestHead$Malformed", "isForWantOfRoom", "()Z"⟩ : MethodName)) (z := (⟨"caseward/web/RequestHead$Malformed", "isForWantOfRoom", "()Z"⟩ : MethodName)) hown (mvT hZ (hw _ (List.mem_of_getElem? (i := 92) rfl))) (mvT hZ (hw _ (List.mem_of_getElem? (i := 93) rfl))) (notFace_of_selects (args := #[]) (mvT hZ (hw _ (List.mem_of_getElem? (i := 95) rfl)))) (mvT hZ (hw _ (List.mem_of_getElem? (i := 95) rfl))) (mvT hZ (hw _ (List.mem_of_getElem? (i := 94) rfl))) (by decide) (backOf (W := 0) (isF l Z a0 hw [] wCS w_US w_SS G b137 (400 : Int32) T141.heap n0 O141 (po141_1 : Fld Z T141.heap b137 "caseward/web/RequestHead$Malformed" "status" "I" (.int (400 : Int32))) (by decide : ¬ ((400 : Int32) = (503 : Int32)))) hZ (hw _ (List.mem_of_getElem? (i := 96) rfl)) (hw _ (List.mem_of_getElem? (i := 32) rfl)) (by decide) (by decide)) qq144a qq144c (g := (mkF m 133 #[iv p1, iv p2, iv p3, iv p4, iv (2 : Int32), iv (504 : Int32), rv b103, rv b113, iv (1 : Int32), rv b137, iv (400 : Int32), .unset, .unset] [(.ref b137)])) rfl (by rw [hml]; rfl) (Steps.refl _) (argsL := []) (rest := []) (lenOf pd_7 rfl) rfl (by show 2 * 0 + _ ≤ _; exact Nat.le_of_eq rfl) (hb hby at_133) (fun _ _ => ⟨rfl, rfl, (by decide : 5 + 0 ≤ _), (by decide : 2767 + 0 ≤ _)⟩)
      dsimp only [Pt.U, Pt.locs, Pt.cells, Pt.slots] at X144 l144 y144 z144 st144 hQ144
      subst l144 y144 z144
      obtain ⟨rfl, Nq144, e144⟩ := hQ144
      have N144 := Fr.app N141 Nq144
      have k145 : Way p e below S0 T144 (mkF m 136 #[iv p1, iv p2, iv p3, iv p4, iv (2 : Int32), iv (504 : Int32), rv b103, rv b113, iv (1 : Int32), rv b137, iv (400 : Int32), .unset, .unset] [(.int (0 : Int32))]) := fun t k => k143 t (st144.trans k)
      have k146 : Way p e below S0 T144 (mkF m 162 #[iv p1, iv p2, iv p3, iv p4, iv (2 : Int32), iv (504 : Int32), rv b103, rv b113, iv (1 : Int32), rv b137, iv (400 : Int32), iv (0 : Int32), iv (0 : Int32)] [(.ref b137)]) := by
        intro t k
        refine k145 t ?_
        refine XS.istore X144.here hx rfl (hb hby at_136) rfl (l' := #[iv p1, iv p2, iv p3, iv p4, iv (2 : Int32), iv (504 : Int32), rv b103, rv b113, iv (1 : Int32), rv b137, iv (400 : Int32), iv (0 : Int32), .unset]) rfl ?_
        show Steps p.tables e below (T144.setTop (mkF m 138 #[iv p1, iv p2, iv p3, iv p4, iv (2 : Int32), iv (504 : Int32), rv b103, rv b113, iv (1 : Int32), rv b137, iv (400 : Int32), iv (0 : Int32), .unset] [])) _
        refine XS.iload X144.here hx rfl (hb hby at_138) rfl ?_
        show Steps p.tables e below (T144.setTop (mkF m 140 #[iv p1, iv p2, iv p3, iv p4, iv (2 : Int32), iv (504 : Int32), rv b103, rv b113, iv (1 : Int32), rv b137, iv (400 : Int32), iv (0 : Int32), .unset] [(.int (400 : Int32))])) _
        refine XS.sipush X144.here hx rfl (hb hby at_140) ?_
        show Steps p.tables e below (T144.setTop (mkF m 143 #[iv p1, iv p2, iv p3, iv p4, iv (2 : Int32), iv (504 : Int32), rv b103, rv b113, iv (1 : Int32), rv b137, iv (400 : Int32), iv (0 : Int32), .unset] [(.int (503 : Int32)), (.int (400 : Int32))])) _
        refine XS.icmpYes X144.here hx rfl (pc0 := 143) (pc' := 150) rfl (hb hby at_143) rfl (feq ((by decide) : ¬ ((400 : Int32) = (503 : Int32)))).2 (by decide) (by decide) ?_
        show Steps p.tables e below (T144.setTop (mkF m 150 #[iv p1, iv p2, iv p3, iv p4, iv (2 : Int32), iv (504 : Int32), rv b103, rv b113, iv (1 : Int32), rv b137, iv (400 : Int32), iv (0 : Int32), .unset] [])) _
        refine XS.iconst X144.here hx rfl (hb hby at_150) ?_
        show Steps p.tables e below (T144.setTop (mkF m 151 #[iv p1, iv p2, iv p3, iv p4, iv (2 : Int32), iv (504 : Int32), rv b103, rv b113, iv (1 : Int32), rv b137, iv (400 : Int32), iv (0 : Int32), .unset] [(.int (0 : Int32))])) _
        refine XS.istore X144.here hx rfl (hb hby at_151) rfl (l' := #[iv p1, iv p2, iv p3, iv p4, iv (2 : Int32), iv (504 : Int32), rv b103, rv b113, iv (1 : Int32), rv b137, iv (400 : Int32), iv (0 : Int32), iv (0 : Int32)]) rfl ?_
        show Steps p.tables e below (T144.setTop (mkF m 153 #[iv p1, iv p2, iv p3, iv p4, iv (2 : Int32), iv (504 : Int32), rv b103, rv b113, iv (1 : Int32), rv b137, iv (400 : Int32), iv (0 : Int32), iv (0 : Int32)] [])) _
        refine XS.iload X144.here hx rfl (hb hby at_153) rfl ?_
        show Steps p.tables e below (T144.setTop (mkF m 155 #[iv p1, iv p2, iv p3, iv p4, iv (2 : Int32), iv (504 : Int32), rv b103, rv b113, iv (1 : Int32), rv b137, iv (400 : Int32), iv (0 : Int32), iv (0 : Int32)] [(.int (0 : Int32))])) _
        refine XS.iload X144.here hx rfl (hb hby at_155) rfl ?_
        show Steps p.tables e below (T144.setTop (mkF m 157 #[iv p1, iv p2, iv p3, iv p4, iv (2 : Int32), iv (504 : Int32), rv b103, rv b113, iv (1 : Int32), rv b137, iv (400 : Int32), iv (0 : Int32), iv (0 : Int32)] [(.int (0 : Int32)), (.int (0 : Int32))])) _
        refine XS.icmpNo X144.here hx rfl (hb hby at_157) rfl (teq ((by decide) : (0 : Int32) = (0 : Int32))).2 ?_
        show Steps p.tables e below (T144.setTop (mkF m 160 #[iv p1, iv p2, iv p3, iv p4, iv (2 : Int32), iv (504 : Int32), rv b103, rv b113, iv (1 : Int32), rv b137, iv (400 : Int32), iv (0 : Int32), iv (0 : Int32)] [])) _
        refine XS.aload X144.here hx rfl (hb hby at_160) rfl rfl ?_
        show Steps p.tables e below (T144.setTop (mkF m 162 #[iv p1, iv p2, iv p3, iv p4, iv (2 : Int32), iv (504 : Int32), rv b103, rv b113, iv (1 : Int32), rv b137, iv (400 : Int32), iv (0 : Int32), iv (0 : Int32)] [(.ref b137)])) _
        exact k
      obtain ⟨cq147, kq147, qq147a, qq147b, qq147c⟩ := isOf hZ e144 po141_0
      obtain ⟨_, _, ⟨T147, L147, kk147, nn147⟩, -, X147, ⟨Lc147, hQ147, l147, y147, z147⟩, st147⟩ := X144.virtualBack hx (y := (⟨"caseward/web/RequestHead$Malformed", "status", "()I"⟩ : MethodName)) (z := (⟨"caseward/web/RequestHead$Malformed", "status", "()I"⟩ : MethodName)) hown (mvT hZ (hw _ (List.mem_of_getElem? (i := 97) rfl))) (mvT hZ (hw _ (List.mem_of_getElem? (i := 98) rfl))) (notFace_of_selects (args := #[]) (mvT hZ (hw _ (List.mem_of_getElem? (i := 100) rfl)))) (mvT hZ (hw _ (List.mem_of_getElem? (i := 100) rfl))) (mvT hZ (hw _ (List.mem_of_getElem? (i := 99) rfl))) (by decide) (backOf (W := 0) (stt l Z a0 hw [] wCS w_US w_SS G b137 (400 : Int32) T141.heap n0 O141 (po141_1 : Fld Z T141.heap b137 "caseward/web/RequestHead$Malformed" "status" "I" (.int (400 : Int32)))) hZ (hw _ (List.mem_of_getElem? (i := 101) rfl)) (hw _ (List.mem_of_getElem? (i := 32) rfl)) (by decide) (by decide)) qq147a qq147c (g := (mkF m 162 #[iv p1, iv p2, iv p3, iv p4, iv (2 : Int32), iv (504 : Int32), rv b103, rv b113, iv (1 : Int32), rv b137, iv (400 : Int32), iv (0 : Int32), iv (0 : Int32)] [(.ref b137)])) rfl (by rw [hml]; rfl) (Steps.refl _) (argsL := []) (rest := []) (lenOf pd_8 rfl) rfl (by show 2 * 0 + _ ≤ _; exact Nat.le_of_eq rfl) (hb hby at_162) (fun _ _ => ⟨rfl, e144, (by decide : 5 + 0 ≤ _), (by decide : 2767 + 0 ≤ _)⟩)
      dsimp only [Pt.U, Pt.locs, Pt.cells, Pt.slots] at X147 l147 y147 z147 st147 hQ147
      subst l147 y147 z147
      obtain ⟨rfl, Nq147, e147⟩ := hQ147
      have N147 := Fr.app N144 Nq147
      have k148 : Way p e below S0 T147 (mkF m 165 #[iv p1, iv p2, iv p3, iv p4, iv (2 : Int32), iv (504 : Int32), rv b103, rv b113, iv (1 : Int32), rv b137, iv (400 : Int32), iv (0 : Int32), iv (0 : Int32)] [(.int (400 : Int32))]) := fun t k => k146 t (st147.trans k)
      have k149 : Way p e below S0 T147 (mkF m 175 #[iv p1, iv p2, iv p3, iv p4, iv (2 : Int32), iv (504 : Int32), rv b103, rv b113, iv (1 : Int32), rv b137, iv (400 : Int32), iv (0 : Int32), iv (0 : Int32)] [(.int (1 : Int32))]) := by
        intro t k
        refine k148 t ?_
        refine XS.iload X147.here hx rfl (hb hby at_165) rfl ?_
        show Steps p.tables e below (T147.setTop (mkF m 167 #[iv p1, iv p2, iv p3, iv p4, iv (2 : Int32), iv (504 : Int32), rv b103, rv b113, iv (1 : Int32), rv b137, iv (400 : Int32), iv (0 : Int32), iv (0 : Int32)] [(.int (400 : Int32)), (.int (400 : Int32))])) _
        refine XS.icmpNo X147.here hx rfl (hb hby at_167) rfl (teq ((by decide) : (400 : Int32) = (400 : Int32))).2 ?_
        show Steps p.tables e below (T147.setTop (mkF m 170 #[iv p1, iv p2, iv p3, iv p4, iv (2 : Int32), iv (504 : Int32), rv b103, rv b113, iv (1 : Int32), rv b137, iv (400 : Int32), iv (0 : Int32), iv (0 : Int32)] [])) _
        refine XS.iconst X147.here hx rfl (hb hby at_170) ?_
        show Steps p.tables e below (T147.setTop (mkF m 171 #[iv p1, iv p2, iv p3, iv p4, iv (2 : Int32), iv (504 : Int32), rv b103, rv b113, iv (1 : Int32), rv b137, iv (400 : Int32), iv (0 : Int32), iv (0 : Int32)] [(.int (1 : Int32))])) _
        refine XS.goto X147.here hx rfl (pc0 := 171) (pc' := 175) rfl (hb hby at_171) (by decide) (by decide) ?_
        show Steps p.tables e below (T147.setTop (mkF m 175 #[iv p1, iv p2, iv p3, iv p4, iv (2 : Int32), iv (504 : Int32), rv b103, rv b113, iv (1 : Int32), rv b137, iv (400 : Int32), iv (0 : Int32), iv (0 : Int32)] [(.int (1 : Int32))])) _
        exact k
      obtain ⟨fs, hr, hrun, hended, hW, hsame⟩ := X147.leave (v := some (.int (1 : Int32))) (fun h => by rw [Bd.returns] at h; cases h)
      refine ⟨_, _, k149 _ (retN X147 hx (t := .boolean) Bd.returns (by simp) (hb hby at_175) hr), hrun, hended, _, _, rfl, ?_, ⟨_, rfl⟩, hW, hsame.mono (by decide) (by decide)⟩
      show Q_law_met Z wCS w_US w_SS p1 p2 p3 p4 h0 n0 _ T147.heap _
      rw [e147]
      exact ⟨rfl, N147⟩
  · have k150 : Way p e below S0 s₁ (mkF m 5 #[iv p1, iv p2, iv p3, iv p4, iv (3 : Int32), .unset, .unset, .unset, .unset, .unset, .unset, .unset, .unset] []) := by have q := k1; rw [hi2] at q; exact q
    have k151 : Way p e below S0 s₁ (mkF m 44 #[iv p1, iv p2, iv p3, iv p4, iv (3 : Int32), iv p2, .unset, .unset, .unset, .unset, .unset, .unset, .unset] [(.int (2 : Int32))]) := by
      intro t k
      refine k150 t ?_
      refine XS.iload X0.here hx rfl (hb hby at_5) rfl ?_
      show Steps p.tables e below (s₁.setTop (mkF m 7 #[iv p1, iv p2, iv p3, iv p4, iv (3 : Int32), .unset, .unset, .unset, .unset, .unset, .unset, .unset, .unset] [(.int (3 : Int32))])) _
      refine XS.ifYes X0.here hx rfl (pc0 := 7) (pc' := 16) rfl (hb hby at_7) rfl ((if0 _ _).trans (feq ((by decide) : ¬ ((3 : Int32) = (0 : Int32)))).2) (by decide) (by decide) ?_
      show Steps p.tables e below (s₁.setTop (mkF m 16 #[iv p1, iv p2, iv p3, iv p4, iv (3 : Int32), .unset, .unset, .unset, .unset, .unset, .unset, .unset, .unset] [])) _
      refine XS.iload X0.here hx rfl (hb hby at_16) rfl ?_
      show Steps p.tables e below (s₁.setTop (mkF m 18 #[iv p1, iv p2, iv p3, iv p4, iv (3 : Int32), .unset, .unset, .unset, .unset, .unset, .unset, .unset, .unset] [(.int (3 : Int32))])) _
      refine XS.iconst X0.here hx rfl (hb hby at_18) ?_
      show Steps p.tables e below (s₁.setTop (mkF m 19 #[iv p1, iv p2, iv p3, iv p4, iv (3 : Int32), .unset, .unset, .unset, .unset, .unset, .unset, .unset, .unset] [(.int (1 : Int32)), (.int (3 : Int32))])) _
      refine XS.icmpYes X0.here hx rfl (pc0 := 19) (pc' := 28) rfl (hb hby at_19) rfl (feq ((by decide) : ¬ ((3 : Int32) = (1 : Int32)))).2 (by decide) (by decide) ?_
      show Steps p.tables e below (s₁.setTop (mkF m 28 #[iv p1, iv p2, iv p3, iv p4, iv (3 : Int32), .unset, .unset, .unset, .unset, .unset, .unset, .unset, .unset] [])) _
      refine XS.iload X0.here hx rfl (hb hby at_28) rfl ?_
      show Steps p.tables e below (s₁.setTop (mkF m 30 #[iv p1, iv p2, iv p3, iv p4, iv (3 : Int32), .unset, .unset, .unset, .unset, .unset, .unset, .unset, .unset] [(.int (3 : Int32))])) _
      refine XS.iconst X0.here hx rfl (hb hby at_30) ?_
      show Steps p.tables e below (s₁.setTop (mkF m 31 #[iv p1, iv p2, iv p3, iv p4, iv (3 : Int32), .unset, .unset, .unset, .unset, .unset, .unset, .unset, .unset] [(.int (2 : Int32)), (.int (3 : Int32))])) _
      refine XS.icmpYes X0.here hx rfl (pc0 := 31) (pc' := 40) rfl (hb hby at_31) rfl (feq ((by decide) : ¬ ((3 : Int32) = (2 : Int32)))).2 (by decide) (by decide) ?_
      show Steps p.tables e below (s₁.setTop (mkF m 40 #[iv p1, iv p2, iv p3, iv p4, iv (3 : Int32), .unset, .unset, .unset, .unset, .unset, .unset, .unset, .unset] [])) _
      refine XS.iloadN X0.here hx rfl (hb hby at_40) rfl ?_
      show Steps p.tables e below (s₁.setTop (mkF m 41 #[iv p1, iv p2, iv p3, iv p4, iv (3 : Int32), .unset, .unset, .unset, .unset, .unset, .unset, .unset, .unset] [(.int p2)])) _
      refine XS.istore X0.here hx rfl (hb hby at_41) rfl (l' := #[iv p1, iv p2, iv p3, iv p4, iv (3 : Int32), iv p2, .unset, .unset, .unset, .unset, .unset, .unset, .unset]) rfl ?_
      show Steps p.tables e below (s₁.setTop (mkF m 43 #[iv p1, iv p2, iv p3, iv p4, iv (3 : Int32), iv p2, .unset, .unset, .unset, .unset, .unset, .unset, .unset] [])) _
      refine XS.iconst X0.here hx rfl (hb hby at_43) ?_
      show Steps p.tables e below (s₁.setTop (mkF m 44 #[iv p1, iv p2, iv p3, iv p4, iv (3 : Int32), iv p2, .unset, .unset, .unset, .unset, .unset, .unset, .unset] [(.int (2 : Int32))])) _
      exact k
    obtain ⟨T152, h152, c152, X152, e152, E152, A152, B152, st152⟩ := newPE X0 hx hZ (hw _ (List.mem_of_getElem? (i := 0) rfl)) e0 (g := (mkF m 44 #[iv p1, iv p2, iv p3, iv p4, iv (3 : Int32), iv p2, .unset, .unset, .unset, .unset, .unset, .unset, .unset] [(.int (2 : Int32))])) rfl (hb hby at_44) rfl (by decide) (cap := 2) (by decide) (by decide) (by decide) (by decide) (ad := "[C") (by decide)
    obtain ⟨b152, g152⟩ : ∃ z, z = h0.size := ⟨_, rfl⟩
    rw [← g152] at A152 B152 st152
    have O152 := O0.ext E152
    have v152 : Arv Z h152 b152 c152 .char (2 : Int32) [(.int (0 : Int32)), (.int (0 : Int32))] (.int (0 : Int32)) := (Arv.new A152 (by decide)).pad (pad_rep [] (.int (0 : Int32)) 2)
    have k153 : Way p e below S0 T152 (mkF m 46 #[iv p1, iv p2, iv p3, iv p4, iv (3 : Int32), iv p2, .unset, .unset, .unset, .unset, .unset, .unset, .unset] [(.ref b152)]) := fun t k => k151 t (st152 _ k)
    have k154 : Way p e below S0 T152 (mkF m 54 #[iv p1, iv p2, iv p3, iv p4, iv (3 : Int32), iv p2, .unset, .unset, .unset, .unset, .unset, .unset, .unset] [(.int ((p3 &&& (255 : Int32)).toUInt32.toUInt16.toUInt32.toInt32)), (.int (0 : Int32)), (.ref b152), (.ref b152)]) := by
      intro t k
      refine k153 t ?_
      refine XS.dup X152.here hx rfl (hb hby at_46) rfl rfl ?_
      show Steps p.tables e below (T152.setTop (mkF m 47 #[iv p1, iv p2, iv p3, iv p4, iv (3 : Int32), iv p2, .unset, .unset, .unset, .unset, .unset, .unset, .unset] [(.ref b152), (.ref b152)])) _
      refine XS.iconst X152.here hx rfl (hb hby at_47) ?_
      show Steps p.tables e below (T152.setTop (mkF m 48 #[iv p1, iv p2, iv p3, iv p4, iv (3 : Int32), iv p2, .unset, .unset, .unset, .unset, .unset, .unset, .unset] [(.int (0 : Int32)), (.ref b152), (.ref b152)])) _
      refine XS.iloadN X152.here hx rfl (hb hby at_48) rfl ?_
      show Steps p.tables e below (T152.setTop (mkF m 49 #[iv p1, iv p2, iv p3, iv p4, iv (3 : Int32), iv p2, .unset, .unset, .unset, .unset, .unset, .unset, .unset] [(.int p3), (.int (0 : Int32)), (.ref b152), (.ref b152)])) _
      refine XS.sipush X152.here hx rfl (hb hby at_49) ?_
      show Steps p.tables e below (T152.setTop (mkF m 52 #[iv p1, iv p2, iv p3, iv p4, iv (3 : Int32), iv p2, .unset, .unset, .unset, .unset, .unset, .unset, .unset] [(.int (255 : Int32)), (.int p3), (.int (0 : Int32)), (.ref b152), (.ref b152)])) _
      refine XS.iand X152.here hx rfl (hb hby at_52) rfl ?_
      show Steps p.tables e below (T152.setTop (mkF m 53 #[iv p1, iv p2, iv p3, iv p4, iv (3 : Int32), iv p2, .unset, .unset, .unset, .unset, .unset, .unset, .unset] [(.int (p3 &&& (255 : Int32))), (.int (0 : Int32)), (.ref b152), (.ref b152)])) _
      refine XS.i2c X152.here hx rfl (hb hby at_53) rfl ?_
      show Steps p.tables e below (T152.setTop (mkF m 54 #[iv p1, iv p2, iv p3, iv p4, iv (3 : Int32), iv p2, .unset, .unset, .unset, .unset, .unset, .unset, .unset] [(.int ((p3 &&& (255 : Int32)).toUInt32.toUInt16.toUInt32.toInt32)), (.int (0 : Int32)), (.ref b152), (.ref b152)])) _
      exact k
    obtain ⟨cl155, Ar155, qc155, S155, M155, U155, G155⟩ := id (v152)
    have hin155 : ¬ ((0 : Int32) < 0 ∨ cl155.slots.size ≤ ((0 : Int32)).toNatClampNeg) := inb_of S155 ⟨by decide, by decide⟩
    obtain ⟨T155, h155, X155, e155, W155, st155⟩ := stC X152 hx hZ e152 Ar155 (j := (0 : Int32)) hin155 (g := (mkF m 54 #[iv p1, iv p2, iv p3, iv p4, iv (3 : Int32), iv p2, .unset, .unset, .unset, .unset, .unset, .unset, .unset] [(.int ((p3 &&& (255 : Int32)).toUInt32.toUInt16.toUInt32.toInt32)), (.int (0 : Int32)), (.ref b152), (.ref b152)])) rfl rfl (hb hby at_54)
    have ge156 : n0 ≤ b152 := Nat.le_trans (own_old O0) (Nat.le_of_eq g152.symm)
    have O155 := O152.wr W155 ge156
    have N155 := Fr.snoc X155 N0 ge156
    have va155 : Arv Z h155 b152 c152 .char (2 : Int32) [(.int (((p3 &&& (255 : Int32)).toUInt32.toUInt16.toUInt32.toInt32).toUInt32.toUInt16.toUInt32.toInt32)), (.int (0 : Int32))] (.int (0 : Int32)) := Arv.set Ar155 qc155 S155 M155 U155 G155 (fits_nar_char _) W155 0 rfl (Nat.le_of_ble_eq_true rfl)
    have k157 : Way p e below S0 T155 (mkF m 55 #[iv p1, iv p2, iv p3, iv p4, iv (3 : Int32), iv p2, .unset, .unset, .unset, .unset, .unset, .unset, .unset] [(.ref b152)]) := fun t k => k154 t (st155 _ k)
    have k158 : Way p e below S0 T155 (mkF m 63 #[iv p1, iv p2, iv p3, iv p4, iv (3 : Int32), iv p2, .unset, .unset, .unset, .unset, .unset, .unset, .unset] [(.int ((p4 &&& (255 : Int32)).toUInt32.toUInt16.toUInt32.toInt32)), (.int (1 : Int32)), (.ref b152), (.ref b152)]) := by
      intro t k
      refine k157 t ?_
      refine XS.dup X155.here hx rfl (hb hby at_55) rfl rfl ?_
      show Steps p.tables e below (T155.setTop (mkF m 56 #[iv p1, iv p2, iv p3, iv p4, iv (3 : Int32), iv p2, .unset, .unset, .unset, .unset, .unset, .unset, .unset] [(.ref b152), (.ref b152)])) _
      refine XS.iconst X155.here hx rfl (hb hby at_56) ?_
      show Steps p.tables e below (T155.setTop (mkF m 57 #[iv p1, iv p2, iv p3, iv p4, iv (3 : Int32), iv p2, .unset, .unset, .unset, .unset, .unset, .unset, .unset] [(.int (1 : Int32)), (.ref b152), (.ref b152)])) _
      refine XS.iloadN X155.here hx rfl (hb hby at_57) rfl ?_
      show Steps p.tables e below (T155.setTop (mkF m 58 #[iv p1, iv p2, iv p3, iv p4, iv (3 : Int32), iv p2, .unset, .unset, .unset, .unset, .unset, .unset, .unset] [(.int p4), (.int (1 : Int32)), (.ref b152), (.ref b152)])) _
      refine XS.sipush X155.here hx rfl (hb hby at_58) ?_
      show Steps p.tables e below (T155.setTop (mkF m 61 #[iv p1, iv p2, iv p3, iv p4, iv (3 : Int32), iv p2, .unset, .unset, .unset, .unset, .unset, .unset, .unset] [(.int (255 : Int32)), (.int p4), (.int (1 : Int32)), (.ref b152), (.ref b152)])) _
      refine XS.iand X155.here hx rfl (hb hby at_61) rfl ?_
      show Steps p.tables e below (T155.setTop (mkF m 62 #[iv p1, iv p2, iv p3, iv p4, iv (3 : Int32), iv p2, .unset, .unset, .unset, .unset, .unset, .unset, .unset] [(.int (p4 &&& (255 : Int32))), (.int (1 : Int32)), (.ref b152), (.ref b152)])) _
      refine XS.i2c X155.here hx rfl (hb hby at_62) rfl ?_
      show Steps p.tables e below (T155.setTop (mkF m 63 #[iv p1, iv p2, iv p3, iv p4, iv (3 : Int32), iv p2, .unset, .unset, .unset, .unset, .unset, .unset, .unset] [(.int ((p4 &&& (255 : Int32)).toUInt32.toUInt16.toUInt32.toInt32)), (.int (1 : Int32)), (.ref b152), (.ref b152)])) _
      exact k
    obtain ⟨cl159, Ar159, qc159, S159, M159, U159, G159⟩ := id (va155)
    have hin159 : ¬ ((1 : Int32) < 0 ∨ cl159.slots.size ≤ ((1 : Int32)).toNatClampNeg) := inb_of S159 ⟨by decide, by decide⟩
    obtain ⟨T159, h159, X159, e159, W159, st159⟩ := stC X155 hx hZ e155 Ar159 (j := (1 : Int32)) hin159 (g := (mkF m 63 #[iv p1, iv p2, iv p3, iv p4, iv (3 : Int32), iv p2, .unset, .unset, .unset, .unset, .unset, .unset, .unset] [(.int ((p4 &&& (255 : Int32)).toUInt32.toUInt16.toUInt32.toInt32)), (.int (1 : Int32)), (.ref b152), (.ref b152)])) rfl rfl (hb hby at_63)
    have O159 := O155.wr W159 ge156
    have N159 := Fr.snoc X159 N155 ge156
    have va159 : Arv Z h159 b152 c152 .char (2 : Int32) [(.int (((p3 &&& (255 : Int32)).toUInt32.toUInt16.toUInt32.toInt32).toUInt32.toUInt16.toUInt32.toInt32)), (.int (((p4 &&& (255 : Int32)).toUInt32.toUInt16.toUInt32.toInt32).toUInt32.toUInt16.toUInt32.toInt32))] (.int (0 : Int32)) := Arv.set Ar159 qc159 S159 M159 U159 G159 (fits_nar_char _) W159 1 rfl (Nat.le_of_ble_eq_true rfl)
    have k160 : Way p e below S0 T159 (mkF m 64 #[iv p1, iv p2, iv p3, iv p4, iv (3 : Int32), iv p2, .unset, .unset, .unset, .unset, .unset, .unset, .unset] [(.ref b152)]) := fun t k => k158 t (st159 _ k)
    have k161 : Way p e below S0 T159 (mkF m 66 #[iv p1, iv p2, iv p3, iv p4, iv (3 : Int32), iv p2, rv b152, .unset, .unset, .unset, .unset, .unset, .unset] []) := by
      intro t k
      refine k160 t ?_
      refine XS.astore X159.here hx rfl (hb hby at_64) rfl rfl (l' := #[iv p1, iv p2, iv p3, iv p4, iv (3 : Int32), iv p2, rv b152, .unset, .unset, .unset, .unset, .unset, .unset]) rfl ?_
      show Steps p.tables e below (T159.setTop (mkF m 66 #[iv p1, iv p2, iv p3, iv p4, iv (3 : Int32), iv p2, rv b152, .unset, .unset, .unset, .unset, .unset, .unset] [])) _
      exact k
    obtain ⟨T162, h162, X162, e162, E162, A162, D162, U162, st162⟩ := newO X159 hx hZ hown (hw _ (List.mem_of_getElem? (i := 1) rfl)) (hw _ (List.mem_of_getElem? (i := 2) rfl)) (hw _ (List.mem_of_getElem? (i := 3) rfl)) e159 (g := (mkF m 66 #[iv p1, iv p2, iv p3, iv p4, iv (3 : Int32), iv p2, rv b152, .unset, .unset, .unset, .unset, .unset, .unset] [])) rfl (hb hby at_66) (by decide) (by decide)
    obtain ⟨b162, g162⟩ : ∃ z, z = h159.size := ⟨_, rfl⟩
    rw [← g162] at A162 D162 U162 st162
    have O162 := O159.ext E162
    have i162_coder : Fld Z h162 b162 "java/lang/String" "coder" "B" (.int (0 : Int32)) := D162 (Or.inr (hw _ (List.mem_of_getElem? (i := 27) rfl))) (ty := .byte) (by decide)
    have i162_value : Fld Z h162 b162 "java/lang/String" "value" "[B" .null := D162 (Or.inr (hw _ (List.mem_of_getElem? (i := 29) rfl))) (ty := (.array .byte)) (by decide)
    have k163 : Way p e below S0 T162 (mkF m 69 #[iv p1, iv p2, iv p3, iv p4, iv (3 : Int32), iv p2, rv b152, .unset, .unset, .unset, .unset, .unset, .unset] [(.ref b162)]) := fun t k => k161 t (st162 _ k)
    have k164 : Way p e below S0 T162 (mkF m 72 #[iv p1, iv p2, iv p3, iv p4, iv (3 : Int32), iv p2, rv b152, .unset, .unset, .unset, .unset, .unset, .unset] [(.ref b152), (.ref b162), (.ref b162)]) := by
      intro t k
      refine k163 t ?_
      refine XS.dup X162.here hx rfl (hb hby at_69) rfl rfl ?_
      show Steps p.tables e below (T162.setTop (mkF m 70 #[iv p1, iv p2, iv p3, iv p4, iv (3 : Int32), iv p2, rv b152, .unset, .unset, .unset, .unset, .unset, .unset] [(.ref b162), (.ref b162)])) _
      refine XS.aload X162.here hx rfl (hb hby at_70) rfl rfl ?_
      show Steps p.tables e below (T162.setTop (mkF m 72 #[iv p1, iv p2, iv p3, iv p4, iv (3 : Int32), iv p2, rv b152, .unset, .unset, .unset, .unset, .unset, .unset] [(.ref b152), (.ref b162), (.ref b162)])) _
      exact k
    have ge165 : n0 ≤ b162 := Nat.le_trans (own_old O159) (Nat.le_of_eq g162.symm)
    have f166 : Arv Z h162 b152 c152 .char (2 : Int32) [(.int (((p3 &&& (255 : Int32)).toUInt32.toUInt16.toUInt32.toInt32).toUInt32.toUInt16.toUInt32.toInt32)), (.int (((p4 &&& (255 : Int32)).toUInt32.toUInt16.toUInt32.toInt32).toUInt32.toUInt16.toUInt32.toInt32))] (.int (0 : Int32)) := (va159.ext E162)
    obtain ⟨_, _, ⟨T167, L167, kk167, nn167⟩, -, X167, ⟨Lc167, hQ167, l167, y167, z167⟩, st167⟩ := X162.specialBack hx (y := (⟨"java/lang/String", "<init>", "([C)V"⟩ : MethodName)) rfl hown (mvT hZ (hw _ (List.mem_of_getElem? (i := 4) rfl))) (mvT hZ (hw _ (List.mem_of_getElem? (i := 5) rfl))) (mvT hZ (hw _ (List.mem_of_getElem? (i := 6) rfl))) (by decide) (backOf (W := 1) (sinit_2 l Z a0 hw [] wCS w_US w_SS G b162 b152 c152 (((p3 &&& (255 : Int32)).toUInt32.toUInt16.toUInt32.toInt32).toUInt32.toUInt16.toUInt32.toInt32) (((p4 &&& (255 : Int32)).toUInt32.toUInt16.toUInt32.toInt32).toUInt32.toUInt16.toUInt32.toInt32) h162 n0 O162 (A162 : Exa Z h162 b162 "java/lang/String") (i162_value : Fld Z h162 b162 "java/lang/String" "value" "[B" .null) (i162_coder : Fld Z h162 b162 "java/lang/String" "coder" "B" (.int (0 : Int32))) (ge165 : n0 ≤ b162) ((Ne.symm (Nat.ne_of_lt (Nat.lt_of_lt_of_le ((B152.wr W155).wr W159).lt (Nat.le_of_eq g162.symm)))) : b162 ≠ b152) (f166 : Arv Z h162 b152 c152 .char (2 : Int32) [(.int (((p3 &&& (255 : Int32)).toUInt32.toUInt16.toUInt32.toInt32).toUInt32.toUInt16.toUInt32.toInt32)), (.int (((p4 &&& (255 : Int32)).toUInt32.toUInt16.toUInt32.toInt32).toUInt32.toUInt16.toUInt32.toInt32))] (.int (0 : Int32))) (own_chr _ : ¬ ((255 : Int32) < (((p3 &&& (255 : Int32)).toUInt32.toUInt16.toUInt32.toInt32).toUInt32.toUInt16.toUInt32.toInt32))) (own_chr _ : ¬ ((255 : Int32) < (((p4 &&& (255 : Int32)).toUInt32.toUInt16.toUInt32.toInt32).toUInt32.toUInt16.toUInt32.toInt32)))) hZ (hw _ (List.mem_of_getElem? (i := 6) rfl)) (hw _ (List.mem_of_getElem? (i := 3) rfl)) (by decide) (by decide)) (g := (mkF m 72 #[iv p1, iv p2, iv p3, iv p4, iv (3 : Int32), iv p2, rv b152, .unset, .unset, .unset, .unset, .unset, .unset] [(.ref b152), (.ref b162), (.ref b162)])) rfl (by rw [hml]; rfl) (Steps.refl _) (a := b162) (argsL := [(.ref b152)]) (rest := [(.ref b162)]) (lenOf pd_6 rfl) rfl (by show 2 * 0 + _ ≤ _; exact Nat.le_of_eq rfl) (hb hby at_72) (fun _ _ => ⟨rfl, e162, (by decide : 2 + 1 ≤ _), (by decide : 6 + 2 ≤ _)⟩)
    dsimp only [Pt.U, Pt.locs, Pt.cells, Pt.slots] at X167 l167 y167 z167 st167 hQ167
    subst l167 y167 z167
    obtain ⟨d1_167, kb_167, rfl, Nq167, Kq167, po167_0, po167_1, po167_2, po167_3, po167_4, po167_5⟩ := hQ167
    have N167 := Fr.app N159 Nq167
    have O167 := O162.keep Kq167 (allS ge165 all0)
    have k168 : Way p e below S0 T167 (mkF m 75 #[iv p1, iv p2, iv p3, iv p4, iv (3 : Int32), iv p2, rv b152, .unset, .unset, .unset, .unset, .unset, .unset] [(.ref b162)]) := fun t k => k164 t (st167.trans k)
    have k170 : Way p e below S0 T167 (mkF m 80 #[iv p1, iv p2, iv p3, iv p4, iv (3 : Int32), iv p2, rv b152, rv b162, .unset, .unset, .unset, .unset, .unset] [(.int (p1 &&& (4 : Int32)))]) := by
      intro t k
      refine k168 t ?_
      refine XS.astore X167.here hx rfl (hb hby at_75) rfl rfl (l' := #[iv p1, iv p2, iv p3, iv p4, iv (3 : Int32), iv p2, rv b152, rv b162, .unset, .unset, .unset, .unset, .unset]) rfl ?_
      show Steps p.tables e below (T167.setTop (mkF m 77 #[iv p1, iv p2, iv p3, iv p4, iv (3 : Int32), iv p2, rv b152, rv b162, .unset, .unset, .unset, .unset, .unset] [])) _
      refine XS.iloadN X167.here hx rfl (hb hby at_77) rfl ?_
      show Steps p.tables e below (T167.setTop (mkF m 78 #[iv p1, iv p2, iv p3, iv p4, iv (3 : Int32), iv p2, rv b152, rv b162, .unset, .unset, .unset, .unset, .unset] [(.int p1)])) _
      refine XS.iconst X167.here hx rfl (hb hby at_78) ?_
      show Steps p.tables e below (T167.setTop (mkF m 79 #[iv p1, iv p2, iv p3, iv p4, iv (3 : Int32), iv p2, rv b152, rv b162, .unset, .unset, .unset, .unset, .unset] [(.int (4 : Int32)), (.int p1)])) _
      refine XS.iand X167.here hx rfl (hb hby at_79) rfl ?_
      show Steps p.tables e below (T167.setTop (mkF m 80 #[iv p1, iv p2, iv p3, iv p4, iv (3 : Int32), iv p2, rv b152, rv b162, .unset, .unset, .unset, .unset, .unset] [(.int (p1 &&& (4 : Int32)))])) _
      exact k
    by_cases hc169 : (p1 &&& (4 : Int32)) = (0 : Int32)
    · have k171 : Way p e below S0 T167 (mkF m 114 #[iv p1, iv p2, iv p3, iv p4, iv (3 : Int32), iv p2, rv b152, rv b162, iv (0 : Int32), .unset, .unset, .unset, .unset] []) := by
        intro t k
        refine k170 t ?_
        refine XS.ifYes X167.here hx rfl (pc0 := 80) (pc' := 87) rfl (hb hby at_80) rfl ((if0 _ _).trans (teq (hc169 : (p1 &&& (4 : Int32)) = (0 : Int32))).1) (by decide) (by decide) ?_
        show Steps p.tables e below (T167.setTop (mkF m 87 #[iv p1, iv p2, iv p3, iv p4, iv (3 : Int32), iv p2, rv b152, rv b162, .unset, .unset, .unset, .unset, .unset] [])) _
        refine XS.iconst X167.here hx rfl (hb hby at_87) ?_
        show Steps p.tables e below (T167.setTop (mkF m 88 #[iv p1, iv p2, iv p3, iv p4, iv (3 : Int32), iv p2, rv b152, rv b162, .unset, .unset, .unset, .unset, .unset] [(.int (0 : Int32))])) _
        refine XS.istore X167.here hx rfl (hb hby at_88) rfl (l' := #[iv p1, iv p2, iv p3, iv p4, iv (3 : Int32), iv p2, rv b152, rv b162, iv (0 : Int32), .unset, .unset, .unset, .unset]) rfl ?_
        show Steps p.tables e below (T167.setTop (mkF m 90 #[iv p1, iv p2, iv p3, iv p4, iv (3 : Int32), iv p2, rv b152, rv b162, iv (0 : Int32), .unset, .unset, .unset, .unset] [])) _
        refine XS.iload X167.here hx rfl (hb hby at_90) rfl ?_
        show Steps p.tables e below (T167.setTop (mkF m 92 #[iv p1, iv p2, iv p3, iv p4, iv (3 : Int32), iv p2, rv b152, rv b162, iv (0 : Int32), .unset, .unset, .unset, .unset] [(.int (0 : Int32))])) _
        refine XS.ifYes X167.here hx rfl (pc0 := 92) (pc' := 114) rfl (hb hby at_92) rfl ((if0 _ _).trans (teq ((by decide) : (0 : Int32) = (0 : Int32))).1) (by decide) (by decide) ?_
        show Steps p.tables e below (T167.setTop (mkF m 114 #[iv p1, iv p2, iv p3, iv p4, iv (3 : Int32), iv p2, rv b152, rv b162, iv (0 : Int32), .unset, .unset, .unset, .unset] [])) _
        exact k
      obtain ⟨T172, h172, X172, e172, E172, A172, D172, U172, st172⟩ := newO X167 hx hZ hown (hw _ (List.mem_of_getElem? (i := 30) rfl)) (hw _ (List.mem_of_getElem? (i := 31) rfl)) (hw _ (List.mem_of_getElem? (i := 32) rfl)) rfl (g := (mkF m 114 #[iv p1, iv p2, iv p3, iv p4, iv (3 : Int32), iv p2, rv b152, rv b162, iv (0 : Int32), .unset, .unset, .unset, .unset] [])) rfl (hb hby at_114) (by decide) (by decide)
      obtain ⟨b172, g172⟩ : ∃ z, z = T167.heap.size := ⟨_, rfl⟩
      rw [← g172] at A172 D172 U172 st172
      have O172 := O167.ext E172
      have i172_cause : Fld Z h172 b172 "java/lang/Throwable" "cause" "Ljava/lang/Throwable;" .null := D172 (Or.inl (hw _ (List.mem_of_getElem? (i := 55) rfl))) (ty := (.object "java/lang/Throwable")) (by decide)
      have i172_stackTrace : Fld Z h172 b172 "java/lang/Throwable" "stackTrace" "[Ljava/lang/StackTraceElement;" .null := D172 (Or.inl (hw _ (List.mem_of_getElem? (i := 58) rfl))) (ty := (.array (.object "java/lang/StackTraceElement"))) (by decide)
      have i172_suppressedExceptions : Fld Z h172 b172 "java/lang/Throwable" "suppressedExceptions" "Ljava/util/List;" .null := D172 (Or.inl (hw _ (List.mem_of_getElem? (i := 61) rfl))) (ty := (.object "java/util/List")) (by decide)
      have i172_detailMessage : Fld Z h172 b172 "java/lang/Throwable" "detailMessage" "Ljava/lang/String;" .null := D172 (Or.inl (hw _ (List.mem_of_getElem? (i := 85) rfl))) (ty := (.object "java/lang/String")) (by decide)
      have i172_backtrace : Fld Z h172 b172 "java/lang/Throwable" "backtrace" "Ljava/lang/Object;" .null := D172 (Or.inl (hw _ (List.mem_of_getElem? (i := 86) rfl))) (ty := (.object "java/lang/Object")) (by decide)
      have i172_depth : Fld Z h172 b172 "java/lang/Throwable" "depth" "I" (.int (0 : Int32)) := D172 (Or.inl (hw _ (List.mem_of_getElem? (i := 87) rfl))) (ty := .int) (by decide)
      have i172_status : Fld Z h172 b172 "caseward/web/RequestHead$Malformed" "status" "I" (.int (0 : Int32)) := D172 (Or.inr (hw _ (List.mem_of_getElem? (i := 91) rfl))) (ty := .int) (by decide)
      have k173 : Way p e below S0 T172 (mkF m 117 #[iv p1, iv p2, iv p3, iv p4, iv (3 : Int32), iv p2, rv b152, rv b162, iv (0 : Int32), .unset, .unset, .unset, .unset] [(.ref b172)]) := fun t k => k171 t (st172 _ k)
      have k174 : Way p e below S0 T172 (mkF m 122 #[iv p1, iv p2, iv p3, iv p4, iv (3 : Int32), iv p2, rv b152, rv b162, iv (0 : Int32), .unset, .unset, .unset, .unset] [(.ref b162), (.int p2), (.ref b172), (.ref b172)]) := by
        intro t k
        refine k173 t ?_
        refine XS.dup X172.here hx rfl (hb hby at_117) rfl rfl ?_
        show Steps p.tables e below (T172.setTop (mkF m 118 #[iv p1, iv p2, iv p3, iv p4, iv (3 : Int32), iv p2, rv b152, rv b162, iv (0 : Int32), .unset, .unset, .unset, .unset] [(.ref b172), (.ref b172)])) _
        refine XS.iload X172.here hx rfl (hb hby at_118) rfl ?_
        show Steps p.tables e below (T172.setTop (mkF m 120 #[iv p1, iv p2, iv p3, iv p4, iv (3 : Int32), iv p2, rv b152, rv b162, iv (0 : Int32), .unset, .unset, .unset, .unset] [(.int p2), (.ref b172), (.ref b172)])) _
        refine XS.aload X172.here hx rfl (hb hby at_120) rfl rfl ?_
        show Steps p.tables e below (T172.setTop (mkF m 122 #[iv p1, iv p2, iv p3, iv p4, iv (3 : Int32), iv p2, rv b152, rv b162, iv (0 : Int32), .unset, .unset, .unset, .unset] [(.ref b162), (.int p2), (.ref b172), (.ref b172)])) _
        exact k
      have ge175 : n0 ≤ b172 := Nat.le_trans (own_old O167) (Nat.le_of_eq g172.symm)
      obtain ⟨_, _, ⟨T176, L176, kk176, nn176⟩, -, X176, ⟨Lc176, hQ176, l176, y176, z176⟩, st176⟩ := X172.specialBack hx (y := (⟨"caseward/web/RequestHead$Malformed", "<init>", "(ILjava/lang/String;)V"⟩ : MethodName)) rfl hown (mvT hZ (hw _ (List.mem_of_getElem? (i := 33) rfl))) (mvT hZ (hw _ (List.mem_of_getElem? (i := 34) rfl))) (mvT hZ (hw _ (List.mem_of_getElem? (i := 35) rfl))) (by decide) (backOfKL (W := 1) (mi l Z a0 hw [] wCS w_US w_SS G b172 p2 b162 h172 n0 O172 (A172 : Exa Z h172 b172 "caseward/web/RequestHead$Malformed") (i172_cause : Fld Z h172 b172 "java/lang/Throwable" "cause" "Ljava/lang/Throwable;" .null) (i172_stackTrace : Fld Z h172 b172 "java/lang/Throwable" "stackTrace" "[Ljava/lang/StackTraceElement;" .null) (i172_suppressedExceptions : Fld Z h172 b172 "java/lang/Throwable" "suppressedExceptions" "Ljava/util/List;" .null) (i172_backtrace : Fld Z h172 b172 "java/lang/Throwable" "backtrace" "Ljava/lang/Object;" .null) (i172_detailMessage : Fld Z h172 b172 "java/lang/Throwable" "detailMessage" "Ljava/lang/String;" .null) (i172_status : Fld Z h172 b172 "caseward/web/RequestHead$Malformed" "status" "I" (.int (0 : Int32))) (U172 : Unt h172 b172) (ge175 : n0 ≤ b172) (htr : l.stackTraces = true)) hZ (hw _ (List.mem_of_getElem? (i := 35) rfl)) (hw _ (List.mem_of_getElem? (i := 32) rfl)) (by decide) (by decide) hTK hBelow) (g := (mkF m 122 #[iv p1, iv p2, iv p3, iv p4, iv (3 : Int32), iv p2, rv b152, rv b162, iv (0 : Int32), .unset, .unset, .unset, .unset] [(.ref b162), (.int p2), (.ref b172), (.ref b172)])) rfl (by rw [hml]; rfl) (Steps.refl _) (a := b172) (argsL := [(.int p2), (.ref b162)]) (rest := [(.ref b172)]) (lenOf pd_5 rfl) rfl (by show 2 * 0 + _ ≤ _; exact Nat.le_of_eq rfl) (hb hby at_122) (fun _ _ => ⟨rfl, e172, (by decide : 4 + 1 ≤ _), (by decide : 15 + 2752 ≤ _)⟩)
      dsimp only [Pt.U, Pt.locs, Pt.cells, Pt.slots] at X176 l176 y176 z176 st176 hQ176
      subst l176 y176 z176
      obtain ⟨rfl, Nq176, Kq176, po176_0, po176_1⟩ := hQ176
      have N176 := Fr.app N167 Nq176
      have O176 := O172.keep Kq176 (allS ge175 all0)
      have k177 : Way p e below S0 T176 (mkF m 125 #[iv p1, iv p2, iv p3, iv p4, iv (3 : Int32), iv p2, rv b152, rv b162, iv (0 : Int32), .unset, .unset, .unset, .unset] [(.ref b172)]) := fun t k => k174 t (st176.trans k)
      have k179 : Way p e below S0 T176 (mkF m 133 #[iv p1, iv p2, iv p3, iv p4, iv (3 : Int32), iv p2, rv b152, rv b162, iv (0 : Int32), rv b172, iv p2, .unset, .unset] [(.ref b172)]) := by
        intro t k
        refine k177 t ?_
        refine XS.astore X176.here hx rfl (hb hby at_125) rfl rfl (l' := #[iv p1, iv p2, iv p3, iv p4, iv (3 : Int32), iv p2, rv b152, rv b162, iv (0 : Int32), rv b172, .unset, .unset, .unset]) rfl ?_
        show Steps p.tables e below (T176.setTop (mkF m 127 #[iv p1, iv p2, iv p3, iv p4, iv (3 : Int32), iv p2, rv b152, rv b162, iv (0 : Int32), rv b172, .unset, .unset, .unset] [])) _
        refine XS.iload X176.here hx rfl (hb hby at_127) rfl ?_
        show Steps p.tables e below (T176.setTop (mkF m 129 #[iv p1, iv p2, iv p3, iv p4, iv (3 : Int32), iv p2, rv b152, rv b162, iv (0 : Int32), rv b172, .unset, .unset, .unset] [(.int p2)])) _
        refine XS.istore X176.here hx rfl (hb hby at_129) rfl (l' := #[iv p1, iv p2, iv p3, iv p4, iv (3 : Int32), iv p2, rv b152, rv b162, iv (0 : Int32), rv b172, iv p2, .unset, .unset]) rfl ?_
        show Steps p.tables e below (T176.setTop (mkF m 131 #[iv p1, iv p2, iv p3, iv p4, iv (3 : Int32), iv p2, rv b152, rv b162, iv (0 : Int32), rv b172, iv p2, .unset, .unset] [])) _
        refine XS.aload X176.here hx rfl (hb hby at_131) rfl rfl ?_
        show Steps p.tables e below (T176.setTop (mkF m 133 #[iv p1, iv p2, iv p3, iv p4, iv (3 : Int32), iv p2, rv b152, rv b162, iv (0 : Int32), rv b172, iv p2, .unset, .unset] [(.ref b172)])) _
        exact k
      by_cases hc178 : p2 = (503 : Int32)
      · obtain ⟨cq180, kq180, qq180a, qq180b, qq180c⟩ := isOf hZ rfl po176_0
        obtain ⟨_, _, ⟨T180, L180, kk180, nn180⟩, -, X180, ⟨Lc180, hQ180, l180, y180, z180⟩, st180⟩ := X176.virtualBack hx (y := (⟨"caseward/web/RequestHead$Malformed", "isForWantOfRoom", "()Z"⟩ : MethodName)) (z := (⟨"caseward/web/RequestHead$Malformed", "isForWantOfRoom", "()Z"⟩ : MethodName)) hown (mvT hZ (hw _ (List.mem_of_getElem? (i := 92) rfl))) (mvT hZ (hw _ (List.mem_of_getElem? (i := 93) rfl))) (notFace_of_selects (args := #[]) (mvT hZ (hw _ (List.mem_of_getElem? (i := 95) rfl)))) (mvT hZ (hw _ (List.mem_of_getElem? (i := 95) rfl))) (mvT hZ (hw _ (List.mem_of_getElem? (i := 94) rfl))) (by decide) (backOf (W := 0) (isT l Z a0 hw [] wCS w_US w_SS G b172 p2 T176.heap n0 O176 (po176_1 : Fld Z T176.heap b172 "caseward/web/RequestHead$Malformed" "status" "I" (.int p2)) (hc178 : p2 = (503 : Int32))) hZ (hw _ (List.mem_of_getElem? (i := 96) rfl)) (hw _ (List.mem_of_getElem? (i := 32) rfl)) (by decide) (by decide)) qq180a qq180c (g := (mkF m 133 #[iv p1, iv p2, iv p3, iv p4, iv (3 : Int32), iv p2, rv b152, rv b162, iv (0 : Int32), rv b172, iv p2, .unset, .unset] [(.ref b172)])) rfl (by rw [hml]; rfl) (Steps.refl _) (argsL := []) (rest := []) (lenOf pd_7 rfl) rfl (by show 2 * 0 + _ ≤ _; exact Nat.le_of_eq rfl) (hb hby at_133) (fun _ _ => ⟨rfl, rfl, (by decide : 5 + 0 ≤ _), (by decide : 2767 + 0 ≤ _)⟩)
        dsimp only [Pt.U, Pt.locs, Pt.cells, Pt.slots] at X180 l180 y180 z180 st180 hQ180
        subst l180 y180 z180
        obtain ⟨rfl, Nq180, e180⟩ := hQ180
        have N180 := Fr.app N176 Nq180
        have k181 : Way p e below S0 T180 (mkF m 136 #[iv p1, iv p2, iv p3, iv p4, iv (3 : Int32), iv p2, rv b152, rv b162, iv (0 : Int32), rv b172, iv p2, .unset, .unset] [(.int (1 : Int32))]) := fun t k => k179 t (st180.trans k)
        have k182 : Way p e below S0 T180 (mkF m 162 #[iv p1, iv p2, iv p3, iv p4, iv (3 : Int32), iv p2, rv b152, rv b162, iv (0 : Int32), rv b172, iv p2, iv (1 : Int32), iv (1 : Int32)] [(.ref b172)]) := by
          intro t k
          refine k181 t ?_
          refine XS.istore X180.here hx rfl (hb hby at_136) rfl (l' := #[iv p1, iv p2, iv p3, iv p4, iv (3 : Int32), iv p2, rv b152, rv b162, iv (0 : Int32), rv b172, iv p2, iv (1 : Int32), .unset]) rfl ?_
          show Steps p.tables e below (T180.setTop (mkF m 138 #[iv p1, iv p2, iv p3, iv p4, iv (3 : Int32), iv p2, rv b152, rv b162, iv (0 : Int32), rv b172, iv p2, iv (1 : Int32), .unset] [])) _
          refine XS.iload X180.here hx rfl (hb hby at_138) rfl ?_
          show Steps p.tables e below (T180.setTop (mkF m 140 #[iv p1, iv p2, iv p3, iv p4, iv (3 : Int32), iv p2, rv b152, rv b162, iv (0 : Int32), rv b172, iv p2, iv (1 : Int32), .unset] [(.int p2)])) _
          refine XS.sipush X180.here hx rfl (hb hby at_140) ?_
          show Steps p.tables e below (T180.setTop (mkF m 143 #[iv p1, iv p2, iv p3, iv p4, iv (3 : Int32), iv p2, rv b152, rv b162, iv (0 : Int32), rv b172, iv p2, iv (1 : Int32), .unset] [(.int (503 : Int32)), (.int p2)])) _
          refine XS.icmpNo X180.here hx rfl (hb hby at_143) rfl (teq (hc178 : p2 = (503 : Int32))).2 ?_
          show Steps p.tables e below (T180.setTop (mkF m 146 #[iv p1, iv p2, iv p3, iv p4, iv (3 : Int32), iv p2, rv b152, rv b162, iv (0 : Int32), rv b172, iv p2, iv (1 : Int32), .unset] [])) _
          refine XS.iconst X180.here hx rfl (hb hby at_146) ?_
          show Steps p.tables e below (T180.setTop (mkF m 147 #[iv p1, iv p2, iv p3, iv p4, iv (3 : Int32), iv p2, rv b152, rv b162, iv (0 : Int32), rv b172, iv p2, iv (1 : Int32), .unset] [(.int (1 : Int32))])) _
          refine XS.goto X180.here hx rfl (pc0 := 147) (pc' := 151) rfl (hb hby at_147) (by decide) (by decide) ?_
          show Steps p.tables e below (T180.setTop (mkF m 151 #[iv p1, iv p2, iv p3, iv p4, iv (3 : Int32), iv p2, rv b152, rv b162, iv (0 : Int32), rv b172, iv p2, iv (1 : Int32), .unset] [(.int (1 : Int32))])) _
          refine XS.istore X180.here hx rfl (hb hby at_151) rfl (l' := #[iv p1, iv p2, iv p3, iv p4, iv (3 : Int32), iv p2, rv b152, rv b162, iv (0 : Int32), rv b172, iv p2, iv (1 : Int32), iv (1 : Int32)]) rfl ?_
          show Steps p.tables e below (T180.setTop (mkF m 153 #[iv p1, iv p2, iv p3, iv p4, iv (3 : Int32), iv p2, rv b152, rv b162, iv (0 : Int32), rv b172, iv p2, iv (1 : Int32), iv (1 : Int32)] [])) _
          refine XS.iload X180.here hx rfl (hb hby at_153) rfl ?_
          show Steps p.tables e below (T180.setTop (mkF m 155 #[iv p1, iv p2, iv p3, iv p4, iv (3 : Int32), iv p2, rv b152, rv b162, iv (0 : Int32), rv b172, iv p2, iv (1 : Int32), iv (1 : Int32)] [(.int (1 : Int32))])) _
          refine XS.iload X180.here hx rfl (hb hby at_155) rfl ?_
          show Steps p.tables e below (T180.setTop (mkF m 157 #[iv p1, iv p2, iv p3, iv p4, iv (3 : Int32), iv p2, rv b152, rv b162, iv (0 : Int32), rv b172, iv p2, iv (1 : Int32), iv (1 : Int32)] [(.int (1 : Int32)), (.int (1 : Int32))])) _
          refine XS.icmpNo X180.here hx rfl (hb hby at_157) rfl (teq ((by decide) : (1 : Int32) = (1 : Int32))).2 ?_
          show Steps p.tables e below (T180.setTop (mkF m 160 #[iv p1, iv p2, iv p3, iv p4, iv (3 : Int32), iv p2, rv b152, rv b162, iv (0 : Int32), rv b172, iv p2, iv (1 : Int32), iv (1 : Int32)] [])) _
          refine XS.aload X180.here hx rfl (hb hby at_160) rfl rfl ?_
          show Steps p.tables e below (T180.setTop (mkF m 162 #[iv p1, iv p2, iv p3, iv p4, iv (3 : Int32), iv p2, rv b152, rv b162, iv (0 : Int32), rv b172, iv p2, iv (1 : Int32), iv (1 : Int32)] [(.ref b172)])) _
          exact k
        obtain ⟨cq183, kq183, qq183a, qq183b, qq183c⟩ := isOf hZ e180 po176_0
        obtain ⟨_, _, ⟨T183, L183, kk183, nn183⟩, -, X183, ⟨Lc183, hQ183, l183, y183, z183⟩, st183⟩ := X180.virtualBack hx (y := (⟨"caseward/web/RequestHead$Malformed", "status", "()I"⟩ : MethodName)) (z := (⟨"caseward/web/RequestHead$Malformed", "status", "()I"⟩ : MethodName)) hown (mvT hZ (hw _ (List.mem_of_getElem? (i := 97) rfl))) (mvT hZ (hw _ (List.mem_of_getElem? (i := 98) rfl))) (notFace_of_selects (args := #[]) (mvT hZ (hw _ (List.mem_of_getElem? (i := 100) rfl)))) (mvT hZ (hw _ (List.mem_of_getElem? (i := 100) rfl))) (mvT hZ (hw _ (List.mem_of_getElem? (i := 99) rfl))) (by decide) (backOf (W := 0) (stt l Z a0 hw [] wCS w_US w_SS G b172 p2 T176.heap n0 O176 (po176_1 : Fld Z T176.heap b172 "caseward/web/RequestHead$Malformed" "status" "I" (.int p2))) hZ (hw _ (List.mem_of_getElem? (i := 101) rfl)) (hw _ (List.mem_of_getElem? (i := 32) rfl)) (by decide) (by decide)) qq183a qq183c (g := (mkF m 162 #[iv p1, iv p2, iv p3, iv p4, iv (3 : Int32), iv p2, rv b152, rv b162, iv (0 : Int32), rv b172, iv p2, iv (1 : Int32), iv (1 : Int32)] [(.ref b172)])) rfl (by rw [hml]; rfl) (Steps.refl _) (argsL := []) (rest := []) (lenOf pd_8 rfl) rfl (by show 2 * 0 + _ ≤ _; exact Nat.le_of_eq rfl) (hb hby at_162) (fun _ _ => ⟨rfl, e180, (by decide : 5 + 0 ≤ _), (by decide : 2767 + 0 ≤ _)⟩)
        dsimp only [Pt.U, Pt.locs, Pt.cells, Pt.slots] at X183 l183 y183 z183 st183 hQ183
        subst l183 y183 z183
        obtain ⟨rfl, Nq183, e183⟩ := hQ183
        have N183 := Fr.app N180 Nq183
        have k184 : Way p e below S0 T183 (mkF m 165 #[iv p1, iv p2, iv p3, iv p4, iv (3 : Int32), iv p2, rv b152, rv b162, iv (0 : Int32), rv b172, iv p2, iv (1 : Int32), iv (1 : Int32)] [(.int p2)]) := fun t k => k182 t (st183.trans k)
        have k185 : Way p e below S0 T183 (mkF m 175 #[iv p1, iv p2, iv p3, iv p4, iv (3 : Int32), iv p2, rv b152, rv b162, iv (0 : Int32), rv b172, iv p2, iv (1 : Int32), iv (1 : Int32)] [(.int (1 : Int32))]) := by
          intro t k
          refine k184 t ?_
          refine XS.iload X183.here hx rfl (hb hby at_165) rfl ?_
          show Steps p.tables e below (T183.setTop (mkF m 167 #[iv p1, iv p2, iv p3, iv p4, iv (3 : Int32), iv p2, rv b152, rv b162, iv (0 : Int32), rv b172, iv p2, iv (1 : Int32), iv (1 : Int32)] [(.int p2), (.int p2)])) _
          refine XS.icmpNo X183.here hx rfl (hb hby at_167) rfl (teq (rfl : p2 = p2)).2 ?_
          show Steps p.tables e below (T183.setTop (mkF m 170 #[iv p1, iv p2, iv p3, iv p4, iv (3 : Int32), iv p2, rv b152, rv b162, iv (0 : Int32), rv b172, iv p2, iv (1 : Int32), iv (1 : Int32)] [])) _
          refine XS.iconst X183.here hx rfl (hb hby at_170) ?_
          show Steps p.tables e below (T183.setTop (mkF m 171 #[iv p1, iv p2, iv p3, iv p4, iv (3 : Int32), iv p2, rv b152, rv b162, iv (0 : Int32), rv b172, iv p2, iv (1 : Int32), iv (1 : Int32)] [(.int (1 : Int32))])) _
          refine XS.goto X183.here hx rfl (pc0 := 171) (pc' := 175) rfl (hb hby at_171) (by decide) (by decide) ?_
          show Steps p.tables e below (T183.setTop (mkF m 175 #[iv p1, iv p2, iv p3, iv p4, iv (3 : Int32), iv p2, rv b152, rv b162, iv (0 : Int32), rv b172, iv p2, iv (1 : Int32), iv (1 : Int32)] [(.int (1 : Int32))])) _
          exact k
        obtain ⟨fs, hr, hrun, hended, hW, hsame⟩ := X183.leave (v := some (.int (1 : Int32))) (fun h => by rw [Bd.returns] at h; cases h)
        refine ⟨_, _, k185 _ (retN X183 hx (t := .boolean) Bd.returns (by simp) (hb hby at_175) hr), hrun, hended, _, _, rfl, ?_, ⟨_, rfl⟩, hW, hsame.mono (by decide) (by decide)⟩
        show Q_law_met Z wCS w_US w_SS p1 p2 p3 p4 h0 n0 _ T183.heap _
        rw [e183]
        exact ⟨rfl, N183⟩
      · obtain ⟨cq186, kq186, qq186a, qq186b, qq186c⟩ := isOf hZ rfl po176_0
        obtain ⟨_, _, ⟨T186, L186, kk186, nn186⟩, -, X186, ⟨Lc186, hQ186, l186, y186, z186⟩, st186⟩ := X176.virtualBack hx (y := (⟨"caseward/web/RequestHead$Malformed", "isForWantOfRoom", "()Z"⟩ : MethodName)) (z := (⟨"caseward/web/RequestHead$Malformed", "isForWantOfRoom", "()Z"⟩ : MethodName)) hown (mvT hZ (hw _ (List.mem_of_getElem? (i := 92) rfl))) (mvT hZ (hw _ (List.mem_of_getElem? (i := 93) rfl))) (notFace_of_selects (args := #[]) (mvT hZ (hw _ (List.mem_of_getElem? (i := 95) rfl)))) (mvT hZ (hw _ (List.mem_of_getElem? (i := 95) rfl))) (mvT hZ (hw _ (List.mem_of_getElem? (i := 94) rfl))) (by decide) (backOf (W := 0) (isF l Z a0 hw [] wCS w_US w_SS G b172 p2 T176.heap n0 O176 (po176_1 : Fld Z T176.heap b172 "caseward/web/RequestHead$Malformed" "status" "I" (.int p2)) (hc178 : ¬ (p2 = (503 : Int32)))) hZ (hw _ (List.mem_of_getElem? (i := 96) rfl)) (hw _ (List.mem_of_getElem? (i := 32) rfl)) (by decide) (by decide)) qq186a qq186c (g := (mkF m 133 #[iv p1, iv p2, iv p3, iv p4, iv (3 : Int32), iv p2, rv b152, rv b162, iv (0 : Int32), rv b172, iv p2, .unset, .unset] [(.ref b172)])) rfl (by rw [hml]; rfl) (Steps.refl _) (argsL := []) (rest := []) (lenOf pd_7 rfl) rfl (by show 2 * 0 + _ ≤ _; exact Nat.le_of_eq rfl) (hb hby at_133) (fun _ _ => ⟨rfl, rfl, (by decide : 5 + 0 ≤ _), (by decide : 2767 + 0 ≤ _)⟩)
        dsimp only [Pt.U, Pt.locs, Pt.cells, Pt.slots] at X186 l186 y186 z186 st186 hQ186
        subst l186 y186 z186
        obtain ⟨rfl, Nq186, e186⟩ := hQ186
        have N186 := Fr.app N176 Nq186
        have k187 : Way p e below S0 T186 (mkF m 136 #[iv p1, iv p2, iv p3, iv p4, iv (3 : Int32), iv p2, rv b152, rv b162, iv (0 : Int32), rv b172, iv p2, .unset, .unset] [(.int (0 : Int32))]) := fun t k => k179 t (st186.trans k)
        have k188 : Way p e below S0 T186 (mkF m 162 #[iv p1, iv p2, iv p3, iv p4, iv (3 : Int32), iv p2, rv b152, rv b162, iv (0 : Int32), rv b172, iv p2, iv (0 : Int32), iv (0 : Int32)] [(.ref b172)]) := by
          intro t k
          refine k187 t ?_
          refine XS.istore X186.here hx rfl (hb hby at_136) rfl (l' := #[iv p1, iv p2, iv p3, iv p4, iv (3 : Int32), iv p2, rv b152, rv b162, iv (0 : Int32), rv b172, iv p2, iv (0 : Int32), .unset]) rfl ?_
          show Steps p.tables e below (T186.setTop (mkF m 138 #[iv p1, iv p2, iv p3, iv p4, iv (3 : Int32), iv p2, rv b152, rv b162, iv (0 : Int32), rv b172, iv p2, iv (0 : Int32), .unset] [])) _
          refine XS.iload X186.here hx rfl (hb hby at_138) rfl ?_
          show Steps p.tables e below (T186.setTop (mkF m 140 #[iv p1, iv p2, iv p3, iv p4, iv (3 : Int32), iv p2, rv b152, rv b162, iv (0 : Int32), rv b172, iv p2, iv (0 : Int32), .unset] [(.int p2)])) _
          refine XS.sipush X186.here hx rfl (hb hby at_140) ?_
          show Steps p.tables e below (T186.setTop (mkF m 143 #[iv p1, iv p2, iv p3, iv p4, iv (3 : Int32), iv p2, rv b152, rv b162, iv (0 : Int32), rv b172, iv p2, iv (0 : Int32), .unset] [(.int (503 : Int32)), (.int p2)])) _
          refine XS.icmpYes X186.here hx rfl (pc0 := 143) (pc' := 150) rfl (hb hby at_143) rfl (feq (hc178 : ¬ (p2 = (503 : Int32)))).2 (by decide) (by decide) ?_
          show Steps p.tables e below (T186.setTop (mkF m 150 #[iv p1, iv p2, iv p3, iv p4, iv (3 : Int32), iv p2, rv b152, rv b162, iv (0 : Int32), rv b172, iv p2, iv (0 : Int32), .unset] [])) _
          refine XS.iconst X186.here hx rfl (hb hby at_150) ?_
          show Steps p.tables e below (T186.setTop (mkF m 151 #[iv p1, iv p2, iv p3, iv p4, iv (3 : Int32), iv p2, rv b152, rv b162, iv (0 : Int32), rv b172, iv p2, iv (0 : Int32), .unset] [(.int (0 : Int32))])) _
          refine XS.istore X186.here hx rfl (hb hby at_151) rfl (l' := #[iv p1, iv p2, iv p3, iv p4, iv (3 : Int32), iv p2, rv b152, rv b162, iv (0 : Int32), rv b172, iv p2, iv (0 : Int32), iv (0 : Int32)]) rfl ?_
          show Steps p.tables e below (T186.setTop (mkF m 153 #[iv p1, iv p2, iv p3, iv p4, iv (3 : Int32), iv p2, rv b152, rv b162, iv (0 : Int32), rv b172, iv p2, iv (0 : Int32), iv (0 : Int32)] [])) _
          refine XS.iload X186.here hx rfl (hb hby at_153) rfl ?_
          show Steps p.tables e below (T186.setTop (mkF m 155 #[iv p1, iv p2, iv p3, iv p4, iv (3 : Int32), iv p2, rv b152, rv b162, iv (0 : Int32), rv b172, iv p2, iv (0 : Int32), iv (0 : Int32)] [(.int (0 : Int32))])) _
          refine XS.iload X186.here hx rfl (hb hby at_155) rfl ?_
          show Steps p.tables e below (T186.setTop (mkF m 157 #[iv p1, iv p2, iv p3, iv p4, iv (3 : Int32), iv p2, rv b152, rv b162, iv (0 : Int32), rv b172, iv p2, iv (0 : Int32), iv (0 : Int32)] [(.int (0 : Int32)), (.int (0 : Int32))])) _
          refine XS.icmpNo X186.here hx rfl (hb hby at_157) rfl (teq ((by decide) : (0 : Int32) = (0 : Int32))).2 ?_
          show Steps p.tables e below (T186.setTop (mkF m 160 #[iv p1, iv p2, iv p3, iv p4, iv (3 : Int32), iv p2, rv b152, rv b162, iv (0 : Int32), rv b172, iv p2, iv (0 : Int32), iv (0 : Int32)] [])) _
          refine XS.aload X186.here hx rfl (hb hby at_160) rfl rfl ?_
          show Steps p.tables e below (T186.setTop (mkF m 162 #[iv p1, iv p2, iv p3, iv p4, iv (3 : Int32), iv p2, rv b152, rv b162, iv (0 : Int32), rv b172, iv p2, iv (0 : Int32), iv (0 : Int32)] [(.ref b172)])) _
          exact k
        obtain ⟨cq189, kq189, qq189a, qq189b, qq189c⟩ := isOf hZ e186 po176_0
        obtain ⟨_, _, ⟨T189, L189, kk189, nn189⟩, -, X189, ⟨Lc189, hQ189, l189, y189, z189⟩, st189⟩ := X186.virtualBack hx (y := (⟨"caseward/web/RequestHead$Malformed", "status", "()I"⟩ : MethodName)) (z := (⟨"caseward/web/RequestHead$Malformed", "status", "()I"⟩ : MethodName)) hown (mvT hZ (hw _ (List.mem_of_getElem? (i := 97) rfl))) (mvT hZ (hw _ (List.mem_of_getElem? (i := 98) rfl))) (notFace_of_selects (args := #[]) (mvT hZ (hw _ (List.mem_of_getElem? (i := 100) rfl)))) (mvT hZ (hw _ (List.mem_of_getElem? (i := 100) rfl))) (mvT hZ (hw _ (List.mem_of_getElem? (i := 99) rfl))) (by decide) (backOf (W := 0) (stt l Z a0 hw [] wCS w_US w_SS G b172 p2 T176.heap n0 O176 (po176_1 : Fld Z T176.heap b172 "caseward/web/RequestHead$Malformed" "status" "I" (.int p2))) hZ (hw _ (List.mem_of_getElem? (i := 101) rfl)) (hw _ (List.mem_of_getElem? (i := 32) rfl)) (by decide) (by decide)) qq189a qq189c (g := (mkF m 162 #[iv p1, iv p2, iv p3, iv p4, iv (3 : Int32), iv p2, rv b152, rv b162, iv (0 : Int32), rv b172, iv p2, iv (0 : Int32), iv (0 : Int32)] [(.ref b172)])) rfl (by rw [hml]; rfl) (Steps.refl _) (argsL := []) (rest := []) (lenOf pd_8 rfl) rfl (by show 2 * 0 + _ ≤ _; exact Nat.le_of_eq rfl) (hb hby at_162) (fun _ _ => ⟨rfl, e186, (by decide : 5 + 0 ≤ _), (by decide : 2767 + 0 ≤ _)⟩)
        dsimp only [Pt.U, Pt.locs, Pt.cells, Pt.slots] at X189 l189 y189 z189 st189 hQ189
        subst l189 y189 z189
        obtain ⟨rfl, Nq189, e189⟩ := hQ189
        have N189 := Fr.app N186 Nq189
        have k190 : Way p e below S0 T189 (mkF m 165 #[iv p1, iv p2, iv p3, iv p4, iv (3 : Int32), iv p2, rv b152, rv b162, iv (0 : Int32), rv b172, iv p2, iv (0 : Int32), iv (0 : Int32)] [(.int p2)]) := fun t k => k188 t (st189.trans k)
        have k191 : Way p e below S0 T189 (mkF m 175 #[iv p1, iv p2, iv p3, iv p4, iv (3 : Int32), iv p2, rv b152, rv b162, iv (0 : Int32), rv b172, iv p2, iv (0 : Int32), iv (0 : Int32)] [(.int (1 : Int32))]) := by
          intro t k
          refine k190 t ?_
          refine XS.iload X189.here hx rfl (hb hby at_165) rfl ?_
          show Steps p.tables e below (T189.setTop (mkF m 167 #[iv p1, iv p2, iv p3, iv p4, iv (3 : Int32), iv p2, rv b152, rv b162, iv (0 : Int32), rv b172, iv p2, iv (0 : Int32), iv (0 : Int32)] [(.int p2), (.int p2)])) _
          refine XS.icmpNo X189.here hx rfl (hb hby at_167) rfl (teq (rfl : p2 = p2)).2 ?_
          show Steps p.tables e below (T189.setTop (mkF m 170 #[iv p1, iv p2, iv p3, iv p4, iv (3 : Int32), iv p2, rv b152, rv b162, iv (0 : Int32), rv b172, iv p2, iv (0 : Int32), iv (0 : Int32)] [])) _
          refine XS.iconst X189.here hx rfl (hb hby at_170) ?_
          show Steps p.tables e below (T189.setTop (mkF m 171 #[iv p1, iv p2, iv p3, iv p4, iv (3 : Int32), iv p2, rv b152, rv b162, iv (0 : Int32), rv b172, iv p2, iv (0 : Int32), iv (0 : Int32)] [(.int (1 : Int32))])) _
          refine XS.goto X189.here hx rfl (pc0 := 171) (pc' := 175) rfl (hb hby at_171) (by decide) (by decide) ?_
          show Steps p.tables e below (T189.setTop (mkF m 175 #[iv p1, iv p2, iv p3, iv p4, iv (3 : Int32), iv p2, rv b152, rv b162, iv (0 : Int32), rv b172, iv p2, iv (0 : Int32), iv (0 : Int32)] [(.int (1 : Int32))])) _
          exact k
        obtain ⟨fs, hr, hrun, hended, hW, hsame⟩ := X189.leave (v := some (.int (1 : Int32))) (fun h => by rw [Bd.returns] at h; cases h)
        refine ⟨_, _, k191 _ (retN X189 hx (t := .boolean) Bd.returns (by simp) (hb hby at_175) hr), hrun, hended, _, _, rfl, ?_, ⟨_, rfl⟩, hW, hsame.mono (by decide) (by decide)⟩
        show Q_law_met Z wCS w_US w_SS p1 p2 p3 p4 h0 n0 _ T189.heap _
        rw [e189]
        exact ⟨rfl, N189⟩
    · have k192 : Way p e below S0 T167 (mkF m 95 #[iv p1, iv p2, iv p3, iv p4, iv (3 : Int32), iv p2, rv b152, rv b162, iv (1 : Int32), .unset, .unset, .unset, .unset] []) := by
        intro t k
        refine k170 t ?_
        refine XS.ifNo X167.here hx rfl (hb hby at_80) rfl ((if0 _ _).trans (feq (hc169 : ¬ ((p1 &&& (4 : Int32)) = (0 : Int32)))).1) ?_
        show Steps p.tables e below (T167.setTop (mkF m 83 #[iv p1, iv p2, iv p3, iv p4, iv (3 : Int32), iv p2, rv b152, rv b162, .unset, .unset, .unset, .unset, .unset] [])) _
        refine XS.iconst X167.here hx rfl (hb hby at_83) ?_
        show Steps p.tables e below (T167.setTop (mkF m 84 #[iv p1, iv p2, iv p3, iv p4, iv (3 : Int32), iv p2, rv b152, rv b162, .unset, .unset, .unset, .unset, .unset] [(.int (1 : Int32))])) _
        refine XS.goto X167.here hx rfl (pc0 := 84) (pc' := 88) rfl (hb hby at_84) (by decide) (by decide) ?_
        show Steps p.tables e below (T167.setTop (mkF m 88 #[iv p1, iv p2, iv p3, iv p4, iv (3 : Int32), iv p2, rv b152, rv b162, .unset, .unset, .unset, .unset, .unset] [(.int (1 : Int32))])) _
        refine XS.istore X167.here hx rfl (hb hby at_88) rfl (l' := #[iv p1, iv p2, iv p3, iv p4, iv (3 : Int32), iv p2, rv b152, rv b162, iv (1 : Int32), .unset, .unset, .unset, .unset]) rfl ?_
        show Steps p.tables e below (T167.setTop (mkF m 90 #[iv p1, iv p2, iv p3, iv p4, iv (3 : Int32), iv p2, rv b152, rv b162, iv (1 : Int32), .unset, .unset, .unset, .unset] [])) _
        refine XS.iload X167.here hx rfl (hb hby at_90) rfl ?_
        show Steps p.tables e below (T167.setTop (mkF m 92 #[iv p1, iv p2, iv p3, iv p4, iv (3 : Int32), iv p2, rv b152, rv b162, iv (1 : Int32), .unset, .unset, .unset, .unset] [(.int (1 : Int32))])) _
        refine XS.ifNo X167.here hx rfl (hb hby at_92) rfl ((if0 _ _).trans (feq ((by decide) : ¬ ((1 : Int32) = (0 : Int32)))).1) ?_
        show Steps p.tables e below (T167.setTop (mkF m 95 #[iv p1, iv p2, iv p3, iv p4, iv (3 : Int32), iv p2, rv b152, rv b162, iv (1 : Int32), .unset, .unset, .unset, .unset] [])) _
        exact k
      obtain ⟨T193, h193, X193, e193, E193, A193, D193, U193, st193⟩ := newO X167 hx hZ hown (hw _ (List.mem_of_getElem? (i := 30) rfl)) (hw _ (List.mem_of_getElem? (i := 31) rfl)) (hw _ (List.mem_of_getElem? (i := 32) rfl)) rfl (g := (mkF m 95 #[iv p1, iv p2, iv p3, iv p4, iv (3 : Int32), iv p2, rv b152, rv b162, iv (1 : Int32), .unset, .unset, .unset, .unset] [])) rfl (hb hby at_95) (by decide) (by decide)
      obtain ⟨b193, g193⟩ : ∃ z, z = T167.heap.size := ⟨_, rfl⟩
      rw [← g193] at A193 D193 U193 st193
      have O193 := O167.ext E193
      have i193_cause : Fld Z h193 b193 "java/lang/Throwable" "cause" "Ljava/lang/Throwable;" .null := D193 (Or.inl (hw _ (List.mem_of_getElem? (i := 55) rfl))) (ty := (.object "java/lang/Throwable")) (by decide)
      have i193_stackTrace : Fld Z h193 b193 "java/lang/Throwable" "stackTrace" "[Ljava/lang/StackTraceElement;" .null := D193 (Or.inl (hw _ (List.mem_of_getElem? (i := 58) rfl))) (ty := (.array (.object "java/lang/StackTraceElement"))) (by decide)
      have i193_suppressedExceptions : Fld Z h193 b193 "java/lang/Throwable" "suppressedExceptions" "Ljava/util/List;" .null := D193 (Or.inl (hw _ (List.mem_of_getElem? (i := 61) rfl))) (ty := (.object "java/util/List")) (by decide)
      have i193_detailMessage : Fld Z h193 b193 "java/lang/Throwable" "detailMessage" "Ljava/lang/String;" .null := D193 (Or.inl (hw _ (List.mem_of_getElem? (i := 85) rfl))) (ty := (.object "java/lang/String")) (by decide)
      have i193_backtrace : Fld Z h193 b193 "java/lang/Throwable" "backtrace" "Ljava/lang/Object;" .null := D193 (Or.inl (hw _ (List.mem_of_getElem? (i := 86) rfl))) (ty := (.object "java/lang/Object")) (by decide)
      have i193_depth : Fld Z h193 b193 "java/lang/Throwable" "depth" "I" (.int (0 : Int32)) := D193 (Or.inl (hw _ (List.mem_of_getElem? (i := 87) rfl))) (ty := .int) (by decide)
      have i193_status : Fld Z h193 b193 "caseward/web/RequestHead$Malformed" "status" "I" (.int (0 : Int32)) := D193 (Or.inr (hw _ (List.mem_of_getElem? (i := 91) rfl))) (ty := .int) (by decide)
      have k194 : Way p e below S0 T193 (mkF m 98 #[iv p1, iv p2, iv p3, iv p4, iv (3 : Int32), iv p2, rv b152, rv b162, iv (1 : Int32), .unset, .unset, .unset, .unset] [(.ref b193)]) := fun t k => k192 t (st193 _ k)
      have k195 : Way p e below S0 T193 (mkF m 101 #[iv p1, iv p2, iv p3, iv p4, iv (3 : Int32), iv p2, rv b152, rv b162, iv (1 : Int32), .unset, .unset, .unset, .unset] [(.ref b162), (.ref b193), (.ref b193)]) := by
        intro t k
        refine k194 t ?_
        refine XS.dup X193.here hx rfl (hb hby at_98) rfl rfl ?_
        show Steps p.tables e below (T193.setTop (mkF m 99 #[iv p1, iv p2, iv p3, iv p4, iv (3 : Int32), iv p2, rv b152, rv b162, iv (1 : Int32), .unset, .unset, .unset, .unset] [(.ref b193), (.ref b193)])) _
        refine XS.aload X193.here hx rfl (hb hby at_99) rfl rfl ?_
        show Steps p.tables e below (T193.setTop (mkF m 101 #[iv p1, iv p2, iv p3, iv p4, iv (3 : Int32), iv p2, rv b152, rv b162, iv (1 : Int32), .unset, .unset, .unset, .unset] [(.ref b162), (.ref b193), (.ref b193)])) _
        exact k
      have ge196 : n0 ≤ b193 := Nat.le_trans (own_old O167) (Nat.le_of_eq g193.symm)
      obtain ⟨_, _, ⟨T197, L197, kk197, nn197⟩, -, X197, ⟨Lc197, hQ197, l197, y197, z197⟩, st197⟩ := X193.specialBack hx (y := (⟨"caseward/web/RequestHead$Malformed", "<init>", "(Ljava/lang/String;)V"⟩ : MethodName)) rfl hown (mvT hZ (hw _ (List.mem_of_getElem? (i := 102) rfl))) (mvT hZ (hw _ (List.mem_of_getElem? (i := 103) rfl))) (mvT hZ (hw _ (List.mem_of_getElem? (i := 104) rfl))) (by decide) (backOfKL (W := 1) (ms l Z a0 hw [] wCS w_US w_SS G b193 b162 h193 n0 O193 (A193 : Exa Z h193 b193 "caseward/web/RequestHead$Malformed") (i193_cause : Fld Z h193 b193 "java/lang/Throwable" "cause" "Ljava/lang/Throwable;" .null) (i193_stackTrace : Fld Z h193 b193 "java/lang/Throwable" "stackTrace" "[Ljava/lang/StackTraceElement;" .null) (i193_suppressedExceptions : Fld Z h193 b193 "java/lang/Throwable" "suppressedExceptions" "Ljava/util/List;" .null) (i193_backtrace : Fld Z h193 b193 "java/lang/Throwable" "backtrace" "Ljava/lang/Object;" .null) (i193_detailMessage : Fld Z h193 b193 "java/lang/Throwable" "detailMessage" "Ljava/lang/String;" .null) (i193_status : Fld Z h193 b193 "caseward/web/RequestHead$Malformed" "status" "I" (.int (0 : Int32))) (U193 : Unt h193 b193) (ge196 : n0 ≤ b193) (htr : l.stackTraces = true)) hZ (hw _ (List.mem_of_getElem? (i := 104) rfl)) (hw _ (List.mem_of_getElem? (i := 32) rfl)) (by decide) (by decide) hTK hBelow) (g := (mkF m 101 #[iv p1, iv p2, iv p3, iv p4, iv (3 : Int32), iv p2, rv b152, rv b162, iv (1 : Int32), .unset, .unset, .unset, .unset] [(.ref b162), (.ref b193), (.ref b193)])) rfl (by rw [hml]; rfl) (Steps.refl _) (a := b193) (argsL := [(.ref b162)]) (rest := [(.ref b193)]) (lenOf pd_4 rfl) rfl (by show 2 * 0 + _ ≤ _; exact Nat.le_of_eq rfl) (hb hby at_101) (fun _ _ => ⟨rfl, e193, (by decide : 4 + 1 ≤ _), (by decide : 15 + 2752 ≤ _)⟩)
      dsimp only [Pt.U, Pt.locs, Pt.cells, Pt.slots] at X197 l197 y197 z197 st197 hQ197
      subst l197 y197 z197
      obtain ⟨rfl, Nq197, Kq197, po197_0, po197_1⟩ := hQ197
      have N197 := Fr.app N167 Nq197
      have O197 := O193.keep Kq197 (allS ge196 all0)
      have k198 : Way p e below S0 T197 (mkF m 104 #[iv p1, iv p2, iv p3, iv p4, iv (3 : Int32), iv p2, rv b152, rv b162, iv (1 : Int32), .unset, .unset, .unset, .unset] [(.ref b193)]) := fun t k => k195 t (st197.trans k)
      have k199 : Way p e below S0 T197 (mkF m 133 #[iv p1, iv p2, iv p3, iv p4, iv (3 : Int32), iv p2, rv b152, rv b162, iv (1 : Int32), rv b193, iv (400 : Int32), .unset, .unset] [(.ref b193)]) := by
        intro t k
        refine k198 t ?_
        refine XS.astore X197.here hx rfl (hb hby at_104) rfl rfl (l' := #[iv p1, iv p2, iv p3, iv p4, iv (3 : Int32), iv p2, rv b152, rv b162, iv (1 : Int32), rv b193, .unset, .unset, .unset]) rfl ?_
        show Steps p.tables e below (T197.setTop (mkF m 106 #[iv p1, iv p2, iv p3, iv p4, iv (3 : Int32), iv p2, rv b152, rv b162, iv (1 : Int32), rv b193, .unset, .unset, .unset] [])) _
        refine XS.sipush X197.here hx rfl (hb hby at_106) ?_
        show Steps p.tables e below (T197.setTop (mkF m 109 #[iv p1, iv p2, iv p3, iv p4, iv (3 : Int32), iv p2, rv b152, rv b162, iv (1 : Int32), rv b193, .unset, .unset, .unset] [(.int (400 : Int32))])) _
        refine XS.istore X197.here hx rfl (hb hby at_109) rfl (l' := #[iv p1, iv p2, iv p3, iv p4, iv (3 : Int32), iv p2, rv b152, rv b162, iv (1 : Int32), rv b193, iv (400 : Int32), .unset, .unset]) rfl ?_
        show Steps p.tables e below (T197.setTop (mkF m 111 #[iv p1, iv p2, iv p3, iv p4, iv (3 : Int32), iv p2, rv b152, rv b162, iv (1 : Int32), rv b193, iv (400 : Int32), .unset, .unset] [])) _
        refine XS.goto X197.here hx rfl (pc0 := 111) (pc' := 131) rfl (hb hby at_111) (by decide) (by decide) ?_
        show Steps p.tables e below (T197.setTop (mkF m 131 #[iv p1, iv p2, iv p3, iv p4, iv (3 : Int32), iv p2, rv b152, rv b162, iv (1 : Int32), rv b193, iv (400 : Int32), .unset, .unset] [])) _
        refine XS.aload X197.here hx rfl (hb hby at_131) rfl rfl ?_
        show Steps p.tables e below (T197.setTop (mkF m 133 #[iv p1, iv p2, iv p3, iv p4, iv (3 : Int32), iv p2, rv b152, rv b162, iv (1 : Int32), rv b193, iv (400 : Int32), .unset, .unset] [(.ref b193)])) _
        exact k
      obtain ⟨cq200, kq200, qq200a, qq200b, qq200c⟩ := isOf hZ rfl po197_0
      obtain ⟨_, _, ⟨T200, L200, kk200, nn200⟩, -, X200, ⟨Lc200, hQ200, l200, y200, z200⟩, st200⟩ := X197.virtualBack hx (y := (⟨"caseward/web/RequestHead$Malformed", "isForWantOfRoom", "()Z"⟩ : MethodName)) (z := (⟨"caseward/web/RequestHead$Malformed", "isForWantOfRoom", "()Z"⟩ : MethodName)) hown (mvT hZ (hw _ (List.mem_of_getElem? (i := 92) rfl))) (mvT hZ (hw _ (List.mem_of_getElem? (i := 93) rfl))) (notFace_of_selects (args := #[]) (mvT hZ (hw _ (List.mem_of_getElem? (i := 95) rfl)))) (mvT hZ (hw _ (List.mem_of_getElem? (i := 95) rfl))) (mvT hZ (hw _ (List.mem_of_getElem? (i := 94) rfl))) (by decide) (backOf (W := 0) (isF l Z a0 hw [] wCS w_US w_SS G b193 (400 : Int32) T197.heap n0 O197 (po197_1 : Fld Z T197.heap b193 "caseward/web/RequestHead$Malformed" "status" "I" (.int (400 : Int32))) (by decide : ¬ ((400 : Int32) = (503 : Int32)))) hZ (hw _ (List.mem_of_getElem? (i := 96) rfl)) (hw _ (List.mem_of_getElem? (i := 32) rfl)) (by decide) (by decide)) qq200a qq200c (g := (mkF m 133 #[iv p1, iv p2, iv p3, iv p4, iv (3 : Int32), iv p2, rv b152, rv b162, iv (1 : Int32), rv b193, iv (400 : Int32), .unset, .unset] [(.ref b193)])) rfl (by rw [hml]; rfl) (Steps.refl _) (argsL := []) (rest := []) (lenOf pd_7 rfl) rfl (by show 2 * 0 + _ ≤ _; exact Nat.le_of_eq rfl) (hb hby at_133) (fun _ _ => ⟨rfl, rfl, (by decide : 5 + 0 ≤ _), (by decide : 2767 + 0 ≤ _)⟩)
      dsimp only [Pt.U, Pt.locs, Pt.cells, Pt.slots] at X200 l200 y200 z200 st200 hQ200
      subst l200 y200 z200
      obtain ⟨rfl, Nq200, e200⟩ := hQ200
      have N200 := Fr.app N197 Nq200
      have k201 : Way p e below S0 T200 (mkF m 136 #[iv p1, iv p2, iv p3, iv p4, iv (3 : Int32), iv p2, rv b152, rv b162, iv (1 : Int32), rv b193, iv (400 : Int32), .unset, .unset] [(.int (0 : Int32))]) := fun t k => k199 t (st200.trans k)
      have k202 : Way p e below S0 T200 (mkF m 162 #[iv p1, iv p2, iv p3, iv p4, iv (3 : Int32), iv p2, rv b152, rv b162, iv (1 : Int32), rv b193, iv (400 : Int32), iv (0 : Int32), iv (0 : Int32)] [(.ref b193)]) := by
        intro t k
        refine k201 t ?_
        refine XS.istore X200.here hx rfl (hb hby at_136) rfl (l' := #[iv p1, iv p2, iv p3, iv p4, iv (3 : Int32), iv p2, rv b152, rv b162, iv (1 : Int32), rv b193, iv (400 : Int32), iv (0 : Int32), .unset]) rfl ?_
        show Steps p.tables e below (T200.setTop (mkF m 138 #[iv p1, iv p2, iv p3, iv p4, iv (3 : Int32), iv p2, rv b152, rv b162, iv (1 : Int32), rv b193, iv (400 : Int32), iv (0 : Int32), .unset] [])) _
        refine XS.iload X200.here hx rfl (hb hby at_138) rfl ?_
        show Steps p.tables e below (T200.setTop (mkF m 140 #[iv p1, iv p2, iv p3, iv p4, iv (3 : Int32), iv p2, rv b152, rv b162, iv (1 : Int32), rv b193, iv (400 : Int32), iv (0 : Int32), .unset] [(.int (400 : Int32))])) _
        refine XS.sipush X200.here hx rfl (hb hby at_140) ?_
        show Steps p.tables e below (T200.setTop (mkF m 143 #[iv p1, iv p2, iv p3, iv p4, iv (3 : Int32), iv p2, rv b152, rv b162, iv (1 : Int32), rv b193, iv (400 : Int32), iv (0 : Int32), .unset] [(.int (503 : Int32)), (.int (400 : Int32))])) _
        refine XS.icmpYes X200.here hx rfl (pc0 := 143) (pc' := 150) rfl (hb hby at_143) rfl (feq ((by decide) : ¬ ((400 : Int32) = (503 : Int32)))).2 (by decide) (by decide) ?_
        show Steps p.tables e below (T200.setTop (mkF m 150 #[iv p1, iv p2, iv p3, iv p4, iv (3 : Int32), iv p2, rv b152, rv b162, iv (1 : Int32), rv b193, iv (400 : Int32), iv (0 : Int32), .unset] [])) _
        refine XS.iconst X200.here hx rfl (hb hby at_150) ?_
        show Steps p.tables e below (T200.setTop (mkF m 151 #[iv p1, iv p2, iv p3, iv p4, iv (3 : Int32), iv p2, rv b152, rv b162, iv (1 : Int32), rv b193, iv (400 : Int32), iv (0 : Int32), .unset] [(.int (0 : Int32))])) _
        refine XS.istore X200.here hx rfl (hb hby at_151) rfl (l' := #[iv p1, iv p2, iv p3, iv p4, iv (3 : Int32), iv p2, rv b152, rv b162, iv (1 : Int32), rv b193, iv (400 : Int32), iv (0 : Int32), iv (0 : Int32)]) rfl ?_
        show Steps p.tables e below (T200.setTop (mkF m 153 #[iv p1, iv p2, iv p3, iv p4, iv (3 : Int32), iv p2, rv b152, rv b162, iv (1 : Int32), rv b193, iv (400 : Int32), iv (0 : Int32), iv (0 : Int32)] [])) _
        refine XS.iload X200.here hx rfl (hb hby at_153) rfl ?_
        show Steps p.tables e below (T200.setTop (mkF m 155 #[iv p1, iv p2, iv p3, iv p4, iv (3 : Int32), iv p2, rv b152, rv b162, iv (1 : Int32), rv b193, iv (400 : Int32), iv (0 : Int32), iv (0 : Int32)] [(.int (0 : Int32))])) _
        refine XS.iload X200.here hx rfl (hb hby at_155) rfl ?_
        show Steps p.tables e below (T200.setTop (mkF m 157 #[iv p1, iv p2, iv p3, iv p4, iv (3 : Int32), iv p2, rv b152, rv b162, iv (1 : Int32), rv b193, iv (400 : Int32), iv (0 : Int32), iv (0 : Int32)] [(.int (0 : Int32)), (.int (0 : Int32))])) _
        refine XS.icmpNo X200.here hx rfl (hb hby at_157) rfl (teq ((by decide) : (0 : Int32) = (0 : Int32))).2 ?_
        show Steps p.tables e below (T200.setTop (mkF m 160 #[iv p1, iv p2, iv p3, iv p4, iv (3 : Int32), iv p2, rv b152, rv b162, iv (1 : Int32), rv b193, iv (400 : Int32), iv (0 : Int32), iv (0 : Int32)] [])) _
        refine XS.aload X200.here hx rfl (hb hby at_160) rfl rfl ?_
        show Steps p.tables e below (T200.setTop (mkF m 162 #[iv p1, iv p2, iv p3, iv p4, iv (3 : Int32), iv p2, rv b152, rv b162, iv (1 : Int32), rv b193, iv (400 : Int32), iv (0 : Int32), iv (0 : Int32)] [(.ref b193)])) _
        exact k
      obtain ⟨cq203, kq203, qq203a, qq203b, qq203c⟩ := isOf hZ e200 po197_0
      obtain ⟨_, _, ⟨T203, L203, kk203, nn203⟩, -, X203, ⟨Lc203, hQ203, l203, y203, z203⟩, st203⟩ := X200.virtualBack hx (y := (⟨"caseward/web/RequestHead$Malformed", "status", "()I"⟩ : MethodName)) (z := (⟨"caseward/web/RequestHead$Malformed", "status", "()I"⟩ : MethodName)) hown (mvT hZ (hw _ (List.mem_of_getElem? (i := 97) rfl))) (mvT hZ (hw _ (List.mem_of_getElem? (i := 98) rfl))) (notFace_of_selects (args := #[]) (mvT hZ (hw _ (List.mem_of_getElem? (i := 100) rfl)))) (mvT hZ (hw _ (List.mem_of_getElem? (i := 100) rfl))) (mvT hZ (hw _ (List.mem_of_getElem? (i := 99) rfl))) (by decide) (backOf (W := 0) (stt l Z a0 hw [] wCS w_US w_SS G b193 (400 : Int32) T197.heap n0 O197 (po197_1 : Fld Z T197.heap b193 "caseward/web/RequestHead$Malformed" "status" "I" (.int (400 : Int32)))) hZ (hw _ (List.mem_of_getElem? (i := 101) rfl)) (hw _ (List.mem_of_getElem? (i := 32) rfl)) (by decide) (by decide)) qq203a qq203c (g := (mkF m 162 #[iv p1, iv p2, iv p3, iv p4, iv (3 : Int32), iv p2, rv b152, rv b162, iv (1 : Int32), rv b193, iv (400 : Int32), iv (0 : Int32), iv (0 : Int32)] [(.ref b193)])) rfl (by rw [hml]; rfl) (Steps.refl _) (argsL := []) (rest := []) (lenOf pd_8 rfl) rfl (by show 2 * 0 + _ ≤ _; exact Nat.le_of_eq rfl) (hb hby at_162) (fun _ _ => ⟨rfl, e200, (by decide : 5 + 0 ≤ _), (by decide : 2767 + 0 ≤ _)⟩)
      dsimp only [Pt.U, Pt.locs, Pt.cells, Pt.slots] at X203 l203 y203 z203 st203 hQ203
      subst l203 y203 z203
      obtain ⟨rfl, Nq203, e203⟩ := hQ203
      have N203 := Fr.app N200 Nq203
      have k204 : Way p e below S0 T203 (mkF m 165 #[iv p1, iv p2, iv p3, iv p4, iv (3 : Int32), iv p2, rv b152, rv b162, iv (1 : Int32), rv b193, iv (400 : Int32), iv (0 : Int32), iv (0 : Int32)] [(.int (400 : Int32))]) := fun t k => k202 t (st203.trans k)
      have k205 : Way p e below S0 T203 (mkF m 175 #[iv p1, iv p2, iv p3, iv p4, iv (3 : Int32), iv p2, rv b152, rv b162, iv (1 : Int32), rv b193, iv (400 : Int32), iv (0 : Int32), iv (0 : Int32)] [(.int (1 : Int32))]) := by
        intro t k
        refine k204 t ?_
        refine XS.iload X203.here hx rfl (hb hby at_165) rfl ?_
        show Steps p.tables e below (T203.setTop (mkF m 167 #[iv p1, iv p2, iv p3, iv p4, iv (3 : Int32), iv p2, rv b152, rv b162, iv (1 : Int32), rv b193, iv (400 : Int32), iv (0 : Int32), iv (0 : Int32)] [(.int (400 : Int32)), (.int (400 : Int32))])) _
        refine XS.icmpNo X203.here hx rfl (hb hby at_167) rfl (teq ((by decide) : (400 : Int32) = (400 : Int32))).2 ?_
        show Steps p.tables e below (T203.setTop (mkF m 170 #[iv p1, iv p2, iv p3, iv p4, iv (3 : Int32), iv p2, rv b152, rv b162, iv (1 : Int32), rv b193, iv (400 : Int32), iv (0 : Int32), iv (0 : Int32)] [])) _
        refine XS.iconst X203.here hx rfl (hb hby at_170) ?_
        show Steps p.tables e below (T203.setTop (mkF m 171 #[iv p1, iv p2, iv p3, iv p4, iv (3 : Int32), iv p2, rv b152, rv b162, iv (1 : Int32), rv b193, iv (400 : Int32), iv (0 : Int32), iv (0 : Int32)] [(.int (1 : Int32))])) _
        refine XS.goto X203.here hx rfl (pc0 := 171) (pc' := 175) rfl (hb hby at_171) (by decide) (by decide) ?_
        show Steps p.tables e below (T203.setTop (mkF m 175 #[iv p1, iv p2, iv p3, iv p4, iv (3 : Int32), iv p2, rv b152, rv b162, iv (1 : Int32), rv b193, iv (400 : Int32), iv (0 : Int32), iv (0 : Int32)] [(.int (1 : Int32))])) _
        exact k
      obtain ⟨fs, hr, hrun, hended, hW, hsame⟩ := X203.leave (v := some (.int (1 : Int32))) (fun h => by rw [Bd.returns] at h; cases h)
      refine ⟨_, _, k205 _ (retN X203 hx (t := .boolean) Bd.returns (by simp) (hb hby at_175) hr), hrun, hended, _, _, rfl, ?_, ⟨_, rfl⟩, hW, hsame.mono (by decide) (by decide)⟩
      show Q_law_met Z wCS w_US w_SS p1 p2 p3 p4 h0 n0 _ T203.heap _
      rw [e203]
      exact ⟨rfl, N203⟩
set_option maxRecDepth 65536 in
set_option maxHeartbeats 40000000 in
theorem comes_1 {Post : Tables → Env → Array Value → State → Outcome → State → Prop} (hpost : ∀ tb e args s v u, (limb_1_1.after args s (.returned v) u = true ∧ limb_1_2.after args s (.returned v) u = true ∧ True) → FrameEnd s (.returned v) u (Jvm.fieldLocs frame_1_writes args s ++ Jvm.arrayLocs frame_1_arrays args s ++ Jvm.staticLocs frame_1_statics s) 24 5632 → Post tb e args s (.returned v) u) :
    ArmFor flags0 classFile x code maxLocals ret World_1 tables_1 room_1 Calls_1 rest_1 Pre_1 Post := by
  intro l hfl _ _ p e ha hc hk s m args below hf hA hF happ hP
  obtain ⟨hcalls, hrest, hpre⟩ := hP
  obtain ⟨-, -, -, hnamed, -, -, -, hat⟩ := (Spec.applies_iff hf).mp happ
  obtain ⟨hg, hn⟩ := and_e (Cond.before_iff.mp (show (Jvm.Cond.and given_1 narrow_1).before args s = true from hpre))
  obtain ⟨g1a, g1b⟩ := and_e hg
  obtain ⟨g2a, g2b⟩ := and_e g1b
  obtain ⟨g3a, g3b⟩ := and_e g2b
  obtain ⟨g4a, g4b⟩ := and_e g3b
  obtain ⟨w0, w1, w2, w3, rfl⟩ : ∃ w0 w1 w2 w3 : Value, args = #[w0, w1, w2, w3] := by
    have hs : args.size = 4 := by simpa [Cond.value, given_1] using g1a
    obtain ⟨L⟩ := args
    match L, hs with
    | [w0, w1, w2, w3], _ => exact ⟨w0, w1, w2, w3, rfl⟩
  have hw := fun d (hd : d ∈ tables_1) => atoms_spec (ws := Jvm.Cond.code x code maxLocals ret :: tables_1) hat d (List.mem_cons_of_mem _ hd)
  have hfit : Fit s := fun {y c} hc i hi => by
    obtain ⟨ha, rfl⟩ := Array.getElem?_eq_some_iff.mp hc
    have q := List.all_eq_true.mp ((Array.all_eq_true_iff_forall_mem.mp hF) _ (Array.getElem_mem ha)) i (List.mem_range.mpr hi)
    simpa [Array.getElem?_eq_getElem hi] using q
  obtain ⟨hsets, hown0⟩ := atoms_of _ (rest_1_c_eq ▸ (show rest_1_c.before _ s = true from hrest))
  have hr0 := Cond.before_iff.mp hown0
  obtain ⟨i0, ei0⟩ := is_v g2a
  obtain rfl : w0 = (.int i0) := Option.some.inj ei0
  obtain ⟨i1, ei1⟩ := is_v g3a
  obtain rfl : w1 = (.int i1) := Option.some.inj ei1
  obtain ⟨i2, ei2⟩ := is_v g4a
  obtain rfl : w2 = (.int i2) := Option.some.inj ei2
  obtain ⟨i3, ei3⟩ := is_v g4b
  obtain rfl : w3 = (.int i3) := Option.some.inj ei3
  obtain ⟨wCS, ev_CS⟩ := is_v (Cond.before_iff.mp (hsets _ (List.mem_of_getElem? (i := 1) rfl)))
  have S_CS := Sta.start ev_CS (Or.inl (hsets _ (List.mem_of_getElem? (i := 0) rfl)))
  have hCS : ¬ (wCS = (0 : Int32)) := fun q => by subst q; have u := not_v (Cond.before_iff.mp (hsets _ (List.mem_of_getElem? (i := 2) rfl))); exact absurd u (by rw [eq_i ev_CS (Term.int_eval _) rfl]; decide)
  obtain ⟨w_US, ev_US⟩ := arr_v (Cond.before_iff.mp (hsets _ (List.mem_of_getElem? (i := 17) rfl)))
  have S_US := Sta.start ev_US (Or.inr ⟨(hw _ (List.mem_of_getElem? (i := 51) rfl)), (hw _ (List.mem_of_getElem? (i := 82) rfl))⟩)
  obtain ⟨w_SS, ev_SS⟩ := exa_v (Cond.before_iff.mp (hsets _ (List.mem_of_getElem? (i := 22) rfl)))
  have S_SS := Sta.start ev_SS (Or.inr ⟨(hw _ (List.mem_of_getElem? (i := 51) rfl)), (hw _ (List.mem_of_getElem? (i := 83) rfl))⟩)
  have G : Gst s wCS w_US w_SS := ⟨S_CS, hCS, S_US, S_SS⟩
  have htr : l.stackTraces = true := by rw [Launch.stackTraces, hfl]; decide
  obtain ⟨n, o, h1, h2, h3, _, L, rfl, ⟨rfl, N⟩, hq⟩ := law_met l s _ hw tables_1 wCS w_US w_SS G i0 i1 i2 i3 s.heap s.heap.size (Old.start s) htr p e ha hc hk s m _ below hf ((Spec.applies_iff_loose hf).mp happ).1 ⟨rfl, State.Warmed39.refl s, rfl⟩ (own_known hcalls hf)
  refine ⟨n, _, h1, h2, h3, hpost _ _ _ _ _ _ ⟨Cond.after_iff.mpr rfl, Cond.after_iff.mpr (eq_i res_at (Term.int_eval (1)) rfl), trivial⟩ ⟨hq.1, hq.2.1, (hq.2.2.sift fun y hy => Or.inr (N y hy)).mono (by decide) (by decide)⟩⟩
theorem main_1_1 : Claimed_1_1 := comes_1 fun _ _ _ _ _ _ h hF => ⟨h.1, hF⟩
theorem main_1_2 : Claimed_1_2 := comes_1 fun _ _ _ _ _ _ h hF => ⟨h.2.1, hF⟩
end Jvm.Pilot.@@N@@
namespace Jvm.Pilot.@@N@@
open Jvm Jvm.ClassFile Sem Op Lib Jvm.Free Jvm.Stand Jvm.Pilot.@@N@@.Jvm.D
/-! MADE BY PROGRAM (witnessworld.py) out of the Statement's table words and the real class files: 36 classes; the members and pool entries that the words name. The judged class is class 1, her method 1. -/
namespace start1
open Jvm.ClassFile
def u (s : String) : CpInfo := .utf8 (stringToUtf16 s)
/-- a pool by its gaps: so many unusable entries, then the entry; so many at the end -/
def gap : Nat → List CpInfo → List CpInfo
  | 0, r => r
  | n + 1, r => .unusable :: gap n r
def poolList (es : List (Nat × CpInfo)) (last : Nat) : List CpInfo := es.foldr (fun e r => gap e.1 (e.2 :: r)) (gap last [])
def pool (es : List (Nat × CpInfo)) (last : Nat) : Array CpInfo := ⟨poolList es last⟩
def fileOf (pool : Array CpInfo) (this : Nat) (attrs : Array Attribute := #[]) (ms : Array MethodInfo := #[]) (fl : Nat := 33) (sup : Nat := 0) (ifs : Array Nat := #[]) (fds : Array FieldInfo := #[]) : ClassFile where
  minorVersion := 0
  majorVersion := 65
  constantPool := pool
  accessFlags := fl
  thisClass := this
  superClass := sup
  interfaces := ifs
  fields := fds
  methods := ms
  attributes := attrs
def plain (name : String) (sup : Option ClassId) : Class where
  name := name
  kind := .ordinary
  loader := none
  accessFlags := 33
  super := sup
  interfaces := #[]
  cf := none
  fields := #[]
  methods := #[]
  instanceTypes := #[]
  staticTypes := #[]
  resolved := #[]
  callSites := []
  init := .initialized
  statics := none
  mirror := none

def pool0 : Array CpInfo := pool [(5, u "<init>"), (0, u "()V"), (1, .class_ 10), (1, u "java/lang/Object")] 113

def k0c0 : Code := { maxStack := 0, maxLocals := 1, code := object_method_1_code, exceptionTable := #[], attributes := #[] }
def k0m0 : Method := { name := "<init>", desc := "()V", sig := { parameters := [], returnType := none }, accessFlags := 1, code := some k0c0 }
/-- java/lang/Object -/
def k0 : Class := { plain "java/lang/Object" none with
  accessFlags := 33
  interfaces := #[]
  cf := some (fileOf pool0 8 #[] #[{ accessFlags := 1, nameIndex := 5, descriptorIndex := 6, attributes := #[] }] 33 0 #[] #[])
  fields := #[]
  methods := #[k0m0]
  instanceTypes := #[]
  staticTypes := #[]
  resolved := Array.replicate 124 none
  statics := none }

def pool1 : Array CpInfo := pool [(2, .class_ 4), (1, u "java/lang/Object"), (0, u "<init>"), (0, u "()V"), (0, .class_ 8), (0, u "java/lang/String"), (0, .methodref 7 10), (0, .nameAndType 5 11), (0, u "([C)V"), (0, .class_ 13), (0, u "caseward/web/RequestHead$Malformed"), (0, .methodref 12 15), (0, .nameAndType 5 16), (0, u "(Ljava/lang/String;)V"), (0, .methodref 12 18), (0, .nameAndType 5 19), (0, u "(ILjava/lang/String;)V"), (0, .methodref 12 21), (0, .nameAndType 22 23), (0, u "isForWantOfRoom"), (0, u "()Z"), (0, .methodref 12 25), (0, .nameAndType 26 27), (0, u "status"), (0, u "()I"), (0, .class_ 29), (0, u "caseward/web/MalformedIsForWantOfRoomPinLaw"), (2, u "law"), (0, u "(IIII)Z")] 9

def k1m0 : Method := { name := "<init>", desc := "()V", sig := { parameters := [], returnType := none }, accessFlags := 1, code := none }
def k1c1 : Code := { maxStack := 5, maxLocals := 13, code := code, exceptionTable := #[], attributes := #[] }
def k1m1 : Method := { name := "law", desc := "(IIII)Z", sig := { parameters := [.int, .int, .int, .int], returnType := some .boolean }, accessFlags := 9, code := some k1c1 }
/-- caseward/web/MalformedIsForWantOfRoomPinLaw -/
def k1 : Class := { plain "caseward/web/MalformedIsForWantOfRoomPinLaw" (some 0) with
  accessFlags := 49
  interfaces := #[]
  cf := some (fileOf pool1 28 #[] #[{ accessFlags := 1, nameIndex := 5, descriptorIndex := 6, attributes := #[] }, { accessFlags := 9, nameIndex := 32, descriptorIndex := 33, attributes := #[] }] 49 2 #[] #[])
  fields := #[]
  methods := #[k1m0, k1m1]
  instanceTypes := #[]
  staticTypes := #[]
  resolved := Array.replicate 43 none
  statics := none }

def pool2 : Array CpInfo := pool [(1, .class_ 2), (0, u "java/io/Serializable"), (0, .class_ 4), (0, u "java/lang/Object")] 2

/-- java/io/Serializable -/
def k2 : Class := { plain "java/io/Serializable" (some 0) with
  accessFlags := 1537
  interfaces := #[]
  cf := some (fileOf pool2 1 #[] #[] 1537 3 #[] #[])
  fields := #[]
  methods := #[]
  instanceTypes := #[]
  staticTypes := #[]
  resolved := Array.replicate 7 none
  statics := none }

def pool3 : Array CpInfo := pool [(1, .class_ 2), (0, u "java/lang/Comparable"), (0, .class_ 4), (0, u "java/lang/Object")] 7

/-- java/lang/Comparable -/
def k3 : Class := { plain "java/lang/Comparable" (some 0) with
  accessFlags := 1537
  interfaces := #[]
  cf := some (fileOf pool3 1 #[] #[] 1537 3 #[] #[])
  fields := #[]
  methods := #[]
  instanceTypes := #[]
  staticTypes := #[]
  resolved := Array.replicate 12 none
  statics := none }

def pool4 : Array CpInfo := pool [(2, .class_ 4), (1, u "java/lang/CharSequence"), (42, .class_ 48), (0, u "java/lang/CharSequence$1CodePointIterator"), (10, .class_ 60), (0, u "java/lang/CharSequence$1CharIterator"), (5, .class_ 67), (0, u "java/lang/Object")] 63

/-- java/lang/CharSequence -/
def k4 : Class := { plain "java/lang/CharSequence" (some 0) with
  accessFlags := 1537
  interfaces := #[]
  cf := some (fileOf pool4 2 #[.nestMembers #[47, 59]] #[] 1537 66 #[] #[])
  fields := #[]
  methods := #[]
  instanceTypes := #[]
  staticTypes := #[]
  resolved := Array.replicate 131 none
  statics := none }

def pool5 : Array CpInfo := pool [(1, .class_ 2), (0, u "java/lang/constant/Constable"), (0, .class_ 4), (0, u "java/lang/Object")] 6

/-- java/lang/constant/Constable -/
def k5 : Class := { plain "java/lang/constant/Constable" (some 0) with
  accessFlags := 1537
  interfaces := #[]
  cf := some (fileOf pool5 1 #[] #[] 1537 3 #[] #[])
  fields := #[]
  methods := #[]
  instanceTypes := #[]
  staticTypes := #[]
  resolved := Array.replicate 11 none
  statics := none }

def pool6 : Array CpInfo := pool [(1, .class_ 2), (0, u "java/lang/constant/ConstantDesc"), (0, .class_ 4), (0, u "java/lang/Object")] 32

/-- java/lang/constant/ConstantDesc -/
def k6 : Class := { plain "java/lang/constant/ConstantDesc" (some 0) with
  accessFlags := 1537
  interfaces := #[]
  cf := some (fileOf pool6 1 #[] #[] 1537 3 #[] #[])
  fields := #[]
  methods := #[]
  instanceTypes := #[]
  staticTypes := #[]
  resolved := Array.replicate 37 none
  statics := none }

def pool7 : Array CpInfo := pool [(1, .methodref 2 3), (0, .class_ 4), (0, .nameAndType 5 6), (0, u "java/lang/Object"), (0, u "<init>"), (0, u "()V"), (2, .fieldref 10 11), (0, .class_ 12), (0, .nameAndType 13 14), (0, u "java/lang/String"), (0, u "value"), (0, u "[B"), (0, .fieldref 10 16), (0, .nameAndType 17 18), (0, u "coder"), (0, u "B"), (2, u "hash"), (0, u "I"), (2, u "hashIsZero"), (0, u "Z"), (0, .methodref 10 28), (0, .nameAndType 5 29), (0, u "([CIILjava/lang/Void;)V"), (8, .fieldref 10 39), (0, .nameAndType 40 26), (0, u "COMPACT_STRINGS"), (1, .class_ 44), (1, u "java/lang/StringUTF16"), (0, u "compress"), (1, .methodref 42 48), (0, .nameAndType 49 50), (0, u "coderFromArrayLen"), (0, u "([BI)B"), (126, .methodref 42 178), (0, .nameAndType 45 179), (0, u "([CII)[B"), (395, .class_ 576), (0, u "java/lang/CharSequence"), (22, u "CASE_INSENSITIVE_ORDER"), (0, u "Ljava/util/Comparator;"), (409, u "([C)V"), (90, u "serialPersistentFields"), (0, u "[Ljava/io/ObjectStreamField;"), (0, .class_ 1104), (0, u "java/lang/String$CaseInsensitiveComparator"), (1, .class_ 1107), (0, u "java/io/Serializable"), (0, .class_ 1109), (0, u "java/lang/Comparable"), (0, .class_ 1111), (0, u "java/lang/constant/Constable"), (0, .class_ 1113), (0, u "java/lang/constant/ConstantDesc"), (2, u "serialVersionUID"), (0, u "J"), (3, u "REPL"), (0, u "C"), (2, u "LATIN1"), (1, u "UTF16")] 323

def k7m0 : Method := { name := "<init>", desc := "()V", sig := { parameters := [], returnType := none }, accessFlags := 1, code := none }
def k7c1 : Code := { maxStack := 5, maxLocals := 2, code := jdk_42_method_3_code, exceptionTable := #[], attributes := #[] }
def k7m1 : Method := { name := "<init>", desc := "([C)V", sig := { parameters := [(.array .char)], returnType := none }, accessFlags := 1, code := some k7c1 }
def k7c2 : Code := { maxStack := 4, maxLocals := 6, code := jdk_42_method_149_code, exceptionTable := #[], attributes := #[] }
def k7m2 : Method := { name := "<init>", desc := "([CIILjava/lang/Void;)V", sig := { parameters := [(.array .char), .int, .int, (.object "java/lang/Void")], returnType := none }, accessFlags := 2, code := some k7c2 }
/-- java/lang/String -/
def k7 : Class := { plain "java/lang/String" (some 0) with
  accessFlags := 49
  interfaces := #[2, 3, 4, 5, 6]
  cf := some (fileOf pool7 10 #[.nestMembers #[1103]] #[{ accessFlags := 1, nameIndex := 5, descriptorIndex := 6, attributes := #[] }, { accessFlags := 1, nameIndex := 5, descriptorIndex := 1010, attributes := #[] }, { accessFlags := 2, nameIndex := 5, descriptorIndex := 29, attributes := #[] }] 49 2 #[1106, 1108, 575, 1110, 1112] #[{ accessFlags := 18, nameIndex := 13, descriptorIndex := 14, attributes := #[] }, { accessFlags := 18, nameIndex := 17, descriptorIndex := 18, attributes := #[] }, { accessFlags := 2, nameIndex := 21, descriptorIndex := 22, attributes := #[] }, { accessFlags := 2, nameIndex := 25, descriptorIndex := 26, attributes := #[] }, { accessFlags := 26, nameIndex := 1116, descriptorIndex := 1117, attributes := #[] }, { accessFlags := 24, nameIndex := 40, descriptorIndex := 26, attributes := #[] }, { accessFlags := 26, nameIndex := 1101, descriptorIndex := 1102, attributes := #[] }, { accessFlags := 26, nameIndex := 1121, descriptorIndex := 1122, attributes := #[] }, { accessFlags := 25, nameIndex := 599, descriptorIndex := 600, attributes := #[] }, { accessFlags := 24, nameIndex := 1125, descriptorIndex := 18, attributes := #[] }, { accessFlags := 24, nameIndex := 1127, descriptorIndex := 18, attributes := #[] }])
  fields := #[{ name := "value", type := (.array .byte), accessFlags := 18, slot := 0, constantValue := 0 }, { name := "coder", type := .byte, accessFlags := 18, slot := 1, constantValue := 0 }, { name := "hash", type := .int, accessFlags := 2, slot := 2, constantValue := 0 }, { name := "hashIsZero", type := .boolean, accessFlags := 2, slot := 3, constantValue := 0 }, { name := "serialVersionUID", type := .long, accessFlags := 26, slot := 0, constantValue := 0 }, { name := "COMPACT_STRINGS", type := .boolean, accessFlags := 24, slot := 1, constantValue := 0 }, { name := "serialPersistentFields", type := (.array (.object "java/io/ObjectStreamField")), accessFlags := 26, slot := 2, constantValue := 0 }, { name := "REPL", type := .char, accessFlags := 26, slot := 3, constantValue := 0 }, { name := "CASE_INSENSITIVE_ORDER", type := (.object "java/util/Comparator"), accessFlags := 25, slot := 4, constantValue := 0 }, { name := "LATIN1", type := .byte, accessFlags := 24, slot := 5, constantValue := 0 }, { name := "UTF16", type := .byte, accessFlags := 24, slot := 6, constantValue := 0 }]
  methods := #[k7m0, k7m1, k7m2]
  instanceTypes := #[(.array .byte), .byte, .int, .boolean]
  staticTypes := #[.long, .boolean, (.array (.object "java/io/ObjectStreamField")), .char, (.object "java/util/Comparator"), .byte, .byte]
  resolved := Array.replicate 1451 none
  statics := some 0 }

def pool8 : Array CpInfo := pool [(6, .class_ 8), (1, u "java/lang/Object"), (0, u "<init>"), (0, u "()V"), (1, .class_ 14), (1, u "java/lang/StringUTF16"), (31, u "$assertionsDisabled"), (0, u "Z"), (13, u "HI_BYTE_SHIFT"), (0, u "I"), (2, u "LO_BYTE_SHIFT"), (49, .methodref 12 116), (0, .nameAndType 117 118), (0, u "compress"), (0, u "([CI[BII)I"), (3, u "([CII)[B"), (138, u "coderFromArrayLen"), (0, u "([BI)B"), (106, .class_ 371), (1, u "java/lang/StringUTF16$LinesSpliterator"), (58, u "MAX_LENGTH"), (196, .class_ 628), (0, u "java/lang/StringUTF16$CodePointsSpliterator"), (0, .class_ 630), (0, u "java/lang/StringUTF16$CharsSpliterator")] 4

def k8m0 : Method := { name := "<init>", desc := "()V", sig := { parameters := [], returnType := none }, accessFlags := 0, code := none }
def k8c1 : Code := { maxStack := 2, maxLocals := 2, code := jdk_52_method_15_code, exceptionTable := #[], attributes := #[] }
def k8m1 : Method := { name := "coderFromArrayLen", desc := "([BI)B", sig := { parameters := [(.array .byte), .int], returnType := some .byte }, accessFlags := 8, code := some k8c1 }
def k8c2 : Code := { maxStack := 5, maxLocals := 6, code := jdk_52_method_16_code, exceptionTable := #[], attributes := #[] }
def k8m2 : Method := { name := "compress", desc := "([CII)[B", sig := { parameters := [(.array .char), .int, .int], returnType := some (.array .byte) }, accessFlags := 9, code := some k8c2 }
def k8c3 : Code := { maxStack := 3, maxLocals := 7, code := jdk_52_method_21_code, exceptionTable := #[], attributes := #[] }
def k8m3 : Method := { name := "compress", desc := "([CI[BII)I", sig := { parameters := [(.array .char), .int, (.array .byte), .int, .int], returnType := some .int }, accessFlags := 9, code := some k8c3 }
/-- java/lang/StringUTF16 -/
def k8 : Class := { plain "java/lang/StringUTF16" (some 0) with
  accessFlags := 48
  interfaces := #[]
  cf := some (fileOf pool8 12 #[.nestMembers #[627, 629, 369]] #[{ accessFlags := 0, nameIndex := 9, descriptorIndex := 10, attributes := #[] }, { accessFlags := 8, nameIndex := 261, descriptorIndex := 262, attributes := #[] }, { accessFlags := 9, nameIndex := 117, descriptorIndex := 122, attributes := #[] }, { accessFlags := 9, nameIndex := 117, descriptorIndex := 118, attributes := #[] }] 48 6 #[] #[{ accessFlags := 26, nameIndex := 61, descriptorIndex := 62, attributes := #[] }, { accessFlags := 26, nameIndex := 65, descriptorIndex := 62, attributes := #[] }, { accessFlags := 24, nameIndex := 430, descriptorIndex := 62, attributes := #[] }, { accessFlags := 4120, nameIndex := 46, descriptorIndex := 47, attributes := #[] }])
  fields := #[{ name := "HI_BYTE_SHIFT", type := .int, accessFlags := 26, slot := 0, constantValue := 0 }, { name := "LO_BYTE_SHIFT", type := .int, accessFlags := 26, slot := 1, constantValue := 0 }, { name := "MAX_LENGTH", type := .int, accessFlags := 24, slot := 2, constantValue := 0 }, { name := "$assertionsDisabled", type := .boolean, accessFlags := 4120, slot := 3, constantValue := 0 }]
  methods := #[k8m0, k8m1, k8m2, k8m3]
  instanceTypes := #[]
  staticTypes := #[.int, .int, .int, .boolean]
  resolved := Array.replicate 635 none
  statics := none }

def pool9 : Array CpInfo := pool [(1, .methodref 2 3), (0, .class_ 4), (0, .nameAndType 5 6), (0, u "java/lang/Object"), (0, u "<init>"), (0, u "()V"), (0, .fieldref 8 9), (0, .class_ 10), (0, .nameAndType 11 12), (0, u "java/lang/Throwable"), (0, u "cause"), (0, u "Ljava/lang/Throwable;"), (0, .fieldref 8 14), (0, .nameAndType 15 16), (0, u "UNASSIGNED_STACK"), (0, u "[Ljava/lang/StackTraceElement;"), (0, .fieldref 8 18), (0, .nameAndType 19 16), (0, u "stackTrace"), (0, .fieldref 8 21), (0, .nameAndType 22 23), (0, u "SUPPRESSED_SENTINEL"), (0, u "Ljava/util/List;"), (0, .fieldref 8 25), (0, .nameAndType 26 23), (0, u "suppressedExceptions"), (0, .methodref 8 28), (0, .nameAndType 29 30), (0, u "fillInStackTrace"), (0, u "()Ljava/lang/Throwable;"), (0, .fieldref 8 32), (0, .nameAndType 33 34), (0, u "detailMessage"), (0, u "Ljava/lang/String;"), (58, .class_ 94), (0, u "java/lang/Throwable$WrappedPrintStream"), (6, .class_ 103), (1, u "java/lang/Throwable$PrintStreamOrWriter"), (61, u "$assertionsDisabled"), (0, u "Z"), (26, .class_ 194), (0, u "java/lang/Throwable$WrappedPrintWriter"), (3, .fieldref 8 199), (0, .nameAndType 200 201), (0, u "backtrace"), (0, u "Ljava/lang/Object;"), (0, .methodref 8 203), (0, .nameAndType 29 204), (0, u "(I)Ljava/lang/Throwable;"), (6, u "depth"), (0, u "I"), (10, u "(Ljava/lang/String;)V"), (45, .class_ 271), (1, u "java/lang/Throwable$SentinelHolder"), (32, u "EMPTY_THROWABLE_ARRAY"), (0, u "[Ljava/lang/Throwable;"), (12, .class_ 319), (0, u "java/io/Serializable"), (0, u "serialVersionUID"), (0, u "J"), (5, u "NULL_CAUSE_MESSAGE"), (0, u "SELF_SUPPRESSION_MESSAGE"), (0, u "CAUSE_CAPTION"), (0, u "SUPPRESSED_CAPTION")] 73

def k9c0 : Code := { maxStack := 2, maxLocals := 1, code := jdk_78_method_1_code, exceptionTable := #[], attributes := #[] }
def k9m0 : Method := { name := "<init>", desc := "()V", sig := { parameters := [], returnType := none }, accessFlags := 1, code := some k9c0 }
def k9c1 : Code := { maxStack := 2, maxLocals := 2, code := jdk_78_method_2_code, exceptionTable := #[], attributes := #[] }
def k9m1 : Method := { name := "<init>", desc := "(Ljava/lang/String;)V", sig := { parameters := [(.object "java/lang/String")], returnType := none }, accessFlags := 1, code := some k9c1 }
def k9c2 : Code := { maxStack := 2, maxLocals := 1, code := ⟨#[0x2a, 0xb4, 0x00, 0x11, 0xc7, 0x00, 0x0a, 0x2a, 0xb4, 0x00, 0xc6, 0xc6, 0x00, 0x10, 0x2a, 0x03, 0xb6, 0x00, 0xca, 0x57, 0x2a, 0xb2, 0x00, 0x0d, 0xb5, 0x00, 0x11, 0x2a, 0xb0]⟩, exceptionTable := #[], attributes := #[] }
def k9m2 : Method := { name := "fillInStackTrace", desc := "()Ljava/lang/Throwable;", sig := { parameters := [], returnType := some (.object "java/lang/Throwable") }, accessFlags := 33, code := some k9c2 }
def k9m3 : Method := { name := "fillInStackTrace", desc := "(I)Ljava/lang/Throwable;", sig := { parameters := [.int], returnType := some (.object "java/lang/Throwable") }, accessFlags := 258, code := none }
/-- java/lang/Throwable -/
def k9 : Class := { plain "java/lang/Throwable" (some 0) with
  accessFlags := 33
  interfaces := #[2]
  cf := some (fileOf pool9 8 #[.nestMembers #[193, 93, 101, 269]] #[{ accessFlags := 1, nameIndex := 5, descriptorIndex := 6, attributes := #[] }, { accessFlags := 1, nameIndex := 5, descriptorIndex := 223, attributes := #[] }, { accessFlags := 33, nameIndex := 29, descriptorIndex := 30, attributes := #[] }, { accessFlags := 258, nameIndex := 29, descriptorIndex := 204, attributes := #[] }] 33 2 #[318] #[{ accessFlags := 26, nameIndex := 320, descriptorIndex := 321, attributes := #[] }, { accessFlags := 130, nameIndex := 200, descriptorIndex := 201, attributes := #[] }, { accessFlags := 2, nameIndex := 33, descriptorIndex := 34, attributes := #[] }, { accessFlags := 26, nameIndex := 15, descriptorIndex := 16, attributes := #[] }, { accessFlags := 2, nameIndex := 11, descriptorIndex := 12, attributes := #[] }, { accessFlags := 2, nameIndex := 19, descriptorIndex := 16, attributes := #[] }, { accessFlags := 130, nameIndex := 211, descriptorIndex := 212, attributes := #[] }, { accessFlags := 26, nameIndex := 22, descriptorIndex := 23, attributes := #[] }, { accessFlags := 2, nameIndex := 26, descriptorIndex := 23, attributes := #[] }, { accessFlags := 26, nameIndex := 327, descriptorIndex := 34, attributes := #[] }, { accessFlags := 26, nameIndex := 328, descriptorIndex := 34, attributes := #[] }, { accessFlags := 26, nameIndex := 329, descriptorIndex := 34, attributes := #[] }, { accessFlags := 26, nameIndex := 330, descriptorIndex := 34, attributes := #[] }, { accessFlags := 26, nameIndex := 304, descriptorIndex := 305, attributes := #[] }, { accessFlags := 4120, nameIndex := 165, descriptorIndex := 166, attributes := #[] }])
  fields := #[{ name := "serialVersionUID", type := .long, accessFlags := 26, slot := 0, constantValue := 0 }, { name := "backtrace", type := (.object "java/lang/Object"), accessFlags := 130, slot := 0, constantValue := 0 }, { name := "detailMessage", type := (.object "java/lang/String"), accessFlags := 2, slot := 1, constantValue := 0 }, { name := "UNASSIGNED_STACK", type := (.array (.object "java/lang/StackTraceElement")), accessFlags := 26, slot := 1, constantValue := 0 }, { name := "cause", type := (.object "java/lang/Throwable"), accessFlags := 2, slot := 2, constantValue := 0 }, { name := "stackTrace", type := (.array (.object "java/lang/StackTraceElement")), accessFlags := 2, slot := 3, constantValue := 0 }, { name := "depth", type := .int, accessFlags := 130, slot := 4, constantValue := 0 }, { name := "SUPPRESSED_SENTINEL", type := (.object "java/util/List"), accessFlags := 26, slot := 2, constantValue := 0 }, { name := "suppressedExceptions", type := (.object "java/util/List"), accessFlags := 2, slot := 5, constantValue := 0 }, { name := "NULL_CAUSE_MESSAGE", type := (.object "java/lang/String"), accessFlags := 26, slot := 3, constantValue := 0 }, { name := "SELF_SUPPRESSION_MESSAGE", type := (.object "java/lang/String"), accessFlags := 26, slot := 4, constantValue := 0 }, { name := "CAUSE_CAPTION", type := (.object "java/lang/String"), accessFlags := 26, slot := 5, constantValue := 0 }, { name := "SUPPRESSED_CAPTION", type := (.object "java/lang/String"), accessFlags := 26, slot := 6, constantValue := 0 }, { name := "EMPTY_THROWABLE_ARRAY", type := (.array (.object "java/lang/Throwable")), accessFlags := 26, slot := 7, constantValue := 0 }, { name := "$assertionsDisabled", type := .boolean, accessFlags := 4120, slot := 8, constantValue := 0 }]
  methods := #[k9m0, k9m1, k9m2, k9m3]
  instanceTypes := #[(.object "java/lang/Object"), (.object "java/lang/String"), (.object "java/lang/Throwable"), (.array (.object "java/lang/StackTraceElement")), .int, (.object "java/util/List")]
  staticTypes := #[.long, (.array (.object "java/lang/StackTraceElement")), (.object "java/util/List"), (.object "java/lang/String"), (.object "java/lang/String"), (.object "java/lang/String"), (.object "java/lang/String"), (.array (.object "java/lang/Throwable")), .boolean]
  resolved := Array.replicate 404 none
  statics := some 1 }

def pool10 : Array CpInfo := pool [(2, .class_ 4), (1, u "java/lang/Throwable"), (0, u "<init>"), (0, u "()V"), (0, .methodref 2 8), (0, .nameAndType 5 9), (0, u "(Ljava/lang/String;)V"), (9, .class_ 20), (0, u "java/lang/Exception"), (0, u "serialVersionUID"), (0, u "J")] 17

def k10m0 : Method := { name := "<init>", desc := "()V", sig := { parameters := [], returnType := none }, accessFlags := 1, code := none }
def k10c1 : Code := { maxStack := 2, maxLocals := 2, code := jdk_59_method_2_code, exceptionTable := #[], attributes := #[] }
def k10m1 : Method := { name := "<init>", desc := "(Ljava/lang/String;)V", sig := { parameters := [(.object "java/lang/String")], returnType := none }, accessFlags := 1, code := some k10c1 }
/-- java/lang/Exception -/
def k10 : Class := { plain "java/lang/Exception" (some 9) with
  accessFlags := 33
  interfaces := #[]
  cf := some (fileOf pool10 19 #[] #[{ accessFlags := 1, nameIndex := 5, descriptorIndex := 6, attributes := #[] }, { accessFlags := 1, nameIndex := 5, descriptorIndex := 9, attributes := #[] }] 33 2 #[] #[{ accessFlags := 24, nameIndex := 21, descriptorIndex := 22, attributes := #[] }])
  fields := #[{ name := "serialVersionUID", type := .long, accessFlags := 24, slot := 0, constantValue := 0 }]
  methods := #[k10m0, k10m1]
  instanceTypes := #[(.object "java/lang/Object"), (.object "java/lang/String"), (.object "java/lang/Throwable"), (.array (.object "java/lang/StackTraceElement")), .int, (.object "java/util/List")]
  staticTypes := #[.long]
  resolved := Array.replicate 40 none
  statics := none }

def pool11 : Array CpInfo := pool [(2, .class_ 4), (1, u "java/lang/Exception"), (0, u "<init>"), (0, u "()V"), (0, .methodref 2 8), (0, .nameAndType 5 9), (0, u "(Ljava/lang/String;)V"), (6, .class_ 17), (0, u "java/io/IOException"), (0, u "serialVersionUID"), (0, u "J")] 14

def k11m0 : Method := { name := "<init>", desc := "()V", sig := { parameters := [], returnType := none }, accessFlags := 1, code := none }
def k11c1 : Code := { maxStack := 2, maxLocals := 2, code := jdk_131_method_2_code, exceptionTable := #[], attributes := #[] }
def k11m1 : Method := { name := "<init>", desc := "(Ljava/lang/String;)V", sig := { parameters := [(.object "java/lang/String")], returnType := none }, accessFlags := 1, code := some k11c1 }
/-- java/io/IOException -/
def k11 : Class := { plain "java/io/IOException" (some 10) with
  accessFlags := 33
  interfaces := #[]
  cf := some (fileOf pool11 16 #[] #[{ accessFlags := 1, nameIndex := 5, descriptorIndex := 6, attributes := #[] }, { accessFlags := 1, nameIndex := 5, descriptorIndex := 9, attributes := #[] }] 33 2 #[] #[{ accessFlags := 24, nameIndex := 18, descriptorIndex := 19, attributes := #[] }])
  fields := #[{ name := "serialVersionUID", type := .long, accessFlags := 24, slot := 0, constantValue := 0 }]
  methods := #[k11m0, k11m1]
  instanceTypes := #[(.object "java/lang/Object"), (.object "java/lang/String"), (.object "java/lang/Throwable"), (.array (.object "java/lang/StackTraceElement")), .int, (.object "java/util/List")]
  staticTypes := #[.long]
  resolved := Array.replicate 34 none
  statics := none }

def pool12 : Array CpInfo := pool [(1, .class_ 2), (0, u "caseward/web/RequestHead"), (2, .methodref 6 7), (0, .class_ 8), (0, .nameAndType 9 10), (0, u "caseward/web/RequestHead$Malformed"), (0, u "<init>"), (0, u "(ILjava/lang/String;)V"), (0, .methodref 12 13), (0, .class_ 14), (0, .nameAndType 9 15), (0, u "java/io/IOException"), (0, u "(Ljava/lang/String;)V"), (0, .fieldref 6 17), (0, .nameAndType 18 19), (0, u "status"), (0, u "I"), (0, u "serialVersionUID"), (0, u "J"), (5, u "()I"), (0, u "isForWantOfRoom"), (0, u "()Z")] 6

def k12c0 : Code := { maxStack := 3, maxLocals := 2, code := prog_80_method_1_code, exceptionTable := #[], attributes := #[] }
def k12m0 : Method := { name := "<init>", desc := "(Ljava/lang/String;)V", sig := { parameters := [(.object "java/lang/String")], returnType := none }, accessFlags := 0, code := some k12c0 }
def k12c1 : Code := { maxStack := 2, maxLocals := 3, code := prog_80_method_2_code, exceptionTable := #[], attributes := #[] }
def k12m1 : Method := { name := "<init>", desc := "(ILjava/lang/String;)V", sig := { parameters := [.int, (.object "java/lang/String")], returnType := none }, accessFlags := 0, code := some k12c1 }
def k12c2 : Code := { maxStack := 1, maxLocals := 1, code := prog_80_method_3_code, exceptionTable := #[], attributes := #[] }
def k12m2 : Method := { name := "status", desc := "()I", sig := { parameters := [], returnType := some .int }, accessFlags := 0, code := some k12c2 }
def k12c3 : Code := { maxStack := 2, maxLocals := 1, code := prog_80_method_4_code, exceptionTable := #[], attributes := #[] }
def k12m3 : Method := { name := "isForWantOfRoom", desc := "()Z", sig := { parameters := [], returnType := some .boolean }, accessFlags := 0, code := some k12c3 }
/-- caseward/web/RequestHead$Malformed -/
def k12 : Class := { plain "caseward/web/RequestHead$Malformed" (some 11) with
  accessFlags := 48
  interfaces := #[]
  cf := some (fileOf pool12 6 #[.nestHost 1] #[{ accessFlags := 0, nameIndex := 9, descriptorIndex := 15, attributes := #[] }, { accessFlags := 0, nameIndex := 9, descriptorIndex := 10, attributes := #[] }, { accessFlags := 0, nameIndex := 18, descriptorIndex := 27, attributes := #[] }, { accessFlags := 0, nameIndex := 28, descriptorIndex := 29, attributes := #[] }] 48 12 #[] #[{ accessFlags := 26, nameIndex := 20, descriptorIndex := 21, attributes := #[] }, { accessFlags := 18, nameIndex := 18, descriptorIndex := 19, attributes := #[] }])
  fields := #[{ name := "serialVersionUID", type := .long, accessFlags := 26, slot := 0, constantValue := 0 }, { name := "status", type := .int, accessFlags := 18, slot := 6, constantValue := 0 }]
  methods := #[k12m0, k12m1, k12m2, k12m3]
  instanceTypes := #[(.object "java/lang/Object"), (.object "java/lang/String"), (.object "java/lang/Throwable"), (.array (.object "java/lang/StackTraceElement")), .int, (.object "java/util/List"), .int]
  staticTypes := #[.long]
  resolved := Array.replicate 36 none
  statics := none }

def pool13 : Array CpInfo := pool [(4, .class_ 6), (1, u "java/lang/Object"), (0, u "<init>"), (0, u "()V"), (5, .class_ 16), (1, u "java/lang/StringLatin1"), (104, u "$assertionsDisabled"), (0, u "Z"), (98, .class_ 223), (1, u "java/lang/StringLatin1$LinesSpliterator"), (166, .class_ 391), (0, u "java/lang/StringLatin1$CharsSpliterator")] 3

def k13m0 : Method := { name := "<init>", desc := "()V", sig := { parameters := [], returnType := none }, accessFlags := 0, code := none }
/-- java/lang/StringLatin1 -/
def k13 : Class := { plain "java/lang/StringLatin1" (some 0) with
  accessFlags := 48
  interfaces := #[]
  cf := some (fileOf pool13 14 #[.nestMembers #[390, 221]] #[{ accessFlags := 0, nameIndex := 7, descriptorIndex := 8, attributes := #[] }] 48 4 #[] #[{ accessFlags := 4120, nameIndex := 121, descriptorIndex := 122, attributes := #[] }])
  fields := #[{ name := "$assertionsDisabled", type := .boolean, accessFlags := 4120, slot := 0, constantValue := 0 }]
  methods := #[k13m0]
  instanceTypes := #[]
  staticTypes := #[.boolean]
  resolved := Array.replicate 395 none
  statics := none }

def pool14 : Array CpInfo := pool [(2, .class_ 4), (1, u "java/lang/Object"), (0, u "<init>"), (0, u "()V"), (17, .class_ 26), (1, u "jdk/internal/util/Preconditions"), (28, .class_ 56), (0, u "jdk/internal/util/Preconditions$4"), (57, .class_ 115), (0, u "jdk/internal/util/Preconditions$1"), (7, u "SIOOBE_FORMATTER"), (0, u "Ljava/util/function/BiFunction;"), (0, .class_ 126), (0, u "jdk/internal/util/Preconditions$2"), (3, u "AIOOBE_FORMATTER"), (0, .class_ 132), (0, u "jdk/internal/util/Preconditions$3"), (3, u "IOOBE_FORMATTER")] 57

def k14m0 : Method := { name := "<init>", desc := "()V", sig := { parameters := [], returnType := none }, accessFlags := 1, code := none }
/-- jdk/internal/util/Preconditions -/
def k14 : Class := { plain "jdk/internal/util/Preconditions" (some 0) with
  accessFlags := 33
  interfaces := #[]
  cf := some (fileOf pool14 24 #[.nestMembers #[55, 131, 125, 114]] #[{ accessFlags := 1, nameIndex := 5, descriptorIndex := 6, attributes := #[] }] 33 2 #[] #[{ accessFlags := 25, nameIndex := 123, descriptorIndex := 124, attributes := #[] }, { accessFlags := 25, nameIndex := 130, descriptorIndex := 124, attributes := #[] }, { accessFlags := 25, nameIndex := 136, descriptorIndex := 124, attributes := #[] }])
  fields := #[{ name := "SIOOBE_FORMATTER", type := (.object "java/util/function/BiFunction"), accessFlags := 25, slot := 0, constantValue := 0 }, { name := "AIOOBE_FORMATTER", type := (.object "java/util/function/BiFunction"), accessFlags := 25, slot := 1, constantValue := 0 }, { name := "IOOBE_FORMATTER", type := (.object "java/util/function/BiFunction"), accessFlags := 25, slot := 2, constantValue := 0 }]
  methods := #[k14m0]
  instanceTypes := #[]
  staticTypes := #[(.object "java/util/function/BiFunction"), (.object "java/util/function/BiFunction"), (.object "java/util/function/BiFunction")]
  resolved := Array.replicate 194 none
  statics := some 2 }

def pool15 : Array CpInfo := pool [(9, u "<init>"), (6, .class_ 18), (1, u "java/lang/Object"), (0, u "()V"), (1, .class_ 23), (1, u "jdk/internal/util/ArraysSupport"), (0, u "LOG2_ARRAY_LONG_INDEX_SCALE"), (0, u "I"), (2, u "U"), (0, u "Ljdk/internal/misc/Unsafe;"), (8, u "BIG_ENDIAN"), (0, u "Z"), (8, u "LOG2_BYTE_BIT_SIZE"), (4, u "LOG2_ARRAY_INT_INDEX_SCALE"), (54, u "JLA"), (0, u "Ljdk/internal/access/JavaLangAccess;"), (11, u "LOG2_ARRAY_BOOLEAN_INDEX_SCALE"), (9, u "LOG2_ARRAY_BYTE_INDEX_SCALE"), (5, u "LOG2_ARRAY_CHAR_INDEX_SCALE"), (5, u "LOG2_ARRAY_SHORT_INDEX_SCALE"), (18, u "LOG2_ARRAY_FLOAT_INDEX_SCALE"), (24, u "LOG2_ARRAY_DOUBLE_INDEX_SCALE"), (89, u "T_BOOLEAN"), (2, u "T_CHAR"), (1, u "T_FLOAT"), (1, u "T_DOUBLE"), (1, u "T_BYTE"), (1, u "T_SHORT"), (1, u "T_INT"), (1, u "T_LONG"), (1, u "SOFT_MAX_ARRAY_LENGTH")] 83

def k15m0 : Method := { name := "<init>", desc := "()V", sig := { parameters := [], returnType := none }, accessFlags := 2, code := none }
/-- jdk/internal/util/ArraysSupport -/
def k15 : Class := { plain "jdk/internal/util/ArraysSupport" (some 0) with
  accessFlags := 33
  interfaces := #[]
  cf := some (fileOf pool15 21 #[] #[{ accessFlags := 2, nameIndex := 9, descriptorIndex := 19, attributes := #[] }] 33 16 #[] #[{ accessFlags := 24, nameIndex := 28, descriptorIndex := 29, attributes := #[] }, { accessFlags := 26, nameIndex := 38, descriptorIndex := 39, attributes := #[] }, { accessFlags := 25, nameIndex := 121, descriptorIndex := 25, attributes := #[] }, { accessFlags := 25, nameIndex := 131, descriptorIndex := 25, attributes := #[] }, { accessFlags := 25, nameIndex := 137, descriptorIndex := 25, attributes := #[] }, { accessFlags := 25, nameIndex := 143, descriptorIndex := 25, attributes := #[] }, { accessFlags := 25, nameIndex := 53, descriptorIndex := 25, attributes := #[] }, { accessFlags := 25, nameIndex := 24, descriptorIndex := 25, attributes := #[] }, { accessFlags := 25, nameIndex := 162, descriptorIndex := 25, attributes := #[] }, { accessFlags := 25, nameIndex := 187, descriptorIndex := 25, attributes := #[] }, { accessFlags := 26, nameIndex := 48, descriptorIndex := 25, attributes := #[] }, { accessFlags := 25, nameIndex := 277, descriptorIndex := 25, attributes := #[] }, { accessFlags := 25, nameIndex := 280, descriptorIndex := 25, attributes := #[] }, { accessFlags := 25, nameIndex := 282, descriptorIndex := 25, attributes := #[] }, { accessFlags := 25, nameIndex := 284, descriptorIndex := 25, attributes := #[] }, { accessFlags := 25, nameIndex := 286, descriptorIndex := 25, attributes := #[] }, { accessFlags := 25, nameIndex := 288, descriptorIndex := 25, attributes := #[] }, { accessFlags := 25, nameIndex := 290, descriptorIndex := 25, attributes := #[] }, { accessFlags := 25, nameIndex := 292, descriptorIndex := 25, attributes := #[] }, { accessFlags := 26, nameIndex := 108, descriptorIndex := 109, attributes := #[] }, { accessFlags := 25, nameIndex := 294, descriptorIndex := 25, attributes := #[] }])
  fields := #[{ name := "U", type := (.object "jdk/internal/misc/Unsafe"), accessFlags := 24, slot := 0, constantValue := 0 }, { name := "BIG_ENDIAN", type := .boolean, accessFlags := 26, slot := 1, constantValue := 0 }, { name := "LOG2_ARRAY_BOOLEAN_INDEX_SCALE", type := .int, accessFlags := 25, slot := 2, constantValue := 0 }, { name := "LOG2_ARRAY_BYTE_INDEX_SCALE", type := .int, accessFlags := 25, slot := 3, constantValue := 0 }, { name := "LOG2_ARRAY_CHAR_INDEX_SCALE", type := .int, accessFlags := 25, slot := 4, constantValue := 0 }, { name := "LOG2_ARRAY_SHORT_INDEX_SCALE", type := .int, accessFlags := 25, slot := 5, constantValue := 0 }, { name := "LOG2_ARRAY_INT_INDEX_SCALE", type := .int, accessFlags := 25, slot := 6, constantValue := 0 }, { name := "LOG2_ARRAY_LONG_INDEX_SCALE", type := .int, accessFlags := 25, slot := 7, constantValue := 0 }, { name := "LOG2_ARRAY_FLOAT_INDEX_SCALE", type := .int, accessFlags := 25, slot := 8, constantValue := 0 }, { name := "LOG2_ARRAY_DOUBLE_INDEX_SCALE", type := .int, accessFlags := 25, slot := 9, constantValue := 0 }, { name := "LOG2_BYTE_BIT_SIZE", type := .int, accessFlags := 26, slot := 10, constantValue := 0 }, { name := "T_BOOLEAN", type := .int, accessFlags := 25, slot := 11, constantValue := 0 }, { name := "T_CHAR", type := .int, accessFlags := 25, slot := 12, constantValue := 0 }, { name := "T_FLOAT", type := .int, accessFlags := 25, slot := 13, constantValue := 0 }, { name := "T_DOUBLE", type := .int, accessFlags := 25, slot := 14, constantValue := 0 }, { name := "T_BYTE", type := .int, accessFlags := 25, slot := 15, constantValue := 0 }, { name := "T_SHORT", type := .int, accessFlags := 25, slot := 16, constantValue := 0 }, { name := "T_INT", type := .int, accessFlags := 25, slot := 17, constantValue := 0 }, { name := "T_LONG", type := .int, accessFlags := 25, slot := 18, constantValue := 0 }, { name := "JLA", type := (.object "jdk/internal/access/JavaLangAccess"), accessFlags := 26, slot := 19, constantValue := 0 }, { name := "SOFT_MAX_ARRAY_LENGTH", type := .int, accessFlags := 25, slot := 20, constantValue := 0 }]
  methods := #[k15m0]
  instanceTypes := #[]
  staticTypes := #[(.object "jdk/internal/misc/Unsafe"), .boolean, .int, .int, .int, .int, .int, .int, .int, .int, .int, .int, .int, .int, .int, .int, .int, .int, .int, (.object "jdk/internal/access/JavaLangAccess"), .int]
  resolved := Array.replicate 378 none
  statics := none }

def pool16 : Array CpInfo := pool [(2, .class_ 4), (1, u "java/lang/Object"), (0, u "<init>"), (0, u "()V"), (12, .class_ 20), (0, u "java/util/Collections"), (63, u "r"), (0, u "Ljava/util/Random;"), (80, .class_ 167), (0, u "java/util/Collections$UnmodifiableCollection"), (6, .class_ 175), (0, u "java/util/Collections$UnmodifiableSequencedCollection"), (6, .class_ 183), (0, u "java/util/Collections$UnmodifiableSet"), (6, .class_ 191), (0, u "java/util/Collections$UnmodifiableSequencedSet"), (6, .class_ 199), (0, u "java/util/Collections$UnmodifiableSortedSet"), (6, .class_ 207), (0, u "java/util/Collections$UnmodifiableNavigableSet"), (4, .class_ 213), (0, u "java/util/Collections$UnmodifiableList"), (1, .class_ 216), (0, u "java/util/Collections$UnmodifiableRandomAccessList"), (6, .class_ 224), (0, u "java/util/Collections$UnmodifiableMap"), (6, .class_ 232), (0, u "java/util/Collections$UnmodifiableSequencedMap"), (4, .class_ 238), (0, u "java/util/Collections$UnmodifiableSortedMap"), (6, .class_ 246), (0, u "java/util/Collections$UnmodifiableNavigableMap"), (3, .class_ 251), (0, u "java/util/Collections$SynchronizedCollection"), (4, .class_ 257), (0, u "java/util/Collections$SynchronizedSet"), (4, .class_ 263), (0, u "java/util/Collections$SynchronizedSortedSet"), (1, .class_ 266), (0, u "java/util/Collections$SynchronizedNavigableSet"), (1, .class_ 269), (0, u "java/util/Collections$SynchronizedRandomAccessList"), (1, .class_ 272), (0, u "java/util/Collections$SynchronizedList"), (5, .class_ 279), (0, u "java/util/Collections$SynchronizedMap"), (1, .class_ 282), (0, u "java/util/Collections$SynchronizedSortedMap"), (1, .class_ 285), (0, u "java/util/Collections$SynchronizedNavigableMap"), (1, .class_ 288), (0, u "java/util/Collections$CheckedCollection"), (11, .class_ 301), (0, u "java/util/Collections$CheckedQueue"), (3, .class_ 306), (0, u "java/util/Collections$CheckedSet"), (3, .class_ 311), (0, u "java/util/Collections$CheckedSortedSet"), (3, .class_ 316), (0, u "java/util/Collections$CheckedNavigableSet"), (3, .class_ 321), (0, u "java/util/Collections$CheckedRandomAccessList"), (3, .class_ 326), (0, u "java/util/Collections$CheckedList"), (1, .class_ 329), (0, u "java/util/Collections$CheckedMap"), (3, .class_ 334), (0, u "java/util/Collections$CheckedSortedMap"), (3, .class_ 339), (0, u "java/util/Collections$CheckedNavigableMap"), (4, .class_ 346), (1, u "java/util/Collections$EmptyIterator"), (3, .class_ 352), (1, u "java/util/Collections$EmptyListIterator"), (2, .class_ 357), (1, u "java/util/Collections$EmptyEnumeration"), (4, u "EMPTY_SET"), (0, u "Ljava/util/Set;"), (6, u "EMPTY_LIST"), (0, u "Ljava/util/List;"), (2, u "EMPTY_MAP"), (0, u "Ljava/util/Map;"), (4, .class_ 381), (0, u "java/util/Collections$SingletonSet"), (2, .class_ 385), (0, u "java/util/Collections$1"), (1, .class_ 388), (0, u "java/util/Collections$2"), (1, .class_ 391), (0, u "java/util/Collections$SingletonList"), (1, .class_ 394), (0, u "java/util/Collections$SingletonMap"), (22, .class_ 418), (0, u "java/util/Collections$CopiesList"), (4, .class_ 425), (1, u "java/util/Collections$ReverseComparator"), (8, .class_ 435), (0, u "java/util/Collections$ReverseComparator2"), (6, .class_ 443), (0, u "java/util/Collections$3"), (25, .class_ 470), (0, u "java/util/Collections$SetFromMap"), (2, .class_ 474), (0, u "java/util/Collections$SequencedSetFromMap"), (3, .class_ 479), (0, u "java/util/Collections$AsLIFOQueue"), (11, .class_ 492), (0, u "java/util/Collections$EmptySet"), (1, .class_ 495), (0, u "java/util/Collections$EmptyList"), (1, .class_ 498), (0, u "java/util/Collections$EmptyMap"), (1, u "BINARYSEARCH_THRESHOLD"), (0, u "I"), (2, u "REVERSE_THRESHOLD"), (1, u "SHUFFLE_THRESHOLD"), (1, u "FILL_THRESHOLD"), (1, u "ROTATE_THRESHOLD"), (1, u "COPY_THRESHOLD"), (1, u "REPLACEALL_THRESHOLD"), (1, u "INDEXOFSUBLIST_THRESHOLD"), (333, .class_ 851), (0, u "java/util/Collections$CheckedMap$CheckedEntrySet"), (0, .class_ 853), (0, u "java/util/Collections$CheckedMap$CheckedEntrySet$CheckedEntry"), (0, .class_ 855), (0, u "java/util/Collections$CheckedMap$CheckedEntrySet$1"), (0, .class_ 857), (0, u "java/util/Collections$CheckedList$1"), (0, .class_ 859), (0, u "java/util/Collections$CheckedCollection$1"), (0, .class_ 861), (0, u "java/util/Collections$UnmodifiableNavigableMap$EmptyNavigableMap"), (0, .class_ 863), (0, u "java/util/Collections$UnmodifiableMap$UnmodifiableEntrySet"), (0, .class_ 865), (0, u "java/util/Collections$UnmodifiableMap$UnmodifiableEntrySet$UnmodifiableEntry"), (0, .class_ 867), (0, u "java/util/Collections$UnmodifiableMap$UnmodifiableEntrySet$UnmodifiableEntrySetSpliterator"), (0, .class_ 869), (0, u "java/util/Collections$UnmodifiableMap$UnmodifiableEntrySet$1"), (0, .class_ 871), (0, u "java/util/Collections$UnmodifiableList$1"), (0, .class_ 873), (0, u "java/util/Collections$UnmodifiableNavigableSet$EmptyNavigableSet"), (0, .class_ 875), (0, u "java/util/Collections$UnmodifiableCollection$1")] 57

def k16m0 : Method := { name := "<init>", desc := "()V", sig := { parameters := [], returnType := none }, accessFlags := 2, code := none }
/-- java/util/Collections -/
def k16 : Class := { plain "java/util/Collections" (some 0) with
  accessFlags := 33
  interfaces := #[]
  cf := some (fileOf pool16 19 #[.nestMembers #[478, 473, 469, 434, 423, 417, 393, 390, 380, 497, 494, 491, 355, 350, 344, 338, 333, 328, 850, 852, 854, 320, 325, 856, 315, 310, 305, 300, 287, 858, 284, 281, 278, 268, 271, 265, 262, 256, 250, 245, 860, 237, 231, 223, 862, 864, 866, 868, 215, 212, 870, 206, 872, 198, 190, 182, 174, 166, 874, 442, 387, 384]] #[{ accessFlags := 2, nameIndex := 5, descriptorIndex := 6, attributes := #[] }] 33 2 #[] #[{ accessFlags := 26, nameIndex := 500, descriptorIndex := 501, attributes := #[] }, { accessFlags := 26, nameIndex := 504, descriptorIndex := 501, attributes := #[] }, { accessFlags := 26, nameIndex := 506, descriptorIndex := 501, attributes := #[] }, { accessFlags := 26, nameIndex := 508, descriptorIndex := 501, attributes := #[] }, { accessFlags := 26, nameIndex := 510, descriptorIndex := 501, attributes := #[] }, { accessFlags := 26, nameIndex := 512, descriptorIndex := 501, attributes := #[] }, { accessFlags := 26, nameIndex := 514, descriptorIndex := 501, attributes := #[] }, { accessFlags := 26, nameIndex := 516, descriptorIndex := 501, attributes := #[] }, { accessFlags := 10, nameIndex := 84, descriptorIndex := 85, attributes := #[] }, { accessFlags := 25, nameIndex := 362, descriptorIndex := 363, attributes := #[] }, { accessFlags := 25, nameIndex := 370, descriptorIndex := 371, attributes := #[] }, { accessFlags := 25, nameIndex := 374, descriptorIndex := 375, attributes := #[] }])
  fields := #[{ name := "BINARYSEARCH_THRESHOLD", type := .int, accessFlags := 26, slot := 0, constantValue := 0 }, { name := "REVERSE_THRESHOLD", type := .int, accessFlags := 26, slot := 1, constantValue := 0 }, { name := "SHUFFLE_THRESHOLD", type := .int, accessFlags := 26, slot := 2, constantValue := 0 }, { name := "FILL_THRESHOLD", type := .int, accessFlags := 26, slot := 3, constantValue := 0 }, { name := "ROTATE_THRESHOLD", type := .int, accessFlags := 26, slot := 4, constantValue := 0 }, { name := "COPY_THRESHOLD", type := .int, accessFlags := 26, slot := 5, constantValue := 0 }, { name := "REPLACEALL_THRESHOLD", type := .int, accessFlags := 26, slot := 6, constantValue := 0 }, { name := "INDEXOFSUBLIST_THRESHOLD", type := .int, accessFlags := 26, slot := 7, constantValue := 0 }, { name := "r", type := (.object "java/util/Random"), accessFlags := 10, slot := 8, constantValue := 0 }, { name := "EMPTY_SET", type := (.object "java/util/Set"), accessFlags := 25, slot := 9, constantValue := 0 }, { name := "EMPTY_LIST", type := (.object "java/util/List"), accessFlags := 25, slot := 10, constantValue := 0 }, { name := "EMPTY_MAP", type := (.object "java/util/Map"), accessFlags := 25, slot := 11, constantValue := 0 }]
  methods := #[k16m0]
  instanceTypes := #[]
  staticTypes := #[.int, .int, .int, .int, .int, .int, .int, .int, (.object "java/util/Random"), (.object "java/util/Set"), (.object "java/util/List"), (.object "java/util/Map")]
  resolved := Array.replicate 933 none
  statics := some 3 }

def pool17 : Array CpInfo := pool [(8, .class_ 10), (1, u "java/lang/Iterable"), (24, .class_ 36), (0, u "java/lang/Object")] 25

/-- java/lang/Iterable -/
def k17 : Class := { plain "java/lang/Iterable" (some 0) with
  accessFlags := 1537
  interfaces := #[]
  cf := some (fileOf pool17 8 #[] #[] 1537 35 #[] #[])
  fields := #[]
  methods := #[]
  instanceTypes := #[]
  staticTypes := #[]
  resolved := Array.replicate 62 none
  statics := none }

def pool18 : Array CpInfo := pool [(10, .class_ 12), (1, u "java/util/Collection"), (47, .class_ 61), (0, u "java/lang/Object"), (0, .class_ 63), (0, u "java/lang/Iterable")] 51

/-- java/util/Collection -/
def k18 : Class := { plain "java/util/Collection" (some 0) with
  accessFlags := 1537
  interfaces := #[17]
  cf := some (fileOf pool18 10 #[] #[] 1537 60 #[62] #[])
  fields := #[]
  methods := #[]
  instanceTypes := #[]
  staticTypes := #[]
  resolved := Array.replicate 115 none
  statics := none }

def pool19 : Array CpInfo := pool [(2, .class_ 4), (1, u "java/lang/Object"), (0, u "<init>"), (0, u "()V"), (1, .class_ 10), (1, u "java/util/AbstractCollection"), (66, .class_ 78), (0, u "java/util/Collection")] 81

def k19m0 : Method := { name := "<init>", desc := "()V", sig := { parameters := [], returnType := none }, accessFlags := 4, code := none }
/-- java/util/AbstractCollection -/
def k19 : Class := { plain "java/util/AbstractCollection" (some 0) with
  accessFlags := 1057
  interfaces := #[18]
  cf := some (fileOf pool19 8 #[] #[{ accessFlags := 4, nameIndex := 5, descriptorIndex := 6, attributes := #[] }] 1057 2 #[77] #[])
  fields := #[]
  methods := #[k19m0]
  instanceTypes := #[]
  staticTypes := #[]
  resolved := Array.replicate 160 none
  statics := none }

def pool20 : Array CpInfo := pool [(8, .class_ 10), (1, u "java/util/SequencedCollection"), (15, .class_ 27), (0, u "java/lang/Object"), (0, .class_ 29), (0, u "java/util/Collection")] 27

/-- java/util/SequencedCollection -/
def k20 : Class := { plain "java/util/SequencedCollection" (some 0) with
  accessFlags := 1537
  interfaces := #[18]
  cf := some (fileOf pool20 8 #[] #[] 1537 26 #[28] #[])
  fields := #[]
  methods := #[]
  instanceTypes := #[]
  staticTypes := #[]
  resolved := Array.replicate 57 none
  statics := none }

def pool21 : Array CpInfo := pool [(8, .class_ 10), (1, u "java/util/List"), (92, .class_ 104), (0, u "java/lang/Object"), (15, .class_ 121), (0, u "java/util/SequencedCollection")] 129

/-- java/util/List -/
def k21 : Class := { plain "java/util/List" (some 0) with
  accessFlags := 1537
  interfaces := #[20]
  cf := some (fileOf pool21 8 #[] #[] 1537 103 #[120] #[])
  fields := #[]
  methods := #[]
  instanceTypes := #[]
  staticTypes := #[]
  resolved := Array.replicate 251 none
  statics := none }

def pool22 : Array CpInfo := pool [(2, .class_ 4), (1, u "java/util/AbstractCollection"), (0, u "<init>"), (0, u "()V"), (1, .class_ 10), (1, u "java/util/AbstractList"), (0, u "modCount"), (0, u "I"), (64, .class_ 78), (0, u "java/util/AbstractList$Itr"), (3, .class_ 83), (0, u "java/util/AbstractList$ListItr"), (9, .class_ 94), (0, u "java/util/AbstractList$RandomAccessSubList"), (3, .class_ 99), (0, u "java/util/AbstractList$SubList"), (33, .class_ 134), (0, u "java/util/List"), (73, .class_ 209), (0, u "java/util/AbstractList$SubList$1"), (0, .class_ 211), (0, u "java/util/AbstractList$RandomAccessSpliterator")] 6

def k22m0 : Method := { name := "<init>", desc := "()V", sig := { parameters := [], returnType := none }, accessFlags := 4, code := none }
/-- java/util/AbstractList -/
def k22 : Class := { plain "java/util/AbstractList" (some 19) with
  accessFlags := 1057
  interfaces := #[21]
  cf := some (fileOf pool22 8 #[.nestMembers #[93, 98, 208, 210, 82, 77]] #[{ accessFlags := 4, nameIndex := 5, descriptorIndex := 6, attributes := #[] }] 1057 2 #[133] #[{ accessFlags := 132, nameIndex := 11, descriptorIndex := 12, attributes := #[] }])
  fields := #[{ name := "modCount", type := .int, accessFlags := 132, slot := 0, constantValue := 0 }]
  methods := #[k22m0]
  instanceTypes := #[.int]
  staticTypes := #[]
  resolved := Array.replicate 218 none
  statics := none }

def pool23 : Array CpInfo := pool [(1, .class_ 2), (0, u "java/util/RandomAccess"), (0, .class_ 4), (0, u "java/lang/Object")] 2

/-- java/util/RandomAccess -/
def k23 : Class := { plain "java/util/RandomAccess" (some 0) with
  accessFlags := 1537
  interfaces := #[]
  cf := some (fileOf pool23 1 #[] #[] 1537 3 #[] #[])
  fields := #[]
  methods := #[]
  instanceTypes := #[]
  staticTypes := #[]
  resolved := Array.replicate 7 none
  statics := none }

def pool24 : Array CpInfo := pool [(2, .class_ 4), (1, u "java/util/AbstractList"), (0, u "<init>"), (0, u "()V"), (1, .class_ 10), (1, u "java/util/Collections"), (54, .class_ 66), (0, u "java/util/Collections$EmptyList"), (0, .class_ 68), (0, u "java/util/RandomAccess"), (0, .class_ 70), (0, u "java/io/Serializable"), (0, u "serialVersionUID"), (0, u "J")] 77

def k24m0 : Method := { name := "<init>", desc := "()V", sig := { parameters := [], returnType := none }, accessFlags := 2, code := none }
/-- java/util/Collections$EmptyList -/
def k24 : Class := { plain "java/util/Collections$EmptyList" (some 22) with
  accessFlags := 32
  interfaces := #[23, 2]
  cf := some (fileOf pool24 65 #[.nestHost 8] #[{ accessFlags := 2, nameIndex := 5, descriptorIndex := 6, attributes := #[] }] 32 2 #[67, 69] #[{ accessFlags := 26, nameIndex := 71, descriptorIndex := 72, attributes := #[] }])
  fields := #[{ name := "serialVersionUID", type := .long, accessFlags := 26, slot := 0, constantValue := 0 }]
  methods := #[k24m0]
  instanceTypes := #[.int]
  staticTypes := #[.long]
  resolved := Array.replicate 150 none
  statics := none }

def pool25 : Array CpInfo := pool [(2, .class_ 4), (1, u "java/lang/StackTraceElement"), (0, u "<init>"), (2, .class_ 10), (1, u "java/lang/Object"), (0, u "()V"), (2, u "format"), (0, u "B"), (2, u "classLoaderName"), (0, u "Ljava/lang/String;"), (2, u "moduleName"), (2, u "moduleVersion"), (12, u "declaringClass"), (4, u "methodName"), (2, u "fileName"), (2, u "lineNumber"), (0, u "I"), (65, u "declaringClassObject"), (0, u "Ljava/lang/Class;"), (33, .class_ 153), (1, u "java/lang/StackTraceElement$HashedModules"), (17, .class_ 172), (0, u "java/io/Serializable"), (0, u "NATIVE_METHOD"), (1, u "UNKNOWN_SOURCE"), (2, u "BUILTIN_CLASS_LOADER"), (1, u "JDK_NON_UPGRADEABLE_MODULE"), (1, u "serialVersionUID"), (0, u "J")] 51

def k25m0 : Method := { name := "<init>", desc := "()V", sig := { parameters := [], returnType := none }, accessFlags := 2, code := none }
/-- java/lang/StackTraceElement -/
def k25 : Class := { plain "java/lang/StackTraceElement" (some 0) with
  accessFlags := 49
  interfaces := #[2]
  cf := some (fileOf pool25 2 #[.nestMembers #[151]] #[{ accessFlags := 2, nameIndex := 5, descriptorIndex := 11, attributes := #[] }] 49 8 #[171] #[{ accessFlags := 26, nameIndex := 173, descriptorIndex := 19, attributes := #[] }, { accessFlags := 26, nameIndex := 175, descriptorIndex := 19, attributes := #[] }, { accessFlags := 130, nameIndex := 116, descriptorIndex := 117, attributes := #[] }, { accessFlags := 2, nameIndex := 18, descriptorIndex := 19, attributes := #[] }, { accessFlags := 2, nameIndex := 22, descriptorIndex := 19, attributes := #[] }, { accessFlags := 2, nameIndex := 25, descriptorIndex := 19, attributes := #[] }, { accessFlags := 2, nameIndex := 38, descriptorIndex := 19, attributes := #[] }, { accessFlags := 2, nameIndex := 43, descriptorIndex := 19, attributes := #[] }, { accessFlags := 2, nameIndex := 46, descriptorIndex := 19, attributes := #[] }, { accessFlags := 2, nameIndex := 49, descriptorIndex := 50, attributes := #[] }, { accessFlags := 2, nameIndex := 14, descriptorIndex := 15, attributes := #[] }, { accessFlags := 26, nameIndex := 178, descriptorIndex := 15, attributes := #[] }, { accessFlags := 26, nameIndex := 180, descriptorIndex := 15, attributes := #[] }, { accessFlags := 26, nameIndex := 182, descriptorIndex := 183, attributes := #[] }])
  fields := #[{ name := "NATIVE_METHOD", type := (.object "java/lang/String"), accessFlags := 26, slot := 0, constantValue := 0 }, { name := "UNKNOWN_SOURCE", type := (.object "java/lang/String"), accessFlags := 26, slot := 1, constantValue := 0 }, { name := "declaringClassObject", type := (.object "java/lang/Class"), accessFlags := 130, slot := 0, constantValue := 0 }, { name := "classLoaderName", type := (.object "java/lang/String"), accessFlags := 2, slot := 1, constantValue := 0 }, { name := "moduleName", type := (.object "java/lang/String"), accessFlags := 2, slot := 2, constantValue := 0 }, { name := "moduleVersion", type := (.object "java/lang/String"), accessFlags := 2, slot := 3, constantValue := 0 }, { name := "declaringClass", type := (.object "java/lang/String"), accessFlags := 2, slot := 4, constantValue := 0 }, { name := "methodName", type := (.object "java/lang/String"), accessFlags := 2, slot := 5, constantValue := 0 }, { name := "fileName", type := (.object "java/lang/String"), accessFlags := 2, slot := 6, constantValue := 0 }, { name := "lineNumber", type := .int, accessFlags := 2, slot := 7, constantValue := 0 }, { name := "format", type := .byte, accessFlags := 2, slot := 8, constantValue := 0 }, { name := "BUILTIN_CLASS_LOADER", type := .byte, accessFlags := 26, slot := 2, constantValue := 0 }, { name := "JDK_NON_UPGRADEABLE_MODULE", type := .byte, accessFlags := 26, slot := 3, constantValue := 0 }, { name := "serialVersionUID", type := .long, accessFlags := 26, slot := 4, constantValue := 0 }]
  methods := #[k25m0]
  instanceTypes := #[(.object "java/lang/Class"), (.object "java/lang/String"), (.object "java/lang/String"), (.object "java/lang/String"), (.object "java/lang/String"), (.object "java/lang/String"), (.object "java/lang/String"), .int, .byte]
  staticTypes := #[(.object "java/lang/String"), (.object "java/lang/String"), .byte, .byte, .long]
  resolved := Array.replicate 235 none
  statics := none }

def pool26 : Array CpInfo := pool [(1, u "java/lang/Cloneable"), (0, .class_ 1), (0, u "java/lang/Object"), (0, .class_ 3)] 3

/-- java/lang/Cloneable -/
def k26 : Class := { plain "java/lang/Cloneable" (some 0) with
  accessFlags := 1537
  interfaces := #[]
  cf := some (fileOf pool26 2 #[] #[] 1537 4 #[] #[])
  fields := #[]
  methods := #[]
  instanceTypes := #[]
  staticTypes := #[]
  resolved := Array.replicate 8 none
  statics := none }

/-- the primitive byte -/
def k27 : Class := { plain "byte" none with kind := .primitive 'B', accessFlags := 0x411 }
/-- [B -/
def k28 : Class := { plain "[B" (some 0) with kind := .array 27 .byte, interfaces := #[26, 2], accessFlags := 1041 }

/-- the primitive char -/
def k29 : Class := { plain "char" none with kind := .primitive 'C', accessFlags := 0x411 }
/-- [C -/
def k30 : Class := { plain "[C" (some 0) with kind := .array 29 .char, interfaces := #[26, 2], accessFlags := 1041 }

/-- the primitive int -/
def k31 : Class := { plain "int" none with kind := .primitive 'I', accessFlags := 0x411 }
/-- [I -/
def k32 : Class := { plain "[I" (some 0) with kind := .array 31 .int, interfaces := #[26, 2], accessFlags := 1041 }

/-- [Ljava/lang/Object; -/
def k33 : Class := { plain "[Ljava/lang/Object;" (some 0) with kind := .array 0 (.object "java/lang/Object"), interfaces := #[26, 2], accessFlags := 1041 }

/-- [Ljava/lang/StackTraceElement; -/
def k34 : Class := { plain "[Ljava/lang/StackTraceElement;" (some 0) with kind := .array 25 (.object "java/lang/StackTraceElement"), interfaces := #[26, 2], accessFlags := 1041 }

/-- [Ljava/lang/Throwable; -/
def k35 : Class := { plain "[Ljava/lang/Throwable;" (some 0) with kind := .array 9 (.object "java/lang/Throwable"), interfaces := #[26, 2], accessFlags := 1041 }

def heap : Heap := #[{ cls := 7, slots := #[.long 0, .int 1, .null, .int 0, .null, .int 0, .int 0], vm := .statics 7 },
  { cls := 9, slots := #[.long 0, .ref 4, .ref 5, .null, .null, .null, .null, .ref 6, .int 1], vm := .statics 9 },
  { cls := 14, slots := #[.null, .null, .null], vm := .statics 14 },
  { cls := 16, slots := #[.int 0, .int 0, .int 0, .int 0, .int 0, .int 0, .int 0, .int 0, .null, .null, .ref 5, .null], vm := .statics 16 },
  { cls := 34, slots := #[], vm := .none },
  { cls := 24, slots := #[.int 0], vm := .none },
  { cls := 35, slots := #[], vm := .none }]
def classes : Array Class := #[k0, k1, k2, k3, k4, k5, k6, k7, k8, k9, k10, k11, k12, k13, k14, k15, k16, k17, k18, k19, k20, k21, k22, k23, k24, k25, k26, k27, k28, k29, k30, k31, k32, k33, k34, k35]
def interned : List (Array UInt16 × Addr) := []
def slotsUsed : Nat := 32
def theMethod : MethodId := ⟨1, 1⟩
def args0 : Array Value := #[.int 3, .int 503, .int 65, .int 66]
def aboutOver (below : List Frame) : State where
  vm := { classes := classes, interned := interned.toArray }
  heap := heap
  slotsUsed := slotsUsed
  threads := #[{ frames := .invoking theMethod args0 :: below }]
def below0 : List Frame := [.native { method := ⟨0, 0⟩, args := #[] }]
def about1 : State := aboutOver below0
def p0 : Program := .bare "" "" ""
def e0 : Env := launch0.env 0 0 0
theorem w_frames : about1.frames = Frame.invoking theMethod args0 :: below0 := rfl
set_option maxRecDepth 65536 in
theorem w_args : argsFit about1.vm theMethod args0 = true := by decide +kernel
set_option maxRecDepth 65536 in
theorem w_heap : heapFits about1 = true := by decide +kernel
set_option maxRecDepth 65536 in
theorem w_runnable : about1.curStatus? = some .runnable := by decide +kernel
set_option maxRecDepth 65536 in
theorem w_alone : about1.alone = true := by decide +kernel
set_option maxRecDepth 65536 in
theorem w_named : about1.methodNamed? x = some theMethod := by decide +kernel
set_option maxRecDepth 65536 in
theorem w_hears : about1.hears theMethod below0 = true := by decide +kernel
set_option maxRecDepth 65536 in
theorem w_ripe : about1.ripe theMethod args0 below0 = true := by decide +kernel
theorem w_running : about1.status = .running := rfl
set_option maxRecDepth 65536 in
theorem w_room : about1.hasRoom e0.platform room_1 = true :=
  launch0.hasRoom_least _ room_1 (by decide +kernel) (by decide +kernel) (by decide +kernel) (by decide +kernel) (by decide +kernel) (by decide +kernel)
theorem allAtoms_all (ts : List Jvm.Cond) (a : Array Jvm.Value) (st : Jvm.State) : (allAtoms ts).before a st = ts.all (fun c => c.before a st) := by
  induction ts with
  | nil => rfl
  | cons c t ih =>
    show (Jvm.Cond.and c (allAtoms t)).before a st = _
    rw [Jvm.Cond.before_and, ih, List.all_cons]
def words1 : List Jvm.Cond := Jvm.Cond.code x code maxLocals ret :: tables_1
/-- a 'code' word, met by the world's own term for the bytes: nothing is compared byte by byte -/
theorem code_word {y : MethodName} {bytes : ByteArray} {mx : Nat} {rt : Option FieldType} {a : Array Value} {s : State} {m : MethodId} {meth : Method} {c : Code} (h1 : s.methodNamed? y = some m) (h2 : s.vm.method? m = some meth) (h3 : meth.code = some c) (h4 : c.code = bytes)
    (h5 : (c.maxLocals == mx && c.exceptionTable.isEmpty && decide (c.maxStack ≤ mostOperands) && decide (meth.sig.returnType = rt) && !meth.locks && decide (parseMethodDescriptor y.desc = some meth.sig)) = true) : (Jvm.Cond.code y bytes mx rt).before a s = true := by
  simp only [Bool.and_eq_true, beq_iff_eq, Bool.not_eq_true', decide_eq_true_eq] at h5
  obtain ⟨⟨⟨⟨⟨g1, g2⟩, g3⟩, g4⟩, g5⟩, g6⟩ := h5
  simp [Cond.before, Cond.holds, Cond.value, h1, h2, h3, h4, g1, g2, g3, g4, g5, g6]
def isCode : Jvm.Cond → Bool
  | .code _ _ _ _ => true
  | _ => false
theorem all_split {L : List Jvm.Cond} {P : Jvm.Cond → Bool} (h1 : L.all (fun c => isCode c || P c) = true) (h2 : ∀ c ∈ L.filter isCode, P c = true) : L.all P = true := by
  refine List.all_eq_true.mpr fun c hc => ?_
  have h := List.all_eq_true.mp h1 c hc
  rcases Bool.eq_false_or_eq_true (isCode c) with hi | hi
  · exact h2 c (List.mem_filter.mpr ⟨hc, hi⟩)
  · simpa [hi] using h
set_option maxRecDepth 65536 in
theorem w_c0 : (Jvm.Cond.code x code maxLocals ret).before args0 about1 = true := code_word (m := ⟨1, 1⟩) (meth := k1m1) (c := k1c1) (by decide +kernel) rfl rfl rfl (by decide +kernel)
set_option maxRecDepth 65536 in
theorem w_c1 : (Jvm.Cond.code ({ cls := "java/lang/String", name := "<init>", desc := "([C)V" } : Jvm.MethodName) jdk_42_method_3_code (2 : Nat) (Option.none : Option Jvm.ClassFile.FieldType)).before args0 about1 = true := code_word (m := ⟨7, 1⟩) (meth := k7m1) (c := k7c1) (by decide +kernel) rfl rfl rfl (by decide +kernel)
set_option maxRecDepth 65536 in
theorem w_c2 : (Jvm.Cond.code ({ cls := "java/lang/String", name := "<init>", desc := "([CIILjava/lang/Void;)V" } : Jvm.MethodName) jdk_42_method_149_code (6 : Nat) (Option.none : Option Jvm.ClassFile.FieldType)).before args0 about1 = true := code_word (m := ⟨7, 2⟩) (meth := k7m2) (c := k7c2) (by decide +kernel) rfl rfl rfl (by decide +kernel)
set_option maxRecDepth 65536 in
theorem w_c3 : (Jvm.Cond.code ({ cls := "java/lang/Object", name := "<init>", desc := "()V" } : Jvm.MethodName) object_method_1_code (1 : Nat) (Option.none : Option Jvm.ClassFile.FieldType)).before args0 about1 = true := code_word (m := ⟨0, 0⟩) (meth := k0m0) (c := k0c0) (by decide +kernel) rfl rfl rfl (by decide +kernel)
set_option maxRecDepth 65536 in
theorem w_c4 : (Jvm.Cond.code ({ cls := "java/lang/StringUTF16", name := "compress", desc := "([CII)[B" } : Jvm.MethodName) jdk_52_method_16_code (6 : Nat) (Option.some (Jvm.ClassFile.FieldType.array Jvm.ClassFile.FieldType.byte))).before args0 about1 = true := code_word (m := ⟨8, 2⟩) (meth := k8m2) (c := k8c2) (by decide +kernel) rfl rfl rfl (by decide +kernel)
set_option maxRecDepth 65536 in
theorem w_c5 : (Jvm.Cond.code ({ cls := "java/lang/StringUTF16", name := "compress", desc := "([CI[BII)I" } : Jvm.MethodName) jdk_52_method_21_code (7 : Nat) (Option.some Jvm.ClassFile.FieldType.int)).before args0 about1 = true := code_word (m := ⟨8, 3⟩) (meth := k8m3) (c := k8c3) (by decide +kernel) rfl rfl rfl (by decide +kernel)
set_option maxRecDepth 65536 in
theorem w_c6 : (Jvm.Cond.code ({ cls := "java/lang/StringUTF16", name := "coderFromArrayLen", desc := "([BI)B" } : Jvm.MethodName) jdk_52_method_15_code (2 : Nat) (Option.some Jvm.ClassFile.FieldType.byte)).before args0 about1 = true := code_word (m := ⟨8, 1⟩) (meth := k8m1) (c := k8c1) (by decide +kernel) rfl rfl rfl (by decide +kernel)
set_option maxRecDepth 65536 in
theorem w_c7 : (Jvm.Cond.code ({ cls := "caseward/web/RequestHead$Malformed", name := "<init>", desc := "(ILjava/lang/String;)V" } : Jvm.MethodName) prog_80_method_2_code (3 : Nat) (Option.none : Option Jvm.ClassFile.FieldType)).before args0 about1 = true := code_word (m := ⟨12, 1⟩) (meth := k12m1) (c := k12c1) (by decide +kernel) rfl rfl rfl (by decide +kernel)
set_option maxRecDepth 65536 in
theorem w_c8 : (Jvm.Cond.code ({ cls := "java/io/IOException", name := "<init>", desc := "(Ljava/lang/String;)V" } : Jvm.MethodName) jdk_131_method_2_code (2 : Nat) (Option.none : Option Jvm.ClassFile.FieldType)).before args0 about1 = true := code_word (m := ⟨11, 1⟩) (meth := k11m1) (c := k11c1) (by decide +kernel) rfl rfl rfl (by decide +kernel)
set_option maxRecDepth 65536 in
theorem w_c9 : (Jvm.Cond.code ({ cls := "java/lang/Exception", name := "<init>", desc := "(Ljava/lang/String;)V" } : Jvm.MethodName) jdk_59_method_2_code (2 : Nat) (Option.none : Option Jvm.ClassFile.FieldType)).before args0 about1 = true := code_word (m := ⟨10, 1⟩) (meth := k10m1) (c := k10c1) (by decide +kernel) rfl rfl rfl (by decide +kernel)
set_option maxRecDepth 65536 in
theorem w_c10 : (Jvm.Cond.code ({ cls := "java/lang/Throwable", name := "<init>", desc := "(Ljava/lang/String;)V" } : Jvm.MethodName) jdk_78_method_2_code (2 : Nat) (Option.none : Option Jvm.ClassFile.FieldType)).before args0 about1 = true := code_word (m := ⟨9, 1⟩) (meth := k9m1) (c := k9c1) (by decide +kernel) rfl rfl rfl (by decide +kernel)
set_option maxRecDepth 65536 in
theorem w_c11 : (Jvm.Cond.code ({ cls := "java/lang/Throwable", name := "<init>", desc := "()V" } : Jvm.MethodName) jdk_78_method_1_code (1 : Nat) (Option.none : Option Jvm.ClassFile.FieldType)).before args0 about1 = true := code_word (m := ⟨9, 0⟩) (meth := k9m0) (c := k9c0) (by decide +kernel) rfl rfl rfl (by decide +kernel)
set_option maxRecDepth 65536 in
theorem w_c12 : (Jvm.Cond.code ({ cls := "caseward/web/RequestHead$Malformed", name := "isForWantOfRoom", desc := "()Z" } : Jvm.MethodName) prog_80_method_4_code (1 : Nat) (Option.some Jvm.ClassFile.FieldType.boolean)).before args0 about1 = true := code_word (m := ⟨12, 3⟩) (meth := k12m3) (c := k12c3) (by decide +kernel) rfl rfl rfl (by decide +kernel)
set_option maxRecDepth 65536 in
theorem w_c13 : (Jvm.Cond.code ({ cls := "caseward/web/RequestHead$Malformed", name := "status", desc := "()I" } : Jvm.MethodName) prog_80_method_3_code (1 : Nat) (Option.some Jvm.ClassFile.FieldType.int)).before args0 about1 = true := code_word (m := ⟨12, 2⟩) (meth := k12m2) (c := k12c2) (by decide +kernel) rfl rfl rfl (by decide +kernel)
set_option maxRecDepth 65536 in
theorem w_c14 : (Jvm.Cond.code ({ cls := "caseward/web/RequestHead$Malformed", name := "<init>", desc := "(Ljava/lang/String;)V" } : Jvm.MethodName) prog_80_method_1_code (2 : Nat) (Option.none : Option Jvm.ClassFile.FieldType)).before args0 about1 = true := code_word (m := ⟨12, 0⟩) (meth := k12m0) (c := k12c0) (by decide +kernel) rfl rfl rfl (by decide +kernel)
def codes1 : List Jvm.Cond := [Jvm.Cond.code x code maxLocals ret, Jvm.Cond.code ({ cls := "java/lang/String", name := "<init>", desc := "([C)V" } : Jvm.MethodName) jdk_42_method_3_code (2 : Nat) (Option.none : Option Jvm.ClassFile.FieldType), Jvm.Cond.code ({ cls := "java/lang/String", name := "<init>", desc := "([CIILjava/lang/Void;)V" } : Jvm.MethodName) jdk_42_method_149_code (6 : Nat) (Option.none : Option Jvm.ClassFile.FieldType), Jvm.Cond.code ({ cls := "java/lang/Object", name := "<init>", desc := "()V" } : Jvm.MethodName) object_method_1_code (1 : Nat) (Option.none : Option Jvm.ClassFile.FieldType), Jvm.Cond.code ({ cls := "java/lang/StringUTF16", name := "compress", desc := "([CII)[B" } : Jvm.MethodName) jdk_52_method_16_code (6 : Nat) (Option.some (Jvm.ClassFile.FieldType.array Jvm.ClassFile.FieldType.byte)), Jvm.Cond.code ({ cls := "java/lang/StringUTF16", name := "compress", desc := "([CI[BII)I" } : Jvm.MethodName) jdk_52_method_21_code (7 : Nat) (Option.some Jvm.ClassFile.FieldType.int), Jvm.Cond.code ({ cls := "java/lang/StringUTF16", name := "coderFromArrayLen", desc := "([BI)B" } : Jvm.MethodName) jdk_52_method_15_code (2 : Nat) (Option.some Jvm.ClassFile.FieldType.byte), Jvm.Cond.code ({ cls := "caseward/web/RequestHead$Malformed", name := "<init>", desc := "(ILjava/lang/String;)V" } : Jvm.MethodName) prog_80_method_2_code (3 : Nat) (Option.none : Option Jvm.ClassFile.FieldType), Jvm.Cond.code ({ cls := "java/io/IOException", name := "<init>", desc := "(Ljava/lang/String;)V" } : Jvm.MethodName) jdk_131_method_2_code (2 : Nat) (Option.none : Option Jvm.ClassFile.FieldType), Jvm.Cond.code ({ cls := "java/lang/Exception", name := "<init>", desc := "(Ljava/lang/String;)V" } : Jvm.MethodName) jdk_59_method_2_code (2 : Nat) (Option.none : Option Jvm.ClassFile.FieldType), Jvm.Cond.code ({ cls := "java/lang/Throwable", name := "<init>", desc := "(Ljava/lang/String;)V" } : Jvm.MethodName) jdk_78_method_2_code (2 : Nat) (Option.none : Option Jvm.ClassFile.FieldType), Jvm.Cond.code ({ cls := "java/lang/Throwable", name := "<init>", desc := "()V" } : Jvm.MethodName) jdk_78_method_1_code (1 : Nat) (Option.none : Option Jvm.ClassFile.FieldType), Jvm.Cond.code ({ cls := "caseward/web/RequestHead$Malformed", name := "isForWantOfRoom", desc := "()Z" } : Jvm.MethodName) prog_80_method_4_code (1 : Nat) (Option.some Jvm.ClassFile.FieldType.boolean), Jvm.Cond.code ({ cls := "caseward/web/RequestHead$Malformed", name := "status", desc := "()I" } : Jvm.MethodName) prog_80_method_3_code (1 : Nat) (Option.some Jvm.ClassFile.FieldType.int), Jvm.Cond.code ({ cls := "caseward/web/RequestHead$Malformed", name := "<init>", desc := "(Ljava/lang/String;)V" } : Jvm.MethodName) prog_80_method_1_code (2 : Nat) (Option.none : Option Jvm.ClassFile.FieldType)]
set_option maxRecDepth 65536 in
theorem codes_eq : words1.filter isCode = codes1 := rfl
theorem w_codes : ∀ c ∈ words1.filter isCode, c.before args0 about1 = true := by
  rw [codes_eq]
  intro c hc
  simp only [codes1, List.mem_cons, List.not_mem_nil, or_false] at hc
  rcases hc with rfl | rfl | rfl | rfl | rfl | rfl | rfl | rfl | rfl | rfl | rfl | rfl | rfl | rfl | rfl
  · exact w_c0
  · exact w_c1
  · exact w_c2
  · exact w_c3
  · exact w_c4
  · exact w_c5
  · exact w_c6
  · exact w_c7
  · exact w_c8
  · exact w_c9
  · exact w_c10
  · exact w_c11
  · exact w_c12
  · exact w_c13
  · exact w_c14
set_option maxRecDepth 65536 in
theorem w_t1 : (words1.take 24).all (fun c => isCode c || c.before args0 about1) = true := by decide +kernel
set_option maxRecDepth 65536 in
theorem w_t2 : ((words1.drop 24).take 24).all (fun c => isCode c || c.before args0 about1) = true := by decide +kernel
set_option maxRecDepth 65536 in
theorem w_t3 : (((words1.drop 24).drop 24).take 24).all (fun c => isCode c || c.before args0 about1) = true := by decide +kernel
set_option maxRecDepth 65536 in
theorem w_t4 : ((((words1.drop 24).drop 24).drop 24).take 24).all (fun c => isCode c || c.before args0 about1) = true := by decide +kernel
set_option maxRecDepth 65536 in
theorem w_t5 : ((((words1.drop 24).drop 24).drop 24).drop 24).all (fun c => isCode c || c.before args0 about1) = true := by decide +kernel
theorem w_tables : (allAtoms (Jvm.Cond.code x code maxLocals ret :: tables_1)).before args0 about1 = true := by
  rw [allAtoms_all]
  show words1.all (fun c => c.before args0 about1) = true
  refine all_split ?_ w_codes
  rw [← List.take_append_drop 24 words1, List.all_append, w_t1, ← List.take_append_drop 24 (words1.drop 24), List.all_append, w_t2, ← List.take_append_drop 24 ((words1.drop 24).drop 24), List.all_append, w_t3, ← List.take_append_drop 24 (((words1.drop 24).drop 24).drop 24), List.all_append, w_t4, w_t5]
  rfl
set_option maxRecDepth 65536 in
theorem w_rest : rest_1_c.before args0 about1 = true := by decide +kernel
set_option maxRecDepth 65536 in
theorem w_case : (Jvm.Cond.and given_1 narrow_1).before args0 about1 = true := by decide +kernel
theorem w_applies : (headSpec (Jvm.Cond.code x code maxLocals ret :: tables_1) room_1).applies x e0.platform about1 = true :=
  (Spec.applies_iff w_frames).mpr ⟨w_running, w_runnable, w_alone, w_named, w_hears, w_ripe, w_room, w_tables⟩
theorem atStart : AtStart classFile x code maxLocals ret World_1 tables_1 room_1 Calls_1 rest_1 Pre_1 launch0 p0 e0 about1 theMethod args0 below0 :=
  ⟨lists_1, trivial, launch0.admits_env _ _ _, launch0.least_env, fairChoices_fair.cas, fairChoices_fair.clock, w_frames, w_args, w_heap, w_applies, ⟨(by decide +kernel : framesKnown about1 = true), ⟨(by decide +kernel : tablesKnown about1 = true), trivial⟩⟩, w_rest, w_case⟩
end start1
theorem witness_1 : WitnessClaimed_1 := ⟨start1.p0, start1.e0, start1.about1, start1.theMethod, start1.args0, start1.below0, start1.atStart⟩
end Jvm.Pilot.@@N@@
