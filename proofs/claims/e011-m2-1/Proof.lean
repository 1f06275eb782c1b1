import JvmDerived
import JvmDerived.Pilot.@@N@@Statement
import JvmDerived.Pilot.@@N@@Code
set_option linter.unusedVariables false
set_option linter.unusedSimpArgs false
@@BLOCK:NumsL.lean.txt@@
@@BLOCK:TracedD.lean.txt@@
namespace Jvm.RoadKit
open Sem ClassFile Op Lib Jvm.Stand Jvm.Free Jvm.LawKit
section New
variable {p : Program} {l : Launch} {e : Env} {R : Room} {s : State} {m : MethodId} {args : Array Value} {below : List Frame} {meth : Method} {c : Code} {T : State} {locs : List Loc} {cells slots : Nat}
theorem retI (X : Stand p l e R s m args below meth c T locs cells slots) (hx : p.tables.exec = Jvm.exec) {pc : Nat} {Ls : Array Slot} {z : Int32} {rest : List Value} (hret : meth.sig.returnType = some .int) (hd : decode c.code pc = .ok (.ireturn, 1)) {fs : List Frame}
    (hl : ∀ (f : JFrame) (acts : List Action), f.method = m → f.locked = none → f.entered = [] → (doReturn e (T.setTop f) acts (some (.int z))).1 = T.setFrames fs) : Steps p.tables e below (T.setTop (mkF m pc Ls (.int z :: rest))) (T.setFrames fs) := by
  have hm' : T.vm.method? m = some meth := X.method'
  have hn : narrow .int (.int z) = .int z := rfl
  show Steps p.tables e below (T.setTop { method := m, pc := pc, locals := Ls, stack := _ :: rest, locked := none }) _
  jvm_step X.here [X.here.top, hx, hd, hm', hret, hn]
  first | (intro acts; rw [hl _ acts rfl rfl rfl]) | rw [hl _ _ rfl rfl rfl]
  exact Steps.refl _
end New
end Jvm.RoadKit
namespace Jvm.Pilot.@@N@@
open Jvm Jvm.ClassFile Sem Op Lib Jvm.Free Jvm.Stand Jvm.LawKit Jvm.RoadKit Bundle Jvm.Pilot.@@N@@.Jvm.D
abbrev own_S : String := "com/example/rhadamanthus/rhadamanthus/core/SyntaxError"
abbrev own_obD : String := "Ljava/lang/Object;"
abbrev own_msD : String := "Ljava/lang/String;"
abbrev own_thD : String := "Ljava/lang/Throwable;"
/-- the words of this sheet that Throwable's tables are read by (its fields as SyntaxError lays them) -/
def own_W : List Jvm.Cond := [.initialized tN, .superclass tN "java/lang/Object", .instanceMethod tFill, .codeSync tFill LibCode.Throwable.Fill.code 1 (some (.object tN)), .instanceMethod tFill0, .native tFill0, .instanceMethod tInit0, .code tInit0 LibCode.Throwable.Init0.code 1 none, .instanceMethod oInit, .code oInit ⟨#[0xb1]⟩ 1 none,
  .methodLink tN 1 oInit, .methodLink tN 27 tFill, .methodLink tN 202 tFill0, .fieldLink tN 7 tN "cause" own_thD, .lays own_S tN "cause" own_thD, .fieldLink tN 17 tN "stackTrace" steD, .lays own_S tN "stackTrace" steD, .fieldLink tN 24 tN "suppressedExceptions" listD, .lays own_S tN "suppressedExceptions" listD,
  .fieldLink tN 13 tN "UNASSIGNED_STACK" steD, .laysStatic tN "UNASSIGNED_STACK" steD, .fieldLink tN 20 tN "SUPPRESSED_SENTINEL" listD, .laysStatic tN "SUPPRESSED_SENTINEL" listD, .lays own_S tN "detailMessage" own_msD, .fieldLink tN 198 tN "backtrace" own_obD, .lays own_S tN "backtrace" own_obD, .lays own_S tN "depth" "I",
  .soleField tN "backtrace", .soleField tN "depth", .arrayOver (.object "java/lang/Object"), .selects own_S tFill0 tFill0]
theorem own_W_in : ∀ d ∈ own_W, d ∈ tables_1 := by decide +kernel
theorem own_W_kind : ∀ d ∈ own_W, d = .arrayOver (.object "java/lang/Object") ∨ d = .laysStatic tN "UNASSIGNED_STACK" steD ∨ d = .laysStatic tN "SUPPRESSED_SENTINEL" listD ∨ (d.onTables && d.keepsFace) = true := by decide +kernel
theorem own_moved {Z s : State} {a0 args : Array Value} (hZ : Z.Warmed39 s.vm) (KS : Jvm.Free.Str.KeepsShape Z s) (hw : ∀ d ∈ tables_1, d.before a0 Z = true) : ∀ d ∈ own_W, d.before args s = true := fun d hd => by
  have w := hw d (own_W_in d hd)
  rcases own_W_kind d hd with rfl | rfl | rfl | q
  · exact Cond.arrayOver_alike hZ.alike w
  · exact Jvm.Free.Str.laysStatic_rides hZ.alike KS w
  · exact Jvm.Free.Str.laysStatic_rides hZ.alike KS w
  · exact mv hZ w q
/-- Throwable's tables, as far as fillInStackTrace asks -/
theorem own_thr {args : Array Value} {s : State} {pl : Platform} (howns : pl.frameOwnsMonitors = true) (hfin : pl.finalization = false) (hpl : pl.magicAccessors = ({} : Platform).magicAccessors) (h : ∀ d ∈ own_W, d.before args s = true) :
    ∃ T : ThrowableC, T.Links pl s ∧ s.vm.findClass tN = some T.cT ∧ s.methodNamed? tFill = some T.fill ∧ s.methodNamed? tFill0 = some T.fill0 ∧ s.fieldFound? tN "stackTrace" steD = some (T.cT, T.kT, T.i17, T.fStack) ∧ s.fieldFound? tN "UNASSIGNED_STACK" steD = some (T.cT, T.kT, T.i13, T.fUnassigned) := by
  have a : ∀ d, d ∈ own_W → d.holds args s none s [] = true := fun d hd => h d hd
  have nat := Cond.native_spec (a (.native tFill0) (by simp [own_W]))
  obtain ⟨⟨cT, j⟩, mN, nN, atN, natN, noN, lkN, sgN⟩ := nat
  have fT : s.vm.findClass tN = some cT := findClass_of_methodNamed nN
  obtain ⟨kT, hkT, nameT⟩ := Vm.findClass_spec fT
  obtain ⟨_, kS, _, _, hkS, _, _, _, _, notI⟩ := Cond.superclass_spec fT (a (.superclass tN "java/lang/Object") (by simp [own_W]))
  obtain rfl : kT = kS := Option.some.inj (hkT.symm.trans hkS)
  obtain ⟨jF, mF, nF, atF, inF, stF, abF, -, -⟩ := Cond.ownMethod (x := tFill) fT hkT (a (.instanceMethod tFill) (by simp [own_W]))
  obtain ⟨mF', cdF, atF', cF, byF, loF, reF, lkF, -, sgF⟩ := Cond.codeSync_spec nF (a (.codeSync tFill LibCode.Throwable.Fill.code 1 (some (.object tN))) (by simp [own_W]))
  obtain rfl : mF = mF' := Option.some.inj (atF.symm.trans atF')
  obtain ⟨jN, mN', nN', atN', inN, stN, abN, nmN, dsN⟩ := Cond.ownMethod (x := tFill0) fT hkT (a (.instanceMethod tFill0) (by simp [own_W]))
  obtain rfl : j = jN := by have := Option.some.inj (nN.symm.trans nN'); simpa using this
  obtain rfl : mN = mN' := Option.some.inj (atN.symm.trans atN')
  obtain ⟨jZ, mZ, nZ, atZ, inZ, -, -, -, -⟩ := Cond.ownMethod (x := tInit0) fT hkT (a (.instanceMethod tInit0) (by simp [own_W]))
  obtain ⟨mZ', cdZ, atZ', cZ, -⟩ := Cond.code_spec nZ (a (.code tInit0 LibCode.Throwable.Init0.code 1 none) (by simp [own_W]))
  obtain ⟨mO, hO, nO, atO, stO, abO⟩ := Cond.instanceMethod_spec (a (.instanceMethod oInit) (by simp [own_W]))
  obtain ⟨hO', cdO, atO', cO, byO, loO, -, lkO, -, sgO⟩ := Cond.code_spec nO (a (.code oInit ⟨#[0xb1]⟩ 1 none) (by simp [own_W]))
  obtain rfl : hO = hO' := Option.some.inj (atO.symm.trans atO')
  obtain ⟨kO, hkO, nameO⟩ := Vm.findClass_spec (findClass_of_methodNamed nO)
  obtain ⟨nmO, dsO⟩ := name_of_methodNamed nO atO
  obtain ⟨ci1, n1, cf, l1, r1, hcf, p1⟩ := Cond.linkedMethod fT hkT nO (a (.methodLink tN 1 oInit) (by simp [own_W])) pl hpl
  obtain ⟨ci27, n27, cf27, l27, r27, hcf27, p27⟩ := Cond.linkedMethod fT hkT nF (a (.methodLink tN 27 tFill) (by simp [own_W])) pl hpl
  obtain rfl : cf = cf27 := Option.some.inj (hcf.symm.trans hcf27)
  obtain ⟨ci202, n202, cf202, l202, r202, hcf202, p202⟩ := Cond.linkedMethod fT hkT nN (a (.methodLink tN 202 tFill0) (by simp [own_W])) pl hpl
  obtain rfl : cf = cf202 := Option.some.inj (hcf.symm.trans hcf202)
  obtain ⟨ci7, i7, f7, k7, g7, a7, s7, z7, n7, t7, q7⟩ := Cond.ownField (C' := own_S) (t := .object tN) fT hkT (by decide +kernel) (a (.fieldLink tN 7 tN "cause" own_thD) (by simp [own_W])) (a (.lays own_S tN "cause" own_thD) (by simp [own_W])) pl hpl
  obtain ⟨ci17, i17, f17, k17, g17, a17, s17, z17, n17, t17, q17⟩ := Cond.ownField (C' := own_S) (t := .array (.object "java/lang/StackTraceElement")) fT hkT (by decide +kernel) (a (.fieldLink tN 17 tN "stackTrace" steD) (by simp [own_W])) (a (.lays own_S tN "stackTrace" steD) (by simp [own_W])) pl hpl
  obtain ⟨ci24, i24, f24, k24, g24, a24, s24, z24, n24, t24, q24⟩ := Cond.ownField (C' := own_S) (t := .object "java/util/List") fT hkT (by decide +kernel) (a (.fieldLink tN 24 tN "suppressedExceptions" listD) (by simp [own_W])) (a (.lays own_S tN "suppressedExceptions" listD) (by simp [own_W])) pl hpl
  obtain ⟨ci13, i13, f13, aS, cellS, k13, g13, a13, s13, -, -, sta, hcS, isS, -, -, q13⟩ := Cond.ownStatic (t := .array (.object "java/lang/StackTraceElement")) fT hkT (by decide +kernel) (a (.fieldLink tN 13 tN "UNASSIGNED_STACK" steD) (by simp [own_W])) (a (.laysStatic tN "UNASSIGNED_STACK" steD) (by simp [own_W])) pl hpl
  obtain ⟨ci20, i20, f20, _, _, k20, g20, a20, s20, -, -, -, -, -, -, -, q20⟩ := Cond.ownStatic (t := .object "java/util/List") fT hkT (by decide +kernel) (a (.fieldLink tN 20 tN "SUPPRESSED_SENTINEL" listD) (by simp [own_W])) (a (.laysStatic tN "SUPPRESSED_SENTINEL" listD) (by simp [own_W])) pl hpl
  obtain ⟨cS, kS2, _, _, _, fM, fS, hkS2, _, sM, zM, -⟩ := Cond.lays_spec (a (.lays own_S tN "detailMessage" own_msD) (by simp [own_W]))
  have apart : f17.slot ≠ f24.slot := by
    obtain ⟨-, d1, e1, m1⟩ := Cond.laysAt fS hkS2 q17 (a (.lays own_S tN "stackTrace" steD) (by simp [own_W]))
    obtain ⟨-, d2, e2, m2⟩ := Cond.laysAt fS hkS2 q24 (a (.lays own_S tN "suppressedExceptions" listD) (by simp [own_W]))
    exact Cond.laysApart e1 e2 m1 m2 (by rw [n17, n24]; decide)
  have paF : mF.sig.parameters = [] := by
    have q : (parseMethodDescriptor tFill.desc).map (·.parameters) = some [] := by decide +kernel
    rw [sgF] at q; simpa using q
  have paN : mN.sig.parameters = [.int] := by
    have q : (parseMethodDescriptor tFill0.desc).map (·.parameters) = some [.int] := by decide +kernel
    rw [sgN] at q; simpa using q
  have paO : hO.sig.parameters.length = 0 := by
    have q : (parseMethodDescriptor oInit.desc).map (·.parameters.length) = some 0 := by decide +kernel
    rw [sgO] at q; simpa using q
  refine ⟨{ cT := cT, kT := kT, cO := cT, aS := aS, fillIdx := jF, fill0Idx := j, initSIdx := jZ, obj := mO, kObj := kO, methFill := mF, methFill0 := mN, methInitS := mZ, methObj := hO, codeFill := cdF, codeInitS := cdZ, codeObj := cdO, fBack := f7, fDepth := f7, fStack := f17, fCause := f7, fSupp := f24, fMsg := fM, fUnassigned := f13, fSentinel := f20, cfT := cf, ci1 := ci1, n1 := n1, ci27 := ci27, n27 := n27, ci202 := ci202, n202 := n202, ci7 := ci7, i7 := i7, ci13 := ci13, i13 := i13, ci17 := ci17, i17 := i17, ci20 := ci20, i20 := i20, ci24 := ci24, i24 := i24 }, ?_, fT, nF, nN, q17, q13⟩
  exact ⟨howns, hfin, hkT, nameT, Vm.findClass_boot fT hkT, notI, Cond.initialized_spec fT hkT (a (.initialized tN) (by simp [own_W])), sta, inF, cF, byF, loF, lkF, stF, abF, reF, paF, inN, nmN, dsN, paN, stN, natN, noN, lkN, abN, s17, z17, s13, hkO, nameO, atO, nmO, stO, abO, by rw [dsO]; exact lookupSpecial_of_named nO atO stO, paO, cO, byO, lkO, s7, z7, s20, s24, z24, sM, zM, apart, hcf, l1, r1, p1, l27, r27, p27, l202, r202, p202, k7, g7, a7, k13, g13, a13, k17, g17, a17, k20, g20, a20, k24, g24, a24⟩
/-- the cell at a is as it was, but for three fields of Throwable -/
def own_part (Z : State) (h h' : Heap) (a : Addr) : Prop := ∀ cell : Cell, h[a]? = some cell → ∃ C : Cell, h'[a]? = some C ∧ C.cls = cell.cls ∧ C.vm = cell.vm ∧ C.slots.size = cell.slots.size ∧ ∀ i, i ≠ Jvm.RoadKit.slotOf Z tN "backtrace" own_obD → i ≠ Jvm.RoadKit.slotOf Z tN "depth" "I" → i ≠ Jvm.RoadKit.slotOf Z tN "stackTrace" steD → C.slots[i]? = cell.slots[i]?
def own_three (Z : State) (a : Addr) : List Loc := [⟨a, Jvm.RoadKit.slotOf Z tN "backtrace" own_obD⟩, ⟨a, Jvm.RoadKit.slotOf Z tN "depth" "I"⟩, ⟨a, Jvm.RoadKit.slotOf Z tN "stackTrace" steD⟩]
theorem own_three_fr {Z : State} {a : Addr} {n0 : Nat} (g : n0 ≤ a) : Fr n0 (own_three Z a) := fun y hy => by
  simp only [own_three, List.mem_cons, List.not_mem_nil, or_false] at hy
  rcases hy with rfl | rfl | rfl <;> exact g
def own_QF (Z : State) (a : Addr) (h : Heap) (v : Option Value) (h' : Heap) (L : List Loc) : Prop := v = some (.ref a) ∧ L = own_three Z a ∧ own_part Z h h' a
theorem own_part_exa {Z : State} {h h' : Heap} {a : Addr} {C : String} (P : own_part Z h h' a) (E : Exa Z h a C) : Exa Z h' a C := by
  obtain ⟨cell, k, h1, h2, h3, h4, h5⟩ := E
  obtain ⟨D, d1, d2, d3, d4, -⟩ := P cell h1
  exact ⟨D, k, d1, by rw [d2]; exact h2, by rw [d2]; exact h3, by rw [d3]; exact h4, by rw [d4]; exact h5⟩
theorem own_apart {Z : State} {a0 : Array Value} {n d n' d' : String} {t t' : FieldType} (w : (Cond.lays own_S tN n d).before a0 Z = true) (w' : (Cond.lays own_S tN n' d').before a0 Z = true) (hn : n ≠ n') (h1 : parseFieldDescriptor d = some t) (h2 : parseFieldDescriptor d' = some t') : Jvm.RoadKit.slotOf Z tN n d ≠ Jvm.RoadKit.slotOf Z tN n' d' := Jvm.RoadKit.slot_ne (Or.inl w) (Or.inl w') hn h1 h2
theorem own_part_msg {Z : State} {a0 : Array Value} (hw : ∀ d ∈ tables_1, d.before a0 Z = true) {h h' : Heap} {a : Addr} {v : Value} (P : own_part Z h h' a) (F : Fld Z h a tN "detailMessage" own_msD v) : Fld Z h' a tN "detailMessage" own_msD v := by
  obtain ⟨cell, cf, k, i, f, h1, h2, h3, h4, h5, h6, h7⟩ := F
  obtain ⟨D, d1, d2, d3, d4, d5⟩ := P cell h1
  have e : Jvm.RoadKit.slotOf Z tN "detailMessage" own_msD = f.slot := by simp [Jvm.RoadKit.slotOf, h2]
  refine ⟨D, cf, k, i, f, d1, h2, h3, by rw [d3]; exact h4, by rw [d3]; exact h5, by rw [d2]; exact h6, ?_⟩
  rw [← e] at h7 ⊢
  rw [d5 _ (own_apart (hw _ (List.mem_of_getElem? (i := 63) rfl)) (hw _ (List.mem_of_getElem? (i := 64) rfl)) (by decide) (t := .object "java/lang/String") (t' := .object "java/lang/Object") (by decide) (by decide)) (own_apart (hw _ (List.mem_of_getElem? (i := 63) rfl)) (hw _ (List.mem_of_getElem? (i := 65) rfl)) (by decide) (t := .object "java/lang/String") (t' := .int) (by decide) (by decide)) (own_apart (hw _ (List.mem_of_getElem? (i := 63) rfl)) (hw _ (List.mem_of_getElem? (i := 36) rfl)) (by decide) (t := .object "java/lang/String") (t' := .array (.object "java/lang/StackTraceElement")) (by decide) (by decide))]
  exact h7
theorem own_shape {Z s : State} {h0 : Heap} (K : Keep Z.heap h0 []) (hh : s.heap = h0) : Jvm.Free.Str.KeepsShape Z s := fun x cx hx => ⟨cx, by rw [hh]; exact K.2.1 x cx hx (by simp), rfl, rfl⟩
set_option maxRecDepth 65536 in
set_option maxHeartbeats 8000000 in
/-- fillInStackTrace() of a fresh SyntaxError, at its call -/
theorem own_fill {p : Program} {l : Launch} {e : Env} {R : Room} {s : State} {args : Array Value} {below : List Frame} {len W : Nat} {Z : State} {a0 : Array Value} {h : Heap} (hx : p.tables.exec = Jvm.exec) (had : l.admits e) (hl : l.stackTraces = true) (hZ : Z.Warmed39 s.vm) (KS : Jvm.Free.Str.KeepsShape Z s) (hw : ∀ d ∈ tables_1, d.before a0 Z = true) (hTK : s.vm.MethodsKnown) (hBelow : s.vm.FramesKnown below) (wi : (Cond.instantiable own_S 8).before a0 Z = true)
    {a w : Addr} (E : Exa Z h a own_S) (U : Unt h a) (B : Fld Z h a tN "backtrace" own_obD .null) (F : Fld Z h a tN "stackTrace" steD (.ref w)) (S : Sta Z h tN "UNASSIGNED_STACK" steD (.ref w)) (hf : 2 < R.frames) (hlo : W + 42 ≤ R.locals) :
    Back l R p e below s args tFill len W (fun A a' => a' = #[.ref a] ∧ A.U.heap = h ∧ A.cells + 1 ≤ R.cells ∧ A.slots + 2752 ≤ R.slots) (fun A _ v B => ∃ L, own_QF Z a h v B.U.heap L ∧ B.locs = A.locs ++ L ∧ B.cells = A.cells + 1 ∧ B.slots = A.slots + 2752) := by
  obtain ⟨cell, kZ, c1, c2, c3, c4, c5⟩ := E
  obtain ⟨_, u1, u2, u3⟩ := U
  cases c1.symm.trans u1
  obtain ⟨_, cfB, kB, iB, fB, b1, b2, b3, -, -, -, b7⟩ := B
  cases c1.symm.trans b1
  obtain ⟨_, cfF, kF, iF, fF, d1, d2, d3, -, -, -, d7⟩ := F
  cases c1.symm.trans d1
  obtain ⟨cfS, iS, kS, fS, st, cS, s1, s2, s3, s4, s5, s6, s7⟩ := S
  have hal := hZ.alike
  have hwS : ∀ d ∈ own_W, d.before args s = true := own_moved hZ KS hw
  have ha : ∀ d, d ∈ own_W → d.holds args s none s [] = true := fun d hd => hwS d hd
  have htr : e.platform.stackTraces = true := by rw [had.platform]; exact hl
  have hpl : e.platform.magicAccessors = ({} : Platform).magicAccessors := by rw [had.platform]
  obtain ⟨T, L, fT, nF, nN, qK, qU⟩ := own_thr (pl := e.platform) (by rw [had.platform]) (by rw [had.platform]) hpl hwS
  obtain ⟨kX, x1, x2⟩ := hal.2.2 _ _ c3
  have hfound : s.vm.findClass own_S = some cell.cls := by rw [hal.findClass]; exact c2
  obtain ⟨ci, ki, i1, i2, i3, -⟩ := Cond.instantiable_spec wi
  cases c2.symm.trans i1
  cases c3.symm.trans i2
  have hord : kX.kind = .ordinary := by rw [x2]; exact i3
  have hsz : cell.slots.size = kX.instanceTypes.size := by rw [x2]; exact c5 i3
  obtain ⟨kB', qB, -⟩ := State.fieldFound?_setVm (s := Z) hal b2
  replace qB : s.fieldFound? tN "backtrace" own_obD = some (cfB, kB', iB, fB) := qB
  obtain ⟨kF', qF, -⟩ := State.fieldFound?_setVm (s := Z) hal d2
  replace qF : s.fieldFound? tN "stackTrace" steD = some (cfF, kF', iF, fF) := qF
  obtain ⟨kS', qS, eS⟩ := State.fieldFound?_setVm (s := Z) hal s1
  replace qS : s.fieldFound? tN "UNASSIGNED_STACK" steD = some (cfS, kS', iS, fS) := qS
  have vF : fF = T.fStack := by have q := Option.some.inj (qF.symm.trans qK); simp only [Prod.mk.injEq] at q; exact q.2.2.2
  have vS : kS' = T.kT ∧ fS = T.fUnassigned := by have q := Option.some.inj (qS.symm.trans qU); simp only [Prod.mk.injEq] at q; exact ⟨q.2.1, q.2.2.2⟩
  have hst : T.aS = st := by
    have q : kS'.statics = some st := by rw [eS]; exact s4
    rw [vS.1] at q
    exact Option.some.inj (L.statics.symm.trans q)
  have hneS : T.aS ≠ a := fun q => by
    rw [hst] at q
    rw [q, c1] at s5
    rw [← Option.some.inj s5, u2] at s6
    cases s6
  obtain ⟨ci198, i198, fB2, k198, g198, a198, sB, -, nB, tB, qB2⟩ := Cond.ownField (C' := own_S) (t := .object "java/lang/Object") fT L.cls (by decide +kernel) (ha (.fieldLink tN 198 tN "backtrace" own_obD) (by simp [own_W])) (ha (.lays own_S tN "backtrace" own_obD) (by simp [own_W])) e.platform hpl
  have vB : fB = fB2 := by have q := Option.some.inj (qB.symm.trans qB2); simp only [Prod.mk.injEq] at q; exact q.2.2.2
  obtain ⟨_, _, cD, kD, iD, fD, _, _, qD, sD, -⟩ := Cond.lays_spec (ha (.lays own_S tN "depth" "I") (by simp [own_W]))
  have vD : T.cT = cD := Option.some.inj (fT.symm.trans (Cond.lays_declared (ha (.lays own_S tN "depth" "I") (by simp [own_W])) qD))
  obtain ⟨kD1, atD⟩ := State.fieldFound?_spec qD
  have vD2 : kD = T.kT := Option.some.inj (kD1.symm.trans (vD ▸ L.cls))
  obtain ⟨nD, tD⟩ := State.fieldFound?_type qD (t := .int) (by decide +kernel)
  have hfb := Cond.soleField_find fT L.cls (ha (.soleField tN "backtrace") (by simp [own_W])) a198 nB sB
  have hfd := Cond.soleField_find fT L.cls (ha (.soleField tN "depth") (by simp [own_W])) (vD2 ▸ atD) nD sD
  obtain ⟨comp, cO, kO, -, -, hkO, hkindO, hO⟩ := Cond.arrayOver_spec (ha (.arrayOver (.object "java/lang/Object")) (by simp [own_W]))
  obtain ⟨tyS, -⟩ := Cond.laysAt hfound x1 qK (ha (.lays own_S tN "stackTrace" steD) (by simp [own_W]))
  obtain ⟨tyB, -⟩ := Cond.laysAt hfound x1 qB2 (ha (.lays own_S tN "backtrace" own_obD) (by simp [own_W]))
  obtain ⟨tyD, -⟩ := Cond.laysAt hfound x1 qD (ha (.lays own_S tN "depth" "I") (by simp [own_W]))
  have tk : ∀ {f : Field} {v : Value}, kX.instanceTypes[f.slot]? = some f.type → fits f.type v = true → Jvm.Takes s cell f v := fun {f v} h1 h2 => by
    obtain ⟨q1, q2⟩ := Takes.of_laid (v := v) x1 hord h1 h2
    exact ⟨by rw [hsz]; simpa using q1, by rw [u2]; exact q2⟩
  have tS : T.fStack.type = .array (.object "java/lang/StackTraceElement") := (State.fieldFound?_type qK (t := .array (.object "java/lang/StackTraceElement")) (by decide +kernel)).2
  have hsel0 : selectMethod e.platform s.vm cell.cls T.fill0 = .method T.fill0 := by
    obtain ⟨y1, y2, y3, z1, z2, z3, z4, -⟩ := Cond.selects_spec (ha (.selects own_S tFill0 tFill0) (by simp [own_W]))
    cases Option.some.inj (z1.symm.trans hfound)
    cases Option.some.inj (z2.symm.trans (State.methodFound?_of_named nN (by decide)))
    cases Option.some.inj (z3.symm.trans nN)
    rw [Launch.admits_selectMethod had]; exact z4
  have main := Jvm.Free.Exc.fillPaysAny (l := l) (R := R) (below := below) (sargs := args) (len := len) (W := W) hx htr T L nF (u0 := ⟨.ref w, rfl⟩) (self := a) (cell := cell) (cellS := cS) (fun _ => by rw [u2]; simp) (by rw [u2]; simp) (by rw [u3]) (by rw [u3]) (by rw [← vF]; exact d7) hsel0 hneS (fun q => by rw [q] at s6; cases s6) (by rw [← vS.2]; exact s7) (tk tyS (by rw [tS]; rfl))
    ⟨{ ci198 := ci198, i198 := i198, fBack := fB2 }, ⟨k198, g198, a198, sB⟩, by rw [← vB]; exact b7⟩ hTK hBelow fT hO hkO hkindO hfb hfd (fun x => tk tyB (by rw [tB]; rfl)) (fun x => tk tyD (by rw [tD]; rfl)) hf hlo
  have eB : Jvm.RoadKit.slotOf Z tN "backtrace" own_obD = fB2.slot := by simp [Jvm.RoadKit.slotOf, b2, vB]
  have eF : Jvm.RoadKit.slotOf Z tN "stackTrace" steD = T.fStack.slot := by simp [Jvm.RoadKit.slotOf, d2, vF]
  have eD : Jvm.RoadKit.slotOf Z tN "depth" "I" = fD.slot := by
    obtain ⟨_, _, c', k', i', f', _, _, qZ, -⟩ := Cond.lays_spec (hw _ (List.mem_of_getElem? (i := 65) rfl) : (Cond.lays own_S tN "depth" "I").holds a0 Z none Z [] = true)
    obtain ⟨k'', q, -⟩ := State.fieldFound?_setVm (s := Z) hal qZ
    have q' := Option.some.inj ((show s.fieldFound? tN "depth" "I" = some (c', k'', i', f') from q).symm.trans qD)
    simp only [Prod.mk.injEq] at q'
    simp [Jvm.RoadKit.slotOf, qZ, q'.2.2.2]
  intro m meth c A g ig mk a' X hg hsize hdg hWd hmk hPre
  obtain ⟨rfl, hh, hc, hs⟩ := hPre
  obtain ⟨v, Bq, X', ⟨hv, C, n, hn, o1, o2, o3, o4, o5, hL, hcl, hsl⟩, come⟩ := main m meth c A g ig mk _ X hg hsize hdg hWd hmk ⟨rfl, hc, hs, by rw [hh]; exact c1, by rw [hh, hst]; exact s5⟩
  refine ⟨v, ⟨Bq.U, Bq.locs, A.cells + 1, A.slots + 2752⟩, X'.more (by rw [hcl]; exact Nat.le_refl _) (by show Bq.slots ≤ A.slots + 2752; omega), ⟨_, ⟨hv, rfl, fun cell0 q => ?_⟩, ?_, rfl, rfl⟩, come⟩
  · cases c1.symm.trans q
    exact ⟨C, o1, o2, o3, o4, fun i j1 j2 j3 => o5 i (by rw [← eB]; exact j1) (by rw [← eD]; exact j2) (by rw [← eF]; exact j3)⟩
  · show Bq.locs = A.locs ++ own_three Z a
    rw [hL, own_three, eB, eD, eF]
/-- what a walk that wrote Throwable's six fields of a alone leaves -/
theorem own_kp {p : Program} {l : Launch} {e : Env} {R : Room} {s : State} {m : MethodId} {args : Array Value} {below : List Frame} {meth : Method} {c : Code} {T Z : State} {locs : List Loc} {cells slots : Nat} {a : Addr} {h0 : Heap} (X : Stand p l e R s m args below meth c T locs cells slots) (hh : s.heap = h0) (hL : ∀ x ∈ locs, ∃ nd ∈ Jvm.Free.Exc.sixNames, x = ⟨a, Jvm.RoadKit.slotOf Z tN nd.1 nd.2⟩) : Kp Z h0 T.heap a := by
  subst hh
  refine ⟨X.same.2.1, fun y cy hy => ?_⟩
  obtain ⟨c', h1, h2, h3, h4⟩ := X.same.2.2.2.2.2 y cy hy
  refine ⟨c', h1, h2, h3, fun ne => ?_, fun i hi => h4 i fun hm => ?_⟩
  · have q : c'.slots = cy.slots := Array.ext_getElem? fun i => h4 i fun hm => by
      obtain ⟨nd, -, q⟩ := hL _ hm
      exact ne (congrArg Loc.base q)
    rw [h2, q]
  · obtain ⟨nd, hn, q⟩ := hL _ hm
    exact hi nd hn (congrArg Loc.slot q).symm
theorem own_keep_kp {Z : State} {h h' : Heap} {a : Addr} (K : Kp Z h h' a) : Keep h h' [a] := by
  refine ⟨K.1, fun x cx hx hn => ?_, fun x cx hx => ?_⟩
  · obtain ⟨c', q1, -, -, q4, -⟩ := K.2 x cx hx
    rw [q1, q4 (fun e => hn (by rw [e]; exact List.mem_singleton.mpr rfl))]
  · obtain ⟨c', q1, q2, q3, -⟩ := K.2 x cx hx
    exact ⟨c', q1, by rw [q2], by rw [q2], q3⟩
theorem own_sta {Z : State} {h0 h : Heap} {C n d : String} {v : Value} (F : Sta Z h0 C n d v) (K : Keep h0 h []) : Sta Z h C n d v := by
  obtain ⟨cf, i, k, f, st, cell, h1, h2, h3, h4, h5, r⟩ := F
  exact ⟨cf, i, k, f, st, cell, h1, h2, h3, h4, K.2.1 _ _ h5 (by simp), r⟩
theorem own_keepZ {Z : State} {h0 h : Heap} (e : h0 = Z.heap) (K : Keep h0 h []) : Keep Z.heap h [] := by rw [← e]; exact K
/-- a contract that asks what frames and methods are known (KnownK), made a Back: by the library's Back.of_freeG and known_frames -/
theorem own_backK {l : Launch} {R : Room} {p : Program} {e : Env} {below : List Frame} {s Z : State} {args a0 : Array Value} {h : Heap} {y : MethodName} {bytes : ByteArray} {maxL : Nat} {ret : Option FieldType} {rm : Room} {len W : Nat} {as' : Array Value} {Q : Option Value → Heap → List Loc → Prop} (hTK : s.vm.MethodsKnown) (hBelow : s.vm.FramesKnown below)
    (hM : MetFree l y (head1 [Cond.code y bytes maxL ret] rm) (fun a U => a = as' ∧ Z.Warmed39 U.vm ∧ U.heap = h) KnownK (fun _ U o U' => ∃ v L, o = .returned v ∧ Q v U'.heap L ∧ FrameEnd U o U' L rm.cells rm.slots))
    (hZ : Z.Warmed39 s.vm) (wc : (Cond.code y bytes maxL ret).before a0 Z = true) (wz : (Cond.initialized y.cls).before a0 Z = true)
    (hf : rm.frames + 1 ≤ R.frames) (hl : W + (maxL + 11) + rm.locals ≤ R.locals) :
    Back l R p e below s args y len W (fun A a => a = as' ∧ A.U.heap = h ∧ A.cells + rm.cells ≤ R.cells ∧ A.slots + rm.slots ≤ R.slots) (fun A _ v B => ∃ L, Q v B.U.heap L ∧ B.locs = A.locs ++ L ∧ B.cells = A.cells + rm.cells ∧ B.slots = A.slots + rm.slots) := by
  let End : Array Value → State → Outcome → State → List Loc → Nat → Nat → Prop := fun _ _ o t L k n => (k = rm.cells ∧ n = rm.slots) ∧ ∃ v, o = .returned v ∧ Q v t.heap L
  refine Back.of_freeG (bytes := bytes) (maxL := maxL) (ret := ret) (E := End) hM hf hl ?_ ?_ ?_ ?_ ?_
  · intro m meth c A a Y hp
    have warm := wtrans hZ Y.warmed
    have own := mv (args := a) warm wc
    have all : (Cond.and (Cond.code y bytes maxL ret) .tt).before a A.U = true := by
      rw [Cond.before_and, Bool.and_eq_true]
      exact ⟨own, rfl⟩
    exact ⟨all, own, mv warm wz, hp.2.2⟩
  · intro m meth c A a g mk Y hp
    obtain ⟨hargs, hheap, -⟩ := hp
    exact ⟨hargs, wtrans hZ Y.warmed, hheap⟩
  · intro m meth c A a g mk Y _ hg
    exact known_frames Y hg hTK hBelow
  · intro a first o t hq
    obtain ⟨v, L, ho, hv, hend⟩ := hq
    exact ⟨L, rm.cells, rm.slots, hend, ⟨rfl, rfl⟩, v, ho, hv⟩
  · intro m meth c A a g mk v t L k n Y _ _ _ hE
    obtain ⟨⟨hk, hn⟩, v', ho, hv⟩ := hE
    obtain rfl : v = v' := by injection ho
    exact ⟨L, hv, rfl, by rw [← hk], by rw [← hn]⟩
theorem own_six_line {Z : State} {a0 : Array Value} (hw : ∀ d ∈ tables_1, d.before a0 Z = true) : ∀ nd ∈ Jvm.Free.Exc.sixNames, Jvm.RoadKit.slotOf Z tN nd.1 nd.2 ≠ Jvm.RoadKit.slotOf Z own_S "line" "I" := fun nd hm => by
  have L : Laid Z a0 own_S own_S "line" "I" := Or.inr (hw _ (List.mem_of_getElem? (i := 69) rfl))
  simp only [Jvm.Free.Exc.sixNames, List.mem_cons, List.not_mem_nil, or_false] at hm
  rcases hm with rfl | rfl | rfl | rfl | rfl | rfl
  · exact Jvm.RoadKit.slot_ne (Or.inl (hw _ (List.mem_of_getElem? (i := 33) rfl))) L (by decide) (t := .object "java/lang/Throwable") (t' := .int) (by decide) (by decide)
  · exact Jvm.RoadKit.slot_ne (Or.inl (hw _ (List.mem_of_getElem? (i := 36) rfl))) L (by decide) (t := .array (.object "java/lang/StackTraceElement")) (t' := .int) (by decide) (by decide)
  · exact Jvm.RoadKit.slot_ne (Or.inl (hw _ (List.mem_of_getElem? (i := 39) rfl))) L (by decide) (t := .object "java/util/List") (t' := .int) (by decide) (by decide)
  · exact Jvm.RoadKit.slot_ne (Or.inl (hw _ (List.mem_of_getElem? (i := 64) rfl))) L (by decide) (t := .object "java/lang/Object") (t' := .int) (by decide) (by decide)
  · exact Jvm.RoadKit.slot_ne (Or.inl (hw _ (List.mem_of_getElem? (i := 65) rfl))) L (by decide) (t := .int) (t' := .int) (by decide) (by decide)
  · exact Jvm.RoadKit.slot_ne (Or.inl (hw _ (List.mem_of_getElem? (i := 63) rfl))) L (by decide) (t := .object "java/lang/String") (t' := .int) (by decide) (by decide)
theorem own_six_col {Z : State} {a0 : Array Value} (hw : ∀ d ∈ tables_1, d.before a0 Z = true) : ∀ nd ∈ Jvm.Free.Exc.sixNames, Jvm.RoadKit.slotOf Z tN nd.1 nd.2 ≠ Jvm.RoadKit.slotOf Z own_S "column" "I" := fun nd hm => by
  have L : Laid Z a0 own_S own_S "column" "I" := Or.inr (hw _ (List.mem_of_getElem? (i := 71) rfl))
  simp only [Jvm.Free.Exc.sixNames, List.mem_cons, List.not_mem_nil, or_false] at hm
  rcases hm with rfl | rfl | rfl | rfl | rfl | rfl
  · exact Jvm.RoadKit.slot_ne (Or.inl (hw _ (List.mem_of_getElem? (i := 33) rfl))) L (by decide) (t := .object "java/lang/Throwable") (t' := .int) (by decide) (by decide)
  · exact Jvm.RoadKit.slot_ne (Or.inl (hw _ (List.mem_of_getElem? (i := 36) rfl))) L (by decide) (t := .array (.object "java/lang/StackTraceElement")) (t' := .int) (by decide) (by decide)
  · exact Jvm.RoadKit.slot_ne (Or.inl (hw _ (List.mem_of_getElem? (i := 39) rfl))) L (by decide) (t := .object "java/util/List") (t' := .int) (by decide) (by decide)
  · exact Jvm.RoadKit.slot_ne (Or.inl (hw _ (List.mem_of_getElem? (i := 64) rfl))) L (by decide) (t := .object "java/lang/Object") (t' := .int) (by decide) (by decide)
  · exact Jvm.RoadKit.slot_ne (Or.inl (hw _ (List.mem_of_getElem? (i := 65) rfl))) L (by decide) (t := .int) (t' := .int) (by decide) (by decide)
  · exact Jvm.RoadKit.slot_ne (Or.inl (hw _ (List.mem_of_getElem? (i := 63) rfl))) L (by decide) (t := .object "java/lang/String") (t' := .int) (by decide) (by decide)
def QT (Z : State) (a1 : Addr) (h0 : Heap) (n0 : Nat) (v : Option Value) (h : Heap) (L : List Loc) : Prop := v = none ∧ Fr n0 L ∧ Kp Z h0 h a1
def QR (Z : State) (r : Option Value) (h0 : Heap) (n0 : Nat) (v : Option Value) (h : Heap) (L : List Loc) : Prop := v = r ∧ Fr n0 L ∧ h = h0
def own_key (p1 p2 : Int32) : Int64 := ((p1.toInt64) * (4294967296 : Int64)) + ((p2.toInt64) - (-2147483648 : Int64))
def own_f9 (w3 w5 w9 w11 : Int32) : Int32 := if w5 < w3 then (1 : Int32) else if w3 = w5 then (if w11 < w9 then (1 : Int32) else (0 : Int32)) else (0 : Int32)
def own_g (x y : Int64) : Int32 := if (0 : Int32) < lcmpW x y then (1 : Int32) else (0 : Int32)
theorem own_key_int (a b : Int32) : (own_key a b).toInt = a.toInt * 4294967296 + (b.toInt + 2147483648) := by
  have ha := a.le_toInt
  have ha' := a.toInt_lt
  have hb := b.le_toInt
  have hb' := b.toInt_lt
  have e1 : (a.toInt64 * (4294967296 : Int64)).toInt = a.toInt64.toInt * (4294967296 : Int64).toInt := Jvm.Kit.i64_mul (by rw [Jvm.Kit.i64_of_i32, show (4294967296 : Int64).toInt = 4294967296 from rfl]; omega) (by rw [Jvm.Kit.i64_of_i32, show (4294967296 : Int64).toInt = 4294967296 from rfl]; omega)
  have e2 : (b.toInt64 - (-2147483648 : Int64)).toInt = b.toInt64.toInt - (-2147483648 : Int64).toInt := Jvm.Kit.i64_sub (by rw [Jvm.Kit.i64_of_i32, show (-2147483648 : Int64).toInt = -2147483648 from rfl]; omega) (by rw [Jvm.Kit.i64_of_i32, show (-2147483648 : Int64).toInt = -2147483648 from rfl]; omega)
  rw [Jvm.Kit.i64_of_i32, show (4294967296 : Int64).toInt = 4294967296 from rfl] at e1
  rw [Jvm.Kit.i64_of_i32, show (-2147483648 : Int64).toInt = -2147483648 from rfl] at e2
  have e3 : (own_key a b).toInt = (a.toInt64 * (4294967296 : Int64)).toInt + (b.toInt64 - (-2147483648 : Int64)).toInt := Jvm.Kit.i64_add (by rw [e1, e2]; omega) (by rw [e1, e2]; omega)
  rw [e3, e1, e2]; omega
theorem own_eq (a b c d : Int32) : own_f9 a c b d = own_g (own_key a b) (own_key c d) := by
  have k1 := own_key_int a b
  have k2 := own_key_int c d
  have hb := b.le_toInt
  have hb' := b.toInt_lt
  have hd := d.le_toInt
  have hd' := d.toInt_lt
  have ec : (a = c) = (a.toInt = c.toInt) := propext ⟨fun q => by rw [q], fun q => Int32.toInt_inj.mp q⟩
  have eg : ((0 : Int32) < lcmpW (own_key a b) (own_key c d)) = ((own_key c d).toInt < (own_key a b).toInt) := propext ((lw_gt _ _).trans Int64.lt_iff_toInt_lt)
  unfold own_f9 own_g
  simp only [ec, eg, k1, k2, Int32.lt_iff_toInt_lt]
  generalize a.toInt = A at *
  generalize b.toInt = B at *
  generalize c.toInt = C at *
  generalize d.toInt = D at *
  repeat' split
  all_goals first | rfl | omega
theorem own_strs {Z : State} {a0 : Array Value} (hw : ∀ d ∈ tables_1, d.before a0 Z = true) : ∀ a ∈ Bundle.stringAtoms, a.before a0 Z = true := fun d hd => hw d ((by decide +kernel : ∀ d ∈ Bundle.stringAtoms, d ∈ tables_1) d hd)
theorem d1_0 : decode method_3_code 0 = .ok (.iload_n 2, 1) := by decide +kernel
theorem d1_1 : decode method_3_code 1 = .ok (.iconst 1, 1) := by decide +kernel
theorem d1_2 : decode method_3_code 2 = .ok (.if_icmp .ne 5, 3) := by decide +kernel
theorem d1_5 : decode method_3_code 5 = .ok (.iload_n 0, 1) := by decide +kernel
theorem d1_6 : decode method_3_code 6 = .ok (.ireturn, 1) := by decide +kernel
theorem d1_7 : decode method_3_code 7 = .ok (.iload_n 2, 1) := by decide +kernel
theorem d1_8 : decode method_3_code 8 = .ok (.iconst 2, 1) := by decide +kernel
theorem d1_9 : decode method_3_code 9 = .ok (.if_icmp .ne 7, 3) := by decide +kernel
theorem d1_12 : decode method_3_code 12 = .ok (.iload_n 0, 1) := by decide +kernel
theorem d1_13 : decode method_3_code 13 = .ok (.iconst 1, 1) := by decide +kernel
theorem d1_14 : decode method_3_code 14 = .ok (.iadd, 1) := by decide +kernel
theorem d1_15 : decode method_3_code 15 = .ok (.ireturn, 1) := by decide +kernel
theorem d1_16 : decode method_3_code 16 = .ok (.iload_n 2, 1) := by decide +kernel
theorem d1_17 : decode method_3_code 17 = .ok (.iconst 3, 1) := by decide +kernel
theorem d1_18 : decode method_3_code 18 = .ok (.if_icmp .ne 7, 3) := by decide +kernel
theorem d1_21 : decode method_3_code 21 = .ok (.iload_n 0, 1) := by decide +kernel
theorem d1_22 : decode method_3_code 22 = .ok (.iconst 1, 1) := by decide +kernel
theorem d1_23 : decode method_3_code 23 = .ok (.isub, 1) := by decide +kernel
theorem d1_24 : decode method_3_code 24 = .ok (.ireturn, 1) := by decide +kernel
theorem d1_25 : decode method_3_code 25 = .ok (.iload_n 1, 1) := by decide +kernel
theorem d1_26 : decode method_3_code 26 = .ok (.ireturn, 1) := by decide +kernel
theorem ef_1 (m : MethodId) (x0 : Int32) (x1 : Int32) (x2 : Int32) : entryFrame m #[(.int x0), (.int x1), (.int x2)] 3 = mkF m 0 #[.val (.int x0), .val (.int x1), .val (.int x2)] [] := by first | (simp [entryFrame, mkF, argsToLocals, Value.category]; done) | rfl
theorem pn_1 : plainName "com/example/rhadamanthus/rhadamanthus/core/SyntaxErrorLiesBeyondPinLaw" = true := by first | (simp [plainName, overriddenIn]; done) | decide +kernel
def own_f1 (p1 : Int32) (p2 : Int32) (p3 : Int32) : Int32 := (if p3 = (1 : Int32) then p1 else (if p3 = (2 : Int32) then (p1 + (1 : Int32)) else (if p3 = (3 : Int32) then (p1 - (1 : Int32)) else p2)))
def Q1 (Z : State) (p1 : Int32) (p2 : Int32) (p3 : Int32) (h0 : Heap) (n0 : Nat) (v : Option Value) (h : Heap) (L : List Loc) : Prop := v = some (.int (own_f1 p1 p2 p3)) ∧ Fr n0 L ∧ h = h0
set_option maxRecDepth 65536 in
set_option maxHeartbeats 40000000 in
theorem rm1 (l : Launch) (Z : State) (a0 : Array Value) (hw : ∀ d ∈ tables_1, d.before a0 Z = true) (ws : List Jvm.Cond) (p1 : Int32) (p2 : Int32) (p3 : Int32) (h0 : Heap) (n0 : Nat) (Z0 : n0 ≤ h0.size) :
    MetFree l (⟨"com/example/rhadamanthus/rhadamanthus/core/SyntaxErrorLiesBeyondPinLaw", "near", "(III)I"⟩ : MethodName) (head1 (Jvm.Cond.code (⟨"com/example/rhadamanthus/rhadamanthus/core/SyntaxErrorLiesBeyondPinLaw", "near", "(III)I"⟩ : MethodName) method_3_code 3 (some .int) :: ws) ({ frames := 0, cells := 0, slots := 0, locals := 0 } : Room)) (fun a U => a = #[(.int p1), (.int p2), (.int p3)] ∧ Z.Warmed39 U.vm ∧ U.heap = h0) (fun _ _ _ _ _ => True) (fun _ U o U' => ∃ v L, o = .returned v ∧ Q1 Z p1 p2 p3 h0 n0 v U'.heap L ∧ FrameEnd U o U' L ({ frames := 0, cells := 0, slots := 0, locals := 0 } : Room).cells ({ frames := 0, cells := 0, slots := 0, locals := 0 } : Room).slots) := by
  refine MetFree.of_bodySF (plainFor_of_name pn_1) hisR ?_
  intro p e s m args below meth c s₁ Bd hml0 hP hK
  obtain ⟨rfl, hZ, hh⟩ := hP
  have hx := Bd.exec
  have hby := Bd.bytes
  have hml : c.maxLocals = 3 := hml0
  have hown : s.vm.findClass "com/example/rhadamanthus/rhadamanthus/core/SyntaxErrorLiesBeyondPinLaw" = some m.cls := findClass_of_methodNamed Bd.named
  have hnm := (name_of_methodNamed Bd.named Bd.method).1
  have X0 : Stand p l e ({ frames := 0, cells := 0, slots := 0, locals := 0 } : Room) s m #[(.int p1), (.int p2), (.int p3)] below meth c s₁ [] 0 0 := Stand.of_body Bd
  have e0 : s₁.heap = h0 := by rw [← hh, Bd.state]; rfl
  have N0 := Fr.nil n0
  have pre0 : ∀ t, Steps p.tables e below (s₁.setTop (mkF m 0 #[.val (.int p1), .val (.int p2), .val (.int p3)] [])) t → Steps p.tables e below (s₁.setTop (entryFrame m #[(.int p1), (.int p2), (.int p3)] 3)) t := fun t k => castTop (ef_1 m p1 p2 p3) k
  obtain ⟨fs, hr, hrun, hended, hW, hsame⟩ := X0.leave (v := some (.int (own_f1 p1 p2 p3))) (fun h => by rw [Bd.returns] at h; cases h)
  refine ⟨_, _, pre0 _ ?_, hrun, hended, _, _, rfl, ?_, ⟨_, rfl⟩, hW, hsame.mono (by decide) (by decide)⟩
  · show Steps p.tables e below (s₁.setTop (mkF m 0 #[.val (.int p1), .val (.int p2), .val (.int p3)] [])) _
    refine XS.iloadN X0.here hx rfl (hb hby d1_0) rfl ?_
    show Steps p.tables e below (s₁.setTop (mkF m 1 #[.val (.int p1), .val (.int p2), .val (.int p3)] [(.int p3)])) _
    refine XS.iconst X0.here hx rfl (hb hby d1_1) ?_
    show Steps p.tables e below (s₁.setTop (mkF m 2 #[.val (.int p1), .val (.int p2), .val (.int p3)] [(.int (1 : Int32)), (.int p3)])) _
    by_cases hc2 : p3 = (1 : Int32)
    · refine XS.icmpNo X0.here hx rfl (hb hby d1_2) rfl (teq hc2).2 ?_
      show Steps p.tables e below (s₁.setTop (mkF m 5 #[.val (.int p1), .val (.int p2), .val (.int p3)] [])) _
      refine XS.iloadN X0.here hx rfl (hb hby d1_5) rfl ?_
      show Steps p.tables e below (s₁.setTop (mkF m 6 #[.val (.int p1), .val (.int p2), .val (.int p3)] [(.int p1)])) _
      have hv : own_f1 p1 p2 p3 = p1 := by simp only [own_f1, if_pos hc2]
      rw [hv] at hr
      exact retI X0 hx Bd.returns (hb hby d1_6) hr      -- retI stands in the head ('lawwalk <made dir>' prints it)
    · refine XS.icmpYes X0.here hx rfl (pc0 := 2) (pc' := 7) rfl (hb hby d1_2) rfl (feq hc2).2 (by decide) (by decide) ?_
      show Steps p.tables e below (s₁.setTop (mkF m 7 #[.val (.int p1), .val (.int p2), .val (.int p3)] [])) _
      refine XS.iloadN X0.here hx rfl (hb hby d1_7) rfl ?_
      show Steps p.tables e below (s₁.setTop (mkF m 8 #[.val (.int p1), .val (.int p2), .val (.int p3)] [(.int p3)])) _
      refine XS.iconst X0.here hx rfl (hb hby d1_8) ?_
      show Steps p.tables e below (s₁.setTop (mkF m 9 #[.val (.int p1), .val (.int p2), .val (.int p3)] [(.int (2 : Int32)), (.int p3)])) _
      by_cases hc9 : p3 = (2 : Int32)
      · refine XS.icmpNo X0.here hx rfl (hb hby d1_9) rfl (teq hc9).2 ?_
        show Steps p.tables e below (s₁.setTop (mkF m 12 #[.val (.int p1), .val (.int p2), .val (.int p3)] [])) _
        refine XS.iloadN X0.here hx rfl (hb hby d1_12) rfl ?_
        show Steps p.tables e below (s₁.setTop (mkF m 13 #[.val (.int p1), .val (.int p2), .val (.int p3)] [(.int p1)])) _
        refine XS.iconst X0.here hx rfl (hb hby d1_13) ?_
        show Steps p.tables e below (s₁.setTop (mkF m 14 #[.val (.int p1), .val (.int p2), .val (.int p3)] [(.int (1 : Int32)), (.int p1)])) _
        refine XS.iadd X0.here hx rfl (hb hby d1_14) rfl ?_
        show Steps p.tables e below (s₁.setTop (mkF m 15 #[.val (.int p1), .val (.int p2), .val (.int p3)] [(.int (p1 + (1 : Int32)))])) _
        have hv : own_f1 p1 p2 p3 = (p1 + (1 : Int32)) := by simp only [own_f1, if_neg hc2, if_pos hc9]
        rw [hv] at hr
        exact retI X0 hx Bd.returns (hb hby d1_15) hr      -- retI stands in the head ('lawwalk <made dir>' prints it)
      · refine XS.icmpYes X0.here hx rfl (pc0 := 9) (pc' := 16) rfl (hb hby d1_9) rfl (feq hc9).2 (by decide) (by decide) ?_
        show Steps p.tables e below (s₁.setTop (mkF m 16 #[.val (.int p1), .val (.int p2), .val (.int p3)] [])) _
        refine XS.iloadN X0.here hx rfl (hb hby d1_16) rfl ?_
        show Steps p.tables e below (s₁.setTop (mkF m 17 #[.val (.int p1), .val (.int p2), .val (.int p3)] [(.int p3)])) _
        refine XS.iconst X0.here hx rfl (hb hby d1_17) ?_
        show Steps p.tables e below (s₁.setTop (mkF m 18 #[.val (.int p1), .val (.int p2), .val (.int p3)] [(.int (3 : Int32)), (.int p3)])) _
        by_cases hc18 : p3 = (3 : Int32)
        · refine XS.icmpNo X0.here hx rfl (hb hby d1_18) rfl (teq hc18).2 ?_
          show Steps p.tables e below (s₁.setTop (mkF m 21 #[.val (.int p1), .val (.int p2), .val (.int p3)] [])) _
          refine XS.iloadN X0.here hx rfl (hb hby d1_21) rfl ?_
          show Steps p.tables e below (s₁.setTop (mkF m 22 #[.val (.int p1), .val (.int p2), .val (.int p3)] [(.int p1)])) _
          refine XS.iconst X0.here hx rfl (hb hby d1_22) ?_
          show Steps p.tables e below (s₁.setTop (mkF m 23 #[.val (.int p1), .val (.int p2), .val (.int p3)] [(.int (1 : Int32)), (.int p1)])) _
          refine XS.isub X0.here hx rfl (hb hby d1_23) rfl ?_
          show Steps p.tables e below (s₁.setTop (mkF m 24 #[.val (.int p1), .val (.int p2), .val (.int p3)] [(.int (p1 - (1 : Int32)))])) _
          have hv : own_f1 p1 p2 p3 = (p1 - (1 : Int32)) := by simp only [own_f1, if_neg hc2, if_neg hc9, if_pos hc18]
          rw [hv] at hr
          exact retI X0 hx Bd.returns (hb hby d1_24) hr      -- retI stands in the head ('lawwalk <made dir>' prints it)
        · refine XS.icmpYes X0.here hx rfl (pc0 := 18) (pc' := 25) rfl (hb hby d1_18) rfl (feq hc18).2 (by decide) (by decide) ?_
          show Steps p.tables e below (s₁.setTop (mkF m 25 #[.val (.int p1), .val (.int p2), .val (.int p3)] [])) _
          refine XS.iloadN X0.here hx rfl (hb hby d1_25) rfl ?_
          show Steps p.tables e below (s₁.setTop (mkF m 26 #[.val (.int p1), .val (.int p2), .val (.int p3)] [(.int p2)])) _
          have hv : own_f1 p1 p2 p3 = p2 := by simp only [own_f1, if_neg hc2, if_neg hc9, if_neg hc18]
          rw [hv] at hr
          exact retI X0 hx Bd.returns (hb hby d1_26) hr      -- retI stands in the head ('lawwalk <made dir>' prints it)
  · show Q1 Z p1 p2 p3 h0 n0 _ s₁.heap _
    rw [e0]
    exact ⟨rfl, N0, rfl⟩
theorem d8_0 : decode method_2_code 0 = .ok (.iload_n 0, 1) := by decide +kernel
theorem d8_1 : decode method_2_code 1 = .ok (.i2l, 1) := by decide +kernel
theorem d8_2 : decode method_2_code 2 = .ok (.ldc2_w 7, 3) := by decide +kernel
theorem d8_5 : decode method_2_code 5 = .ok (.lmul, 1) := by decide +kernel
theorem d8_6 : decode method_2_code 6 = .ok (.iload_n 1, 1) := by decide +kernel
theorem d8_7 : decode method_2_code 7 = .ok (.i2l, 1) := by decide +kernel
theorem d8_8 : decode method_2_code 8 = .ok (.ldc2_w 11, 3) := by decide +kernel
theorem d8_11 : decode method_2_code 11 = .ok (.lsub, 1) := by decide +kernel
theorem d8_12 : decode method_2_code 12 = .ok (.ladd, 1) := by decide +kernel
theorem d8_13 : decode method_2_code 13 = .ok (.lreturn, 1) := by decide +kernel
theorem pn_8 : plainName "com/example/rhadamanthus/rhadamanthus/core/SyntaxErrorLiesBeyondPinLaw" = true := by first | (simp [plainName, overriddenIn]; done) | decide +kernel
theorem ef_8 (m : MethodId) (x0 : Int32) (x1 : Int32) : entryFrame m #[(.int x0), (.int x1)] 2 = mkF m 0 #[.val (.int x0), .val (.int x1)] [] := by first | (simp [entryFrame, mkF, argsToLocals, Value.category]; done) | rfl
def Q8 (Z : State) (p1 : Int32) (p2 : Int32) (h0 : Heap) (n0 : Nat) (v : Option Value) (h : Heap) (L : List Loc) : Prop := v = some (.long (own_key p1 p2)) ∧ Fr n0 L ∧ h = h0
set_option maxRecDepth 65536 in
set_option maxHeartbeats 40000000 in
theorem rm8 (l : Launch) (Z : State) (a0 : Array Value) (hw : ∀ d ∈ tables_1, d.before a0 Z = true) (ws : List Jvm.Cond) (p1 : Int32) (p2 : Int32) (h0 : Heap) (n0 : Nat) (Z0 : n0 ≤ h0.size) :
    MetFree l (⟨"com/example/rhadamanthus/rhadamanthus/core/SyntaxErrorLiesBeyondPinLaw", "key", "(II)J"⟩ : MethodName) (head1 (Jvm.Cond.code (⟨"com/example/rhadamanthus/rhadamanthus/core/SyntaxErrorLiesBeyondPinLaw", "key", "(II)J"⟩ : MethodName) method_2_code 2 (some .long) :: ws) ({ frames := 0, cells := 0, slots := 0, locals := 0 } : Room)) (fun a U => a = #[(.int p1), (.int p2)] ∧ Z.Warmed39 U.vm ∧ U.heap = h0) (fun _ _ _ _ _ => True) (fun _ U o U' => ∃ v L, o = .returned v ∧ Q8 Z p1 p2 h0 n0 v U'.heap L ∧ FrameEnd U o U' L ({ frames := 0, cells := 0, slots := 0, locals := 0 } : Room).cells ({ frames := 0, cells := 0, slots := 0, locals := 0 } : Room).slots) := by
  refine MetFree.of_bodySF (plainFor_of_name pn_8) hisR ?_
  intro p e s m args below meth c s₁ Bd hml0 hP hK
  obtain ⟨rfl, hZ, hh⟩ := hP
  have hx := Bd.exec
  have hby := Bd.bytes
  have hml : c.maxLocals = 2 := hml0
  have hown : s.vm.findClass "com/example/rhadamanthus/rhadamanthus/core/SyntaxErrorLiesBeyondPinLaw" = some m.cls := findClass_of_methodNamed Bd.named
  have hnm := (name_of_methodNamed Bd.named Bd.method).1
  have X0 : Stand p l e ({ frames := 0, cells := 0, slots := 0, locals := 0 } : Room) s m #[(.int p1), (.int p2)] below meth c s₁ [] 0 0 := Stand.of_body Bd
  have e0 : s₁.heap = h0 := by rw [← hh, Bd.state]; rfl
  have N0 := Fr.nil n0
  have pre0 : ∀ t, Steps p.tables e below (s₁.setTop (mkF m 0 #[.val (.int p1), .val (.int p2)] [])) t → Steps p.tables e below (s₁.setTop (entryFrame m #[(.int p1), (.int p2)] 2)) t := fun t k => castTop (ef_8 m p1 p2) k
  -- 3. LAWS
  obtain ⟨fs, hr, hrun, hended, hW, hsame⟩ := X0.leave (v := some (.long (((p1.toInt64) * (4294967296 : Int64)) + ((p2.toInt64) - (-2147483648 : Int64))))) (fun h => by rw [Bd.returns] at h; cases h)
  refine ⟨_, _, pre0 _ ?_, hrun, hended, _, _, rfl, ?_, ⟨_, rfl⟩, hW, hsame.mono (by decide) (by decide)⟩
  -- 4. STEPS
  · show Steps p.tables e below (s₁.setTop (mkF m 0 #[.val (.int p1), .val (.int p2)] [])) _
    refine XS.iloadN X0.here hx rfl (hb hby d8_0) rfl ?_
    show Steps p.tables e below (s₁.setTop (mkF m 1 #[.val (.int p1), .val (.int p2)] [(.int p1)])) _
    refine XS.i2l X0.here hx rfl (hb hby d8_1) rfl ?_
    show Steps p.tables e below (s₁.setTop (mkF m 2 #[.val (.int p1), .val (.int p2)] [(.long (p1.toInt64))])) _
    refine X0.ldc2Long hx hown (mvT hZ (hw _ (List.mem_of_getElem? (i := 76) rfl))) (g := (mkF m 2 #[.val (.int p1), .val (.int p2)] [(.long (p1.toInt64))])) rfl (hb hby d8_2) _ ?_
    show Steps p.tables e below (s₁.setTop (mkF m 5 #[.val (.int p1), .val (.int p2)] [(.long (4294967296 : Int64)), (.long (p1.toInt64))])) _
    refine XS.lmul X0.here hx rfl (hb hby d8_5) rfl ?_
    show Steps p.tables e below (s₁.setTop (mkF m 6 #[.val (.int p1), .val (.int p2)] [(.long ((p1.toInt64) * (4294967296 : Int64)))])) _
    refine XS.iloadN X0.here hx rfl (hb hby d8_6) rfl ?_
    show Steps p.tables e below (s₁.setTop (mkF m 7 #[.val (.int p1), .val (.int p2)] [(.int p2), (.long ((p1.toInt64) * (4294967296 : Int64)))])) _
    refine XS.i2l X0.here hx rfl (hb hby d8_7) rfl ?_
    show Steps p.tables e below (s₁.setTop (mkF m 8 #[.val (.int p1), .val (.int p2)] [(.long (p2.toInt64)), (.long ((p1.toInt64) * (4294967296 : Int64)))])) _
    refine X0.ldc2Long hx hown (mvT hZ (hw _ (List.mem_of_getElem? (i := 77) rfl))) (g := (mkF m 8 #[.val (.int p1), .val (.int p2)] [(.long (p2.toInt64)), (.long ((p1.toInt64) * (4294967296 : Int64)))])) rfl (hb hby d8_8) _ ?_
    show Steps p.tables e below (s₁.setTop (mkF m 11 #[.val (.int p1), .val (.int p2)] [(.long (-2147483648 : Int64)), (.long (p2.toInt64)), (.long ((p1.toInt64) * (4294967296 : Int64)))])) _
    refine XS.lsub X0.here hx rfl (hb hby d8_11) rfl ?_
    show Steps p.tables e below (s₁.setTop (mkF m 12 #[.val (.int p1), .val (.int p2)] [(.long ((p2.toInt64) - (-2147483648 : Int64))), (.long ((p1.toInt64) * (4294967296 : Int64)))])) _
    refine XS.ladd X0.here hx rfl (hb hby d8_12) rfl ?_
    show Steps p.tables e below (s₁.setTop (mkF m 13 #[.val (.int p1), .val (.int p2)] [(.long (((p1.toInt64) * (4294967296 : Int64)) + ((p2.toInt64) - (-2147483648 : Int64))))])) _
    generalize ((p1.toInt64) * (4294967296 : Int64)) + ((p2.toInt64) - (-2147483648 : Int64)) = q at hr ⊢
    jvm_step X0.here [X0.here.top, hx, (hb hby d8_13), X0.method', Bd.returns, narrow]
    first | (intro acts; rw [hr _ acts rfl rfl rfl]) | rw [hr _ _ rfl rfl rfl]
    exact Steps.refl _
  · show Q8 Z p1 p2 h0 n0 _ s₁.heap _
    rw [e0]
    exact ⟨rfl, N0, rfl⟩
theorem d9_0 : decode prog_179_method_4_code 0 = .ok (.aload_n 0, 1) := by decide +kernel
theorem d9_1 : decode prog_179_method_4_code 1 = .ok (.getfield 7, 3) := by decide +kernel
theorem d9_4 : decode prog_179_method_4_code 4 = .ok (.aload_n 1, 1) := by decide +kernel
theorem d9_5 : decode prog_179_method_4_code 5 = .ok (.getfield 7, 3) := by decide +kernel
theorem d9_8 : decode prog_179_method_4_code 8 = .ok (.if_icmp .gt 25, 3) := by decide +kernel
theorem d9_11 : decode prog_179_method_4_code 11 = .ok (.aload_n 0, 1) := by decide +kernel
theorem d9_12 : decode prog_179_method_4_code 12 = .ok (.getfield 7, 3) := by decide +kernel
theorem d9_15 : decode prog_179_method_4_code 15 = .ok (.aload_n 1, 1) := by decide +kernel
theorem d9_16 : decode prog_179_method_4_code 16 = .ok (.getfield 7, 3) := by decide +kernel
theorem d9_19 : decode prog_179_method_4_code 19 = .ok (.if_icmp .ne 18, 3) := by decide +kernel
theorem d9_22 : decode prog_179_method_4_code 22 = .ok (.aload_n 0, 1) := by decide +kernel
theorem d9_23 : decode prog_179_method_4_code 23 = .ok (.getfield 13, 3) := by decide +kernel
theorem d9_26 : decode prog_179_method_4_code 26 = .ok (.aload_n 1, 1) := by decide +kernel
theorem d9_27 : decode prog_179_method_4_code 27 = .ok (.getfield 13, 3) := by decide +kernel
theorem d9_30 : decode prog_179_method_4_code 30 = .ok (.if_icmp .le 7, 3) := by decide +kernel
theorem d9_33 : decode prog_179_method_4_code 33 = .ok (.iconst 1, 1) := by decide +kernel
theorem d9_34 : decode prog_179_method_4_code 34 = .ok (.goto 4, 3) := by decide +kernel
theorem d9_37 : decode prog_179_method_4_code 37 = .ok (.iconst 0, 1) := by decide +kernel
theorem d9_38 : decode prog_179_method_4_code 38 = .ok (.ireturn, 1) := by decide +kernel
theorem pn_9 : plainName "com/example/rhadamanthus/rhadamanthus/core/SyntaxError" = true := by first | (simp [plainName, overriddenIn]; done) | decide +kernel
theorem ef_9 (m : MethodId) (x0 : Addr) (x1 : Addr) : entryFrame m #[(.ref x0), (.ref x1)] 2 = mkF m 0 #[.val (.ref x0), .val (.ref x1)] [] := by first | (simp [entryFrame, mkF, argsToLocals, Value.category]; done) | rfl
set_option maxRecDepth 65536 in
set_option maxHeartbeats 40000000 in
theorem rm9_t (l : Launch) (Z : State) (a0 : Array Value) (hw : ∀ d ∈ tables_1, d.before a0 Z = true) (ws : List Jvm.Cond) (a1 : Addr) (a2 : Addr) (w3 : Int32) (w5 : Int32) (h0 : Heap) (n0 : Nat) (Z0 : n0 ≤ h0.size) (F_line_a1 : Fld Z h0 a1 "com/example/rhadamanthus/rhadamanthus/core/SyntaxError" "line" "I" (.int w3)) (F_line_a2 : Fld Z h0 a2 "com/example/rhadamanthus/rhadamanthus/core/SyntaxError" "line" "I" (.int w5)) (hc8 : w5 < w3) :
    MetFree l (⟨"com/example/rhadamanthus/rhadamanthus/core/SyntaxError", "liesBeyond", "(Lcom/example/rhadamanthus/rhadamanthus/core/SyntaxError;)Z"⟩ : MethodName) (head1 (Jvm.Cond.code (⟨"com/example/rhadamanthus/rhadamanthus/core/SyntaxError", "liesBeyond", "(Lcom/example/rhadamanthus/rhadamanthus/core/SyntaxError;)Z"⟩ : MethodName) prog_179_method_4_code 2 (some .boolean) :: ws) ({ frames := 0, cells := 0, slots := 0, locals := 0 } : Room)) (fun a U => a = #[(.ref a1), (.ref a2)] ∧ Z.Warmed39 U.vm ∧ U.heap = h0) (fun _ _ _ _ _ => True) (fun _ U o U' => ∃ v L, o = .returned v ∧ QR Z (some (.int (1 : Int32))) h0 n0 v U'.heap L ∧ FrameEnd U o U' L ({ frames := 0, cells := 0, slots := 0, locals := 0 } : Room).cells ({ frames := 0, cells := 0, slots := 0, locals := 0 } : Room).slots) := by
  refine MetFree.of_bodySF (plainFor_of_name pn_9) hisR ?_
  intro p e s m args below meth c s₁ Bd hml0 hP hK
  obtain ⟨rfl, hZ, hh⟩ := hP
  have hx := Bd.exec
  have hby := Bd.bytes
  have hml : c.maxLocals = 2 := hml0
  have hown : s.vm.findClass "com/example/rhadamanthus/rhadamanthus/core/SyntaxError" = some m.cls := findClass_of_methodNamed Bd.named
  have hnm := (name_of_methodNamed Bd.named Bd.method).1
  have X0 : Stand p l e ({ frames := 0, cells := 0, slots := 0, locals := 0 } : Room) s m #[(.ref a1), (.ref a2)] below meth c s₁ [] 0 0 := Stand.of_body Bd
  have e0 : s₁.heap = h0 := by rw [← hh, Bd.state]; rfl
  have N0 := Fr.nil n0
  have pre0 : ∀ t, Steps p.tables e below (s₁.setTop (mkF m 0 #[.val (.ref a1), .val (.ref a2)] [])) t → Steps p.tables e below (s₁.setTop (entryFrame m #[(.ref a1), (.ref a2)] 2)) t := fun t k => castTop (ef_9 m a1 a2) k
  -- 3. LAWS
  obtain ⟨T4, X4, e4, st4⟩ := getF X0 hx hZ hown (host := "") (Or.inl (hw _ (List.mem_of_getElem? (i := 68) rfl))) Via.refl e0 F_line_a1 (g := (mkF m 1 #[.val (.ref a1), .val (.ref a2)] [(.ref a1)])) rfl rfl (hb hby d9_1)
  obtain ⟨T6, X6, e6, st6⟩ := getF X4 hx hZ hown (host := "") (Or.inl (hw _ (List.mem_of_getElem? (i := 68) rfl))) Via.refl e4 F_line_a2 (g := (mkF m 5 #[.val (.ref a1), .val (.ref a2)] [(.ref a2), (.int w3)])) rfl rfl (hb hby d9_5)
  obtain ⟨fs, hr, hrun, hended, hW, hsame⟩ := X6.leave (v := some (.int (1 : Int32))) (fun h => by rw [Bd.returns] at h; cases h)
  refine ⟨_, _, pre0 _ ?_, hrun, hended, _, _, rfl, ?_, ⟨_, rfl⟩, hW, hsame.mono (by decide) (by decide)⟩
  -- 4. STEPS
  · show Steps p.tables e below (s₁.setTop (mkF m 0 #[.val (.ref a1), .val (.ref a2)] [])) _
    refine XS.aloadN X0.here hx rfl (hb hby d9_0) rfl rfl ?_
    show Steps p.tables e below (s₁.setTop (mkF m 1 #[.val (.ref a1), .val (.ref a2)] [(.ref a1)])) _
    refine st4 _ ?_
    show Steps p.tables e below (T4.setTop (mkF m 4 #[.val (.ref a1), .val (.ref a2)] [(.int w3)])) _
    refine XS.aloadN X4.here hx rfl (hb hby d9_4) rfl rfl ?_
    show Steps p.tables e below (T4.setTop (mkF m 5 #[.val (.ref a1), .val (.ref a2)] [(.ref a2), (.int w3)])) _
    refine st6 _ ?_
    show Steps p.tables e below (T6.setTop (mkF m 8 #[.val (.ref a1), .val (.ref a2)] [(.int w5), (.int w3)])) _
    refine XS.icmpYes X6.here hx rfl (pc0 := 8) (pc' := 33) rfl (hb hby d9_8) rfl (tlt hc8).2.2.1 (by decide) (by decide) ?_
    show Steps p.tables e below (T6.setTop (mkF m 33 #[.val (.ref a1), .val (.ref a2)] [])) _
    refine XS.iconst X6.here hx rfl (hb hby d9_33) ?_
    show Steps p.tables e below (T6.setTop (mkF m 34 #[.val (.ref a1), .val (.ref a2)] [(.int (1 : Int32))])) _
    refine XS.goto X6.here hx rfl (pc0 := 34) (pc' := 38) rfl (hb hby d9_34) (by decide) (by decide) ?_
    show Steps p.tables e below (T6.setTop (mkF m 38 #[.val (.ref a1), .val (.ref a2)] [(.int (1 : Int32))])) _
    exact retN X6 hx (t := .boolean) Bd.returns (by simp) (hb hby d9_38) hr
  · show QR Z (some (.int (1 : Int32))) h0 n0 _ T6.heap _
    rw [e6]
    exact ⟨rfl, N0, rfl⟩
set_option maxRecDepth 65536 in
set_option maxHeartbeats 40000000 in
theorem rm9_ft (l : Launch) (Z : State) (a0 : Array Value) (hw : ∀ d ∈ tables_1, d.before a0 Z = true) (ws : List Jvm.Cond) (a1 : Addr) (a2 : Addr) (w3 : Int32) (w5 : Int32) (h0 : Heap) (n0 : Nat) (Z0 : n0 ≤ h0.size) (F_line_a1 : Fld Z h0 a1 "com/example/rhadamanthus/rhadamanthus/core/SyntaxError" "line" "I" (.int w3)) (F_line_a2 : Fld Z h0 a2 "com/example/rhadamanthus/rhadamanthus/core/SyntaxError" "line" "I" (.int w5)) (hc8 : ¬ (w5 < w3)) (hc19 : ¬ (w3 = w5)) :
    MetFree l (⟨"com/example/rhadamanthus/rhadamanthus/core/SyntaxError", "liesBeyond", "(Lcom/example/rhadamanthus/rhadamanthus/core/SyntaxError;)Z"⟩ : MethodName) (head1 (Jvm.Cond.code (⟨"com/example/rhadamanthus/rhadamanthus/core/SyntaxError", "liesBeyond", "(Lcom/example/rhadamanthus/rhadamanthus/core/SyntaxError;)Z"⟩ : MethodName) prog_179_method_4_code 2 (some .boolean) :: ws) ({ frames := 0, cells := 0, slots := 0, locals := 0 } : Room)) (fun a U => a = #[(.ref a1), (.ref a2)] ∧ Z.Warmed39 U.vm ∧ U.heap = h0) (fun _ _ _ _ _ => True) (fun _ U o U' => ∃ v L, o = .returned v ∧ QR Z (some (.int (0 : Int32))) h0 n0 v U'.heap L ∧ FrameEnd U o U' L ({ frames := 0, cells := 0, slots := 0, locals := 0 } : Room).cells ({ frames := 0, cells := 0, slots := 0, locals := 0 } : Room).slots) := by
  refine MetFree.of_bodySF (plainFor_of_name pn_9) hisR ?_
  intro p e s m args below meth c s₁ Bd hml0 hP hK
  obtain ⟨rfl, hZ, hh⟩ := hP
  have hx := Bd.exec
  have hby := Bd.bytes
  have hml : c.maxLocals = 2 := hml0
  have hown : s.vm.findClass "com/example/rhadamanthus/rhadamanthus/core/SyntaxError" = some m.cls := findClass_of_methodNamed Bd.named
  have hnm := (name_of_methodNamed Bd.named Bd.method).1
  have X0 : Stand p l e ({ frames := 0, cells := 0, slots := 0, locals := 0 } : Room) s m #[(.ref a1), (.ref a2)] below meth c s₁ [] 0 0 := Stand.of_body Bd
  have e0 : s₁.heap = h0 := by rw [← hh, Bd.state]; rfl
  have N0 := Fr.nil n0
  have pre0 : ∀ t, Steps p.tables e below (s₁.setTop (mkF m 0 #[.val (.ref a1), .val (.ref a2)] [])) t → Steps p.tables e below (s₁.setTop (entryFrame m #[(.ref a1), (.ref a2)] 2)) t := fun t k => castTop (ef_9 m a1 a2) k
  -- 3. LAWS
  obtain ⟨T4, X4, e4, st4⟩ := getF X0 hx hZ hown (host := "") (Or.inl (hw _ (List.mem_of_getElem? (i := 68) rfl))) Via.refl e0 F_line_a1 (g := (mkF m 1 #[.val (.ref a1), .val (.ref a2)] [(.ref a1)])) rfl rfl (hb hby d9_1)
  obtain ⟨T6, X6, e6, st6⟩ := getF X4 hx hZ hown (host := "") (Or.inl (hw _ (List.mem_of_getElem? (i := 68) rfl))) Via.refl e4 F_line_a2 (g := (mkF m 5 #[.val (.ref a1), .val (.ref a2)] [(.ref a2), (.int w3)])) rfl rfl (hb hby d9_5)
  obtain ⟨T7, X7, e7, st7⟩ := getF X6 hx hZ hown (host := "") (Or.inl (hw _ (List.mem_of_getElem? (i := 68) rfl))) Via.refl e6 F_line_a1 (g := (mkF m 12 #[.val (.ref a1), .val (.ref a2)] [(.ref a1)])) rfl rfl (hb hby d9_12)
  obtain ⟨T8, X8, e8, st8⟩ := getF X7 hx hZ hown (host := "") (Or.inl (hw _ (List.mem_of_getElem? (i := 68) rfl))) Via.refl e7 F_line_a2 (g := (mkF m 16 #[.val (.ref a1), .val (.ref a2)] [(.ref a2), (.int w3)])) rfl rfl (hb hby d9_16)
  obtain ⟨fs, hr, hrun, hended, hW, hsame⟩ := X8.leave (v := some (.int (0 : Int32))) (fun h => by rw [Bd.returns] at h; cases h)
  refine ⟨_, _, pre0 _ ?_, hrun, hended, _, _, rfl, ?_, ⟨_, rfl⟩, hW, hsame.mono (by decide) (by decide)⟩
  -- 4. STEPS
  · show Steps p.tables e below (s₁.setTop (mkF m 0 #[.val (.ref a1), .val (.ref a2)] [])) _
    refine XS.aloadN X0.here hx rfl (hb hby d9_0) rfl rfl ?_
    show Steps p.tables e below (s₁.setTop (mkF m 1 #[.val (.ref a1), .val (.ref a2)] [(.ref a1)])) _
    refine st4 _ ?_
    show Steps p.tables e below (T4.setTop (mkF m 4 #[.val (.ref a1), .val (.ref a2)] [(.int w3)])) _
    refine XS.aloadN X4.here hx rfl (hb hby d9_4) rfl rfl ?_
    show Steps p.tables e below (T4.setTop (mkF m 5 #[.val (.ref a1), .val (.ref a2)] [(.ref a2), (.int w3)])) _
    refine st6 _ ?_
    show Steps p.tables e below (T6.setTop (mkF m 8 #[.val (.ref a1), .val (.ref a2)] [(.int w5), (.int w3)])) _
    refine XS.icmpNo X6.here hx rfl (hb hby d9_8) rfl (flt hc8).2.2.1 ?_
    show Steps p.tables e below (T6.setTop (mkF m 11 #[.val (.ref a1), .val (.ref a2)] [])) _
    refine XS.aloadN X6.here hx rfl (hb hby d9_11) rfl rfl ?_
    show Steps p.tables e below (T6.setTop (mkF m 12 #[.val (.ref a1), .val (.ref a2)] [(.ref a1)])) _
    refine st7 _ ?_
    show Steps p.tables e below (T7.setTop (mkF m 15 #[.val (.ref a1), .val (.ref a2)] [(.int w3)])) _
    refine XS.aloadN X7.here hx rfl (hb hby d9_15) rfl rfl ?_
    show Steps p.tables e below (T7.setTop (mkF m 16 #[.val (.ref a1), .val (.ref a2)] [(.ref a2), (.int w3)])) _
    refine st8 _ ?_
    show Steps p.tables e below (T8.setTop (mkF m 19 #[.val (.ref a1), .val (.ref a2)] [(.int w5), (.int w3)])) _
    refine XS.icmpYes X8.here hx rfl (pc0 := 19) (pc' := 37) rfl (hb hby d9_19) rfl (feq hc19).2 (by decide) (by decide) ?_
    show Steps p.tables e below (T8.setTop (mkF m 37 #[.val (.ref a1), .val (.ref a2)] [])) _
    refine XS.iconst X8.here hx rfl (hb hby d9_37) ?_
    show Steps p.tables e below (T8.setTop (mkF m 38 #[.val (.ref a1), .val (.ref a2)] [(.int (0 : Int32))])) _
    exact retN X8 hx (t := .boolean) Bd.returns (by simp) (hb hby d9_38) hr
  · show QR Z (some (.int (0 : Int32))) h0 n0 _ T8.heap _
    rw [e8]
    exact ⟨rfl, N0, rfl⟩
set_option maxRecDepth 65536 in
set_option maxHeartbeats 40000000 in
theorem rm9_fft (l : Launch) (Z : State) (a0 : Array Value) (hw : ∀ d ∈ tables_1, d.before a0 Z = true) (ws : List Jvm.Cond) (a1 : Addr) (a2 : Addr) (w3 : Int32) (w5 : Int32) (w9 : Int32) (w11 : Int32) (h0 : Heap) (n0 : Nat) (Z0 : n0 ≤ h0.size) (F_line_a1 : Fld Z h0 a1 "com/example/rhadamanthus/rhadamanthus/core/SyntaxError" "line" "I" (.int w3)) (F_line_a2 : Fld Z h0 a2 "com/example/rhadamanthus/rhadamanthus/core/SyntaxError" "line" "I" (.int w5)) (F_column_a1 : Fld Z h0 a1 "com/example/rhadamanthus/rhadamanthus/core/SyntaxError" "column" "I" (.int w9)) (F_column_a2 : Fld Z h0 a2 "com/example/rhadamanthus/rhadamanthus/core/SyntaxError" "column" "I" (.int w11)) (hc8 : ¬ (w5 < w3)) (hc19 : w3 = w5) (hc30 : ¬ (w11 < w9)) :
    MetFree l (⟨"com/example/rhadamanthus/rhadamanthus/core/SyntaxError", "liesBeyond", "(Lcom/example/rhadamanthus/rhadamanthus/core/SyntaxError;)Z"⟩ : MethodName) (head1 (Jvm.Cond.code (⟨"com/example/rhadamanthus/rhadamanthus/core/SyntaxError", "liesBeyond", "(Lcom/example/rhadamanthus/rhadamanthus/core/SyntaxError;)Z"⟩ : MethodName) prog_179_method_4_code 2 (some .boolean) :: ws) ({ frames := 0, cells := 0, slots := 0, locals := 0 } : Room)) (fun a U => a = #[(.ref a1), (.ref a2)] ∧ Z.Warmed39 U.vm ∧ U.heap = h0) (fun _ _ _ _ _ => True) (fun _ U o U' => ∃ v L, o = .returned v ∧ QR Z (some (.int (0 : Int32))) h0 n0 v U'.heap L ∧ FrameEnd U o U' L ({ frames := 0, cells := 0, slots := 0, locals := 0 } : Room).cells ({ frames := 0, cells := 0, slots := 0, locals := 0 } : Room).slots) := by
  refine MetFree.of_bodySF (plainFor_of_name pn_9) hisR ?_
  intro p e s m args below meth c s₁ Bd hml0 hP hK
  obtain ⟨rfl, hZ, hh⟩ := hP
  have hx := Bd.exec
  have hby := Bd.bytes
  have hml : c.maxLocals = 2 := hml0
  have hown : s.vm.findClass "com/example/rhadamanthus/rhadamanthus/core/SyntaxError" = some m.cls := findClass_of_methodNamed Bd.named
  have hnm := (name_of_methodNamed Bd.named Bd.method).1
  have X0 : Stand p l e ({ frames := 0, cells := 0, slots := 0, locals := 0 } : Room) s m #[(.ref a1), (.ref a2)] below meth c s₁ [] 0 0 := Stand.of_body Bd
  have e0 : s₁.heap = h0 := by rw [← hh, Bd.state]; rfl
  have N0 := Fr.nil n0
  have pre0 : ∀ t, Steps p.tables e below (s₁.setTop (mkF m 0 #[.val (.ref a1), .val (.ref a2)] [])) t → Steps p.tables e below (s₁.setTop (entryFrame m #[(.ref a1), (.ref a2)] 2)) t := fun t k => castTop (ef_9 m a1 a2) k
  -- 3. LAWS
  obtain ⟨T4, X4, e4, st4⟩ := getF X0 hx hZ hown (host := "") (Or.inl (hw _ (List.mem_of_getElem? (i := 68) rfl))) Via.refl e0 F_line_a1 (g := (mkF m 1 #[.val (.ref a1), .val (.ref a2)] [(.ref a1)])) rfl rfl (hb hby d9_1)
  obtain ⟨T6, X6, e6, st6⟩ := getF X4 hx hZ hown (host := "") (Or.inl (hw _ (List.mem_of_getElem? (i := 68) rfl))) Via.refl e4 F_line_a2 (g := (mkF m 5 #[.val (.ref a1), .val (.ref a2)] [(.ref a2), (.int w3)])) rfl rfl (hb hby d9_5)
  obtain ⟨T7, X7, e7, st7⟩ := getF X6 hx hZ hown (host := "") (Or.inl (hw _ (List.mem_of_getElem? (i := 68) rfl))) Via.refl e6 F_line_a1 (g := (mkF m 12 #[.val (.ref a1), .val (.ref a2)] [(.ref a1)])) rfl rfl (hb hby d9_12)
  obtain ⟨T8, X8, e8, st8⟩ := getF X7 hx hZ hown (host := "") (Or.inl (hw _ (List.mem_of_getElem? (i := 68) rfl))) Via.refl e7 F_line_a2 (g := (mkF m 16 #[.val (.ref a1), .val (.ref a2)] [(.ref a2), (.int w3)])) rfl rfl (hb hby d9_16)
  obtain ⟨T10, X10, e10, st10⟩ := getF X8 hx hZ hown (host := "") (Or.inl (hw _ (List.mem_of_getElem? (i := 70) rfl))) Via.refl e8 F_column_a1 (g := (mkF m 23 #[.val (.ref a1), .val (.ref a2)] [(.ref a1)])) rfl rfl (hb hby d9_23)
  obtain ⟨T12, X12, e12, st12⟩ := getF X10 hx hZ hown (host := "") (Or.inl (hw _ (List.mem_of_getElem? (i := 70) rfl))) Via.refl e10 F_column_a2 (g := (mkF m 27 #[.val (.ref a1), .val (.ref a2)] [(.ref a2), (.int w9)])) rfl rfl (hb hby d9_27)
  obtain ⟨fs, hr, hrun, hended, hW, hsame⟩ := X12.leave (v := some (.int (0 : Int32))) (fun h => by rw [Bd.returns] at h; cases h)
  refine ⟨_, _, pre0 _ ?_, hrun, hended, _, _, rfl, ?_, ⟨_, rfl⟩, hW, hsame.mono (by decide) (by decide)⟩
  -- 4. STEPS
  · show Steps p.tables e below (s₁.setTop (mkF m 0 #[.val (.ref a1), .val (.ref a2)] [])) _
    refine XS.aloadN X0.here hx rfl (hb hby d9_0) rfl rfl ?_
    show Steps p.tables e below (s₁.setTop (mkF m 1 #[.val (.ref a1), .val (.ref a2)] [(.ref a1)])) _
    refine st4 _ ?_
    show Steps p.tables e below (T4.setTop (mkF m 4 #[.val (.ref a1), .val (.ref a2)] [(.int w3)])) _
    refine XS.aloadN X4.here hx rfl (hb hby d9_4) rfl rfl ?_
    show Steps p.tables e below (T4.setTop (mkF m 5 #[.val (.ref a1), .val (.ref a2)] [(.ref a2), (.int w3)])) _
    refine st6 _ ?_
    show Steps p.tables e below (T6.setTop (mkF m 8 #[.val (.ref a1), .val (.ref a2)] [(.int w5), (.int w3)])) _
    refine XS.icmpNo X6.here hx rfl (hb hby d9_8) rfl (flt hc8).2.2.1 ?_
    show Steps p.tables e below (T6.setTop (mkF m 11 #[.val (.ref a1), .val (.ref a2)] [])) _
    refine XS.aloadN X6.here hx rfl (hb hby d9_11) rfl rfl ?_
    show Steps p.tables e below (T6.setTop (mkF m 12 #[.val (.ref a1), .val (.ref a2)] [(.ref a1)])) _
    refine st7 _ ?_
    show Steps p.tables e below (T7.setTop (mkF m 15 #[.val (.ref a1), .val (.ref a2)] [(.int w3)])) _
    refine XS.aloadN X7.here hx rfl (hb hby d9_15) rfl rfl ?_
    show Steps p.tables e below (T7.setTop (mkF m 16 #[.val (.ref a1), .val (.ref a2)] [(.ref a2), (.int w3)])) _
    refine st8 _ ?_
    show Steps p.tables e below (T8.setTop (mkF m 19 #[.val (.ref a1), .val (.ref a2)] [(.int w5), (.int w3)])) _
    refine XS.icmpNo X8.here hx rfl (hb hby d9_19) rfl (teq hc19).2 ?_
    show Steps p.tables e below (T8.setTop (mkF m 22 #[.val (.ref a1), .val (.ref a2)] [])) _
    refine XS.aloadN X8.here hx rfl (hb hby d9_22) rfl rfl ?_
    show Steps p.tables e below (T8.setTop (mkF m 23 #[.val (.ref a1), .val (.ref a2)] [(.ref a1)])) _
    refine st10 _ ?_
    show Steps p.tables e below (T10.setTop (mkF m 26 #[.val (.ref a1), .val (.ref a2)] [(.int w9)])) _
    refine XS.aloadN X10.here hx rfl (hb hby d9_26) rfl rfl ?_
    show Steps p.tables e below (T10.setTop (mkF m 27 #[.val (.ref a1), .val (.ref a2)] [(.ref a2), (.int w9)])) _
    refine st12 _ ?_
    show Steps p.tables e below (T12.setTop (mkF m 30 #[.val (.ref a1), .val (.ref a2)] [(.int w11), (.int w9)])) _
    refine XS.icmpYes X12.here hx rfl (pc0 := 30) (pc' := 37) rfl (hb hby d9_30) rfl (flt hc30).2.2.2 (by decide) (by decide) ?_
    show Steps p.tables e below (T12.setTop (mkF m 37 #[.val (.ref a1), .val (.ref a2)] [])) _
    refine XS.iconst X12.here hx rfl (hb hby d9_37) ?_
    show Steps p.tables e below (T12.setTop (mkF m 38 #[.val (.ref a1), .val (.ref a2)] [(.int (0 : Int32))])) _
    exact retN X12 hx (t := .boolean) Bd.returns (by simp) (hb hby d9_38) hr
  · show QR Z (some (.int (0 : Int32))) h0 n0 _ T12.heap _
    rw [e12]
    exact ⟨rfl, N0, rfl⟩
set_option maxRecDepth 65536 in
set_option maxHeartbeats 40000000 in
theorem rm9_fff (l : Launch) (Z : State) (a0 : Array Value) (hw : ∀ d ∈ tables_1, d.before a0 Z = true) (ws : List Jvm.Cond) (a1 : Addr) (a2 : Addr) (w3 : Int32) (w5 : Int32) (w9 : Int32) (w11 : Int32) (h0 : Heap) (n0 : Nat) (Z0 : n0 ≤ h0.size) (F_line_a1 : Fld Z h0 a1 "com/example/rhadamanthus/rhadamanthus/core/SyntaxError" "line" "I" (.int w3)) (F_line_a2 : Fld Z h0 a2 "com/example/rhadamanthus/rhadamanthus/core/SyntaxError" "line" "I" (.int w5)) (F_column_a1 : Fld Z h0 a1 "com/example/rhadamanthus/rhadamanthus/core/SyntaxError" "column" "I" (.int w9)) (F_column_a2 : Fld Z h0 a2 "com/example/rhadamanthus/rhadamanthus/core/SyntaxError" "column" "I" (.int w11)) (hc8 : ¬ (w5 < w3)) (hc19 : w3 = w5) (hc30 : w11 < w9) :
    MetFree l (⟨"com/example/rhadamanthus/rhadamanthus/core/SyntaxError", "liesBeyond", "(Lcom/example/rhadamanthus/rhadamanthus/core/SyntaxError;)Z"⟩ : MethodName) (head1 (Jvm.Cond.code (⟨"com/example/rhadamanthus/rhadamanthus/core/SyntaxError", "liesBeyond", "(Lcom/example/rhadamanthus/rhadamanthus/core/SyntaxError;)Z"⟩ : MethodName) prog_179_method_4_code 2 (some .boolean) :: ws) ({ frames := 0, cells := 0, slots := 0, locals := 0 } : Room)) (fun a U => a = #[(.ref a1), (.ref a2)] ∧ Z.Warmed39 U.vm ∧ U.heap = h0) (fun _ _ _ _ _ => True) (fun _ U o U' => ∃ v L, o = .returned v ∧ QR Z (some (.int (1 : Int32))) h0 n0 v U'.heap L ∧ FrameEnd U o U' L ({ frames := 0, cells := 0, slots := 0, locals := 0 } : Room).cells ({ frames := 0, cells := 0, slots := 0, locals := 0 } : Room).slots) := by
  refine MetFree.of_bodySF (plainFor_of_name pn_9) hisR ?_
  intro p e s m args below meth c s₁ Bd hml0 hP hK
  obtain ⟨rfl, hZ, hh⟩ := hP
  have hx := Bd.exec
  have hby := Bd.bytes
  have hml : c.maxLocals = 2 := hml0
  have hown : s.vm.findClass "com/example/rhadamanthus/rhadamanthus/core/SyntaxError" = some m.cls := findClass_of_methodNamed Bd.named
  have hnm := (name_of_methodNamed Bd.named Bd.method).1
  have X0 : Stand p l e ({ frames := 0, cells := 0, slots := 0, locals := 0 } : Room) s m #[(.ref a1), (.ref a2)] below meth c s₁ [] 0 0 := Stand.of_body Bd
  have e0 : s₁.heap = h0 := by rw [← hh, Bd.state]; rfl
  have N0 := Fr.nil n0
  have pre0 : ∀ t, Steps p.tables e below (s₁.setTop (mkF m 0 #[.val (.ref a1), .val (.ref a2)] [])) t → Steps p.tables e below (s₁.setTop (entryFrame m #[(.ref a1), (.ref a2)] 2)) t := fun t k => castTop (ef_9 m a1 a2) k
  -- 3. LAWS
  obtain ⟨T4, X4, e4, st4⟩ := getF X0 hx hZ hown (host := "") (Or.inl (hw _ (List.mem_of_getElem? (i := 68) rfl))) Via.refl e0 F_line_a1 (g := (mkF m 1 #[.val (.ref a1), .val (.ref a2)] [(.ref a1)])) rfl rfl (hb hby d9_1)
  obtain ⟨T6, X6, e6, st6⟩ := getF X4 hx hZ hown (host := "") (Or.inl (hw _ (List.mem_of_getElem? (i := 68) rfl))) Via.refl e4 F_line_a2 (g := (mkF m 5 #[.val (.ref a1), .val (.ref a2)] [(.ref a2), (.int w3)])) rfl rfl (hb hby d9_5)
  obtain ⟨T7, X7, e7, st7⟩ := getF X6 hx hZ hown (host := "") (Or.inl (hw _ (List.mem_of_getElem? (i := 68) rfl))) Via.refl e6 F_line_a1 (g := (mkF m 12 #[.val (.ref a1), .val (.ref a2)] [(.ref a1)])) rfl rfl (hb hby d9_12)
  obtain ⟨T8, X8, e8, st8⟩ := getF X7 hx hZ hown (host := "") (Or.inl (hw _ (List.mem_of_getElem? (i := 68) rfl))) Via.refl e7 F_line_a2 (g := (mkF m 16 #[.val (.ref a1), .val (.ref a2)] [(.ref a2), (.int w3)])) rfl rfl (hb hby d9_16)
  obtain ⟨T10, X10, e10, st10⟩ := getF X8 hx hZ hown (host := "") (Or.inl (hw _ (List.mem_of_getElem? (i := 70) rfl))) Via.refl e8 F_column_a1 (g := (mkF m 23 #[.val (.ref a1), .val (.ref a2)] [(.ref a1)])) rfl rfl (hb hby d9_23)
  obtain ⟨T12, X12, e12, st12⟩ := getF X10 hx hZ hown (host := "") (Or.inl (hw _ (List.mem_of_getElem? (i := 70) rfl))) Via.refl e10 F_column_a2 (g := (mkF m 27 #[.val (.ref a1), .val (.ref a2)] [(.ref a2), (.int w9)])) rfl rfl (hb hby d9_27)
  obtain ⟨fs, hr, hrun, hended, hW, hsame⟩ := X12.leave (v := some (.int (1 : Int32))) (fun h => by rw [Bd.returns] at h; cases h)
  refine ⟨_, _, pre0 _ ?_, hrun, hended, _, _, rfl, ?_, ⟨_, rfl⟩, hW, hsame.mono (by decide) (by decide)⟩
  -- 4. STEPS
  · show Steps p.tables e below (s₁.setTop (mkF m 0 #[.val (.ref a1), .val (.ref a2)] [])) _
    refine XS.aloadN X0.here hx rfl (hb hby d9_0) rfl rfl ?_
    show Steps p.tables e below (s₁.setTop (mkF m 1 #[.val (.ref a1), .val (.ref a2)] [(.ref a1)])) _
    refine st4 _ ?_
    show Steps p.tables e below (T4.setTop (mkF m 4 #[.val (.ref a1), .val (.ref a2)] [(.int w3)])) _
    refine XS.aloadN X4.here hx rfl (hb hby d9_4) rfl rfl ?_
    show Steps p.tables e below (T4.setTop (mkF m 5 #[.val (.ref a1), .val (.ref a2)] [(.ref a2), (.int w3)])) _
    refine st6 _ ?_
    show Steps p.tables e below (T6.setTop (mkF m 8 #[.val (.ref a1), .val (.ref a2)] [(.int w5), (.int w3)])) _
    refine XS.icmpNo X6.here hx rfl (hb hby d9_8) rfl (flt hc8).2.2.1 ?_
    show Steps p.tables e below (T6.setTop (mkF m 11 #[.val (.ref a1), .val (.ref a2)] [])) _
    refine XS.aloadN X6.here hx rfl (hb hby d9_11) rfl rfl ?_
    show Steps p.tables e below (T6.setTop (mkF m 12 #[.val (.ref a1), .val (.ref a2)] [(.ref a1)])) _
    refine st7 _ ?_
    show Steps p.tables e below (T7.setTop (mkF m 15 #[.val (.ref a1), .val (.ref a2)] [(.int w3)])) _
    refine XS.aloadN X7.here hx rfl (hb hby d9_15) rfl rfl ?_
    show Steps p.tables e below (T7.setTop (mkF m 16 #[.val (.ref a1), .val (.ref a2)] [(.ref a2), (.int w3)])) _
    refine st8 _ ?_
    show Steps p.tables e below (T8.setTop (mkF m 19 #[.val (.ref a1), .val (.ref a2)] [(.int w5), (.int w3)])) _
    refine XS.icmpNo X8.here hx rfl (hb hby d9_19) rfl (teq hc19).2 ?_
    show Steps p.tables e below (T8.setTop (mkF m 22 #[.val (.ref a1), .val (.ref a2)] [])) _
    refine XS.aloadN X8.here hx rfl (hb hby d9_22) rfl rfl ?_
    show Steps p.tables e below (T8.setTop (mkF m 23 #[.val (.ref a1), .val (.ref a2)] [(.ref a1)])) _
    refine st10 _ ?_
    show Steps p.tables e below (T10.setTop (mkF m 26 #[.val (.ref a1), .val (.ref a2)] [(.int w9)])) _
    refine XS.aloadN X10.here hx rfl (hb hby d9_26) rfl rfl ?_
    show Steps p.tables e below (T10.setTop (mkF m 27 #[.val (.ref a1), .val (.ref a2)] [(.ref a2), (.int w9)])) _
    refine st12 _ ?_
    show Steps p.tables e below (T12.setTop (mkF m 30 #[.val (.ref a1), .val (.ref a2)] [(.int w11), (.int w9)])) _
    refine XS.icmpNo X12.here hx rfl (hb hby d9_30) rfl (tlt hc30).2.2.2 ?_
    show Steps p.tables e below (T12.setTop (mkF m 33 #[.val (.ref a1), .val (.ref a2)] [])) _
    refine XS.iconst X12.here hx rfl (hb hby d9_33) ?_
    show Steps p.tables e below (T12.setTop (mkF m 34 #[.val (.ref a1), .val (.ref a2)] [(.int (1 : Int32))])) _
    refine XS.goto X12.here hx rfl (pc0 := 34) (pc' := 38) rfl (hb hby d9_34) (by decide) (by decide) ?_
    show Steps p.tables e below (T12.setTop (mkF m 38 #[.val (.ref a1), .val (.ref a2)] [(.int (1 : Int32))])) _
    exact retN X12 hx (t := .boolean) Bd.returns (by simp) (hb hby d9_38) hr
  · show QR Z (some (.int (1 : Int32))) h0 n0 _ T12.heap _
    rw [e12]
    exact ⟨rfl, N0, rfl⟩

set_option maxRecDepth 65536 in
set_option maxHeartbeats 40000000 in
theorem rm9 (l : Launch) (Z : State) (a0 : Array Value) (hw : ∀ d ∈ tables_1, d.before a0 Z = true) (ws : List Jvm.Cond) (a1 : Addr) (a2 : Addr) (w3 : Int32) (w5 : Int32) (w9 : Int32) (w11 : Int32) (h0 : Heap) (n0 : Nat) (Z0 : n0 ≤ h0.size) (F_line_a1 : Fld Z h0 a1 own_S "line" "I" (.int w3)) (F_line_a2 : Fld Z h0 a2 own_S "line" "I" (.int w5)) (F_column_a1 : Fld Z h0 a1 own_S "column" "I" (.int w9)) (F_column_a2 : Fld Z h0 a2 own_S "column" "I" (.int w11)) :
    MetFree l (⟨"com/example/rhadamanthus/rhadamanthus/core/SyntaxError", "liesBeyond", "(Lcom/example/rhadamanthus/rhadamanthus/core/SyntaxError;)Z"⟩ : MethodName) (head1 (Jvm.Cond.code (⟨"com/example/rhadamanthus/rhadamanthus/core/SyntaxError", "liesBeyond", "(Lcom/example/rhadamanthus/rhadamanthus/core/SyntaxError;)Z"⟩ : MethodName) prog_179_method_4_code 2 (some .boolean) :: ws) ({ frames := 0, cells := 0, slots := 0, locals := 0 } : Room)) (fun a U => a = #[(.ref a1), (.ref a2)] ∧ Z.Warmed39 U.vm ∧ U.heap = h0) (fun _ _ _ _ _ => True) (fun _ U o U' => ∃ v L, o = .returned v ∧ QR Z (some (.int (own_f9 w3 w5 w9 w11))) h0 n0 v U'.heap L ∧ FrameEnd U o U' L ({ frames := 0, cells := 0, slots := 0, locals := 0 } : Room).cells ({ frames := 0, cells := 0, slots := 0, locals := 0 } : Room).slots) := by
  by_cases hc8 : w5 < w3
  · have q : own_f9 w3 w5 w9 w11 = (1 : Int32) := by simp only [own_f9, if_pos hc8]
    rw [q]
    exact rm9_t l Z a0 hw ws a1 a2 w3 w5 h0 n0 Z0 F_line_a1 F_line_a2 hc8
  · by_cases hc19 : w3 = w5
    · by_cases hc30 : w11 < w9
      · have q : own_f9 w3 w5 w9 w11 = (1 : Int32) := by simp only [own_f9, if_neg hc8, if_pos hc19, if_pos hc30]
        rw [q]
        exact rm9_fff l Z a0 hw ws a1 a2 w3 w5 w9 w11 h0 n0 Z0 F_line_a1 F_line_a2 F_column_a1 F_column_a2 hc8 hc19 hc30
      · have q : own_f9 w3 w5 w9 w11 = (0 : Int32) := by simp only [own_f9, if_neg hc8, if_pos hc19, if_neg hc30]
        rw [q]
        exact rm9_fft l Z a0 hw ws a1 a2 w3 w5 w9 w11 h0 n0 Z0 F_line_a1 F_line_a2 F_column_a1 F_column_a2 hc8 hc19 hc30
    · have q : own_f9 w3 w5 w9 w11 = (0 : Int32) := by simp only [own_f9, if_neg hc8, if_neg hc19]
      rw [q]
      exact rm9_ft l Z a0 hw ws a1 a2 w3 w5 h0 n0 Z0 F_line_a1 F_line_a2 hc8 hc19
theorem d4_0 : decode jdk_78_method_2_code 0 = .ok (.aload_n 0, 1) := by decide +kernel
theorem d4_1 : decode jdk_78_method_2_code 1 = .ok (.invokespecial 1, 3) := by decide +kernel
theorem d4_4 : decode jdk_78_method_2_code 4 = .ok (.aload_n 0, 1) := by decide +kernel
theorem d4_5 : decode jdk_78_method_2_code 5 = .ok (.aload_n 0, 1) := by decide +kernel
theorem d4_6 : decode jdk_78_method_2_code 6 = .ok (.putfield 7, 3) := by decide +kernel
theorem d4_9 : decode jdk_78_method_2_code 9 = .ok (.aload_n 0, 1) := by decide +kernel
theorem d4_10 : decode jdk_78_method_2_code 10 = .ok (.getstatic 13, 3) := by decide +kernel
theorem d4_13 : decode jdk_78_method_2_code 13 = .ok (.putfield 17, 3) := by decide +kernel
theorem d4_16 : decode jdk_78_method_2_code 16 = .ok (.aload_n 0, 1) := by decide +kernel
theorem d4_17 : decode jdk_78_method_2_code 17 = .ok (.getstatic 20, 3) := by decide +kernel
theorem d4_20 : decode jdk_78_method_2_code 20 = .ok (.putfield 24, 3) := by decide +kernel
theorem d4_23 : decode jdk_78_method_2_code 23 = .ok (.aload_n 0, 1) := by decide +kernel
theorem d4_24 : decode jdk_78_method_2_code 24 = .ok (.invokevirtual 27, 3) := by decide +kernel
theorem d4_27 : decode jdk_78_method_2_code 27 = .ok (.pop, 1) := by decide +kernel
theorem d4_28 : decode jdk_78_method_2_code 28 = .ok (.aload_n 0, 1) := by decide +kernel
theorem d4_29 : decode jdk_78_method_2_code 29 = .ok (.aload_n 1, 1) := by decide +kernel
theorem d4_30 : decode jdk_78_method_2_code 30 = .ok (.putfield 31, 3) := by decide +kernel
theorem d4_33 : decode jdk_78_method_2_code 33 = .ok (.return_, 1) := by decide +kernel
theorem pn_4 : plainName "java/lang/Throwable" = true := by first | (simp [plainName, overriddenIn]; done) | decide +kernel
theorem pd_4_4 : parseMethodDescriptor "()Ljava/lang/Throwable;" = some ⟨[], some (.object "java/lang/Throwable")⟩ := by decide +kernel
theorem ef_4 (m : MethodId) (x0 : Addr) (x1 : Addr) : entryFrame m #[(.ref x0), (.ref x1)] 2 = mkF m 0 #[.val (.ref x0), .val (.ref x1)] [] := by first | (simp [entryFrame, mkF, argsToLocals, Value.category]; done) | rfl
set_option maxRecDepth 65536 in
set_option maxHeartbeats 40000000 in
theorem rm4 (l : Launch) (hl : l.stackTraces = true) (Z : State) (a0 : Array Value) (hw : ∀ d ∈ tables_1, d.before a0 Z = true) (ws : List Jvm.Cond) (a1 : Addr) (a2 : Addr) (u1 u2 u3 u4 : Value) (w5 w8 : Addr) (h0 : Heap) (n0 : Nat) (Z0 : n0 ≤ h0.size) (E_a1 : Exa Z h0 a1 own_S) (F_cause_a1 : Fld Z h0 a1 "java/lang/Throwable" "cause" "Ljava/lang/Throwable;" u1) (F_stackTrace_a1 : Fld Z h0 a1 "java/lang/Throwable" "stackTrace" "[Ljava/lang/StackTraceElement;" u2) (F_suppressedExceptions_a1 : Fld Z h0 a1 "java/lang/Throwable" "suppressedExceptions" "Ljava/util/List;" u3) (F_detailMessage_a1 : Fld Z h0 a1 "java/lang/Throwable" "detailMessage" "Ljava/lang/String;" u4) (F_backtrace_a1 : Fld Z h0 a1 "java/lang/Throwable" "backtrace" "Ljava/lang/Object;" .null) (U_a1 : Unt h0 a1) (S_UNASSIGNED_STACK : Sta Z h0 "java/lang/Throwable" "UNASSIGNED_STACK" "[Ljava/lang/StackTraceElement;" (.ref w5)) (S_SUPPRESSED_SENTINEL : Sta Z h0 "java/lang/Throwable" "SUPPRESSED_SENTINEL" "Ljava/util/List;" (.ref w8)) (KZ : Keep Z.heap h0 []) (g_a1 : n0 ≤ a1) :
    MetFree l (⟨"java/lang/Throwable", "<init>", "(Ljava/lang/String;)V"⟩ : MethodName) (head1 (Jvm.Cond.code (⟨"java/lang/Throwable", "<init>", "(Ljava/lang/String;)V"⟩ : MethodName) jdk_78_method_2_code 2 none :: ws) ({ frames := 3, cells := 1, slots := 2752, locals := 42 } : Room)) (fun a U => a = #[(.ref a1), (.ref a2)] ∧ Z.Warmed39 U.vm ∧ U.heap = h0) KnownK (fun _ U o U' => ∃ v L, o = .returned v ∧ QT Z a1 h0 n0 v U'.heap L ∧ FrameEnd U o U' L ({ frames := 3, cells := 1, slots := 2752, locals := 42 } : Room).cells ({ frames := 3, cells := 1, slots := 2752, locals := 42 } : Room).slots) := by
  refine MetFree.of_bodySF (plainFor_of_name pn_4) hisR ?_
  intro p e s m args below meth c s₁ Bd hml0 hP hK
  obtain ⟨rfl, hZ, hh⟩ := hP
  obtain ⟨hTK, hBelow⟩ := hK
  have hx := Bd.exec
  have hby := Bd.bytes
  have hml : c.maxLocals = 2 := hml0
  have hown : s.vm.findClass "java/lang/Throwable" = some m.cls := findClass_of_methodNamed Bd.named
  have hnm := (name_of_methodNamed Bd.named Bd.method).1
  have X0 : Stand p l e ({ frames := 3, cells := 1, slots := 2752, locals := 42 } : Room) s m #[(.ref a1), (.ref a2)] below meth c s₁ [] 0 0 := Stand.of_body Bd
  have e0 : s₁.heap = h0 := by rw [← hh, Bd.state]; rfl
  have N0 := Fr.nil n0
  have pre0 : ∀ t, Steps p.tables e below (s₁.setTop (mkF m 0 #[.val (.ref a1), .val (.ref a2)] [])) t → Steps p.tables e below (s₁.setTop (entryFrame m #[(.ref a1), (.ref a2)] 2)) t := fun t k => castTop (ef_4 m a1 a2) k
  -- 3. LAWS
  obtain ⟨T3, X3, e3, st3⟩ := initO X0 hx hZ hown (hw _ (List.mem_of_getElem? (i := 29) rfl)) (hw _ (List.mem_of_getElem? (i := 30) rfl)) (hw _ (List.mem_of_getElem? (i := 31) rfl)) e0 (g := (mkF m 1 #[.val (.ref a1), .val (.ref a2)] [(.ref a1)])) rfl (by rw [hml]; rfl) rfl (hb hby d4_1) (by decide) (W := 0) (by show 2 * 0 + _ ≤ _; exact Nat.le_of_eq rfl) (by decide)
  obtain ⟨T4, h4, X4, e4, W4, st4⟩ := putF X3 hx hZ hown (host := "") (Or.inl (hw _ (List.mem_of_getElem? (i := 32) rfl))) Via.refl e3 F_cause_a1 E_a1 (Or.inl (hw _ (List.mem_of_getElem? (i := 33) rfl))) (hw _ (List.mem_of_getElem? (i := 5) rfl)) (ty := (.object "java/lang/Throwable")) (by decide) rfl rfl (g := (mkF m 6 #[.val (.ref a1), .val (.ref a2)] [(.ref a1), (.ref a1)])) rfl rfl (hb hby d4_6)
  have Fw4 := F_cause_a1.same W4      -- the field now holds (.ref a1)
  have K4 : Keep h0 h4 [a1] := (Keep.refl h0 [a1]).wr W4 (Or.inl (List.mem_of_getElem? (i := 0) rfl))
  have N4 := Fr.snoc X4 N0 g_a1
  obtain ⟨T6, X6, e6, st6⟩ := getS2 X4 hx hZ hown (host := "") (Or.inl (hw _ (List.mem_of_getElem? (i := 34) rfl))) Via.refl e4 (S_UNASSIGNED_STACK.wr W4) (g := (mkF m 10 #[.val (.ref a1), .val (.ref a2)] [(.ref a1)])) rfl (hb hby d4_10)
  obtain ⟨T7, h7, X7, e7, W7, st7⟩ := putF X6 hx hZ hown (host := "") (Or.inl (hw _ (List.mem_of_getElem? (i := 35) rfl))) Via.refl e6 (F_stackTrace_a1.other W4 (Or.inr (slot_ne (Or.inl (hw _ (List.mem_of_getElem? (i := 36) rfl))) (Or.inl (hw _ (List.mem_of_getElem? (i := 33) rfl))) (by decide) (t := (.array (.object "java/lang/StackTraceElement"))) (t' := (.object "java/lang/Throwable")) (by decide) (by decide)))) (E_a1.wr W4) (Or.inl (hw _ (List.mem_of_getElem? (i := 36) rfl))) (hw _ (List.mem_of_getElem? (i := 5) rfl)) (ty := (.array (.object "java/lang/StackTraceElement"))) (by decide) rfl rfl (g := (mkF m 13 #[.val (.ref a1), .val (.ref a2)] [(.ref w5), (.ref a1)])) rfl rfl (hb hby d4_13)
  have Fw7 := (F_stackTrace_a1.other W4 (Or.inr (slot_ne (Or.inl (hw _ (List.mem_of_getElem? (i := 36) rfl))) (Or.inl (hw _ (List.mem_of_getElem? (i := 33) rfl))) (by decide) (t := (.array (.object "java/lang/StackTraceElement"))) (t' := (.object "java/lang/Throwable")) (by decide) (by decide)))).same W7      -- the field now holds (.ref w5)
  have K7 : Keep h0 h7 [a1] := K4.wr W7 (Or.inl (List.mem_of_getElem? (i := 0) rfl))
  have N7 := Fr.snoc X7 N4 g_a1
  obtain ⟨T9, X9, e9, st9⟩ := getS2 X7 hx hZ hown (host := "") (Or.inl (hw _ (List.mem_of_getElem? (i := 37) rfl))) Via.refl e7 ((S_SUPPRESSED_SENTINEL.wr W4).wr W7) (g := (mkF m 17 #[.val (.ref a1), .val (.ref a2)] [(.ref a1)])) rfl (hb hby d4_17)
  obtain ⟨T10, h10, X10, e10, W10, st10⟩ := putF X9 hx hZ hown (host := "") (Or.inl (hw _ (List.mem_of_getElem? (i := 38) rfl))) Via.refl e9 ((F_suppressedExceptions_a1.other W4 (Or.inr (slot_ne (Or.inl (hw _ (List.mem_of_getElem? (i := 39) rfl))) (Or.inl (hw _ (List.mem_of_getElem? (i := 33) rfl))) (by decide) (t := (.object "java/util/List")) (t' := (.object "java/lang/Throwable")) (by decide) (by decide)))).other W7 (Or.inr (slot_ne (Or.inl (hw _ (List.mem_of_getElem? (i := 39) rfl))) (Or.inl (hw _ (List.mem_of_getElem? (i := 36) rfl))) (by decide) (t := (.object "java/util/List")) (t' := (.array (.object "java/lang/StackTraceElement"))) (by decide) (by decide)))) ((E_a1.wr W4).wr W7) (Or.inl (hw _ (List.mem_of_getElem? (i := 39) rfl))) (hw _ (List.mem_of_getElem? (i := 5) rfl)) (ty := (.object "java/util/List")) (by decide) rfl rfl (g := (mkF m 20 #[.val (.ref a1), .val (.ref a2)] [(.ref w8), (.ref a1)])) rfl rfl (hb hby d4_20)
  have Fw10 := ((F_suppressedExceptions_a1.other W4 (Or.inr (slot_ne (Or.inl (hw _ (List.mem_of_getElem? (i := 39) rfl))) (Or.inl (hw _ (List.mem_of_getElem? (i := 33) rfl))) (by decide) (t := (.object "java/util/List")) (t' := (.object "java/lang/Throwable")) (by decide) (by decide)))).other W7 (Or.inr (slot_ne (Or.inl (hw _ (List.mem_of_getElem? (i := 39) rfl))) (Or.inl (hw _ (List.mem_of_getElem? (i := 36) rfl))) (by decide) (t := (.object "java/util/List")) (t' := (.array (.object "java/lang/StackTraceElement"))) (by decide) (by decide)))).same W10      -- the field now holds (.ref w8)
  have K10 : Keep h0 h10 [a1] := K7.wr W10 (Or.inl (List.mem_of_getElem? (i := 0) rfl))
  have N10 := Fr.snoc X10 N7 g_a1
  -- pc 24: java/lang/Throwable.fillInStackTrace by the contract of the body that the receiver's class selects, rm6
  obtain ⟨cq11, kq11, q11a, q11b, q11c⟩ := isOf hZ e10 (((E_a1.wr W4).wr W7).wr W10)
  obtain ⟨_, _, ⟨T11, L11, k11, n11⟩, -, X11, ⟨Lc11, hQ11, l11, y11, z11⟩, st11⟩ := X10.virtualBack hx (y := (⟨"java/lang/Throwable", "fillInStackTrace", "()Ljava/lang/Throwable;"⟩ : MethodName)) (z := (⟨"java/lang/Throwable", "fillInStackTrace", "()Ljava/lang/Throwable;"⟩ : MethodName)) hown (mvT hZ (hw _ (List.mem_of_getElem? (i := 40) rfl))) (mvT hZ (hw _ (List.mem_of_getElem? (i := 41) rfl))) (notFace_of_selects (args := #[]) (mvT hZ (hw _ (List.mem_of_getElem? (i := 43) rfl)))) (mvT hZ (hw _ (List.mem_of_getElem? (i := 43) rfl))) (mvT hZ (hw _ (List.mem_of_getElem? (i := 42) rfl))) (by decide) (own_fill (W := 0) hx X0.admits hl hZ (own_shape KZ hh) hw hTK hBelow (hw _ (List.mem_of_getElem? (i := 5) rfl)) (((E_a1.wr W4).wr W7).wr W10) (Unt.wr W10 (Unt.wr W7 (Unt.wr W4 U_a1))) (((F_backtrace_a1.other W4 (Or.inr (slot_ne (Or.inl (hw _ (List.mem_of_getElem? (i := 64) rfl))) (Or.inl (hw _ (List.mem_of_getElem? (i := 33) rfl))) (by decide) (t := (.object "java/lang/Object")) (t' := (.object "java/lang/Throwable")) (by decide) (by decide)))).other W7 (Or.inr (slot_ne (Or.inl (hw _ (List.mem_of_getElem? (i := 64) rfl))) (Or.inl (hw _ (List.mem_of_getElem? (i := 36) rfl))) (by decide) (t := (.object "java/lang/Object")) (t' := (.array (.object "java/lang/StackTraceElement"))) (by decide) (by decide)))).other W10 (Or.inr (slot_ne (Or.inl (hw _ (List.mem_of_getElem? (i := 64) rfl))) (Or.inl (hw _ (List.mem_of_getElem? (i := 39) rfl))) (by decide) (t := (.object "java/lang/Object")) (t' := (.object "java/util/List")) (by decide) (by decide)))) (Fw7.other W10 (Or.inr (slot_ne (Or.inl (hw _ (List.mem_of_getElem? (i := 36) rfl))) (Or.inl (hw _ (List.mem_of_getElem? (i := 39) rfl))) (by decide) (t := (.array (.object "java/lang/StackTraceElement"))) (t' := (.object "java/util/List")) (by decide) (by decide)))) (((S_UNASSIGNED_STACK.wr W4).wr W7).wr W10) (by decide) (by decide)) q11a q11c (g := (mkF m 24 #[.val (.ref a1), .val (.ref a2)] [(.ref a1)])) rfl (by rw [hml]; rfl) (Steps.refl _) (argsL := []) (rest := []) (lenOf pd_4_4 rfl) rfl (by show 2 * 0 + _ ≤ _; exact Nat.le_of_eq rfl) (hb hby d4_24) (fun _ _ => ⟨rfl, e10, (by decide : 0 + 1 ≤ _), (by decide : 0 + 2752 ≤ _)⟩)
  dsimp only [Pt.U, Pt.locs, Pt.cells, Pt.slots] at X11 l11 y11 z11 st11 hQ11
  subst l11 y11 z11
  obtain ⟨rfl, rfl, Pt11⟩ := hQ11
  have N11q : Fr n0 (own_three Z a1) := own_three_fr g_a1
  have Et11 : Exa Z T11.heap a1 own_S := own_part_exa Pt11 (((E_a1.wr W4).wr W7).wr W10)
  have Fm11 := own_part_msg hw Pt11 (((F_detailMessage_a1.other W4 (Or.inr (slot_ne (Or.inl (hw _ (List.mem_of_getElem? (i := 63) rfl))) (Or.inl (hw _ (List.mem_of_getElem? (i := 33) rfl))) (by decide) (t := (.object "java/lang/String")) (t' := (.object "java/lang/Throwable")) (by decide) (by decide)))).other W7 (Or.inr (slot_ne (Or.inl (hw _ (List.mem_of_getElem? (i := 63) rfl))) (Or.inl (hw _ (List.mem_of_getElem? (i := 36) rfl))) (by decide) (t := (.object "java/lang/String")) (t' := (.array (.object "java/lang/StackTraceElement"))) (by decide) (by decide)))).other W10 (Or.inr (slot_ne (Or.inl (hw _ (List.mem_of_getElem? (i := 63) rfl))) (Or.inl (hw _ (List.mem_of_getElem? (i := 39) rfl))) (by decide) (t := (.object "java/lang/String")) (t' := (.object "java/util/List")) (by decide) (by decide))))
  -- Kc11 : Keep h10 T11.heap [a1]
  have N11 := Fr.app N10 N11q
  obtain ⟨T12, h12, X12, e12, W12, st12⟩ := putF X11 hx hZ hown (host := "") (Or.inl (hw _ (List.mem_of_getElem? (i := 67) rfl))) Via.refl rfl Fm11 Et11 (Or.inl (hw _ (List.mem_of_getElem? (i := 63) rfl))) (hw _ (List.mem_of_getElem? (i := 5) rfl)) (ty := (.object "java/lang/String")) (by decide) rfl rfl (g := (mkF m 30 #[.val (.ref a1), .val (.ref a2)] [(.ref a2), (.ref a1)])) rfl rfl (hb hby d4_30)
  have Fw12 := Fm11.same W12      -- the field now holds (.ref a2)
  have N12 := Fr.snoc X12 N11 g_a1
  obtain ⟨fs, hr, hrun, hended, hW, hsame⟩ := X12.leave (v := none) (fun _ => rfl)
  refine ⟨_, _, pre0 _ ?_, hrun, hended, _, _, rfl, ?_, ⟨_, rfl⟩, hW, hsame.mono (by decide) (by decide)⟩
  -- 4. STEPS
  · show Steps p.tables e below (s₁.setTop (mkF m 0 #[.val (.ref a1), .val (.ref a2)] [])) _
    refine XS.aloadN X0.here hx rfl (hb hby d4_0) rfl rfl ?_
    show Steps p.tables e below (s₁.setTop (mkF m 1 #[.val (.ref a1), .val (.ref a2)] [(.ref a1)])) _
    refine st3 _ ?_
    show Steps p.tables e below (T3.setTop (mkF m 4 #[.val (.ref a1), .val (.ref a2)] [])) _
    refine XS.aloadN X3.here hx rfl (hb hby d4_4) rfl rfl ?_
    show Steps p.tables e below (T3.setTop (mkF m 5 #[.val (.ref a1), .val (.ref a2)] [(.ref a1)])) _
    refine XS.aloadN X3.here hx rfl (hb hby d4_5) rfl rfl ?_
    show Steps p.tables e below (T3.setTop (mkF m 6 #[.val (.ref a1), .val (.ref a2)] [(.ref a1), (.ref a1)])) _
    refine st4 _ ?_
    show Steps p.tables e below (T4.setTop (mkF m 9 #[.val (.ref a1), .val (.ref a2)] [])) _
    refine XS.aloadN X4.here hx rfl (hb hby d4_9) rfl rfl ?_
    show Steps p.tables e below (T4.setTop (mkF m 10 #[.val (.ref a1), .val (.ref a2)] [(.ref a1)])) _
    refine st6 _ ?_
    show Steps p.tables e below (T6.setTop (mkF m 13 #[.val (.ref a1), .val (.ref a2)] [(.ref w5), (.ref a1)])) _
    refine st7 _ ?_
    show Steps p.tables e below (T7.setTop (mkF m 16 #[.val (.ref a1), .val (.ref a2)] [])) _
    refine XS.aloadN X7.here hx rfl (hb hby d4_16) rfl rfl ?_
    show Steps p.tables e below (T7.setTop (mkF m 17 #[.val (.ref a1), .val (.ref a2)] [(.ref a1)])) _
    refine st9 _ ?_
    show Steps p.tables e below (T9.setTop (mkF m 20 #[.val (.ref a1), .val (.ref a2)] [(.ref w8), (.ref a1)])) _
    refine st10 _ ?_
    show Steps p.tables e below (T10.setTop (mkF m 23 #[.val (.ref a1), .val (.ref a2)] [])) _
    refine XS.aloadN X10.here hx rfl (hb hby d4_23) rfl rfl ?_
    show Steps p.tables e below (T10.setTop (mkF m 24 #[.val (.ref a1), .val (.ref a2)] [(.ref a1)])) _
    refine st11.trans ?_
    show Steps p.tables e below (T11.setTop (mkF m 27 #[.val (.ref a1), .val (.ref a2)] [(.ref a1)])) _
    refine XS.pop X11.here hx rfl (hb hby d4_27) rfl rfl ?_
    show Steps p.tables e below (T11.setTop (mkF m 28 #[.val (.ref a1), .val (.ref a2)] [])) _
    refine XS.aloadN X11.here hx rfl (hb hby d4_28) rfl rfl ?_
    show Steps p.tables e below (T11.setTop (mkF m 29 #[.val (.ref a1), .val (.ref a2)] [(.ref a1)])) _
    refine XS.aloadN X11.here hx rfl (hb hby d4_29) rfl rfl ?_
    show Steps p.tables e below (T11.setTop (mkF m 30 #[.val (.ref a1), .val (.ref a2)] [(.ref a2), (.ref a1)])) _
    refine st12 _ ?_
    show Steps p.tables e below (T12.setTop (mkF m 33 #[.val (.ref a1), .val (.ref a2)] [])) _
    exact X12.returnOut hx Bd.returns (hb hby d4_33) hr
  · show QT Z a1 h0 n0 _ T12.heap _
    rw [e12]
    exact ⟨rfl, N12, e12 ▸ own_kp X12 hh fun x hx => by
      simp only [own_three, List.mem_append, List.mem_cons, List.not_mem_nil, or_false, false_or] at hx
      rcases hx with ((((hx | hx) | hx) | (hx | hx | hx)) | hx)
      · exact ⟨("cause", Jvm.Free.Exc.thD), by simp [Jvm.Free.Exc.sixNames], hx⟩
      · exact ⟨("stackTrace", steD), by simp [Jvm.Free.Exc.sixNames], hx⟩
      · exact ⟨("suppressedExceptions", listD), by simp [Jvm.Free.Exc.sixNames], hx⟩
      · exact ⟨("backtrace", Jvm.Free.Exc.obD), by simp [Jvm.Free.Exc.sixNames], hx⟩
      · exact ⟨("depth", "I"), by simp [Jvm.Free.Exc.sixNames], hx⟩
      · exact ⟨("stackTrace", steD), by simp [Jvm.Free.Exc.sixNames], hx⟩
      · exact ⟨("detailMessage", Jvm.Free.Exc.msgD), by simp [Jvm.Free.Exc.sixNames], hx⟩⟩
theorem d3_0 : decode jdk_59_method_2_code 0 = .ok (.aload_n 0, 1) := by decide +kernel
theorem d3_1 : decode jdk_59_method_2_code 1 = .ok (.aload_n 1, 1) := by decide +kernel
theorem d3_2 : decode jdk_59_method_2_code 2 = .ok (.invokespecial 7, 3) := by decide +kernel
theorem d3_5 : decode jdk_59_method_2_code 5 = .ok (.return_, 1) := by decide +kernel
theorem pn_3 : plainName "java/lang/Exception" = true := by first | (simp [plainName, overriddenIn]; done) | decide +kernel
theorem pd_3_2 : parseMethodDescriptor "(Ljava/lang/String;)V" = some ⟨[(.object "java/lang/String")], none⟩ := by decide +kernel
theorem ef_3 (m : MethodId) (x0 : Addr) (x1 : Addr) : entryFrame m #[(.ref x0), (.ref x1)] 2 = mkF m 0 #[.val (.ref x0), .val (.ref x1)] [] := by first | (simp [entryFrame, mkF, argsToLocals, Value.category]; done) | rfl
set_option maxRecDepth 65536 in
set_option maxHeartbeats 40000000 in
theorem rm3 (l : Launch) (hl : l.stackTraces = true) (Z : State) (a0 : Array Value) (hw : ∀ d ∈ tables_1, d.before a0 Z = true) (ws : List Jvm.Cond) (a1 : Addr) (a2 : Addr) (u1 u2 u3 u4 : Value) (w1 w2 : Addr) (h0 : Heap) (n0 : Nat) (Z0 : n0 ≤ h0.size) (E_a1 : Exa Z h0 a1 own_S) (F_cause_a1 : Fld Z h0 a1 "java/lang/Throwable" "cause" "Ljava/lang/Throwable;" u1) (F_stackTrace_a1 : Fld Z h0 a1 "java/lang/Throwable" "stackTrace" "[Ljava/lang/StackTraceElement;" u2) (F_suppressedExceptions_a1 : Fld Z h0 a1 "java/lang/Throwable" "suppressedExceptions" "Ljava/util/List;" u3) (F_detailMessage_a1 : Fld Z h0 a1 "java/lang/Throwable" "detailMessage" "Ljava/lang/String;" u4) (F_backtrace_a1 : Fld Z h0 a1 "java/lang/Throwable" "backtrace" "Ljava/lang/Object;" .null) (U_a1 : Unt h0 a1) (S_UNASSIGNED_STACK : Sta Z h0 "java/lang/Throwable" "UNASSIGNED_STACK" "[Ljava/lang/StackTraceElement;" (.ref w1)) (S_SUPPRESSED_SENTINEL : Sta Z h0 "java/lang/Throwable" "SUPPRESSED_SENTINEL" "Ljava/util/List;" (.ref w2)) (KZ : Keep Z.heap h0 []) (g_a1 : n0 ≤ a1) :
    MetFree l (⟨"java/lang/Exception", "<init>", "(Ljava/lang/String;)V"⟩ : MethodName) (head1 (Jvm.Cond.code (⟨"java/lang/Exception", "<init>", "(Ljava/lang/String;)V"⟩ : MethodName) jdk_59_method_2_code 2 none :: ws) ({ frames := 4, cells := 1, slots := 2752, locals := 56 } : Room)) (fun a U => a = #[(.ref a1), (.ref a2)] ∧ Z.Warmed39 U.vm ∧ U.heap = h0) KnownK (fun _ U o U' => ∃ v L, o = .returned v ∧ QT Z a1 h0 n0 v U'.heap L ∧ FrameEnd U o U' L ({ frames := 4, cells := 1, slots := 2752, locals := 56 } : Room).cells ({ frames := 4, cells := 1, slots := 2752, locals := 56 } : Room).slots) := by
  refine MetFree.of_bodySF (plainFor_of_name pn_3) hisR ?_
  intro p e s m args below meth c s₁ Bd hml0 hP hK
  obtain ⟨rfl, hZ, hh⟩ := hP
  obtain ⟨hTK, hBelow⟩ := hK
  have hx := Bd.exec
  have hby := Bd.bytes
  have hml : c.maxLocals = 2 := hml0
  have hown : s.vm.findClass "java/lang/Exception" = some m.cls := findClass_of_methodNamed Bd.named
  have hnm := (name_of_methodNamed Bd.named Bd.method).1
  have X0 : Stand p l e ({ frames := 4, cells := 1, slots := 2752, locals := 56 } : Room) s m #[(.ref a1), (.ref a2)] below meth c s₁ [] 0 0 := Stand.of_body Bd
  have e0 : s₁.heap = h0 := by rw [← hh, Bd.state]; rfl
  have N0 := Fr.nil n0
  have pre0 : ∀ t, Steps p.tables e below (s₁.setTop (mkF m 0 #[.val (.ref a1), .val (.ref a2)] [])) t → Steps p.tables e below (s₁.setTop (entryFrame m #[(.ref a1), (.ref a2)] 2)) t := fun t k => castTop (ef_3 m a1 a2) k
  -- 3. LAWS
  -- pc 2: the constructor of java/lang/Throwable by its contract rm4
  obtain ⟨_, _, ⟨T3, L3, k3, n3⟩, -, X3, ⟨Lc3, hQ3, l3, y3, z3⟩, st3⟩ := X0.specialBack hx (y := (⟨"java/lang/Throwable", "<init>", "(Ljava/lang/String;)V"⟩ : MethodName)) rfl hown (mvT hZ (hw _ (List.mem_of_getElem? (i := 23) rfl))) (mvT hZ (hw _ (List.mem_of_getElem? (i := 24) rfl))) (mvT hZ (hw _ (List.mem_of_getElem? (i := 28) rfl))) (by decide) (own_backK hTK hBelow (W := 0) (rm4 l hl Z a0 hw [] a1 a2 _ _ _ _ _ _ h0 n0 Z0 E_a1 F_cause_a1 F_stackTrace_a1 F_suppressedExceptions_a1 F_detailMessage_a1 F_backtrace_a1 U_a1 S_UNASSIGNED_STACK S_SUPPRESSED_SENTINEL KZ g_a1) hZ (hw _ (List.mem_of_getElem? (i := 28) rfl)) (hw _ (List.mem_of_getElem? (i := 27) rfl)) (by decide) (by decide)) (g := (mkF m 2 #[.val (.ref a1), .val (.ref a2)] [(.ref a2), (.ref a1)])) rfl (by rw [hml]; rfl) (Steps.refl _) (a := a1) (argsL := [(.ref a2)]) (rest := []) (lenOf pd_3_2 rfl) rfl (by show 2 * 0 + _ ≤ _; exact Nat.le_of_eq rfl) (hb hby d3_2) (fun _ _ => ⟨rfl, e0, (by decide : 0 + 1 ≤ _), (by decide : 0 + 2752 ≤ _)⟩)
  dsimp only [Pt.U, Pt.locs, Pt.cells, Pt.slots] at X3 l3 y3 z3 st3 hQ3
  subst l3 y3 z3
  obtain ⟨rfl, N3q, Kp3⟩ := hQ3
  have Kc3 := own_keep_kp Kp3
  -- Kc3 : Keep h0 T3.heap [a1]
  have N3 := Fr.app N0 N3q
  have K3 : Keep h0 T3.heap [a1] := (Keep.refl h0 [a1]).trans Kc3 (fun x_ hx_ => by rw [List.mem_singleton.mp hx_]; exact Or.inl (List.mem_of_getElem? (i := 0) rfl))
  obtain ⟨fs, hr, hrun, hended, hW, hsame⟩ := X3.leave (v := none) (fun _ => rfl)
  refine ⟨_, _, pre0 _ ?_, hrun, hended, _, _, rfl, ?_, ⟨_, rfl⟩, hW, hsame.mono (by decide) (by decide)⟩
  -- 4. STEPS
  · show Steps p.tables e below (s₁.setTop (mkF m 0 #[.val (.ref a1), .val (.ref a2)] [])) _
    refine XS.aloadN X0.here hx rfl (hb hby d3_0) rfl rfl ?_
    show Steps p.tables e below (s₁.setTop (mkF m 1 #[.val (.ref a1), .val (.ref a2)] [(.ref a1)])) _
    refine XS.aloadN X0.here hx rfl (hb hby d3_1) rfl rfl ?_
    show Steps p.tables e below (s₁.setTop (mkF m 2 #[.val (.ref a1), .val (.ref a2)] [(.ref a2), (.ref a1)])) _
    refine st3.trans ?_
    show Steps p.tables e below (T3.setTop (mkF m 5 #[.val (.ref a1), .val (.ref a2)] [])) _
    exact X3.returnOut hx Bd.returns (hb hby d3_5) hr
  · show QT Z a1 h0 n0 _ T3.heap _
    exact ⟨rfl, N3, Kp3⟩
theorem d2_0 : decode prog_179_method_1_code 0 = .ok (.aload_n 0, 1) := by decide +kernel
theorem d2_1 : decode prog_179_method_1_code 1 = .ok (.aload_n 1, 1) := by decide +kernel
theorem d2_2 : decode prog_179_method_1_code 2 = .ok (.invokespecial 1, 3) := by decide +kernel
theorem d2_5 : decode prog_179_method_1_code 5 = .ok (.aload_n 0, 1) := by decide +kernel
theorem d2_6 : decode prog_179_method_1_code 6 = .ok (.iload_n 2, 1) := by decide +kernel
theorem d2_7 : decode prog_179_method_1_code 7 = .ok (.putfield 7, 3) := by decide +kernel
theorem d2_10 : decode prog_179_method_1_code 10 = .ok (.aload_n 0, 1) := by decide +kernel
theorem d2_11 : decode prog_179_method_1_code 11 = .ok (.iload_n 3, 1) := by decide +kernel
theorem d2_12 : decode prog_179_method_1_code 12 = .ok (.putfield 13, 3) := by decide +kernel
theorem d2_15 : decode prog_179_method_1_code 15 = .ok (.return_, 1) := by decide +kernel
theorem pn_2 : plainName "com/example/rhadamanthus/rhadamanthus/core/SyntaxError" = true := by first | (simp [plainName, overriddenIn]; done) | decide +kernel
theorem pd_2_2 : parseMethodDescriptor "(Ljava/lang/String;)V" = some ⟨[(.object "java/lang/String")], none⟩ := by decide +kernel
theorem ef_2 (m : MethodId) (x0 : Addr) (x1 : Addr) (x2 : Int32) (x3 : Int32) : entryFrame m #[(.ref x0), (.ref x1), (.int x2), (.int x3)] 4 = mkF m 0 #[.val (.ref x0), .val (.ref x1), .val (.int x2), .val (.int x3)] [] := by first | (simp [entryFrame, mkF, argsToLocals, Value.category]; done) | rfl
def Q2 (Z : State) (a1 : Addr) (p3 : Int32) (p4 : Int32) (h0 : Heap) (n0 : Nat) (v : Option Value) (h : Heap) (L : List Loc) : Prop := v = none ∧ Fr n0 L ∧ Keep h0 h [a1] ∧ Exa Z h a1 own_S ∧ Fld Z h a1 own_S "line" "I" (.int p3) ∧ Fld Z h a1 own_S "column" "I" (.int p4)
set_option maxRecDepth 65536 in
set_option maxHeartbeats 40000000 in
theorem rm2 (l : Launch) (hl : l.stackTraces = true) (Z : State) (a0 : Array Value) (hw : ∀ d ∈ tables_1, d.before a0 Z = true) (ws : List Jvm.Cond) (a1 : Addr) (a2 : Addr) (p3 : Int32) (p4 : Int32) (u1 u2 u3 u4 u5 u6 : Value) (w1 w2 : Addr) (h0 : Heap) (n0 : Nat) (Z0 : n0 ≤ h0.size) (E_a1 : Exa Z h0 a1 own_S) (F_cause_a1 : Fld Z h0 a1 "java/lang/Throwable" "cause" "Ljava/lang/Throwable;" u1) (F_stackTrace_a1 : Fld Z h0 a1 "java/lang/Throwable" "stackTrace" "[Ljava/lang/StackTraceElement;" u2) (F_suppressedExceptions_a1 : Fld Z h0 a1 "java/lang/Throwable" "suppressedExceptions" "Ljava/util/List;" u3) (F_detailMessage_a1 : Fld Z h0 a1 "java/lang/Throwable" "detailMessage" "Ljava/lang/String;" u4) (F_backtrace_a1 : Fld Z h0 a1 "java/lang/Throwable" "backtrace" "Ljava/lang/Object;" .null) (U_a1 : Unt h0 a1) (S_UNASSIGNED_STACK : Sta Z h0 "java/lang/Throwable" "UNASSIGNED_STACK" "[Ljava/lang/StackTraceElement;" (.ref w1)) (S_SUPPRESSED_SENTINEL : Sta Z h0 "java/lang/Throwable" "SUPPRESSED_SENTINEL" "Ljava/util/List;" (.ref w2)) (KZ : Keep Z.heap h0 []) (g_a1 : n0 ≤ a1) (F_line_a1 : Fld Z h0 a1 own_S "line" "I" u5) (F_column_a1 : Fld Z h0 a1 own_S "column" "I" u6) :
    MetFree l (⟨"com/example/rhadamanthus/rhadamanthus/core/SyntaxError", "<init>", "(Ljava/lang/String;II)V"⟩ : MethodName) (head1 (Jvm.Cond.code (⟨"com/example/rhadamanthus/rhadamanthus/core/SyntaxError", "<init>", "(Ljava/lang/String;II)V"⟩ : MethodName) prog_179_method_1_code 4 none :: ws) ({ frames := 5, cells := 1, slots := 2752, locals := 70 } : Room)) (fun a U => a = #[(.ref a1), (.ref a2), (.int p3), (.int p4)] ∧ Z.Warmed39 U.vm ∧ U.heap = h0) KnownK (fun _ U o U' => ∃ v L, o = .returned v ∧ Q2 Z a1 p3 p4 h0 n0 v U'.heap L ∧ FrameEnd U o U' L ({ frames := 5, cells := 1, slots := 2752, locals := 70 } : Room).cells ({ frames := 5, cells := 1, slots := 2752, locals := 70 } : Room).slots) := by
  refine MetFree.of_bodySF (plainFor_of_name pn_2) hisR ?_
  intro p e s m args below meth c s₁ Bd hml0 hP hK
  obtain ⟨rfl, hZ, hh⟩ := hP
  obtain ⟨hTK, hBelow⟩ := hK
  have hx := Bd.exec
  have hby := Bd.bytes
  have hml : c.maxLocals = 4 := hml0
  have hown : s.vm.findClass "com/example/rhadamanthus/rhadamanthus/core/SyntaxError" = some m.cls := findClass_of_methodNamed Bd.named
  have hnm := (name_of_methodNamed Bd.named Bd.method).1
  have X0 : Stand p l e ({ frames := 5, cells := 1, slots := 2752, locals := 70 } : Room) s m #[(.ref a1), (.ref a2), (.int p3), (.int p4)] below meth c s₁ [] 0 0 := Stand.of_body Bd
  have e0 : s₁.heap = h0 := by rw [← hh, Bd.state]; rfl
  have N0 := Fr.nil n0
  have pre0 : ∀ t, Steps p.tables e below (s₁.setTop (mkF m 0 #[.val (.ref a1), .val (.ref a2), .val (.int p3), .val (.int p4)] [])) t → Steps p.tables e below (s₁.setTop (entryFrame m #[(.ref a1), (.ref a2), (.int p3), (.int p4)] 4)) t := fun t k => castTop (ef_2 m a1 a2 p3 p4) k
  -- 3. LAWS
  -- pc 2: the constructor of java/lang/Exception by its contract rm3
  obtain ⟨_, _, ⟨T5, L5, k5, n5⟩, -, X5, ⟨Lc5, hQ5, l5, y5, z5⟩, st5⟩ := X0.specialBack hx (y := (⟨"java/lang/Exception", "<init>", "(Ljava/lang/String;)V"⟩ : MethodName)) rfl hown (mvT hZ (hw _ (List.mem_of_getElem? (i := 18) rfl))) (mvT hZ (hw _ (List.mem_of_getElem? (i := 19) rfl))) (mvT hZ (hw _ (List.mem_of_getElem? (i := 22) rfl))) (by decide) (own_backK hTK hBelow (W := 0) (rm3 l hl Z a0 hw [] a1 a2 _ _ _ _ _ _ h0 n0 Z0 E_a1 F_cause_a1 F_stackTrace_a1 F_suppressedExceptions_a1 F_detailMessage_a1 F_backtrace_a1 U_a1 S_UNASSIGNED_STACK S_SUPPRESSED_SENTINEL KZ g_a1) hZ (hw _ (List.mem_of_getElem? (i := 22) rfl)) (hw _ (List.mem_of_getElem? (i := 21) rfl)) (by decide) (by decide)) (g := (mkF m 2 #[.val (.ref a1), .val (.ref a2), .val (.int p3), .val (.int p4)] [(.ref a2), (.ref a1)])) rfl (by rw [hml]; rfl) (Steps.refl _) (a := a1) (argsL := [(.ref a2)]) (rest := []) (lenOf pd_2_2 rfl) rfl (by show 2 * 0 + _ ≤ _; exact Nat.le_of_eq rfl) (hb hby d2_2) (fun _ _ => ⟨rfl, e0, (by decide : 0 + 1 ≤ _), (by decide : 0 + 2752 ≤ _)⟩)
  dsimp only [Pt.U, Pt.locs, Pt.cells, Pt.slots] at X5 l5 y5 z5 st5 hQ5
  subst l5 y5 z5
  obtain ⟨rfl, N5q, Kp5⟩ := hQ5
  have Kc5 := own_keep_kp Kp5
  -- Kc5 : Keep h0 T5.heap [a1]
  have N5 := Fr.app N0 N5q
  have K5 : Keep h0 T5.heap [a1] := (Keep.refl h0 [a1]).trans Kc5 (fun x_ hx_ => by rw [List.mem_singleton.mp hx_]; exact Or.inl (List.mem_of_getElem? (i := 0) rfl))
  obtain ⟨T6, h6, X6, e6, W6, st6⟩ := putF X5 hx hZ hown (host := "") (Or.inl (hw _ (List.mem_of_getElem? (i := 68) rfl))) Via.refl rfl (Fld.kp Kp5 F_line_a1 (Or.inr (own_six_line hw))) (E_a1.kp Kp5) (Or.inr ⟨(hw _ (List.mem_of_getElem? (i := 69) rfl)), rfl, hnm⟩) (hw _ (List.mem_of_getElem? (i := 5) rfl)) (ty := .int) (by decide) rfl rfl (g := (mkF m 7 #[.val (.ref a1), .val (.ref a2), .val (.int p3), .val (.int p4)] [(.int p3), (.ref a1)])) rfl rfl (hb hby d2_7)
  have Fw6 := (Fld.kp Kp5 F_line_a1 (Or.inr (own_six_line hw))).same W6      -- the field now holds (.int p3)
  have K6 : Keep h0 h6 [a1] := K5.wr W6 (Or.inl (List.mem_of_getElem? (i := 0) rfl))
  have N6 := Fr.snoc X6 N5 g_a1
  obtain ⟨T7, h7, X7, e7, W7, st7⟩ := putF X6 hx hZ hown (host := "") (Or.inl (hw _ (List.mem_of_getElem? (i := 70) rfl))) Via.refl e6 ((Fld.kp Kp5 F_column_a1 (Or.inr (own_six_col hw))).other W6 (Or.inr (slot_ne (Or.inr (hw _ (List.mem_of_getElem? (i := 71) rfl))) (Or.inr (hw _ (List.mem_of_getElem? (i := 69) rfl))) (by decide) (t := .int) (t' := .int) (by decide) (by decide)))) ((E_a1.kp Kp5).wr W6) (Or.inr ⟨(hw _ (List.mem_of_getElem? (i := 71) rfl)), rfl, hnm⟩) (hw _ (List.mem_of_getElem? (i := 5) rfl)) (ty := .int) (by decide) rfl rfl (g := (mkF m 12 #[.val (.ref a1), .val (.ref a2), .val (.int p3), .val (.int p4)] [(.int p4), (.ref a1)])) rfl rfl (hb hby d2_12)
  have Fw7 := ((Fld.kp Kp5 F_column_a1 (Or.inr (own_six_col hw))).other W6 (Or.inr (slot_ne (Or.inr (hw _ (List.mem_of_getElem? (i := 71) rfl))) (Or.inr (hw _ (List.mem_of_getElem? (i := 69) rfl))) (by decide) (t := .int) (t' := .int) (by decide) (by decide)))).same W7      -- the field now holds (.int p4)
  have K7 : Keep h0 h7 [a1] := K6.wr W7 (Or.inl (List.mem_of_getElem? (i := 0) rfl))
  have N7 := Fr.snoc X7 N6 g_a1
  obtain ⟨fs, hr, hrun, hended, hW, hsame⟩ := X7.leave (v := none) (fun _ => rfl)
  refine ⟨_, _, pre0 _ ?_, hrun, hended, _, _, rfl, ?_, ⟨_, rfl⟩, hW, hsame.mono (by decide) (by decide)⟩
  -- 4. STEPS
  · show Steps p.tables e below (s₁.setTop (mkF m 0 #[.val (.ref a1), .val (.ref a2), .val (.int p3), .val (.int p4)] [])) _
    refine XS.aloadN X0.here hx rfl (hb hby d2_0) rfl rfl ?_
    show Steps p.tables e below (s₁.setTop (mkF m 1 #[.val (.ref a1), .val (.ref a2), .val (.int p3), .val (.int p4)] [(.ref a1)])) _
    refine XS.aloadN X0.here hx rfl (hb hby d2_1) rfl rfl ?_
    show Steps p.tables e below (s₁.setTop (mkF m 2 #[.val (.ref a1), .val (.ref a2), .val (.int p3), .val (.int p4)] [(.ref a2), (.ref a1)])) _
    refine st5.trans ?_
    show Steps p.tables e below (T5.setTop (mkF m 5 #[.val (.ref a1), .val (.ref a2), .val (.int p3), .val (.int p4)] [])) _
    refine XS.aloadN X5.here hx rfl (hb hby d2_5) rfl rfl ?_
    show Steps p.tables e below (T5.setTop (mkF m 6 #[.val (.ref a1), .val (.ref a2), .val (.int p3), .val (.int p4)] [(.ref a1)])) _
    refine XS.iloadN X5.here hx rfl (hb hby d2_6) rfl ?_
    show Steps p.tables e below (T5.setTop (mkF m 7 #[.val (.ref a1), .val (.ref a2), .val (.int p3), .val (.int p4)] [(.int p3), (.ref a1)])) _
    refine st6 _ ?_
    show Steps p.tables e below (T6.setTop (mkF m 10 #[.val (.ref a1), .val (.ref a2), .val (.int p3), .val (.int p4)] [])) _
    refine XS.aloadN X6.here hx rfl (hb hby d2_10) rfl rfl ?_
    show Steps p.tables e below (T6.setTop (mkF m 11 #[.val (.ref a1), .val (.ref a2), .val (.int p3), .val (.int p4)] [(.ref a1)])) _
    refine XS.iloadN X6.here hx rfl (hb hby d2_11) rfl ?_
    show Steps p.tables e below (T6.setTop (mkF m 12 #[.val (.ref a1), .val (.ref a2), .val (.int p3), .val (.int p4)] [(.int p4), (.ref a1)])) _
    refine st7 _ ?_
    show Steps p.tables e below (T7.setTop (mkF m 15 #[.val (.ref a1), .val (.ref a2), .val (.int p3), .val (.int p4)] [])) _
    exact X7.returnOut hx Bd.returns (hb hby d2_15) hr
  · show Q2 Z a1 p3 p4 h0 n0 _ T7.heap _
    rw [e7]
    exact ⟨rfl, N7, K7, (((E_a1.kp Kp5).wr W6).wr W7), (Fw6.other W7 (Or.inr (Jvm.RoadKit.slot_ne (Or.inr (hw _ (List.mem_of_getElem? (i := 69) rfl))) (Or.inr (hw _ (List.mem_of_getElem? (i := 71) rfl))) (by decide) (t := .int) (t' := .int) (by decide) (by decide)))), Fw7⟩
theorem pn_0 : plainName "com/example/rhadamanthus/rhadamanthus/core/SyntaxErrorLiesBeyondPinLaw" = true := by first | (simp [plainName, overriddenIn]; done) | decide +kernel
theorem pd_0_0 : parseMethodDescriptor "(III)I" = some ⟨[.int, .int, .int], some .int⟩ := by decide +kernel
theorem pd_0_1 : parseMethodDescriptor "(Ljava/lang/String;II)V" = some ⟨[(.object "java/lang/String"), .int, .int], none⟩ := by decide +kernel
theorem pd_0_6 : parseMethodDescriptor "(II)J" = some ⟨[.int, .int], some .long⟩ := by decide +kernel
theorem pd_0_7 : parseMethodDescriptor "(Lcom/example/rhadamanthus/rhadamanthus/core/SyntaxError;)Z" = some ⟨[(.object "com/example/rhadamanthus/rhadamanthus/core/SyntaxError")], some .boolean⟩ := by decide +kernel
theorem ef_0 (m : MethodId) (x0 : Int32) (x1 : Int32) (x2 : Int32) (x3 : Int32) (x4 : Int32) : entryFrame m #[(.int x0), (.int x1), (.int x2), (.int x3), (.int x4)] maxLocals = mkF m 0 #[.val (.int x0), .val (.int x1), .val (.int x2), .val (.int x3), .val (.int x4), .unset, .unset, .unset, .unset, .unset, .unset, .unset, .unset, .unset, .unset] [] := by first | (simp [entryFrame, mkF, argsToLocals, Value.category, maxLocals]; done) | rfl
def Q0 (Z : State) (p1 : Int32) (p2 : Int32) (p3 : Int32) (p4 : Int32) (p5 : Int32) (h0 : Heap) (n0 : Nat) (v : Option Value) (h : Heap) (L : List Loc) : Prop := v = some (.int (1 : Int32)) ∧ Fr n0 L
set_option maxRecDepth 65536 in
set_option maxHeartbeats 40000000 in
theorem rm0 (l : Launch) (hl : l.stackTraces = true) (Z : State) (a0 : Array Value) (hw : ∀ d ∈ tables_1, d.before a0 Z = true) (ws : List Jvm.Cond) (p1 : Int32) (p2 : Int32) (p3 : Int32) (p4 : Int32) (p5 : Int32) (w1 w2 : Addr) (h0 : Heap) (n0 : Nat) (Z0 : n0 ≤ h0.size) (hZh : h0 = Z.heap) (S_UNASSIGNED_STACK : Sta Z h0 "java/lang/Throwable" "UNASSIGNED_STACK" "[Ljava/lang/StackTraceElement;" (.ref w1)) (S_SUPPRESSED_SENTINEL : Sta Z h0 "java/lang/Throwable" "SUPPRESSED_SENTINEL" "Ljava/util/List;" (.ref w2)) :
    MetFree l x (head1 (Jvm.Cond.code x code maxLocals ret :: ws) room_1) (fun a U => a = #[(.int p1), (.int p2), (.int p3), (.int p4), (.int p5)] ∧ Z.Warmed39 U.vm ∧ U.heap = h0) KnownK (fun _ U o U' => ∃ v L, o = .returned v ∧ Q0 Z p1 p2 p3 p4 p5 h0 n0 v U'.heap L ∧ ReturnedEndW U o U' L room_1.cells room_1.slots) := by
  refine MetFree.of_bodySF (plainFor_of_name pn_0) hisR ?_
  intro p e s m args below meth c s₁ Bd hml0 hP hK
  obtain ⟨rfl, hZ, hh⟩ := hP
  obtain ⟨hTK, hBelow⟩ := hK
  have wS := own_strs hw
  have hS0 : s.Since s.vm s.heap.size := (State.WarmedH.refl s).since _
  have hx := Bd.exec
  have hby := Bd.bytes
  have hml : c.maxLocals = 15 := hml0
  have hown : s.vm.findClass "com/example/rhadamanthus/rhadamanthus/core/SyntaxErrorLiesBeyondPinLaw" = some m.cls := findClass_of_methodNamed Bd.named
  have hnm := (name_of_methodNamed Bd.named Bd.method).1
  have X0 : Stand p l e room_1 s m #[(.int p1), (.int p2), (.int p3), (.int p4), (.int p5)] below meth c s₁ [] 0 0 := Stand.of_body Bd
  have e0 : s₁.heap = h0 := by rw [← hh, Bd.state]; rfl
  have N0 := Fr.nil n0
  have pre0 : ∀ t, Steps p.tables e below (s₁.setTop (mkF m 0 #[.val (.int p1), .val (.int p2), .val (.int p3), .val (.int p4), .val (.int p5), .unset, .unset, .unset, .unset, .unset, .unset, .unset, .unset, .unset, .unset] [])) t → Steps p.tables e below (s₁.setTop (entryFrame m #[(.int p1), (.int p2), (.int p3), (.int p4), (.int p5)] maxLocals)) t := fun t k => castTop (ef_0 m p1 p2 p3 p4 p5) k
  -- 3. LAWS
  -- pc 6: com/example/rhadamanthus/rhadamanthus/core/SyntaxErrorLiesBeyondPinLaw.near by its contract rm1
  obtain ⟨_, _, ⟨T6, L6, k6, n6⟩, -, X6, ⟨Lc6, hQ6, l6, y6, z6⟩, st6⟩ := Jvm.LawKit.callS X0 hx (y := (⟨"com/example/rhadamanthus/rhadamanthus/core/SyntaxErrorLiesBeyondPinLaw", "near", "(III)I"⟩ : MethodName)) hown (mvT hZ (hw _ (List.mem_of_getElem? (i := 0) rfl))) (mvT hZ (hw _ (List.mem_of_getElem? (i := 1) rfl))) (mvT hZ (hw _ (List.mem_of_getElem? (i := 2) rfl))) (mvT hZ (hw _ (List.mem_of_getElem? (i := 3) rfl))) (by decide) (backOf (W := 0) (rm1 l Z a0 hw [] p1 p3 (p5 &&& (3 : Int32)) h0 n0 Z0) hZ (hw _ (List.mem_of_getElem? (i := 3) rfl)) (hw _ (List.mem_of_getElem? (i := 2) rfl)) (by decide) (by decide)) (g := (mkF m 6 #[.val (.int p1), .val (.int p2), .val (.int p3), .val (.int p4), .val (.int p5), .unset, .unset, .unset, .unset, .unset, .unset, .unset, .unset, .unset, .unset] [(.int (p5 &&& (3 : Int32))), (.int p3), (.int p1)])) rfl (by rw [hml]; rfl) (argsL := [(.int p1), (.int p3), (.int (p5 &&& (3 : Int32)))]) (rest := []) (lenOf pd_0_0 rfl) rfl (by show 2 * 0 + _ ≤ _; exact Nat.le_of_eq rfl) (hb hby at_6) (fun _ _ => ⟨rfl, e0, (by decide : 0 + 0 ≤ _), (by decide : 0 + 0 ≤ _)⟩)
  dsimp only [Pt.U, Pt.locs, Pt.cells, Pt.slots] at X6 l6 y6 z6 st6 hQ6
  subst l6 y6 z6
  obtain ⟨rfl, N6q, hh6⟩ := hQ6
  have Kc6 : Keep h0 T6.heap [] := by rw [hh6]; exact Keep.refl _ _
  have N6 := Fr.app N0 N6q
  have K6 : Keep h0 T6.heap [] := (Keep.refl h0 []).trans Kc6 (fun x_ hx_ => absurd hx_ (by simp))
  -- pc 19: com/example/rhadamanthus/rhadamanthus/core/SyntaxErrorLiesBeyondPinLaw.near by its contract rm1
  obtain ⟨_, _, ⟨T7, L7, k7, n7⟩, -, X7, ⟨Lc7, hQ7, l7, y7, z7⟩, st7⟩ := Jvm.LawKit.callS X6 hx (y := (⟨"com/example/rhadamanthus/rhadamanthus/core/SyntaxErrorLiesBeyondPinLaw", "near", "(III)I"⟩ : MethodName)) hown (mvT hZ (hw _ (List.mem_of_getElem? (i := 0) rfl))) (mvT hZ (hw _ (List.mem_of_getElem? (i := 1) rfl))) (mvT hZ (hw _ (List.mem_of_getElem? (i := 2) rfl))) (mvT hZ (hw _ (List.mem_of_getElem? (i := 3) rfl))) (by decide) (backOf (W := 0) (rm1 l Z a0 hw [] p2 p4 ((p5 >>> ((2 : Int32) &&& 31)) &&& (3 : Int32)) T6.heap n0 (Nat.le_trans Z0 Kc6.1)) hZ (hw _ (List.mem_of_getElem? (i := 3) rfl)) (hw _ (List.mem_of_getElem? (i := 2) rfl)) (by decide) (by decide)) (g := (mkF m 19 #[.val (.int p1), .val (.int p2), .val (.int p3), .val (.int p4), .val (.int p5), .val (.int (own_f1 p1 p3 (p5 &&& (3 : Int32)))), .unset, .unset, .unset, .unset, .unset, .unset, .unset, .unset, .unset] [(.int ((p5 >>> ((2 : Int32) &&& 31)) &&& (3 : Int32))), (.int p4), (.int p2)])) rfl (by rw [hml]; rfl) (argsL := [(.int p2), (.int p4), (.int ((p5 >>> ((2 : Int32) &&& 31)) &&& (3 : Int32)))]) (rest := []) (lenOf pd_0_0 rfl) rfl (by show 2 * 0 + _ ≤ _; exact Nat.le_of_eq rfl) (hb hby at_19) (fun _ _ => ⟨rfl, rfl, (by decide : 0 + 0 ≤ _), (by decide : 0 + 0 ≤ _)⟩)
  dsimp only [Pt.U, Pt.locs, Pt.cells, Pt.slots] at X7 l7 y7 z7 st7 hQ7
  subst l7 y7 z7
  obtain ⟨rfl, N7q, hh7⟩ := hQ7
  have Kc7 : Keep T6.heap T7.heap [] := by rw [hh7]; exact Keep.refl _ _
  have N7 := Fr.app N6 N7q
  have K7 : Keep h0 T7.heap [] := K6.trans Kc7 (fun x_ hx_ => absurd hx_ (by simp))
  obtain ⟨T8, h8, X8, e8, E8, A8, D8, U8, st8⟩ := newO X7 hx hZ hown (hw _ (List.mem_of_getElem? (i := 4) rfl)) (hw _ (List.mem_of_getElem? (i := 5) rfl)) (hw _ (List.mem_of_getElem? (i := 6) rfl)) rfl (g := (mkF m 24 #[.val (.int p1), .val (.int p2), .val (.int p3), .val (.int p4), .val (.int p5), .val (.int (own_f1 p1 p3 (p5 &&& (3 : Int32)))), .val (.int (own_f1 p2 p4 ((p5 >>> ((2 : Int32) &&& 31)) &&& (3 : Int32)))), .unset, .unset, .unset, .unset, .unset, .unset, .unset, .unset] [])) rfl (hb hby at_24) (by decide) (by decide)
  obtain ⟨b8, g8⟩ : ∃ z, z = T7.heap.size := ⟨_, rfl⟩      -- the fresh object's address
  rw [← g8] at A8 D8 U8 st8      -- A8 : Exa Z h8 b8 "com/example/rhadamanthus/rhadamanthus/core/SyntaxError"; E8 : Ext T7.heap h8 (carries every older fact: .ext E8)
  have F_cause_b8 : Fld Z h8 b8 "java/lang/Throwable" "cause" "Ljava/lang/Throwable;" .null := D8 (Or.inl (hw _ (List.mem_of_getElem? (i := 33) rfl))) (ty := (.object "java/lang/Throwable")) (by decide)
  have F_stackTrace_b8 : Fld Z h8 b8 "java/lang/Throwable" "stackTrace" "[Ljava/lang/StackTraceElement;" .null := D8 (Or.inl (hw _ (List.mem_of_getElem? (i := 36) rfl))) (ty := (.array (.object "java/lang/StackTraceElement"))) (by decide)
  have F_suppressedExceptions_b8 : Fld Z h8 b8 "java/lang/Throwable" "suppressedExceptions" "Ljava/util/List;" .null := D8 (Or.inl (hw _ (List.mem_of_getElem? (i := 39) rfl))) (ty := (.object "java/util/List")) (by decide)
  have F_detailMessage_b8 : Fld Z h8 b8 "java/lang/Throwable" "detailMessage" "Ljava/lang/String;" .null := D8 (Or.inl (hw _ (List.mem_of_getElem? (i := 63) rfl))) (ty := (.object "java/lang/String")) (by decide)
  have F_backtrace_b8 : Fld Z h8 b8 "java/lang/Throwable" "backtrace" "Ljava/lang/Object;" .null := D8 (Or.inl (hw _ (List.mem_of_getElem? (i := 64) rfl))) (ty := (.object "java/lang/Object")) (by decide)
  have F_depth_b8 : Fld Z h8 b8 "java/lang/Throwable" "depth" "I" (.int (0 : Int32)) := D8 (Or.inl (hw _ (List.mem_of_getElem? (i := 65) rfl))) (ty := .int) (by decide)
  have F_line_b8 : Fld Z h8 b8 "com/example/rhadamanthus/rhadamanthus/core/SyntaxError" "line" "I" (.int (0 : Int32)) := D8 (Or.inr (hw _ (List.mem_of_getElem? (i := 69) rfl))) (ty := .int) (by decide)
  have F_column_b8 : Fld Z h8 b8 "com/example/rhadamanthus/rhadamanthus/core/SyntaxError" "column" "I" (.int (0 : Int32)) := D8 (Or.inr (hw _ (List.mem_of_getElem? (i := 71) rfl))) (ty := .int) (by decide)
  have E_b8 := A8
  have g_b8 : n0 ≤ b8 := Nat.le_trans (Nat.le_trans (Nat.le_trans Z0 Kc6.1) Kc7.1) (Nat.le_of_eq g8.symm)
  have sz_b8 : h0.size ≤ b8 := (Nat.le_trans K7.1 (Nat.le_of_eq g8.symm))
  have K8 : Keep h0 h8 [] := K7.ext E8
  obtain ⟨b9, T9, h9, kk9, X9, e9, E9, hS9, hk9, hZ, hown, st9⟩ := ldcS (s := s) (vm0 := s.vm) X8 hx hZ hown (hw _ (List.mem_of_getElem? (i := 7) rfl)) wS e8 hS0 (by rw [hh]; exact K8.1) (g := (mkF m 28 #[.val (.int p1), .val (.int p2), .val (.int p3), .val (.int p4), .val (.int p5), .val (.int (own_f1 p1 p3 (p5 &&& (3 : Int32)))), .val (.int (own_f1 p2 p4 ((p5 >>> ((2 : Int32) &&& 31)) &&& (3 : Int32)))), .unset, .unset, .unset, .unset, .unset, .unset, .unset, .unset] [(.ref b8), (.ref b8)])) rfl (hb hby at_28) (n := 4) (by decide) (by decide) (by decide) (by decide)
  have K9 : Keep h0 h9 [] := K8.ext E9
  -- pc 32: the constructor of com/example/rhadamanthus/rhadamanthus/core/SyntaxError by its contract rm2
  obtain ⟨_, _, ⟨T10, L10, k10, n10⟩, -, X10, ⟨Lc10, hQ10, l10, y10, z10⟩, st10⟩ := X9.specialBack hx (y := (⟨"com/example/rhadamanthus/rhadamanthus/core/SyntaxError", "<init>", "(Ljava/lang/String;II)V"⟩ : MethodName)) rfl hown (mvT hZ (hw _ (List.mem_of_getElem? (i := 15) rfl))) (mvT hZ (hw _ (List.mem_of_getElem? (i := 16) rfl))) (mvT hZ (hw _ (List.mem_of_getElem? (i := 17) rfl))) (by decide) (own_backK (Vm.MethodsKnown.alikeC hS9.1.alike hTK) (Vm.FramesKnown.alikeC hS9.1.alike hBelow) (W := 1) (rm2 l hl Z a0 hw [] b8 b9 p1 p2 _ _ _ _ _ _ _ _ h9 n0 (Nat.le_trans (Nat.le_trans (Nat.le_trans (Nat.le_trans Z0 Kc6.1) Kc7.1) E8.1) E9.1) (E_b8.ext E9) (F_cause_b8.ext E9) (F_stackTrace_b8.ext E9) (F_suppressedExceptions_b8.ext E9) (F_detailMessage_b8.ext E9) (F_backtrace_b8.ext E9) (Unt.ext E9 U8) (own_sta S_UNASSIGNED_STACK K9) (own_sta S_SUPPRESSED_SENTINEL K9) (own_keepZ hZh K9) g_b8 (F_line_b8.ext E9) (F_column_b8.ext E9)) hZ (hw _ (List.mem_of_getElem? (i := 17) rfl)) (hw _ (List.mem_of_getElem? (i := 6) rfl)) (by decide) (by decide)) (g := (mkF m 32 #[.val (.int p1), .val (.int p2), .val (.int p3), .val (.int p4), .val (.int p5), .val (.int (own_f1 p1 p3 (p5 &&& (3 : Int32)))), .val (.int (own_f1 p2 p4 ((p5 >>> ((2 : Int32) &&& 31)) &&& (3 : Int32)))), .unset, .unset, .unset, .unset, .unset, .unset, .unset, .unset] [(.int p2), (.int p1), (.ref b9), (.ref b8), (.ref b8)])) rfl (by rw [hml]; rfl) (Steps.refl _) (a := b8) (argsL := [(.ref b9), (.int p1), (.int p2)]) (rest := [(.ref b8)]) (lenOf pd_0_1 rfl) rfl (by show 2 * 0 + _ ≤ _; exact Nat.le_of_eq rfl) (hb hby at_32) (fun _ _ => ⟨rfl, e9, (by decide : 3 + 1 ≤ _), (by decide : 16 + 2752 ≤ _)⟩)
  dsimp only [Pt.U, Pt.locs, Pt.cells, Pt.slots] at X10 l10 y10 z10 st10 hQ10
  subst l10 y10 z10
  obtain ⟨rfl, N10q, Kc10, Et10, Fl10, Fc10⟩ := hQ10
  -- Kc10 : Keep h9 T10.heap [b8]
  have N10 := Fr.app N7 N10q
  have K10 : Keep h0 T10.heap [] := K9.trans Kc10 (fun x_ hx_ => by rw [List.mem_singleton.mp hx_]; exact Or.inr sz_b8)
  obtain ⟨T11, h11, X11, e11, E11, A11, D11, U11, st11⟩ := newO X10 hx hZ hown (hw _ (List.mem_of_getElem? (i := 4) rfl)) (hw _ (List.mem_of_getElem? (i := 5) rfl)) (hw _ (List.mem_of_getElem? (i := 6) rfl)) rfl (g := (mkF m 37 #[.val (.int p1), .val (.int p2), .val (.int p3), .val (.int p4), .val (.int p5), .val (.int (own_f1 p1 p3 (p5 &&& (3 : Int32)))), .val (.int (own_f1 p2 p4 ((p5 >>> ((2 : Int32) &&& 31)) &&& (3 : Int32)))), .val (.ref b8), .unset, .unset, .unset, .unset, .unset, .unset, .unset] [])) rfl (hb hby at_37) (by decide) (by decide)
  obtain ⟨b11, g11⟩ : ∃ z, z = T10.heap.size := ⟨_, rfl⟩      -- the fresh object's address
  rw [← g11] at A11 D11 U11 st11      -- A11 : Exa Z h11 b11 "com/example/rhadamanthus/rhadamanthus/core/SyntaxError"; E11 : Ext T10.heap h11 (carries every older fact: .ext E11)
  have F_cause_b11 : Fld Z h11 b11 "java/lang/Throwable" "cause" "Ljava/lang/Throwable;" .null := D11 (Or.inl (hw _ (List.mem_of_getElem? (i := 33) rfl))) (ty := (.object "java/lang/Throwable")) (by decide)
  have F_stackTrace_b11 : Fld Z h11 b11 "java/lang/Throwable" "stackTrace" "[Ljava/lang/StackTraceElement;" .null := D11 (Or.inl (hw _ (List.mem_of_getElem? (i := 36) rfl))) (ty := (.array (.object "java/lang/StackTraceElement"))) (by decide)
  have F_suppressedExceptions_b11 : Fld Z h11 b11 "java/lang/Throwable" "suppressedExceptions" "Ljava/util/List;" .null := D11 (Or.inl (hw _ (List.mem_of_getElem? (i := 39) rfl))) (ty := (.object "java/util/List")) (by decide)
  have F_detailMessage_b11 : Fld Z h11 b11 "java/lang/Throwable" "detailMessage" "Ljava/lang/String;" .null := D11 (Or.inl (hw _ (List.mem_of_getElem? (i := 63) rfl))) (ty := (.object "java/lang/String")) (by decide)
  have F_backtrace_b11 : Fld Z h11 b11 "java/lang/Throwable" "backtrace" "Ljava/lang/Object;" .null := D11 (Or.inl (hw _ (List.mem_of_getElem? (i := 64) rfl))) (ty := (.object "java/lang/Object")) (by decide)
  have F_depth_b11 : Fld Z h11 b11 "java/lang/Throwable" "depth" "I" (.int (0 : Int32)) := D11 (Or.inl (hw _ (List.mem_of_getElem? (i := 65) rfl))) (ty := .int) (by decide)
  have F_line_b11 : Fld Z h11 b11 "com/example/rhadamanthus/rhadamanthus/core/SyntaxError" "line" "I" (.int (0 : Int32)) := D11 (Or.inr (hw _ (List.mem_of_getElem? (i := 69) rfl))) (ty := .int) (by decide)
  have F_column_b11 : Fld Z h11 b11 "com/example/rhadamanthus/rhadamanthus/core/SyntaxError" "column" "I" (.int (0 : Int32)) := D11 (Or.inr (hw _ (List.mem_of_getElem? (i := 71) rfl))) (ty := .int) (by decide)
  have E_b11 := A11
  have g_b11 : n0 ≤ b11 := Nat.le_trans (Nat.le_trans (Nat.le_trans (Nat.le_trans (Nat.le_trans (Nat.le_trans Z0 Kc6.1) Kc7.1) E8.1) E9.1) Kc10.1) (Nat.le_of_eq g11.symm)
  have sz_b11 : h0.size ≤ b11 := (Nat.le_trans K10.1 (Nat.le_of_eq g11.symm))
  have K11 : Keep h0 h11 [] := K10.ext E11
  obtain ⟨b12, T12, h12, kk12, X12, e12, E12, hS12, hk12, hZ, hown, st12⟩ := ldcS (s := s) (vm0 := T9.vm) X11 hx hZ hown (hw _ (List.mem_of_getElem? (i := 72) rfl)) wS e11 hS9 (Nat.le_trans hk9 (Nat.le_trans Kc10.1 E11.1)) (g := (mkF m 41 #[.val (.int p1), .val (.int p2), .val (.int p3), .val (.int p4), .val (.int p5), .val (.int (own_f1 p1 p3 (p5 &&& (3 : Int32)))), .val (.int (own_f1 p2 p4 ((p5 >>> ((2 : Int32) &&& 31)) &&& (3 : Int32)))), .val (.ref b8), .unset, .unset, .unset, .unset, .unset, .unset, .unset] [(.ref b11), (.ref b11)])) rfl (hb hby at_41) (n := 4) (by decide) (by decide) (by decide) (by decide)
  have K12 : Keep h0 h12 [] := K11.ext E12
  -- pc 47: the constructor of com/example/rhadamanthus/rhadamanthus/core/SyntaxError by its contract rm2
  obtain ⟨_, _, ⟨T13, L13, k13, n13⟩, -, X13, ⟨Lc13, hQ13, l13, y13, z13⟩, st13⟩ := X12.specialBack hx (y := (⟨"com/example/rhadamanthus/rhadamanthus/core/SyntaxError", "<init>", "(Ljava/lang/String;II)V"⟩ : MethodName)) rfl hown (mvT hZ (hw _ (List.mem_of_getElem? (i := 15) rfl))) (mvT hZ (hw _ (List.mem_of_getElem? (i := 16) rfl))) (mvT hZ (hw _ (List.mem_of_getElem? (i := 17) rfl))) (by decide) (own_backK (Vm.MethodsKnown.alikeC hS12.1.alike hTK) (Vm.FramesKnown.alikeC hS12.1.alike hBelow) (W := 1) (rm2 l hl Z a0 hw [] b11 b12 (own_f1 p1 p3 (p5 &&& (3 : Int32))) (own_f1 p2 p4 ((p5 >>> ((2 : Int32) &&& 31)) &&& (3 : Int32))) _ _ _ _ _ _ _ _ h12 n0 (Nat.le_trans (Nat.le_trans (Nat.le_trans (Nat.le_trans (Nat.le_trans (Nat.le_trans (Nat.le_trans Z0 Kc6.1) Kc7.1) E8.1) E9.1) Kc10.1) E11.1) E12.1) (E_b11.ext E12) (F_cause_b11.ext E12) (F_stackTrace_b11.ext E12) (F_suppressedExceptions_b11.ext E12) (F_detailMessage_b11.ext E12) (F_backtrace_b11.ext E12) (Unt.ext E12 U11) (own_sta S_UNASSIGNED_STACK K12) (own_sta S_SUPPRESSED_SENTINEL K12) (own_keepZ hZh K12) g_b11 (F_line_b11.ext E12) (F_column_b11.ext E12)) hZ (hw _ (List.mem_of_getElem? (i := 17) rfl)) (hw _ (List.mem_of_getElem? (i := 6) rfl)) (by decide) (by decide)) (g := (mkF m 47 #[.val (.int p1), .val (.int p2), .val (.int p3), .val (.int p4), .val (.int p5), .val (.int (own_f1 p1 p3 (p5 &&& (3 : Int32)))), .val (.int (own_f1 p2 p4 ((p5 >>> ((2 : Int32) &&& 31)) &&& (3 : Int32)))), .val (.ref b8), .unset, .unset, .unset, .unset, .unset, .unset, .unset] [(.int (own_f1 p2 p4 ((p5 >>> ((2 : Int32) &&& 31)) &&& (3 : Int32)))), (.int (own_f1 p1 p3 (p5 &&& (3 : Int32)))), (.ref b12), (.ref b11), (.ref b11)])) rfl (by rw [hml]; rfl) (Steps.refl _) (a := b11) (argsL := [(.ref b12), (.int (own_f1 p1 p3 (p5 &&& (3 : Int32)))), (.int (own_f1 p2 p4 ((p5 >>> ((2 : Int32) &&& 31)) &&& (3 : Int32))))]) (rest := [(.ref b11)]) (lenOf pd_0_1 rfl) rfl (by show 2 * 0 + _ ≤ _; exact Nat.le_of_eq rfl) (hb hby at_47) (fun _ _ => ⟨rfl, e12, (by decide : 7 + 1 ≤ _), (by decide : 2784 + 2752 ≤ _)⟩)
  dsimp only [Pt.U, Pt.locs, Pt.cells, Pt.slots] at X13 l13 y13 z13 st13 hQ13
  subst l13 y13 z13
  obtain ⟨rfl, N13q, Kc13, Et13, Fl13, Fc13⟩ := hQ13
  -- Kc13 : Keep h12 T13.heap [b11]
  have N13 := Fr.app N10 N13q
  have K13 : Keep h0 T13.heap [] := K12.trans Kc13 (fun x_ hx_ => by rw [List.mem_singleton.mp hx_]; exact Or.inr sz_b11)
  -- pc 54: com/example/rhadamanthus/rhadamanthus/core/SyntaxErrorLiesBeyondPinLaw.key by its contract rm8
  obtain ⟨_, _, ⟨T14, L14, k14, n14⟩, -, X14, ⟨Lc14, hQ14, l14, y14, z14⟩, st14⟩ := Jvm.LawKit.callS X13 hx (y := (⟨"com/example/rhadamanthus/rhadamanthus/core/SyntaxErrorLiesBeyondPinLaw", "key", "(II)J"⟩ : MethodName)) hown (mvT hZ (hw _ (List.mem_of_getElem? (i := 73) rfl))) (mvT hZ (hw _ (List.mem_of_getElem? (i := 74) rfl))) (mvT hZ (hw _ (List.mem_of_getElem? (i := 2) rfl))) (mvT hZ (hw _ (List.mem_of_getElem? (i := 75) rfl))) (by decide) (backOf (W := 0) (rm8 l Z a0 hw [] p1 p2 T13.heap n0 (Nat.le_trans (Nat.le_trans (Nat.le_trans (Nat.le_trans (Nat.le_trans (Nat.le_trans (Nat.le_trans (Nat.le_trans Z0 Kc6.1) Kc7.1) E8.1) E9.1) Kc10.1) E11.1) E12.1) Kc13.1)) hZ (hw _ (List.mem_of_getElem? (i := 75) rfl)) (hw _ (List.mem_of_getElem? (i := 2) rfl)) (by decide) (by decide)) (g := (mkF m 54 #[.val (.int p1), .val (.int p2), .val (.int p3), .val (.int p4), .val (.int p5), .val (.int (own_f1 p1 p3 (p5 &&& (3 : Int32)))), .val (.int (own_f1 p2 p4 ((p5 >>> ((2 : Int32) &&& 31)) &&& (3 : Int32)))), .val (.ref b8), .val (.ref b11), .unset, .unset, .unset, .unset, .unset, .unset] [(.int p2), (.int p1)])) rfl (by rw [hml]; rfl) (argsL := [(.int p1), (.int p2)]) (rest := []) (lenOf pd_0_6 rfl) rfl (by show 2 * 0 + _ ≤ _; exact Nat.le_of_eq rfl) (hb hby at_54) (fun _ _ => ⟨rfl, rfl, (by decide : 8 + 0 ≤ _), (by decide : 5536 + 0 ≤ _)⟩)
  dsimp only [Pt.U, Pt.locs, Pt.cells, Pt.slots] at X14 l14 y14 z14 st14 hQ14
  subst l14 y14 z14
  obtain ⟨rfl, N14q, hh14⟩ := hQ14
  have Kc14 : Keep T13.heap T14.heap [] := by rw [hh14]; exact Keep.refl _ _
  have N14 := Fr.app N13 N14q
  have K14 : Keep h0 T14.heap [] := K13.trans Kc14 (fun x_ hx_ => absurd hx_ (by simp))
  -- pc 63: com/example/rhadamanthus/rhadamanthus/core/SyntaxErrorLiesBeyondPinLaw.key by its contract rm8
  obtain ⟨_, _, ⟨T15, L15, k15, n15⟩, -, X15, ⟨Lc15, hQ15, l15, y15, z15⟩, st15⟩ := Jvm.LawKit.callS X14 hx (y := (⟨"com/example/rhadamanthus/rhadamanthus/core/SyntaxErrorLiesBeyondPinLaw", "key", "(II)J"⟩ : MethodName)) hown (mvT hZ (hw _ (List.mem_of_getElem? (i := 73) rfl))) (mvT hZ (hw _ (List.mem_of_getElem? (i := 74) rfl))) (mvT hZ (hw _ (List.mem_of_getElem? (i := 2) rfl))) (mvT hZ (hw _ (List.mem_of_getElem? (i := 75) rfl))) (by decide) (backOf (W := 0) (rm8 l Z a0 hw [] (own_f1 p1 p3 (p5 &&& (3 : Int32))) (own_f1 p2 p4 ((p5 >>> ((2 : Int32) &&& 31)) &&& (3 : Int32))) T14.heap n0 (Nat.le_trans (Nat.le_trans (Nat.le_trans (Nat.le_trans (Nat.le_trans (Nat.le_trans (Nat.le_trans (Nat.le_trans (Nat.le_trans Z0 Kc6.1) Kc7.1) E8.1) E9.1) Kc10.1) E11.1) E12.1) Kc13.1) Kc14.1)) hZ (hw _ (List.mem_of_getElem? (i := 75) rfl)) (hw _ (List.mem_of_getElem? (i := 2) rfl)) (by decide) (by decide)) (g := (mkF m 63 #[.val (.int p1), .val (.int p2), .val (.int p3), .val (.int p4), .val (.int p5), .val (.int (own_f1 p1 p3 (p5 &&& (3 : Int32)))), .val (.int (own_f1 p2 p4 ((p5 >>> ((2 : Int32) &&& 31)) &&& (3 : Int32)))), .val (.ref b8), .val (.ref b11), .val (.long (own_key p1 p2)), .second, .unset, .unset, .unset, .unset] [(.int (own_f1 p2 p4 ((p5 >>> ((2 : Int32) &&& 31)) &&& (3 : Int32)))), (.int (own_f1 p1 p3 (p5 &&& (3 : Int32))))])) rfl (by rw [hml]; rfl) (argsL := [(.int (own_f1 p1 p3 (p5 &&& (3 : Int32)))), (.int (own_f1 p2 p4 ((p5 >>> ((2 : Int32) &&& 31)) &&& (3 : Int32))))]) (rest := []) (lenOf pd_0_6 rfl) rfl (by show 2 * 0 + _ ≤ _; exact Nat.le_of_eq rfl) (hb hby at_63) (fun _ _ => ⟨rfl, rfl, (by decide : 8 + 0 ≤ _), (by decide : 5536 + 0 ≤ _)⟩)
  dsimp only [Pt.U, Pt.locs, Pt.cells, Pt.slots] at X15 l15 y15 z15 st15 hQ15
  subst l15 y15 z15
  obtain ⟨rfl, N15q, hh15⟩ := hQ15
  have Kc15 : Keep T14.heap T15.heap [] := by rw [hh15]; exact Keep.refl _ _
  have N15 := Fr.app N14 N15q
  have K15 : Keep h0 T15.heap [] := K14.trans Kc15 (fun x_ hx_ => absurd hx_ (by simp))
  -- pc 72: com/example/rhadamanthus/rhadamanthus/core/SyntaxError.liesBeyond by the contract of the body that the receiver's class selects, rm9
  obtain ⟨cq16, kq16, q16a, q16b, q16c⟩ := isOf hZ rfl (((((Et10.ext E11).ext E12).keep Kc13).keep Kc14).keep Kc15)
  obtain ⟨_, _, ⟨T16, L16, k16, n16⟩, -, X16, ⟨Lc16, hQ16, l16, y16, z16⟩, st16⟩ := X15.virtualBack hx (y := (⟨"com/example/rhadamanthus/rhadamanthus/core/SyntaxError", "liesBeyond", "(Lcom/example/rhadamanthus/rhadamanthus/core/SyntaxError;)Z"⟩ : MethodName)) (z := (⟨"com/example/rhadamanthus/rhadamanthus/core/SyntaxError", "liesBeyond", "(Lcom/example/rhadamanthus/rhadamanthus/core/SyntaxError;)Z"⟩ : MethodName)) hown (mvT hZ (hw _ (List.mem_of_getElem? (i := 78) rfl))) (mvT hZ (hw _ (List.mem_of_getElem? (i := 79) rfl))) (notFace_of_selects (args := #[]) (mvT hZ (hw _ (List.mem_of_getElem? (i := 81) rfl)))) (mvT hZ (hw _ (List.mem_of_getElem? (i := 81) rfl))) (mvT hZ (hw _ (List.mem_of_getElem? (i := 80) rfl))) (by decide) (backOf (W := 0) (rm9 l Z a0 hw [] b8 b11 p1 (own_f1 p1 p3 (p5 &&& (3 : Int32))) p2 (own_f1 p2 p4 ((p5 >>> ((2 : Int32) &&& 31)) &&& (3 : Int32))) T15.heap n0 (Nat.le_trans (Nat.le_trans (Nat.le_trans (Nat.le_trans (Nat.le_trans (Nat.le_trans (Nat.le_trans (Nat.le_trans (Nat.le_trans (Nat.le_trans Z0 Kc6.1) Kc7.1) E8.1) E9.1) Kc10.1) E11.1) E12.1) Kc13.1) Kc14.1) Kc15.1) (((((Fl10.ext E11).ext E12).keep Kc13 (fun q_ => (Nat.ne_of_lt (Nat.lt_of_lt_of_le Et10.lt (Nat.le_of_eq g11.symm))) (List.mem_singleton.mp q_))).keep Kc14 (by simp)).keep Kc15 (by simp)) ((Fl13.keep Kc14 (by simp)).keep Kc15 (by simp)) (((((Fc10.ext E11).ext E12).keep Kc13 (fun q_ => (Nat.ne_of_lt (Nat.lt_of_lt_of_le Et10.lt (Nat.le_of_eq g11.symm))) (List.mem_singleton.mp q_))).keep Kc14 (by simp)).keep Kc15 (by simp)) ((Fc13.keep Kc14 (by simp)).keep Kc15 (by simp))) hZ (hw _ (List.mem_of_getElem? (i := 82) rfl)) (hw _ (List.mem_of_getElem? (i := 6) rfl)) (by decide) (by decide)) q16a q16c (g := (mkF m 72 #[.val (.int p1), .val (.int p2), .val (.int p3), .val (.int p4), .val (.int p5), .val (.int (own_f1 p1 p3 (p5 &&& (3 : Int32)))), .val (.int (own_f1 p2 p4 ((p5 >>> ((2 : Int32) &&& 31)) &&& (3 : Int32)))), .val (.ref b8), .val (.ref b11), .val (.long (own_key p1 p2)), .second, .val (.long (own_key (own_f1 p1 p3 (p5 &&& (3 : Int32))) (own_f1 p2 p4 ((p5 >>> ((2 : Int32) &&& 31)) &&& (3 : Int32))))), .second, .unset, .unset] [(.ref b11), (.ref b8)])) rfl (by rw [hml]; rfl) (Steps.refl _) (argsL := [(.ref b11)]) (rest := []) (lenOf pd_0_7 rfl) rfl (by show 2 * 0 + _ ≤ _; exact Nat.le_of_eq rfl) (hb hby at_72) (fun _ _ => ⟨rfl, rfl, (by decide : 8 + 0 ≤ _), (by decide : 5536 + 0 ≤ _)⟩)
  dsimp only [Pt.U, Pt.locs, Pt.cells, Pt.slots] at X16 l16 y16 z16 st16 hQ16
  subst l16 y16 z16
  obtain ⟨rfl, N16q, hh16⟩ := hQ16
  have Kc16 : Keep T15.heap T16.heap [] := by rw [hh16]; exact Keep.refl _ _
  have N16 := Fr.app N15 N16q
  have K16 : Keep h0 T16.heap [] := K15.trans Kc16 (fun x_ hx_ => absurd hx_ (by simp))
  -- pc 81: com/example/rhadamanthus/rhadamanthus/core/SyntaxError.liesBeyond by the contract of the body that the receiver's class selects, rm9
  obtain ⟨cq17, kq17, q17a, q17b, q17c⟩ := isOf hZ rfl (((Et13.keep Kc14).keep Kc15).keep Kc16)
  obtain ⟨_, _, ⟨T17, L17, k17, n17⟩, -, X17, ⟨Lc17, hQ17, l17, y17, z17⟩, st17⟩ := X16.virtualBack hx (y := (⟨"com/example/rhadamanthus/rhadamanthus/core/SyntaxError", "liesBeyond", "(Lcom/example/rhadamanthus/rhadamanthus/core/SyntaxError;)Z"⟩ : MethodName)) (z := (⟨"com/example/rhadamanthus/rhadamanthus/core/SyntaxError", "liesBeyond", "(Lcom/example/rhadamanthus/rhadamanthus/core/SyntaxError;)Z"⟩ : MethodName)) hown (mvT hZ (hw _ (List.mem_of_getElem? (i := 78) rfl))) (mvT hZ (hw _ (List.mem_of_getElem? (i := 79) rfl))) (notFace_of_selects (args := #[]) (mvT hZ (hw _ (List.mem_of_getElem? (i := 81) rfl)))) (mvT hZ (hw _ (List.mem_of_getElem? (i := 81) rfl))) (mvT hZ (hw _ (List.mem_of_getElem? (i := 80) rfl))) (by decide) (backOf (W := 0) (rm9 l Z a0 hw [] b11 b8 (own_f1 p1 p3 (p5 &&& (3 : Int32))) p1 (own_f1 p2 p4 ((p5 >>> ((2 : Int32) &&& 31)) &&& (3 : Int32))) p2 T16.heap n0 (Nat.le_trans (Nat.le_trans (Nat.le_trans (Nat.le_trans (Nat.le_trans (Nat.le_trans (Nat.le_trans (Nat.le_trans (Nat.le_trans (Nat.le_trans (Nat.le_trans Z0 Kc6.1) Kc7.1) E8.1) E9.1) Kc10.1) E11.1) E12.1) Kc13.1) Kc14.1) Kc15.1) Kc16.1) (((Fl13.keep Kc14 (by simp)).keep Kc15 (by simp)).keep Kc16 (by simp)) ((((((Fl10.ext E11).ext E12).keep Kc13 (fun q_ => (Nat.ne_of_lt (Nat.lt_of_lt_of_le Et10.lt (Nat.le_of_eq g11.symm))) (List.mem_singleton.mp q_))).keep Kc14 (by simp)).keep Kc15 (by simp)).keep Kc16 (by simp)) (((Fc13.keep Kc14 (by simp)).keep Kc15 (by simp)).keep Kc16 (by simp)) ((((((Fc10.ext E11).ext E12).keep Kc13 (fun q_ => (Nat.ne_of_lt (Nat.lt_of_lt_of_le Et10.lt (Nat.le_of_eq g11.symm))) (List.mem_singleton.mp q_))).keep Kc14 (by simp)).keep Kc15 (by simp)).keep Kc16 (by simp))) hZ (hw _ (List.mem_of_getElem? (i := 82) rfl)) (hw _ (List.mem_of_getElem? (i := 6) rfl)) (by decide) (by decide)) q17a q17c (g := (mkF m 81 #[.val (.int p1), .val (.int p2), .val (.int p3), .val (.int p4), .val (.int p5), .val (.int (own_f1 p1 p3 (p5 &&& (3 : Int32)))), .val (.int (own_f1 p2 p4 ((p5 >>> ((2 : Int32) &&& 31)) &&& (3 : Int32)))), .val (.ref b8), .val (.ref b11), .val (.long (own_key p1 p2)), .second, .val (.long (own_key (own_f1 p1 p3 (p5 &&& (3 : Int32))) (own_f1 p2 p4 ((p5 >>> ((2 : Int32) &&& 31)) &&& (3 : Int32))))), .second, .val (.int (own_f9 p1 (own_f1 p1 p3 (p5 &&& (3 : Int32))) p2 (own_f1 p2 p4 ((p5 >>> ((2 : Int32) &&& 31)) &&& (3 : Int32))))), .unset] [(.ref b8), (.ref b11)])) rfl (by rw [hml]; rfl) (Steps.refl _) (argsL := [(.ref b8)]) (rest := []) (lenOf pd_0_7 rfl) rfl (by show 2 * 0 + _ ≤ _; exact Nat.le_of_eq rfl) (hb hby at_81) (fun _ _ => ⟨rfl, rfl, (by decide : 8 + 0 ≤ _), (by decide : 5536 + 0 ≤ _)⟩)
  dsimp only [Pt.U, Pt.locs, Pt.cells, Pt.slots] at X17 l17 y17 z17 st17 hQ17
  subst l17 y17 z17
  obtain ⟨rfl, N17q, hh17⟩ := hQ17
  have Kc17 : Keep T16.heap T17.heap [] := by rw [hh17]; exact Keep.refl _ _
  have N17 := Fr.app N16 N17q
  have K17 : Keep h0 T17.heap [] := K16.trans Kc17 (fun x_ hx_ => absurd hx_ (by simp))
  have fork93 : ∀ target, Steps p.tables e below (T17.setTop (mkF m 101 #[.val (.int p1), .val (.int p2), .val (.int p3), .val (.int p4), .val (.int p5), .val (.int (own_f1 p1 p3 (p5 &&& (3 : Int32)))), .val (.int (own_f1 p2 p4 ((p5 >>> ((2 : Int32) &&& 31)) &&& (3 : Int32)))), .val (.ref b8), .val (.ref b11), .val (.long (own_key p1 p2)), .second, .val (.long (own_key (own_f1 p1 p3 (p5 &&& (3 : Int32))) (own_f1 p2 p4 ((p5 >>> ((2 : Int32) &&& 31)) &&& (3 : Int32))))), .second, .val (.int (own_f9 p1 (own_f1 p1 p3 (p5 &&& (3 : Int32))) p2 (own_f1 p2 p4 ((p5 >>> ((2 : Int32) &&& 31)) &&& (3 : Int32))))), .val (.int (own_f9 (own_f1 p1 p3 (p5 &&& (3 : Int32))) p1 (own_f1 p2 p4 ((p5 >>> ((2 : Int32) &&& 31)) &&& (3 : Int32))) p2))] [(.int (own_g (own_key p1 p2) (own_key (own_f1 p1 p3 (p5 &&& (3 : Int32))) (own_f1 p2 p4 ((p5 >>> ((2 : Int32) &&& 31)) &&& (3 : Int32)))))), (.int (own_f9 p1 (own_f1 p1 p3 (p5 &&& (3 : Int32))) p2 (own_f1 p2 p4 ((p5 >>> ((2 : Int32) &&& 31)) &&& (3 : Int32)))))])) target → Steps p.tables e below (T17.setTop (mkF m 93 #[.val (.int p1), .val (.int p2), .val (.int p3), .val (.int p4), .val (.int p5), .val (.int (own_f1 p1 p3 (p5 &&& (3 : Int32)))), .val (.int (own_f1 p2 p4 ((p5 >>> ((2 : Int32) &&& 31)) &&& (3 : Int32)))), .val (.ref b8), .val (.ref b11), .val (.long (own_key p1 p2)), .second, .val (.long (own_key (own_f1 p1 p3 (p5 &&& (3 : Int32))) (own_f1 p2 p4 ((p5 >>> ((2 : Int32) &&& 31)) &&& (3 : Int32))))), .second, .val (.int (own_f9 p1 (own_f1 p1 p3 (p5 &&& (3 : Int32))) p2 (own_f1 p2 p4 ((p5 >>> ((2 : Int32) &&& 31)) &&& (3 : Int32))))), .val (.int (own_f9 (own_f1 p1 p3 (p5 &&& (3 : Int32))) p1 (own_f1 p2 p4 ((p5 >>> ((2 : Int32) &&& 31)) &&& (3 : Int32))) p2))] [(.int (lcmpW (own_key p1 p2) (own_key (own_f1 p1 p3 (p5 &&& (3 : Int32))) (own_f1 p2 p4 ((p5 >>> ((2 : Int32) &&& 31)) &&& (3 : Int32)))))), (.int (own_f9 p1 (own_f1 p1 p3 (p5 &&& (3 : Int32))) p2 (own_f1 p2 p4 ((p5 >>> ((2 : Int32) &&& 31)) &&& (3 : Int32)))))])) target := by
    intro target kt
    by_cases hc93 : (0 : Int32) < (lcmpW (own_key p1 p2) (own_key (own_f1 p1 p3 (p5 &&& (3 : Int32))) (own_f1 p2 p4 ((p5 >>> ((2 : Int32) &&& 31)) &&& (3 : Int32)))))
    · refine XS.ifNo X17.here hx rfl (hb hby at_93) rfl ((if0 _ _).trans (tlt hc93).2.2.2) ?_
      show Steps p.tables e below (T17.setTop (mkF m 96 #[.val (.int p1), .val (.int p2), .val (.int p3), .val (.int p4), .val (.int p5), .val (.int (own_f1 p1 p3 (p5 &&& (3 : Int32)))), .val (.int (own_f1 p2 p4 ((p5 >>> ((2 : Int32) &&& 31)) &&& (3 : Int32)))), .val (.ref b8), .val (.ref b11), .val (.long (own_key p1 p2)), .second, .val (.long (own_key (own_f1 p1 p3 (p5 &&& (3 : Int32))) (own_f1 p2 p4 ((p5 >>> ((2 : Int32) &&& 31)) &&& (3 : Int32))))), .second, .val (.int (own_f9 p1 (own_f1 p1 p3 (p5 &&& (3 : Int32))) p2 (own_f1 p2 p4 ((p5 >>> ((2 : Int32) &&& 31)) &&& (3 : Int32))))), .val (.int (own_f9 (own_f1 p1 p3 (p5 &&& (3 : Int32))) p1 (own_f1 p2 p4 ((p5 >>> ((2 : Int32) &&& 31)) &&& (3 : Int32))) p2))] [(.int (own_f9 p1 (own_f1 p1 p3 (p5 &&& (3 : Int32))) p2 (own_f1 p2 p4 ((p5 >>> ((2 : Int32) &&& 31)) &&& (3 : Int32)))))])) _
      refine XS.iconst X17.here hx rfl (hb hby at_96) ?_
      show Steps p.tables e below (T17.setTop (mkF m 97 #[.val (.int p1), .val (.int p2), .val (.int p3), .val (.int p4), .val (.int p5), .val (.int (own_f1 p1 p3 (p5 &&& (3 : Int32)))), .val (.int (own_f1 p2 p4 ((p5 >>> ((2 : Int32) &&& 31)) &&& (3 : Int32)))), .val (.ref b8), .val (.ref b11), .val (.long (own_key p1 p2)), .second, .val (.long (own_key (own_f1 p1 p3 (p5 &&& (3 : Int32))) (own_f1 p2 p4 ((p5 >>> ((2 : Int32) &&& 31)) &&& (3 : Int32))))), .second, .val (.int (own_f9 p1 (own_f1 p1 p3 (p5 &&& (3 : Int32))) p2 (own_f1 p2 p4 ((p5 >>> ((2 : Int32) &&& 31)) &&& (3 : Int32))))), .val (.int (own_f9 (own_f1 p1 p3 (p5 &&& (3 : Int32))) p1 (own_f1 p2 p4 ((p5 >>> ((2 : Int32) &&& 31)) &&& (3 : Int32))) p2))] [(.int (1 : Int32)), (.int (own_f9 p1 (own_f1 p1 p3 (p5 &&& (3 : Int32))) p2 (own_f1 p2 p4 ((p5 >>> ((2 : Int32) &&& 31)) &&& (3 : Int32)))))])) _
      refine XS.goto X17.here hx rfl (pc0 := 97) (pc' := 101) rfl (hb hby at_97) (by decide) (by decide) ?_
      have hv : own_g (own_key p1 p2) (own_key (own_f1 p1 p3 (p5 &&& (3 : Int32))) (own_f1 p2 p4 ((p5 >>> ((2 : Int32) &&& 31)) &&& (3 : Int32)))) = (1 : Int32) := by simp only [own_g, if_pos hc93]
      rw [hv] at kt
      exact kt
    · refine XS.ifYes X17.here hx rfl (pc0 := 93) (pc' := 100) rfl (hb hby at_93) rfl ((if0 _ _).trans (flt hc93).2.2.2) (by decide) (by decide) ?_
      show Steps p.tables e below (T17.setTop (mkF m 100 #[.val (.int p1), .val (.int p2), .val (.int p3), .val (.int p4), .val (.int p5), .val (.int (own_f1 p1 p3 (p5 &&& (3 : Int32)))), .val (.int (own_f1 p2 p4 ((p5 >>> ((2 : Int32) &&& 31)) &&& (3 : Int32)))), .val (.ref b8), .val (.ref b11), .val (.long (own_key p1 p2)), .second, .val (.long (own_key (own_f1 p1 p3 (p5 &&& (3 : Int32))) (own_f1 p2 p4 ((p5 >>> ((2 : Int32) &&& 31)) &&& (3 : Int32))))), .second, .val (.int (own_f9 p1 (own_f1 p1 p3 (p5 &&& (3 : Int32))) p2 (own_f1 p2 p4 ((p5 >>> ((2 : Int32) &&& 31)) &&& (3 : Int32))))), .val (.int (own_f9 (own_f1 p1 p3 (p5 &&& (3 : Int32))) p1 (own_f1 p2 p4 ((p5 >>> ((2 : Int32) &&& 31)) &&& (3 : Int32))) p2))] [(.int (own_f9 p1 (own_f1 p1 p3 (p5 &&& (3 : Int32))) p2 (own_f1 p2 p4 ((p5 >>> ((2 : Int32) &&& 31)) &&& (3 : Int32)))))])) _
      refine XS.iconst X17.here hx rfl (hb hby at_100) ?_
      have hv : own_g (own_key p1 p2) (own_key (own_f1 p1 p3 (p5 &&& (3 : Int32))) (own_f1 p2 p4 ((p5 >>> ((2 : Int32) &&& 31)) &&& (3 : Int32)))) = (0 : Int32) := by simp only [own_g, if_neg hc93]
      rw [hv] at kt
      exact kt
  have fork111 : ∀ target, Steps p.tables e below (T17.setTop (mkF m 119 #[.val (.int p1), .val (.int p2), .val (.int p3), .val (.int p4), .val (.int p5), .val (.int (own_f1 p1 p3 (p5 &&& (3 : Int32)))), .val (.int (own_f1 p2 p4 ((p5 >>> ((2 : Int32) &&& 31)) &&& (3 : Int32)))), .val (.ref b8), .val (.ref b11), .val (.long (own_key p1 p2)), .second, .val (.long (own_key (own_f1 p1 p3 (p5 &&& (3 : Int32))) (own_f1 p2 p4 ((p5 >>> ((2 : Int32) &&& 31)) &&& (3 : Int32))))), .second, .val (.int (own_f9 p1 (own_f1 p1 p3 (p5 &&& (3 : Int32))) p2 (own_f1 p2 p4 ((p5 >>> ((2 : Int32) &&& 31)) &&& (3 : Int32))))), .val (.int (own_f9 (own_f1 p1 p3 (p5 &&& (3 : Int32))) p1 (own_f1 p2 p4 ((p5 >>> ((2 : Int32) &&& 31)) &&& (3 : Int32))) p2))] [(.int (own_g (own_key (own_f1 p1 p3 (p5 &&& (3 : Int32))) (own_f1 p2 p4 ((p5 >>> ((2 : Int32) &&& 31)) &&& (3 : Int32)))) (own_key p1 p2))), (.int (own_f9 (own_f1 p1 p3 (p5 &&& (3 : Int32))) p1 (own_f1 p2 p4 ((p5 >>> ((2 : Int32) &&& 31)) &&& (3 : Int32))) p2))])) target → Steps p.tables e below (T17.setTop (mkF m 111 #[.val (.int p1), .val (.int p2), .val (.int p3), .val (.int p4), .val (.int p5), .val (.int (own_f1 p1 p3 (p5 &&& (3 : Int32)))), .val (.int (own_f1 p2 p4 ((p5 >>> ((2 : Int32) &&& 31)) &&& (3 : Int32)))), .val (.ref b8), .val (.ref b11), .val (.long (own_key p1 p2)), .second, .val (.long (own_key (own_f1 p1 p3 (p5 &&& (3 : Int32))) (own_f1 p2 p4 ((p5 >>> ((2 : Int32) &&& 31)) &&& (3 : Int32))))), .second, .val (.int (own_f9 p1 (own_f1 p1 p3 (p5 &&& (3 : Int32))) p2 (own_f1 p2 p4 ((p5 >>> ((2 : Int32) &&& 31)) &&& (3 : Int32))))), .val (.int (own_f9 (own_f1 p1 p3 (p5 &&& (3 : Int32))) p1 (own_f1 p2 p4 ((p5 >>> ((2 : Int32) &&& 31)) &&& (3 : Int32))) p2))] [(.int (lcmpW (own_key (own_f1 p1 p3 (p5 &&& (3 : Int32))) (own_f1 p2 p4 ((p5 >>> ((2 : Int32) &&& 31)) &&& (3 : Int32)))) (own_key p1 p2))), (.int (own_f9 (own_f1 p1 p3 (p5 &&& (3 : Int32))) p1 (own_f1 p2 p4 ((p5 >>> ((2 : Int32) &&& 31)) &&& (3 : Int32))) p2))])) target := by
    intro target kt
    by_cases hc111 : (0 : Int32) < (lcmpW (own_key (own_f1 p1 p3 (p5 &&& (3 : Int32))) (own_f1 p2 p4 ((p5 >>> ((2 : Int32) &&& 31)) &&& (3 : Int32)))) (own_key p1 p2))
    · refine XS.ifNo X17.here hx rfl (hb hby at_111) rfl ((if0 _ _).trans (tlt hc111).2.2.2) ?_
      show Steps p.tables e below (T17.setTop (mkF m 114 #[.val (.int p1), .val (.int p2), .val (.int p3), .val (.int p4), .val (.int p5), .val (.int (own_f1 p1 p3 (p5 &&& (3 : Int32)))), .val (.int (own_f1 p2 p4 ((p5 >>> ((2 : Int32) &&& 31)) &&& (3 : Int32)))), .val (.ref b8), .val (.ref b11), .val (.long (own_key p1 p2)), .second, .val (.long (own_key (own_f1 p1 p3 (p5 &&& (3 : Int32))) (own_f1 p2 p4 ((p5 >>> ((2 : Int32) &&& 31)) &&& (3 : Int32))))), .second, .val (.int (own_f9 p1 (own_f1 p1 p3 (p5 &&& (3 : Int32))) p2 (own_f1 p2 p4 ((p5 >>> ((2 : Int32) &&& 31)) &&& (3 : Int32))))), .val (.int (own_f9 (own_f1 p1 p3 (p5 &&& (3 : Int32))) p1 (own_f1 p2 p4 ((p5 >>> ((2 : Int32) &&& 31)) &&& (3 : Int32))) p2))] [(.int (own_f9 (own_f1 p1 p3 (p5 &&& (3 : Int32))) p1 (own_f1 p2 p4 ((p5 >>> ((2 : Int32) &&& 31)) &&& (3 : Int32))) p2))])) _
      refine XS.iconst X17.here hx rfl (hb hby at_114) ?_
      show Steps p.tables e below (T17.setTop (mkF m 115 #[.val (.int p1), .val (.int p2), .val (.int p3), .val (.int p4), .val (.int p5), .val (.int (own_f1 p1 p3 (p5 &&& (3 : Int32)))), .val (.int (own_f1 p2 p4 ((p5 >>> ((2 : Int32) &&& 31)) &&& (3 : Int32)))), .val (.ref b8), .val (.ref b11), .val (.long (own_key p1 p2)), .second, .val (.long (own_key (own_f1 p1 p3 (p5 &&& (3 : Int32))) (own_f1 p2 p4 ((p5 >>> ((2 : Int32) &&& 31)) &&& (3 : Int32))))), .second, .val (.int (own_f9 p1 (own_f1 p1 p3 (p5 &&& (3 : Int32))) p2 (own_f1 p2 p4 ((p5 >>> ((2 : Int32) &&& 31)) &&& (3 : Int32))))), .val (.int (own_f9 (own_f1 p1 p3 (p5 &&& (3 : Int32))) p1 (own_f1 p2 p4 ((p5 >>> ((2 : Int32) &&& 31)) &&& (3 : Int32))) p2))] [(.int (1 : Int32)), (.int (own_f9 (own_f1 p1 p3 (p5 &&& (3 : Int32))) p1 (own_f1 p2 p4 ((p5 >>> ((2 : Int32) &&& 31)) &&& (3 : Int32))) p2))])) _
      refine XS.goto X17.here hx rfl (pc0 := 115) (pc' := 119) rfl (hb hby at_115) (by decide) (by decide) ?_
      have hv : own_g (own_key (own_f1 p1 p3 (p5 &&& (3 : Int32))) (own_f1 p2 p4 ((p5 >>> ((2 : Int32) &&& 31)) &&& (3 : Int32)))) (own_key p1 p2) = (1 : Int32) := by simp only [own_g, if_pos hc111]
      rw [hv] at kt
      exact kt
    · refine XS.ifYes X17.here hx rfl (pc0 := 111) (pc' := 118) rfl (hb hby at_111) rfl ((if0 _ _).trans (flt hc111).2.2.2) (by decide) (by decide) ?_
      show Steps p.tables e below (T17.setTop (mkF m 118 #[.val (.int p1), .val (.int p2), .val (.int p3), .val (.int p4), .val (.int p5), .val (.int (own_f1 p1 p3 (p5 &&& (3 : Int32)))), .val (.int (own_f1 p2 p4 ((p5 >>> ((2 : Int32) &&& 31)) &&& (3 : Int32)))), .val (.ref b8), .val (.ref b11), .val (.long (own_key p1 p2)), .second, .val (.long (own_key (own_f1 p1 p3 (p5 &&& (3 : Int32))) (own_f1 p2 p4 ((p5 >>> ((2 : Int32) &&& 31)) &&& (3 : Int32))))), .second, .val (.int (own_f9 p1 (own_f1 p1 p3 (p5 &&& (3 : Int32))) p2 (own_f1 p2 p4 ((p5 >>> ((2 : Int32) &&& 31)) &&& (3 : Int32))))), .val (.int (own_f9 (own_f1 p1 p3 (p5 &&& (3 : Int32))) p1 (own_f1 p2 p4 ((p5 >>> ((2 : Int32) &&& 31)) &&& (3 : Int32))) p2))] [(.int (own_f9 (own_f1 p1 p3 (p5 &&& (3 : Int32))) p1 (own_f1 p2 p4 ((p5 >>> ((2 : Int32) &&& 31)) &&& (3 : Int32))) p2))])) _
      refine XS.iconst X17.here hx rfl (hb hby at_118) ?_
      have hv : own_g (own_key (own_f1 p1 p3 (p5 &&& (3 : Int32))) (own_f1 p2 p4 ((p5 >>> ((2 : Int32) &&& 31)) &&& (3 : Int32)))) (own_key p1 p2) = (0 : Int32) := by simp only [own_g, if_neg hc111]
      rw [hv] at kt
      exact kt
  obtain ⟨fs, hr, hrun, hended, hRE⟩ := X17.leaveW hS12 (Nat.le_trans hk12 (Nat.le_trans Kc13.1 (Nat.le_trans Kc14.1 (Nat.le_trans Kc15.1 (Nat.le_trans Kc16.1 Kc17.1))))) (v := some (.int (1 : Int32))) (fun h => by rw [Bd.returns] at h; cases h)
  refine ⟨_, _, pre0 _ ?_, hrun, hended, _, _, rfl, ?_, hRE.1, hRE.2.1, hRE.2.2.1, hRE.2.2.2.mono (by decide) (by decide)⟩
  -- 4. STEPS
  · show Steps p.tables e below (s₁.setTop (mkF m 0 #[.val (.int p1), .val (.int p2), .val (.int p3), .val (.int p4), .val (.int p5), .unset, .unset, .unset, .unset, .unset, .unset, .unset, .unset, .unset, .unset] [])) _
    refine XS.iloadN X0.here hx rfl (hb hby at_0) rfl ?_
    show Steps p.tables e below (s₁.setTop (mkF m 1 #[.val (.int p1), .val (.int p2), .val (.int p3), .val (.int p4), .val (.int p5), .unset, .unset, .unset, .unset, .unset, .unset, .unset, .unset, .unset, .unset] [(.int p1)])) _
    refine XS.iloadN X0.here hx rfl (hb hby at_1) rfl ?_
    show Steps p.tables e below (s₁.setTop (mkF m 2 #[.val (.int p1), .val (.int p2), .val (.int p3), .val (.int p4), .val (.int p5), .unset, .unset, .unset, .unset, .unset, .unset, .unset, .unset, .unset, .unset] [(.int p3), (.int p1)])) _
    refine XS.iload X0.here hx rfl (hb hby at_2) rfl ?_
    show Steps p.tables e below (s₁.setTop (mkF m 4 #[.val (.int p1), .val (.int p2), .val (.int p3), .val (.int p4), .val (.int p5), .unset, .unset, .unset, .unset, .unset, .unset, .unset, .unset, .unset, .unset] [(.int p5), (.int p3), (.int p1)])) _
    refine XS.iconst X0.here hx rfl (hb hby at_4) ?_
    show Steps p.tables e below (s₁.setTop (mkF m 5 #[.val (.int p1), .val (.int p2), .val (.int p3), .val (.int p4), .val (.int p5), .unset, .unset, .unset, .unset, .unset, .unset, .unset, .unset, .unset, .unset] [(.int (3 : Int32)), (.int p5), (.int p3), (.int p1)])) _
    refine XS.iand X0.here hx rfl (hb hby at_5) rfl ?_
    show Steps p.tables e below (s₁.setTop (mkF m 6 #[.val (.int p1), .val (.int p2), .val (.int p3), .val (.int p4), .val (.int p5), .unset, .unset, .unset, .unset, .unset, .unset, .unset, .unset, .unset, .unset] [(.int (p5 &&& (3 : Int32))), (.int p3), (.int p1)])) _
    refine st6 _ ?_
    show Steps p.tables e below (T6.setTop (mkF m 9 #[.val (.int p1), .val (.int p2), .val (.int p3), .val (.int p4), .val (.int p5), .unset, .unset, .unset, .unset, .unset, .unset, .unset, .unset, .unset, .unset] [(.int (own_f1 p1 p3 (p5 &&& (3 : Int32))))])) _
    refine XS.istore X6.here hx rfl (hb hby at_9) rfl (l' := #[.val (.int p1), .val (.int p2), .val (.int p3), .val (.int p4), .val (.int p5), .val (.int (own_f1 p1 p3 (p5 &&& (3 : Int32)))), .unset, .unset, .unset, .unset, .unset, .unset, .unset, .unset, .unset]) rfl ?_
    show Steps p.tables e below (T6.setTop (mkF m 11 #[.val (.int p1), .val (.int p2), .val (.int p3), .val (.int p4), .val (.int p5), .val (.int (own_f1 p1 p3 (p5 &&& (3 : Int32)))), .unset, .unset, .unset, .unset, .unset, .unset, .unset, .unset, .unset] [])) _
    refine XS.iloadN X6.here hx rfl (hb hby at_11) rfl ?_
    show Steps p.tables e below (T6.setTop (mkF m 12 #[.val (.int p1), .val (.int p2), .val (.int p3), .val (.int p4), .val (.int p5), .val (.int (own_f1 p1 p3 (p5 &&& (3 : Int32)))), .unset, .unset, .unset, .unset, .unset, .unset, .unset, .unset, .unset] [(.int p2)])) _
    refine XS.iloadN X6.here hx rfl (hb hby at_12) rfl ?_
    show Steps p.tables e below (T6.setTop (mkF m 13 #[.val (.int p1), .val (.int p2), .val (.int p3), .val (.int p4), .val (.int p5), .val (.int (own_f1 p1 p3 (p5 &&& (3 : Int32)))), .unset, .unset, .unset, .unset, .unset, .unset, .unset, .unset, .unset] [(.int p4), (.int p2)])) _
    refine XS.iload X6.here hx rfl (hb hby at_13) rfl ?_
    show Steps p.tables e below (T6.setTop (mkF m 15 #[.val (.int p1), .val (.int p2), .val (.int p3), .val (.int p4), .val (.int p5), .val (.int (own_f1 p1 p3 (p5 &&& (3 : Int32)))), .unset, .unset, .unset, .unset, .unset, .unset, .unset, .unset, .unset] [(.int p5), (.int p4), (.int p2)])) _
    refine XS.iconst X6.here hx rfl (hb hby at_15) ?_
    show Steps p.tables e below (T6.setTop (mkF m 16 #[.val (.int p1), .val (.int p2), .val (.int p3), .val (.int p4), .val (.int p5), .val (.int (own_f1 p1 p3 (p5 &&& (3 : Int32)))), .unset, .unset, .unset, .unset, .unset, .unset, .unset, .unset, .unset] [(.int (2 : Int32)), (.int p5), (.int p4), (.int p2)])) _
    refine XS.ishr X6.here hx rfl (hb hby at_16) rfl ?_
    show Steps p.tables e below (T6.setTop (mkF m 17 #[.val (.int p1), .val (.int p2), .val (.int p3), .val (.int p4), .val (.int p5), .val (.int (own_f1 p1 p3 (p5 &&& (3 : Int32)))), .unset, .unset, .unset, .unset, .unset, .unset, .unset, .unset, .unset] [(.int (p5 >>> ((2 : Int32) &&& 31))), (.int p4), (.int p2)])) _
    refine XS.iconst X6.here hx rfl (hb hby at_17) ?_
    show Steps p.tables e below (T6.setTop (mkF m 18 #[.val (.int p1), .val (.int p2), .val (.int p3), .val (.int p4), .val (.int p5), .val (.int (own_f1 p1 p3 (p5 &&& (3 : Int32)))), .unset, .unset, .unset, .unset, .unset, .unset, .unset, .unset, .unset] [(.int (3 : Int32)), (.int (p5 >>> ((2 : Int32) &&& 31))), (.int p4), (.int p2)])) _
    refine XS.iand X6.here hx rfl (hb hby at_18) rfl ?_
    show Steps p.tables e below (T6.setTop (mkF m 19 #[.val (.int p1), .val (.int p2), .val (.int p3), .val (.int p4), .val (.int p5), .val (.int (own_f1 p1 p3 (p5 &&& (3 : Int32)))), .unset, .unset, .unset, .unset, .unset, .unset, .unset, .unset, .unset] [(.int ((p5 >>> ((2 : Int32) &&& 31)) &&& (3 : Int32))), (.int p4), (.int p2)])) _
    refine st7 _ ?_
    show Steps p.tables e below (T7.setTop (mkF m 22 #[.val (.int p1), .val (.int p2), .val (.int p3), .val (.int p4), .val (.int p5), .val (.int (own_f1 p1 p3 (p5 &&& (3 : Int32)))), .unset, .unset, .unset, .unset, .unset, .unset, .unset, .unset, .unset] [(.int (own_f1 p2 p4 ((p5 >>> ((2 : Int32) &&& 31)) &&& (3 : Int32))))])) _
    refine XS.istore X7.here hx rfl (hb hby at_22) rfl (l' := #[.val (.int p1), .val (.int p2), .val (.int p3), .val (.int p4), .val (.int p5), .val (.int (own_f1 p1 p3 (p5 &&& (3 : Int32)))), .val (.int (own_f1 p2 p4 ((p5 >>> ((2 : Int32) &&& 31)) &&& (3 : Int32)))), .unset, .unset, .unset, .unset, .unset, .unset, .unset, .unset]) rfl ?_
    show Steps p.tables e below (T7.setTop (mkF m 24 #[.val (.int p1), .val (.int p2), .val (.int p3), .val (.int p4), .val (.int p5), .val (.int (own_f1 p1 p3 (p5 &&& (3 : Int32)))), .val (.int (own_f1 p2 p4 ((p5 >>> ((2 : Int32) &&& 31)) &&& (3 : Int32)))), .unset, .unset, .unset, .unset, .unset, .unset, .unset, .unset] [])) _
    refine st8 _ ?_
    show Steps p.tables e below (T8.setTop (mkF m 27 #[.val (.int p1), .val (.int p2), .val (.int p3), .val (.int p4), .val (.int p5), .val (.int (own_f1 p1 p3 (p5 &&& (3 : Int32)))), .val (.int (own_f1 p2 p4 ((p5 >>> ((2 : Int32) &&& 31)) &&& (3 : Int32)))), .unset, .unset, .unset, .unset, .unset, .unset, .unset, .unset] [(.ref b8)])) _
    refine XS.dup X8.here hx rfl (hb hby at_27) rfl rfl ?_
    show Steps p.tables e below (T8.setTop (mkF m 28 #[.val (.int p1), .val (.int p2), .val (.int p3), .val (.int p4), .val (.int p5), .val (.int (own_f1 p1 p3 (p5 &&& (3 : Int32)))), .val (.int (own_f1 p2 p4 ((p5 >>> ((2 : Int32) &&& 31)) &&& (3 : Int32)))), .unset, .unset, .unset, .unset, .unset, .unset, .unset, .unset] [(.ref b8), (.ref b8)])) _
    refine st9 _ ?_
    show Steps p.tables e below (T9.setTop (mkF m 30 #[.val (.int p1), .val (.int p2), .val (.int p3), .val (.int p4), .val (.int p5), .val (.int (own_f1 p1 p3 (p5 &&& (3 : Int32)))), .val (.int (own_f1 p2 p4 ((p5 >>> ((2 : Int32) &&& 31)) &&& (3 : Int32)))), .unset, .unset, .unset, .unset, .unset, .unset, .unset, .unset] [(.ref b9), (.ref b8), (.ref b8)])) _
    refine XS.iloadN X9.here hx rfl (hb hby at_30) rfl ?_
    show Steps p.tables e below (T9.setTop (mkF m 31 #[.val (.int p1), .val (.int p2), .val (.int p3), .val (.int p4), .val (.int p5), .val (.int (own_f1 p1 p3 (p5 &&& (3 : Int32)))), .val (.int (own_f1 p2 p4 ((p5 >>> ((2 : Int32) &&& 31)) &&& (3 : Int32)))), .unset, .unset, .unset, .unset, .unset, .unset, .unset, .unset] [(.int p1), (.ref b9), (.ref b8), (.ref b8)])) _
    refine XS.iloadN X9.here hx rfl (hb hby at_31) rfl ?_
    show Steps p.tables e below (T9.setTop (mkF m 32 #[.val (.int p1), .val (.int p2), .val (.int p3), .val (.int p4), .val (.int p5), .val (.int (own_f1 p1 p3 (p5 &&& (3 : Int32)))), .val (.int (own_f1 p2 p4 ((p5 >>> ((2 : Int32) &&& 31)) &&& (3 : Int32)))), .unset, .unset, .unset, .unset, .unset, .unset, .unset, .unset] [(.int p2), (.int p1), (.ref b9), (.ref b8), (.ref b8)])) _
    refine st10.trans ?_
    show Steps p.tables e below (T10.setTop (mkF m 35 #[.val (.int p1), .val (.int p2), .val (.int p3), .val (.int p4), .val (.int p5), .val (.int (own_f1 p1 p3 (p5 &&& (3 : Int32)))), .val (.int (own_f1 p2 p4 ((p5 >>> ((2 : Int32) &&& 31)) &&& (3 : Int32)))), .unset, .unset, .unset, .unset, .unset, .unset, .unset, .unset] [(.ref b8)])) _
    refine XS.astore X10.here hx rfl (hb hby at_35) rfl rfl (l' := #[.val (.int p1), .val (.int p2), .val (.int p3), .val (.int p4), .val (.int p5), .val (.int (own_f1 p1 p3 (p5 &&& (3 : Int32)))), .val (.int (own_f1 p2 p4 ((p5 >>> ((2 : Int32) &&& 31)) &&& (3 : Int32)))), .val (.ref b8), .unset, .unset, .unset, .unset, .unset, .unset, .unset]) rfl ?_
    show Steps p.tables e below (T10.setTop (mkF m 37 #[.val (.int p1), .val (.int p2), .val (.int p3), .val (.int p4), .val (.int p5), .val (.int (own_f1 p1 p3 (p5 &&& (3 : Int32)))), .val (.int (own_f1 p2 p4 ((p5 >>> ((2 : Int32) &&& 31)) &&& (3 : Int32)))), .val (.ref b8), .unset, .unset, .unset, .unset, .unset, .unset, .unset] [])) _
    refine st11 _ ?_
    show Steps p.tables e below (T11.setTop (mkF m 40 #[.val (.int p1), .val (.int p2), .val (.int p3), .val (.int p4), .val (.int p5), .val (.int (own_f1 p1 p3 (p5 &&& (3 : Int32)))), .val (.int (own_f1 p2 p4 ((p5 >>> ((2 : Int32) &&& 31)) &&& (3 : Int32)))), .val (.ref b8), .unset, .unset, .unset, .unset, .unset, .unset, .unset] [(.ref b11)])) _
    refine XS.dup X11.here hx rfl (hb hby at_40) rfl rfl ?_
    show Steps p.tables e below (T11.setTop (mkF m 41 #[.val (.int p1), .val (.int p2), .val (.int p3), .val (.int p4), .val (.int p5), .val (.int (own_f1 p1 p3 (p5 &&& (3 : Int32)))), .val (.int (own_f1 p2 p4 ((p5 >>> ((2 : Int32) &&& 31)) &&& (3 : Int32)))), .val (.ref b8), .unset, .unset, .unset, .unset, .unset, .unset, .unset] [(.ref b11), (.ref b11)])) _
    refine st12 _ ?_
    show Steps p.tables e below (T12.setTop (mkF m 43 #[.val (.int p1), .val (.int p2), .val (.int p3), .val (.int p4), .val (.int p5), .val (.int (own_f1 p1 p3 (p5 &&& (3 : Int32)))), .val (.int (own_f1 p2 p4 ((p5 >>> ((2 : Int32) &&& 31)) &&& (3 : Int32)))), .val (.ref b8), .unset, .unset, .unset, .unset, .unset, .unset, .unset] [(.ref b12), (.ref b11), (.ref b11)])) _
    refine XS.iload X12.here hx rfl (hb hby at_43) rfl ?_
    show Steps p.tables e below (T12.setTop (mkF m 45 #[.val (.int p1), .val (.int p2), .val (.int p3), .val (.int p4), .val (.int p5), .val (.int (own_f1 p1 p3 (p5 &&& (3 : Int32)))), .val (.int (own_f1 p2 p4 ((p5 >>> ((2 : Int32) &&& 31)) &&& (3 : Int32)))), .val (.ref b8), .unset, .unset, .unset, .unset, .unset, .unset, .unset] [(.int (own_f1 p1 p3 (p5 &&& (3 : Int32)))), (.ref b12), (.ref b11), (.ref b11)])) _
    refine XS.iload X12.here hx rfl (hb hby at_45) rfl ?_
    show Steps p.tables e below (T12.setTop (mkF m 47 #[.val (.int p1), .val (.int p2), .val (.int p3), .val (.int p4), .val (.int p5), .val (.int (own_f1 p1 p3 (p5 &&& (3 : Int32)))), .val (.int (own_f1 p2 p4 ((p5 >>> ((2 : Int32) &&& 31)) &&& (3 : Int32)))), .val (.ref b8), .unset, .unset, .unset, .unset, .unset, .unset, .unset] [(.int (own_f1 p2 p4 ((p5 >>> ((2 : Int32) &&& 31)) &&& (3 : Int32)))), (.int (own_f1 p1 p3 (p5 &&& (3 : Int32)))), (.ref b12), (.ref b11), (.ref b11)])) _
    refine st13.trans ?_
    show Steps p.tables e below (T13.setTop (mkF m 50 #[.val (.int p1), .val (.int p2), .val (.int p3), .val (.int p4), .val (.int p5), .val (.int (own_f1 p1 p3 (p5 &&& (3 : Int32)))), .val (.int (own_f1 p2 p4 ((p5 >>> ((2 : Int32) &&& 31)) &&& (3 : Int32)))), .val (.ref b8), .unset, .unset, .unset, .unset, .unset, .unset, .unset] [(.ref b11)])) _
    refine XS.astore X13.here hx rfl (hb hby at_50) rfl rfl (l' := #[.val (.int p1), .val (.int p2), .val (.int p3), .val (.int p4), .val (.int p5), .val (.int (own_f1 p1 p3 (p5 &&& (3 : Int32)))), .val (.int (own_f1 p2 p4 ((p5 >>> ((2 : Int32) &&& 31)) &&& (3 : Int32)))), .val (.ref b8), .val (.ref b11), .unset, .unset, .unset, .unset, .unset, .unset]) rfl ?_
    show Steps p.tables e below (T13.setTop (mkF m 52 #[.val (.int p1), .val (.int p2), .val (.int p3), .val (.int p4), .val (.int p5), .val (.int (own_f1 p1 p3 (p5 &&& (3 : Int32)))), .val (.int (own_f1 p2 p4 ((p5 >>> ((2 : Int32) &&& 31)) &&& (3 : Int32)))), .val (.ref b8), .val (.ref b11), .unset, .unset, .unset, .unset, .unset, .unset] [])) _
    refine XS.iloadN X13.here hx rfl (hb hby at_52) rfl ?_
    show Steps p.tables e below (T13.setTop (mkF m 53 #[.val (.int p1), .val (.int p2), .val (.int p3), .val (.int p4), .val (.int p5), .val (.int (own_f1 p1 p3 (p5 &&& (3 : Int32)))), .val (.int (own_f1 p2 p4 ((p5 >>> ((2 : Int32) &&& 31)) &&& (3 : Int32)))), .val (.ref b8), .val (.ref b11), .unset, .unset, .unset, .unset, .unset, .unset] [(.int p1)])) _
    refine XS.iloadN X13.here hx rfl (hb hby at_53) rfl ?_
    show Steps p.tables e below (T13.setTop (mkF m 54 #[.val (.int p1), .val (.int p2), .val (.int p3), .val (.int p4), .val (.int p5), .val (.int (own_f1 p1 p3 (p5 &&& (3 : Int32)))), .val (.int (own_f1 p2 p4 ((p5 >>> ((2 : Int32) &&& 31)) &&& (3 : Int32)))), .val (.ref b8), .val (.ref b11), .unset, .unset, .unset, .unset, .unset, .unset] [(.int p2), (.int p1)])) _
    refine st14 _ ?_
    show Steps p.tables e below (T14.setTop (mkF m 57 #[.val (.int p1), .val (.int p2), .val (.int p3), .val (.int p4), .val (.int p5), .val (.int (own_f1 p1 p3 (p5 &&& (3 : Int32)))), .val (.int (own_f1 p2 p4 ((p5 >>> ((2 : Int32) &&& 31)) &&& (3 : Int32)))), .val (.ref b8), .val (.ref b11), .unset, .unset, .unset, .unset, .unset, .unset] [(.long (own_key p1 p2))])) _
    refine XS.lstore X14.here hx rfl (hb hby at_57) rfl (l' := #[.val (.int p1), .val (.int p2), .val (.int p3), .val (.int p4), .val (.int p5), .val (.int (own_f1 p1 p3 (p5 &&& (3 : Int32)))), .val (.int (own_f1 p2 p4 ((p5 >>> ((2 : Int32) &&& 31)) &&& (3 : Int32)))), .val (.ref b8), .val (.ref b11), .val (.long (own_key p1 p2)), .second, .unset, .unset, .unset, .unset]) rfl ?_
    show Steps p.tables e below (T14.setTop (mkF m 59 #[.val (.int p1), .val (.int p2), .val (.int p3), .val (.int p4), .val (.int p5), .val (.int (own_f1 p1 p3 (p5 &&& (3 : Int32)))), .val (.int (own_f1 p2 p4 ((p5 >>> ((2 : Int32) &&& 31)) &&& (3 : Int32)))), .val (.ref b8), .val (.ref b11), .val (.long (own_key p1 p2)), .second, .unset, .unset, .unset, .unset] [])) _
    refine XS.iload X14.here hx rfl (hb hby at_59) rfl ?_
    show Steps p.tables e below (T14.setTop (mkF m 61 #[.val (.int p1), .val (.int p2), .val (.int p3), .val (.int p4), .val (.int p5), .val (.int (own_f1 p1 p3 (p5 &&& (3 : Int32)))), .val (.int (own_f1 p2 p4 ((p5 >>> ((2 : Int32) &&& 31)) &&& (3 : Int32)))), .val (.ref b8), .val (.ref b11), .val (.long (own_key p1 p2)), .second, .unset, .unset, .unset, .unset] [(.int (own_f1 p1 p3 (p5 &&& (3 : Int32))))])) _
    refine XS.iload X14.here hx rfl (hb hby at_61) rfl ?_
    show Steps p.tables e below (T14.setTop (mkF m 63 #[.val (.int p1), .val (.int p2), .val (.int p3), .val (.int p4), .val (.int p5), .val (.int (own_f1 p1 p3 (p5 &&& (3 : Int32)))), .val (.int (own_f1 p2 p4 ((p5 >>> ((2 : Int32) &&& 31)) &&& (3 : Int32)))), .val (.ref b8), .val (.ref b11), .val (.long (own_key p1 p2)), .second, .unset, .unset, .unset, .unset] [(.int (own_f1 p2 p4 ((p5 >>> ((2 : Int32) &&& 31)) &&& (3 : Int32)))), (.int (own_f1 p1 p3 (p5 &&& (3 : Int32))))])) _
    refine st15 _ ?_
    show Steps p.tables e below (T15.setTop (mkF m 66 #[.val (.int p1), .val (.int p2), .val (.int p3), .val (.int p4), .val (.int p5), .val (.int (own_f1 p1 p3 (p5 &&& (3 : Int32)))), .val (.int (own_f1 p2 p4 ((p5 >>> ((2 : Int32) &&& 31)) &&& (3 : Int32)))), .val (.ref b8), .val (.ref b11), .val (.long (own_key p1 p2)), .second, .unset, .unset, .unset, .unset] [(.long (own_key (own_f1 p1 p3 (p5 &&& (3 : Int32))) (own_f1 p2 p4 ((p5 >>> ((2 : Int32) &&& 31)) &&& (3 : Int32)))))])) _
    refine XS.lstore X15.here hx rfl (hb hby at_66) rfl (l' := #[.val (.int p1), .val (.int p2), .val (.int p3), .val (.int p4), .val (.int p5), .val (.int (own_f1 p1 p3 (p5 &&& (3 : Int32)))), .val (.int (own_f1 p2 p4 ((p5 >>> ((2 : Int32) &&& 31)) &&& (3 : Int32)))), .val (.ref b8), .val (.ref b11), .val (.long (own_key p1 p2)), .second, .val (.long (own_key (own_f1 p1 p3 (p5 &&& (3 : Int32))) (own_f1 p2 p4 ((p5 >>> ((2 : Int32) &&& 31)) &&& (3 : Int32))))), .second, .unset, .unset]) rfl ?_
    show Steps p.tables e below (T15.setTop (mkF m 68 #[.val (.int p1), .val (.int p2), .val (.int p3), .val (.int p4), .val (.int p5), .val (.int (own_f1 p1 p3 (p5 &&& (3 : Int32)))), .val (.int (own_f1 p2 p4 ((p5 >>> ((2 : Int32) &&& 31)) &&& (3 : Int32)))), .val (.ref b8), .val (.ref b11), .val (.long (own_key p1 p2)), .second, .val (.long (own_key (own_f1 p1 p3 (p5 &&& (3 : Int32))) (own_f1 p2 p4 ((p5 >>> ((2 : Int32) &&& 31)) &&& (3 : Int32))))), .second, .unset, .unset] [])) _
    refine XS.aload X15.here hx rfl (hb hby at_68) rfl rfl ?_
    show Steps p.tables e below (T15.setTop (mkF m 70 #[.val (.int p1), .val (.int p2), .val (.int p3), .val (.int p4), .val (.int p5), .val (.int (own_f1 p1 p3 (p5 &&& (3 : Int32)))), .val (.int (own_f1 p2 p4 ((p5 >>> ((2 : Int32) &&& 31)) &&& (3 : Int32)))), .val (.ref b8), .val (.ref b11), .val (.long (own_key p1 p2)), .second, .val (.long (own_key (own_f1 p1 p3 (p5 &&& (3 : Int32))) (own_f1 p2 p4 ((p5 >>> ((2 : Int32) &&& 31)) &&& (3 : Int32))))), .second, .unset, .unset] [(.ref b8)])) _
    refine XS.aload X15.here hx rfl (hb hby at_70) rfl rfl ?_
    show Steps p.tables e below (T15.setTop (mkF m 72 #[.val (.int p1), .val (.int p2), .val (.int p3), .val (.int p4), .val (.int p5), .val (.int (own_f1 p1 p3 (p5 &&& (3 : Int32)))), .val (.int (own_f1 p2 p4 ((p5 >>> ((2 : Int32) &&& 31)) &&& (3 : Int32)))), .val (.ref b8), .val (.ref b11), .val (.long (own_key p1 p2)), .second, .val (.long (own_key (own_f1 p1 p3 (p5 &&& (3 : Int32))) (own_f1 p2 p4 ((p5 >>> ((2 : Int32) &&& 31)) &&& (3 : Int32))))), .second, .unset, .unset] [(.ref b11), (.ref b8)])) _
    refine st16.trans ?_
    show Steps p.tables e below (T16.setTop (mkF m 75 #[.val (.int p1), .val (.int p2), .val (.int p3), .val (.int p4), .val (.int p5), .val (.int (own_f1 p1 p3 (p5 &&& (3 : Int32)))), .val (.int (own_f1 p2 p4 ((p5 >>> ((2 : Int32) &&& 31)) &&& (3 : Int32)))), .val (.ref b8), .val (.ref b11), .val (.long (own_key p1 p2)), .second, .val (.long (own_key (own_f1 p1 p3 (p5 &&& (3 : Int32))) (own_f1 p2 p4 ((p5 >>> ((2 : Int32) &&& 31)) &&& (3 : Int32))))), .second, .unset, .unset] [(.int (own_f9 p1 (own_f1 p1 p3 (p5 &&& (3 : Int32))) p2 (own_f1 p2 p4 ((p5 >>> ((2 : Int32) &&& 31)) &&& (3 : Int32)))))])) _
    refine XS.istore X16.here hx rfl (hb hby at_75) rfl (l' := #[.val (.int p1), .val (.int p2), .val (.int p3), .val (.int p4), .val (.int p5), .val (.int (own_f1 p1 p3 (p5 &&& (3 : Int32)))), .val (.int (own_f1 p2 p4 ((p5 >>> ((2 : Int32) &&& 31)) &&& (3 : Int32)))), .val (.ref b8), .val (.ref b11), .val (.long (own_key p1 p2)), .second, .val (.long (own_key (own_f1 p1 p3 (p5 &&& (3 : Int32))) (own_f1 p2 p4 ((p5 >>> ((2 : Int32) &&& 31)) &&& (3 : Int32))))), .second, .val (.int (own_f9 p1 (own_f1 p1 p3 (p5 &&& (3 : Int32))) p2 (own_f1 p2 p4 ((p5 >>> ((2 : Int32) &&& 31)) &&& (3 : Int32))))), .unset]) rfl ?_
    show Steps p.tables e below (T16.setTop (mkF m 77 #[.val (.int p1), .val (.int p2), .val (.int p3), .val (.int p4), .val (.int p5), .val (.int (own_f1 p1 p3 (p5 &&& (3 : Int32)))), .val (.int (own_f1 p2 p4 ((p5 >>> ((2 : Int32) &&& 31)) &&& (3 : Int32)))), .val (.ref b8), .val (.ref b11), .val (.long (own_key p1 p2)), .second, .val (.long (own_key (own_f1 p1 p3 (p5 &&& (3 : Int32))) (own_f1 p2 p4 ((p5 >>> ((2 : Int32) &&& 31)) &&& (3 : Int32))))), .second, .val (.int (own_f9 p1 (own_f1 p1 p3 (p5 &&& (3 : Int32))) p2 (own_f1 p2 p4 ((p5 >>> ((2 : Int32) &&& 31)) &&& (3 : Int32))))), .unset] [])) _
    refine XS.aload X16.here hx rfl (hb hby at_77) rfl rfl ?_
    show Steps p.tables e below (T16.setTop (mkF m 79 #[.val (.int p1), .val (.int p2), .val (.int p3), .val (.int p4), .val (.int p5), .val (.int (own_f1 p1 p3 (p5 &&& (3 : Int32)))), .val (.int (own_f1 p2 p4 ((p5 >>> ((2 : Int32) &&& 31)) &&& (3 : Int32)))), .val (.ref b8), .val (.ref b11), .val (.long (own_key p1 p2)), .second, .val (.long (own_key (own_f1 p1 p3 (p5 &&& (3 : Int32))) (own_f1 p2 p4 ((p5 >>> ((2 : Int32) &&& 31)) &&& (3 : Int32))))), .second, .val (.int (own_f9 p1 (own_f1 p1 p3 (p5 &&& (3 : Int32))) p2 (own_f1 p2 p4 ((p5 >>> ((2 : Int32) &&& 31)) &&& (3 : Int32))))), .unset] [(.ref b11)])) _
    refine XS.aload X16.here hx rfl (hb hby at_79) rfl rfl ?_
    show Steps p.tables e below (T16.setTop (mkF m 81 #[.val (.int p1), .val (.int p2), .val (.int p3), .val (.int p4), .val (.int p5), .val (.int (own_f1 p1 p3 (p5 &&& (3 : Int32)))), .val (.int (own_f1 p2 p4 ((p5 >>> ((2 : Int32) &&& 31)) &&& (3 : Int32)))), .val (.ref b8), .val (.ref b11), .val (.long (own_key p1 p2)), .second, .val (.long (own_key (own_f1 p1 p3 (p5 &&& (3 : Int32))) (own_f1 p2 p4 ((p5 >>> ((2 : Int32) &&& 31)) &&& (3 : Int32))))), .second, .val (.int (own_f9 p1 (own_f1 p1 p3 (p5 &&& (3 : Int32))) p2 (own_f1 p2 p4 ((p5 >>> ((2 : Int32) &&& 31)) &&& (3 : Int32))))), .unset] [(.ref b8), (.ref b11)])) _
    refine st17.trans ?_
    show Steps p.tables e below (T17.setTop (mkF m 84 #[.val (.int p1), .val (.int p2), .val (.int p3), .val (.int p4), .val (.int p5), .val (.int (own_f1 p1 p3 (p5 &&& (3 : Int32)))), .val (.int (own_f1 p2 p4 ((p5 >>> ((2 : Int32) &&& 31)) &&& (3 : Int32)))), .val (.ref b8), .val (.ref b11), .val (.long (own_key p1 p2)), .second, .val (.long (own_key (own_f1 p1 p3 (p5 &&& (3 : Int32))) (own_f1 p2 p4 ((p5 >>> ((2 : Int32) &&& 31)) &&& (3 : Int32))))), .second, .val (.int (own_f9 p1 (own_f1 p1 p3 (p5 &&& (3 : Int32))) p2 (own_f1 p2 p4 ((p5 >>> ((2 : Int32) &&& 31)) &&& (3 : Int32))))), .unset] [(.int (own_f9 (own_f1 p1 p3 (p5 &&& (3 : Int32))) p1 (own_f1 p2 p4 ((p5 >>> ((2 : Int32) &&& 31)) &&& (3 : Int32))) p2))])) _
    refine XS.istore X17.here hx rfl (hb hby at_84) rfl (l' := #[.val (.int p1), .val (.int p2), .val (.int p3), .val (.int p4), .val (.int p5), .val (.int (own_f1 p1 p3 (p5 &&& (3 : Int32)))), .val (.int (own_f1 p2 p4 ((p5 >>> ((2 : Int32) &&& 31)) &&& (3 : Int32)))), .val (.ref b8), .val (.ref b11), .val (.long (own_key p1 p2)), .second, .val (.long (own_key (own_f1 p1 p3 (p5 &&& (3 : Int32))) (own_f1 p2 p4 ((p5 >>> ((2 : Int32) &&& 31)) &&& (3 : Int32))))), .second, .val (.int (own_f9 p1 (own_f1 p1 p3 (p5 &&& (3 : Int32))) p2 (own_f1 p2 p4 ((p5 >>> ((2 : Int32) &&& 31)) &&& (3 : Int32))))), .val (.int (own_f9 (own_f1 p1 p3 (p5 &&& (3 : Int32))) p1 (own_f1 p2 p4 ((p5 >>> ((2 : Int32) &&& 31)) &&& (3 : Int32))) p2))]) rfl ?_
    show Steps p.tables e below (T17.setTop (mkF m 86 #[.val (.int p1), .val (.int p2), .val (.int p3), .val (.int p4), .val (.int p5), .val (.int (own_f1 p1 p3 (p5 &&& (3 : Int32)))), .val (.int (own_f1 p2 p4 ((p5 >>> ((2 : Int32) &&& 31)) &&& (3 : Int32)))), .val (.ref b8), .val (.ref b11), .val (.long (own_key p1 p2)), .second, .val (.long (own_key (own_f1 p1 p3 (p5 &&& (3 : Int32))) (own_f1 p2 p4 ((p5 >>> ((2 : Int32) &&& 31)) &&& (3 : Int32))))), .second, .val (.int (own_f9 p1 (own_f1 p1 p3 (p5 &&& (3 : Int32))) p2 (own_f1 p2 p4 ((p5 >>> ((2 : Int32) &&& 31)) &&& (3 : Int32))))), .val (.int (own_f9 (own_f1 p1 p3 (p5 &&& (3 : Int32))) p1 (own_f1 p2 p4 ((p5 >>> ((2 : Int32) &&& 31)) &&& (3 : Int32))) p2))] [])) _
    refine XS.iload X17.here hx rfl (hb hby at_86) rfl ?_
    show Steps p.tables e below (T17.setTop (mkF m 88 #[.val (.int p1), .val (.int p2), .val (.int p3), .val (.int p4), .val (.int p5), .val (.int (own_f1 p1 p3 (p5 &&& (3 : Int32)))), .val (.int (own_f1 p2 p4 ((p5 >>> ((2 : Int32) &&& 31)) &&& (3 : Int32)))), .val (.ref b8), .val (.ref b11), .val (.long (own_key p1 p2)), .second, .val (.long (own_key (own_f1 p1 p3 (p5 &&& (3 : Int32))) (own_f1 p2 p4 ((p5 >>> ((2 : Int32) &&& 31)) &&& (3 : Int32))))), .second, .val (.int (own_f9 p1 (own_f1 p1 p3 (p5 &&& (3 : Int32))) p2 (own_f1 p2 p4 ((p5 >>> ((2 : Int32) &&& 31)) &&& (3 : Int32))))), .val (.int (own_f9 (own_f1 p1 p3 (p5 &&& (3 : Int32))) p1 (own_f1 p2 p4 ((p5 >>> ((2 : Int32) &&& 31)) &&& (3 : Int32))) p2))] [(.int (own_f9 p1 (own_f1 p1 p3 (p5 &&& (3 : Int32))) p2 (own_f1 p2 p4 ((p5 >>> ((2 : Int32) &&& 31)) &&& (3 : Int32)))))])) _
    refine XS.lload X17.here hx rfl (hb hby at_88) rfl ?_
    show Steps p.tables e below (T17.setTop (mkF m 90 #[.val (.int p1), .val (.int p2), .val (.int p3), .val (.int p4), .val (.int p5), .val (.int (own_f1 p1 p3 (p5 &&& (3 : Int32)))), .val (.int (own_f1 p2 p4 ((p5 >>> ((2 : Int32) &&& 31)) &&& (3 : Int32)))), .val (.ref b8), .val (.ref b11), .val (.long (own_key p1 p2)), .second, .val (.long (own_key (own_f1 p1 p3 (p5 &&& (3 : Int32))) (own_f1 p2 p4 ((p5 >>> ((2 : Int32) &&& 31)) &&& (3 : Int32))))), .second, .val (.int (own_f9 p1 (own_f1 p1 p3 (p5 &&& (3 : Int32))) p2 (own_f1 p2 p4 ((p5 >>> ((2 : Int32) &&& 31)) &&& (3 : Int32))))), .val (.int (own_f9 (own_f1 p1 p3 (p5 &&& (3 : Int32))) p1 (own_f1 p2 p4 ((p5 >>> ((2 : Int32) &&& 31)) &&& (3 : Int32))) p2))] [(.long (own_key p1 p2)), (.int (own_f9 p1 (own_f1 p1 p3 (p5 &&& (3 : Int32))) p2 (own_f1 p2 p4 ((p5 >>> ((2 : Int32) &&& 31)) &&& (3 : Int32)))))])) _
    refine XS.lload X17.here hx rfl (hb hby at_90) rfl ?_
    show Steps p.tables e below (T17.setTop (mkF m 92 #[.val (.int p1), .val (.int p2), .val (.int p3), .val (.int p4), .val (.int p5), .val (.int (own_f1 p1 p3 (p5 &&& (3 : Int32)))), .val (.int (own_f1 p2 p4 ((p5 >>> ((2 : Int32) &&& 31)) &&& (3 : Int32)))), .val (.ref b8), .val (.ref b11), .val (.long (own_key p1 p2)), .second, .val (.long (own_key (own_f1 p1 p3 (p5 &&& (3 : Int32))) (own_f1 p2 p4 ((p5 >>> ((2 : Int32) &&& 31)) &&& (3 : Int32))))), .second, .val (.int (own_f9 p1 (own_f1 p1 p3 (p5 &&& (3 : Int32))) p2 (own_f1 p2 p4 ((p5 >>> ((2 : Int32) &&& 31)) &&& (3 : Int32))))), .val (.int (own_f9 (own_f1 p1 p3 (p5 &&& (3 : Int32))) p1 (own_f1 p2 p4 ((p5 >>> ((2 : Int32) &&& 31)) &&& (3 : Int32))) p2))] [(.long (own_key (own_f1 p1 p3 (p5 &&& (3 : Int32))) (own_f1 p2 p4 ((p5 >>> ((2 : Int32) &&& 31)) &&& (3 : Int32))))), (.long (own_key p1 p2)), (.int (own_f9 p1 (own_f1 p1 p3 (p5 &&& (3 : Int32))) p2 (own_f1 p2 p4 ((p5 >>> ((2 : Int32) &&& 31)) &&& (3 : Int32)))))])) _
    refine XS.lcmp X17.here hx rfl (hb hby at_92) rfl ?_
    show Steps p.tables e below (T17.setTop (mkF m 93 #[.val (.int p1), .val (.int p2), .val (.int p3), .val (.int p4), .val (.int p5), .val (.int (own_f1 p1 p3 (p5 &&& (3 : Int32)))), .val (.int (own_f1 p2 p4 ((p5 >>> ((2 : Int32) &&& 31)) &&& (3 : Int32)))), .val (.ref b8), .val (.ref b11), .val (.long (own_key p1 p2)), .second, .val (.long (own_key (own_f1 p1 p3 (p5 &&& (3 : Int32))) (own_f1 p2 p4 ((p5 >>> ((2 : Int32) &&& 31)) &&& (3 : Int32))))), .second, .val (.int (own_f9 p1 (own_f1 p1 p3 (p5 &&& (3 : Int32))) p2 (own_f1 p2 p4 ((p5 >>> ((2 : Int32) &&& 31)) &&& (3 : Int32))))), .val (.int (own_f9 (own_f1 p1 p3 (p5 &&& (3 : Int32))) p1 (own_f1 p2 p4 ((p5 >>> ((2 : Int32) &&& 31)) &&& (3 : Int32))) p2))] [(.int (lcmpW (own_key p1 p2) (own_key (own_f1 p1 p3 (p5 &&& (3 : Int32))) (own_f1 p2 p4 ((p5 >>> ((2 : Int32) &&& 31)) &&& (3 : Int32)))))), (.int (own_f9 p1 (own_f1 p1 p3 (p5 &&& (3 : Int32))) p2 (own_f1 p2 p4 ((p5 >>> ((2 : Int32) &&& 31)) &&& (3 : Int32)))))])) _
    refine fork93 _ ?_
    show Steps p.tables e below (T17.setTop (mkF m 101 #[.val (.int p1), .val (.int p2), .val (.int p3), .val (.int p4), .val (.int p5), .val (.int (own_f1 p1 p3 (p5 &&& (3 : Int32)))), .val (.int (own_f1 p2 p4 ((p5 >>> ((2 : Int32) &&& 31)) &&& (3 : Int32)))), .val (.ref b8), .val (.ref b11), .val (.long (own_key p1 p2)), .second, .val (.long (own_key (own_f1 p1 p3 (p5 &&& (3 : Int32))) (own_f1 p2 p4 ((p5 >>> ((2 : Int32) &&& 31)) &&& (3 : Int32))))), .second, .val (.int (own_f9 p1 (own_f1 p1 p3 (p5 &&& (3 : Int32))) p2 (own_f1 p2 p4 ((p5 >>> ((2 : Int32) &&& 31)) &&& (3 : Int32))))), .val (.int (own_f9 (own_f1 p1 p3 (p5 &&& (3 : Int32))) p1 (own_f1 p2 p4 ((p5 >>> ((2 : Int32) &&& 31)) &&& (3 : Int32))) p2))] [(.int (own_g (own_key p1 p2) (own_key (own_f1 p1 p3 (p5 &&& (3 : Int32))) (own_f1 p2 p4 ((p5 >>> ((2 : Int32) &&& 31)) &&& (3 : Int32)))))), (.int (own_f9 p1 (own_f1 p1 p3 (p5 &&& (3 : Int32))) p2 (own_f1 p2 p4 ((p5 >>> ((2 : Int32) &&& 31)) &&& (3 : Int32)))))])) _
    refine XS.icmpNo X17.here hx rfl (hb hby at_101) rfl (teq (own_eq _ _ _ _)).2 ?_
    show Steps p.tables e below (T17.setTop (mkF m 104 #[.val (.int p1), .val (.int p2), .val (.int p3), .val (.int p4), .val (.int p5), .val (.int (own_f1 p1 p3 (p5 &&& (3 : Int32)))), .val (.int (own_f1 p2 p4 ((p5 >>> ((2 : Int32) &&& 31)) &&& (3 : Int32)))), .val (.ref b8), .val (.ref b11), .val (.long (own_key p1 p2)), .second, .val (.long (own_key (own_f1 p1 p3 (p5 &&& (3 : Int32))) (own_f1 p2 p4 ((p5 >>> ((2 : Int32) &&& 31)) &&& (3 : Int32))))), .second, .val (.int (own_f9 p1 (own_f1 p1 p3 (p5 &&& (3 : Int32))) p2 (own_f1 p2 p4 ((p5 >>> ((2 : Int32) &&& 31)) &&& (3 : Int32))))), .val (.int (own_f9 (own_f1 p1 p3 (p5 &&& (3 : Int32))) p1 (own_f1 p2 p4 ((p5 >>> ((2 : Int32) &&& 31)) &&& (3 : Int32))) p2))] [])) _
    refine XS.iload X17.here hx rfl (hb hby at_104) rfl ?_
    show Steps p.tables e below (T17.setTop (mkF m 106 #[.val (.int p1), .val (.int p2), .val (.int p3), .val (.int p4), .val (.int p5), .val (.int (own_f1 p1 p3 (p5 &&& (3 : Int32)))), .val (.int (own_f1 p2 p4 ((p5 >>> ((2 : Int32) &&& 31)) &&& (3 : Int32)))), .val (.ref b8), .val (.ref b11), .val (.long (own_key p1 p2)), .second, .val (.long (own_key (own_f1 p1 p3 (p5 &&& (3 : Int32))) (own_f1 p2 p4 ((p5 >>> ((2 : Int32) &&& 31)) &&& (3 : Int32))))), .second, .val (.int (own_f9 p1 (own_f1 p1 p3 (p5 &&& (3 : Int32))) p2 (own_f1 p2 p4 ((p5 >>> ((2 : Int32) &&& 31)) &&& (3 : Int32))))), .val (.int (own_f9 (own_f1 p1 p3 (p5 &&& (3 : Int32))) p1 (own_f1 p2 p4 ((p5 >>> ((2 : Int32) &&& 31)) &&& (3 : Int32))) p2))] [(.int (own_f9 (own_f1 p1 p3 (p5 &&& (3 : Int32))) p1 (own_f1 p2 p4 ((p5 >>> ((2 : Int32) &&& 31)) &&& (3 : Int32))) p2))])) _
    refine XS.lload X17.here hx rfl (hb hby at_106) rfl ?_
    show Steps p.tables e below (T17.setTop (mkF m 108 #[.val (.int p1), .val (.int p2), .val (.int p3), .val (.int p4), .val (.int p5), .val (.int (own_f1 p1 p3 (p5 &&& (3 : Int32)))), .val (.int (own_f1 p2 p4 ((p5 >>> ((2 : Int32) &&& 31)) &&& (3 : Int32)))), .val (.ref b8), .val (.ref b11), .val (.long (own_key p1 p2)), .second, .val (.long (own_key (own_f1 p1 p3 (p5 &&& (3 : Int32))) (own_f1 p2 p4 ((p5 >>> ((2 : Int32) &&& 31)) &&& (3 : Int32))))), .second, .val (.int (own_f9 p1 (own_f1 p1 p3 (p5 &&& (3 : Int32))) p2 (own_f1 p2 p4 ((p5 >>> ((2 : Int32) &&& 31)) &&& (3 : Int32))))), .val (.int (own_f9 (own_f1 p1 p3 (p5 &&& (3 : Int32))) p1 (own_f1 p2 p4 ((p5 >>> ((2 : Int32) &&& 31)) &&& (3 : Int32))) p2))] [(.long (own_key (own_f1 p1 p3 (p5 &&& (3 : Int32))) (own_f1 p2 p4 ((p5 >>> ((2 : Int32) &&& 31)) &&& (3 : Int32))))), (.int (own_f9 (own_f1 p1 p3 (p5 &&& (3 : Int32))) p1 (own_f1 p2 p4 ((p5 >>> ((2 : Int32) &&& 31)) &&& (3 : Int32))) p2))])) _
    refine XS.lload X17.here hx rfl (hb hby at_108) rfl ?_
    show Steps p.tables e below (T17.setTop (mkF m 110 #[.val (.int p1), .val (.int p2), .val (.int p3), .val (.int p4), .val (.int p5), .val (.int (own_f1 p1 p3 (p5 &&& (3 : Int32)))), .val (.int (own_f1 p2 p4 ((p5 >>> ((2 : Int32) &&& 31)) &&& (3 : Int32)))), .val (.ref b8), .val (.ref b11), .val (.long (own_key p1 p2)), .second, .val (.long (own_key (own_f1 p1 p3 (p5 &&& (3 : Int32))) (own_f1 p2 p4 ((p5 >>> ((2 : Int32) &&& 31)) &&& (3 : Int32))))), .second, .val (.int (own_f9 p1 (own_f1 p1 p3 (p5 &&& (3 : Int32))) p2 (own_f1 p2 p4 ((p5 >>> ((2 : Int32) &&& 31)) &&& (3 : Int32))))), .val (.int (own_f9 (own_f1 p1 p3 (p5 &&& (3 : Int32))) p1 (own_f1 p2 p4 ((p5 >>> ((2 : Int32) &&& 31)) &&& (3 : Int32))) p2))] [(.long (own_key p1 p2)), (.long (own_key (own_f1 p1 p3 (p5 &&& (3 : Int32))) (own_f1 p2 p4 ((p5 >>> ((2 : Int32) &&& 31)) &&& (3 : Int32))))), (.int (own_f9 (own_f1 p1 p3 (p5 &&& (3 : Int32))) p1 (own_f1 p2 p4 ((p5 >>> ((2 : Int32) &&& 31)) &&& (3 : Int32))) p2))])) _
    refine XS.lcmp X17.here hx rfl (hb hby at_110) rfl ?_
    show Steps p.tables e below (T17.setTop (mkF m 111 #[.val (.int p1), .val (.int p2), .val (.int p3), .val (.int p4), .val (.int p5), .val (.int (own_f1 p1 p3 (p5 &&& (3 : Int32)))), .val (.int (own_f1 p2 p4 ((p5 >>> ((2 : Int32) &&& 31)) &&& (3 : Int32)))), .val (.ref b8), .val (.ref b11), .val (.long (own_key p1 p2)), .second, .val (.long (own_key (own_f1 p1 p3 (p5 &&& (3 : Int32))) (own_f1 p2 p4 ((p5 >>> ((2 : Int32) &&& 31)) &&& (3 : Int32))))), .second, .val (.int (own_f9 p1 (own_f1 p1 p3 (p5 &&& (3 : Int32))) p2 (own_f1 p2 p4 ((p5 >>> ((2 : Int32) &&& 31)) &&& (3 : Int32))))), .val (.int (own_f9 (own_f1 p1 p3 (p5 &&& (3 : Int32))) p1 (own_f1 p2 p4 ((p5 >>> ((2 : Int32) &&& 31)) &&& (3 : Int32))) p2))] [(.int (lcmpW (own_key (own_f1 p1 p3 (p5 &&& (3 : Int32))) (own_f1 p2 p4 ((p5 >>> ((2 : Int32) &&& 31)) &&& (3 : Int32)))) (own_key p1 p2))), (.int (own_f9 (own_f1 p1 p3 (p5 &&& (3 : Int32))) p1 (own_f1 p2 p4 ((p5 >>> ((2 : Int32) &&& 31)) &&& (3 : Int32))) p2))])) _
    refine fork111 _ ?_
    show Steps p.tables e below (T17.setTop (mkF m 119 #[.val (.int p1), .val (.int p2), .val (.int p3), .val (.int p4), .val (.int p5), .val (.int (own_f1 p1 p3 (p5 &&& (3 : Int32)))), .val (.int (own_f1 p2 p4 ((p5 >>> ((2 : Int32) &&& 31)) &&& (3 : Int32)))), .val (.ref b8), .val (.ref b11), .val (.long (own_key p1 p2)), .second, .val (.long (own_key (own_f1 p1 p3 (p5 &&& (3 : Int32))) (own_f1 p2 p4 ((p5 >>> ((2 : Int32) &&& 31)) &&& (3 : Int32))))), .second, .val (.int (own_f9 p1 (own_f1 p1 p3 (p5 &&& (3 : Int32))) p2 (own_f1 p2 p4 ((p5 >>> ((2 : Int32) &&& 31)) &&& (3 : Int32))))), .val (.int (own_f9 (own_f1 p1 p3 (p5 &&& (3 : Int32))) p1 (own_f1 p2 p4 ((p5 >>> ((2 : Int32) &&& 31)) &&& (3 : Int32))) p2))] [(.int (own_g (own_key (own_f1 p1 p3 (p5 &&& (3 : Int32))) (own_f1 p2 p4 ((p5 >>> ((2 : Int32) &&& 31)) &&& (3 : Int32)))) (own_key p1 p2))), (.int (own_f9 (own_f1 p1 p3 (p5 &&& (3 : Int32))) p1 (own_f1 p2 p4 ((p5 >>> ((2 : Int32) &&& 31)) &&& (3 : Int32))) p2))])) _
    refine XS.icmpNo X17.here hx rfl (hb hby at_119) rfl (teq (own_eq _ _ _ _)).2 ?_
    show Steps p.tables e below (T17.setTop (mkF m 122 #[.val (.int p1), .val (.int p2), .val (.int p3), .val (.int p4), .val (.int p5), .val (.int (own_f1 p1 p3 (p5 &&& (3 : Int32)))), .val (.int (own_f1 p2 p4 ((p5 >>> ((2 : Int32) &&& 31)) &&& (3 : Int32)))), .val (.ref b8), .val (.ref b11), .val (.long (own_key p1 p2)), .second, .val (.long (own_key (own_f1 p1 p3 (p5 &&& (3 : Int32))) (own_f1 p2 p4 ((p5 >>> ((2 : Int32) &&& 31)) &&& (3 : Int32))))), .second, .val (.int (own_f9 p1 (own_f1 p1 p3 (p5 &&& (3 : Int32))) p2 (own_f1 p2 p4 ((p5 >>> ((2 : Int32) &&& 31)) &&& (3 : Int32))))), .val (.int (own_f9 (own_f1 p1 p3 (p5 &&& (3 : Int32))) p1 (own_f1 p2 p4 ((p5 >>> ((2 : Int32) &&& 31)) &&& (3 : Int32))) p2))] [])) _
    refine XS.iconst X17.here hx rfl (hb hby at_122) ?_
    show Steps p.tables e below (T17.setTop (mkF m 123 #[.val (.int p1), .val (.int p2), .val (.int p3), .val (.int p4), .val (.int p5), .val (.int (own_f1 p1 p3 (p5 &&& (3 : Int32)))), .val (.int (own_f1 p2 p4 ((p5 >>> ((2 : Int32) &&& 31)) &&& (3 : Int32)))), .val (.ref b8), .val (.ref b11), .val (.long (own_key p1 p2)), .second, .val (.long (own_key (own_f1 p1 p3 (p5 &&& (3 : Int32))) (own_f1 p2 p4 ((p5 >>> ((2 : Int32) &&& 31)) &&& (3 : Int32))))), .second, .val (.int (own_f9 p1 (own_f1 p1 p3 (p5 &&& (3 : Int32))) p2 (own_f1 p2 p4 ((p5 >>> ((2 : Int32) &&& 31)) &&& (3 : Int32))))), .val (.int (own_f9 (own_f1 p1 p3 (p5 &&& (3 : Int32))) p1 (own_f1 p2 p4 ((p5 >>> ((2 : Int32) &&& 31)) &&& (3 : Int32))) p2))] [(.int (1 : Int32))])) _
    refine XS.goto X17.here hx rfl (pc0 := 123) (pc' := 127) rfl (hb hby at_123) (by decide) (by decide) ?_
    show Steps p.tables e below (T17.setTop (mkF m 127 #[.val (.int p1), .val (.int p2), .val (.int p3), .val (.int p4), .val (.int p5), .val (.int (own_f1 p1 p3 (p5 &&& (3 : Int32)))), .val (.int (own_f1 p2 p4 ((p5 >>> ((2 : Int32) &&& 31)) &&& (3 : Int32)))), .val (.ref b8), .val (.ref b11), .val (.long (own_key p1 p2)), .second, .val (.long (own_key (own_f1 p1 p3 (p5 &&& (3 : Int32))) (own_f1 p2 p4 ((p5 >>> ((2 : Int32) &&& 31)) &&& (3 : Int32))))), .second, .val (.int (own_f9 p1 (own_f1 p1 p3 (p5 &&& (3 : Int32))) p2 (own_f1 p2 p4 ((p5 >>> ((2 : Int32) &&& 31)) &&& (3 : Int32))))), .val (.int (own_f9 (own_f1 p1 p3 (p5 &&& (3 : Int32))) p1 (own_f1 p2 p4 ((p5 >>> ((2 : Int32) &&& 31)) &&& (3 : Int32))) p2))] [(.int (1 : Int32))])) _
    exact retN X17 hx (t := .boolean) Bd.returns (by simp) (hb hby at_127) hr
  · show Q0 Z p1 p2 p3 p4 p5 h0 n0 _ T17.heap _
    exact ⟨rfl, N17⟩
theorem own_traces {l : Launch} (h : l.flags = flags0) : l.stackTraces = true := by
  show (!l.flags.contains noTraceFlag) = true
  rw [h]
  decide +kernel
theorem own_us {args : Array Value} {s : State} (h1 : (Cond.initializedFor "java/lang/Throwable" "UNASSIGNED_STACK" "[Ljava/lang/StackTraceElement;").before args s = true) (h2 : (Cond.arrayOf (.static "java/lang/Throwable" "UNASSIGNED_STACK" "[Ljava/lang/StackTraceElement;") (.object "java/lang/StackTraceElement")).value args s none s [] = some true) : ∃ w, Sta s s.heap "java/lang/Throwable" "UNASSIGNED_STACK" "[Ljava/lang/StackTraceElement;" (.ref w) := by
  obtain ⟨w, e⟩ := arr_v h2
  exact ⟨w, Sta.start e (Or.inl h1)⟩
theorem own_ss {args : Array Value} {s : State} (h1 : (Cond.initializedFor "java/lang/Throwable" "SUPPRESSED_SENTINEL" "Ljava/util/List;").before args s = true) (h2 : (Cond.exactly (.static "java/lang/Throwable" "SUPPRESSED_SENTINEL" "Ljava/util/List;") "java/util/Collections$EmptyList").value args s none s [] = some true) : ∃ w, Sta s s.heap "java/lang/Throwable" "SUPPRESSED_SENTINEL" "Ljava/util/List;" (.ref w) := by
  obtain ⟨w, e⟩ := exa_v h2
  exact ⟨w, Sta.start e (Or.inl h1)⟩
-- 5. FROM THE CASE'S WORDS TO rm0, AND THE OWED THEOREMS
set_option maxRecDepth 65536 in
set_option maxHeartbeats 40000000 in
theorem comes_1 {Post : Tables → Env → Array Value → State → Outcome → State → Prop} (hpost : ∀ tb e args s v u, (limb_1_1.after args s (.returned v) u = true ∧ limb_1_2.after args s (.returned v) u = true ∧ True) → ReturnedEndW s (.returned v) u (Jvm.fieldLocs frame_1_writes args s ++ Jvm.arrayLocs frame_1_arrays args s ++ Jvm.staticLocs frame_1_statics s) 24 13184 → Post tb e args s (.returned v) u) :
    ArmFor flags0 classFile x code maxLocals ret World_1 tables_1 room_1 Calls_1 rest_1 Pre_1 Post := by
  intro l hfl _ _ p e ha hc hk s m args below hf hA hF happ hP
  obtain ⟨hcalls, hrest, hpre⟩ := hP
  obtain ⟨-, -, -, hnamed, -, -, -, hat⟩ := (Spec.applies_iff hf).mp happ
  obtain ⟨hg, hn⟩ := and_e (Cond.before_iff.mp (show (Jvm.Cond.and given_1 narrow_1).before args s = true from hpre))
  obtain ⟨g18, g19⟩ := and_e hg
  obtain ⟨g20, g21⟩ := and_e g19
  obtain ⟨g22, g23⟩ := and_e g21
  obtain ⟨g24, g25⟩ := and_e g23
  obtain ⟨g26, g27⟩ := and_e g25
  obtain ⟨w0, w1, w2, w3, w4, rfl⟩ : ∃ w0 w1 w2 w3 w4 : Value, args = #[w0, w1, w2, w3, w4] := by
    have hs : args.size = 5 := by simpa [Cond.value, given_1] using g18
    obtain ⟨L⟩ := args
    match L, hs with
    | [w0, w1, w2, w3, w4], _ => exact ⟨w0, w1, w2, w3, w4, rfl⟩
  have hw := fun d (hd : d ∈ tables_1) => atoms_spec (ws := Jvm.Cond.code x code maxLocals ret :: tables_1) hat d (List.mem_cons_of_mem _ hd)
  have hfit : Fit s := fun {y c} hc i hi => by
    obtain ⟨ha, rfl⟩ := Array.getElem?_eq_some_iff.mp hc
    have q := List.all_eq_true.mp ((Array.all_eq_true_iff_forall_mem.mp hF) _ (Array.getElem_mem ha)) i (List.mem_range.mpr hi)
    simpa [Array.getElem?_eq_getElem hi] using q
  -- the named sets: hsets indexes jdkStatics_1 (Statement.lean): (hsets _ (List.mem_of_getElem? (i := n) rfl)) is its n-th word, before the call
  obtain ⟨hsets, hown0⟩ := atoms_of _ (rest_1_c_eq ▸ (show rest_1_c.before _ s = true from hrest))
  have hr0 := Cond.before_iff.mp hown0
  obtain ⟨i0, ei0⟩ := is_v g20
  obtain rfl : w0 = (.int i0) := Option.some.inj ei0
  obtain ⟨i1, ei1⟩ := is_v g22
  obtain rfl : w1 = (.int i1) := Option.some.inj ei1
  obtain ⟨i2, ei2⟩ := is_v g24
  obtain rfl : w2 = (.int i2) := Option.some.inj ei2
  obtain ⟨i3, ei3⟩ := is_v g26
  obtain rfl : w3 = (.int i3) := Option.some.inj ei3
  obtain ⟨i4, ei4⟩ := is_v g27
  obtain rfl : w4 = (.int i4) := Option.some.inj ei4
  have hl : l.stackTraces = true := own_traces hfl
  obtain ⟨w1, S1⟩ := own_us (hsets _ (List.mem_of_getElem? (i := 6) rfl)) (Cond.before_iff.mp (hsets _ (List.mem_of_getElem? (i := 8) rfl)))
  obtain ⟨w2, S2⟩ := own_ss (hsets _ (List.mem_of_getElem? (i := 11) rfl)) (Cond.before_iff.mp (hsets _ (List.mem_of_getElem? (i := 13) rfl)))
  obtain ⟨n, o, h1, h2, h3, _, L, rfl, ⟨rfl, N⟩, hq⟩ := rm0 l hl s _ hw tables_1 i0 i1 i2 i3 i4 w1 w2 s.heap s.heap.size (Nat.le_refl _) rfl S1 S2 p e ha hc hk s m _ below hf ((Spec.applies_iff_loose hf).mp happ).1 ⟨rfl, State.Warmed39.refl s, rfl⟩ ⟨MethodsKnown_of_tablesKnown hcalls.2.1, FramesKnown_of_framesKnown hcalls.1 hf⟩
  refine ⟨n, _, h1, h2, h3, hpost _ _ _ _ _ _ ⟨Cond.after_iff.mpr rfl, Cond.after_iff.mpr (eq_i res_at (Term.int_eval (1)) rfl), trivial⟩ ⟨hq.1, hq.2.1, hq.2.2.1, (hq.2.2.2.sift fun y hy => Or.inr (N y hy)).mono (by decide) (by decide)⟩⟩
theorem main_1_1 : Claimed_1_1 := comes_1 fun _ _ _ _ _ _ h hF => ⟨h.1, hF⟩
theorem main_1_2 : Claimed_1_2 := comes_1 fun _ _ _ _ _ _ h hF => ⟨h.2.1, hF⟩
end Jvm.Pilot.@@N@@
namespace Jvm.Pilot.@@N@@
open Jvm Jvm.ClassFile Sem Op Lib Jvm.Free Jvm.Stand Jvm.Pilot.@@N@@.Jvm.D
/-! MADE BY PROGRAM (witnessworld.py) out of the Statement's table words and the real class files: 29 classes; the members and pool entries that the words name. The judged class is class 1, her method 3. -/
namespace start1
open Jvm.ClassFile
def u (s : String) : CpInfo := .utf8 (stringToUtf16 s)
/-- a pool by its gaps: so many unusable entries, then the entry; so many at the end -/
def gap : Nat → List CpInfo → List CpInfo
  | 0, r => r
  | n + 1, r => .unusable :: gap n r
def poolList (es : List (Nat × CpInfo)) (last : Nat) : List CpInfo := es.foldr (fun e r => gap e.1 (e.2 :: r)) (gap last [])
def pool (es : List (Nat × CpInfo)) (last : Nat) : Array CpInfo := ⟨poolList es last⟩
def fileOf (pool : Array CpInfo) (this : Nat) (attrs : Array Attribute := #[]) (ms : Array MethodInfo := #[]) (fl : Nat := 33) (sup : Nat := 0) (ifs : Array Nat := #[]) (fds : Array FieldInfo := #[]) : ClassFile where
  minorVersion := 0
  majorVersion := 65
  constantPool := pool
  accessFlags := fl
  thisClass := this
  superClass := sup
  interfaces := ifs
  fields := fds
  methods := ms
  attributes := attrs
def plain (name : String) (sup : Option ClassId) : Class where
  name := name
  kind := .ordinary
  loader := none
  accessFlags := 33
  super := sup
  interfaces := #[]
  cf := none
  fields := #[]
  methods := #[]
  instanceTypes := #[]
  staticTypes := #[]
  resolved := #[]
  callSites := []
  init := .initialized
  statics := none
  mirror := none

def pool0 : Array CpInfo := pool [(5, u "<init>"), (0, u "()V"), (1, .class_ 10), (1, u "java/lang/Object")] 113

def k0c0 : Code := { maxStack := 0, maxLocals := 1, code := object_method_1_code, exceptionTable := #[], attributes := #[] }
def k0m0 : Method := { name := "<init>", desc := "()V", sig := { parameters := [], returnType := none }, accessFlags := 1, code := some k0c0 }
/-- java/lang/Object -/
def k0 : Class := { plain "java/lang/Object" none with
  accessFlags := 33
  interfaces := #[]
  cf := some (fileOf pool0 8 #[] #[{ accessFlags := 1, nameIndex := 5, descriptorIndex := 6, attributes := #[] }] 33 0 #[] #[])
  fields := #[]
  methods := #[k0m0]
  instanceTypes := #[]
  staticTypes := #[]
  resolved := Array.replicate 124 none
  statics := none }

def pool1 : Array CpInfo := pool [(2, .class_ 4), (1, u "java/lang/Object"), (0, u "<init>"), (0, u "()V"), (0, .long 4294967296), (3, .long 18446744071562067968), (1, .methodref 14 15), (0, .class_ 16), (0, .nameAndType 17 18), (0, u "com/example/rhadamanthus/rhadamanthus/core/SyntaxErrorLiesBeyondPinLaw"), (0, u "near"), (0, u "(III)I"), (0, .class_ 20), (0, u "com/example/rhadamanthus/rhadamanthus/core/SyntaxError"), (0, .string 22), (0, u "a"), (0, .methodref 19 24), (0, .nameAndType 5 25), (0, u "(Ljava/lang/String;II)V"), (0, .string 27), (0, u "b"), (0, .methodref 14 29), (0, .nameAndType 30 31), (0, u "key"), (0, u "(II)J"), (0, .methodref 19 33), (0, .nameAndType 34 35), (0, u "liesBeyond"), (0, u "(Lcom/example/rhadamanthus/rhadamanthus/core/SyntaxError;)Z"), (3, u "law"), (0, u "(IIIII)Z")] 2

def k1m0 : Method := { name := "<init>", desc := "()V", sig := { parameters := [], returnType := none }, accessFlags := 2, code := none }
def k1c1 : Code := { maxStack := 6, maxLocals := 2, code := method_2_code, exceptionTable := #[], attributes := #[] }
def k1m1 : Method := { name := "key", desc := "(II)J", sig := { parameters := [.int, .int], returnType := some .long }, accessFlags := 10, code := some k1c1 }
def k1c2 : Code := { maxStack := 2, maxLocals := 3, code := method_3_code, exceptionTable := #[], attributes := #[] }
def k1m2 : Method := { name := "near", desc := "(III)I", sig := { parameters := [.int, .int, .int], returnType := some .int }, accessFlags := 10, code := some k1c2 }
def k1c3 : Code := { maxStack := 5, maxLocals := 15, code := code, exceptionTable := #[], attributes := #[] }
def k1m3 : Method := { name := "law", desc := "(IIIII)Z", sig := { parameters := [.int, .int, .int, .int, .int], returnType := some .boolean }, accessFlags := 9, code := some k1c3 }
/-- com/example/rhadamanthus/rhadamanthus/core/SyntaxErrorLiesBeyondPinLaw -/
def k1 : Class := { plain "com/example/rhadamanthus/rhadamanthus/core/SyntaxErrorLiesBeyondPinLaw" (some 0) with
  accessFlags := 49
  interfaces := #[]
  cf := some (fileOf pool1 14 #[] #[{ accessFlags := 2, nameIndex := 5, descriptorIndex := 6, attributes := #[] }, { accessFlags := 10, nameIndex := 30, descriptorIndex := 31, attributes := #[] }, { accessFlags := 10, nameIndex := 17, descriptorIndex := 18, attributes := #[] }, { accessFlags := 9, nameIndex := 39, descriptorIndex := 40, attributes := #[] }] 49 2 #[] #[])
  fields := #[]
  methods := #[k1m0, k1m1, k1m2, k1m3]
  instanceTypes := #[]
  staticTypes := #[]
  resolved := Array.replicate 43 none
  statics := none }

def pool2 : Array CpInfo := pool [(1, .class_ 2), (0, u "java/io/Serializable"), (0, .class_ 4), (0, u "java/lang/Object")] 2

/-- java/io/Serializable -/
def k2 : Class := { plain "java/io/Serializable" (some 0) with
  accessFlags := 1537
  interfaces := #[]
  cf := some (fileOf pool2 1 #[] #[] 1537 3 #[] #[])
  fields := #[]
  methods := #[]
  instanceTypes := #[]
  staticTypes := #[]
  resolved := Array.replicate 7 none
  statics := none }

def pool3 : Array CpInfo := pool [(1, .methodref 2 3), (0, .class_ 4), (0, .nameAndType 5 6), (0, u "java/lang/Object"), (0, u "<init>"), (0, u "()V"), (0, .fieldref 8 9), (0, .class_ 10), (0, .nameAndType 11 12), (0, u "java/lang/Throwable"), (0, u "cause"), (0, u "Ljava/lang/Throwable;"), (0, .fieldref 8 14), (0, .nameAndType 15 16), (0, u "UNASSIGNED_STACK"), (0, u "[Ljava/lang/StackTraceElement;"), (0, .fieldref 8 18), (0, .nameAndType 19 16), (0, u "stackTrace"), (0, .fieldref 8 21), (0, .nameAndType 22 23), (0, u "SUPPRESSED_SENTINEL"), (0, u "Ljava/util/List;"), (0, .fieldref 8 25), (0, .nameAndType 26 23), (0, u "suppressedExceptions"), (0, .methodref 8 28), (0, .nameAndType 29 30), (0, u "fillInStackTrace"), (0, u "()Ljava/lang/Throwable;"), (0, .fieldref 8 32), (0, .nameAndType 33 34), (0, u "detailMessage"), (0, u "Ljava/lang/String;"), (58, .class_ 94), (0, u "java/lang/Throwable$WrappedPrintStream"), (6, .class_ 103), (1, u "java/lang/Throwable$PrintStreamOrWriter"), (61, u "$assertionsDisabled"), (0, u "Z"), (26, .class_ 194), (0, u "java/lang/Throwable$WrappedPrintWriter"), (3, .fieldref 8 199), (0, .nameAndType 200 201), (0, u "backtrace"), (0, u "Ljava/lang/Object;"), (0, .methodref 8 203), (0, .nameAndType 29 204), (0, u "(I)Ljava/lang/Throwable;"), (6, u "depth"), (0, u "I"), (10, u "(Ljava/lang/String;)V"), (45, .class_ 271), (1, u "java/lang/Throwable$SentinelHolder"), (32, u "EMPTY_THROWABLE_ARRAY"), (0, u "[Ljava/lang/Throwable;"), (12, .class_ 319), (0, u "java/io/Serializable"), (0, u "serialVersionUID"), (0, u "J"), (5, u "NULL_CAUSE_MESSAGE"), (0, u "SELF_SUPPRESSION_MESSAGE"), (0, u "CAUSE_CAPTION"), (0, u "SUPPRESSED_CAPTION")] 73

def k3c0 : Code := { maxStack := 2, maxLocals := 1, code := jdk_78_method_1_code, exceptionTable := #[], attributes := #[] }
def k3m0 : Method := { name := "<init>", desc := "()V", sig := { parameters := [], returnType := none }, accessFlags := 1, code := some k3c0 }
def k3c1 : Code := { maxStack := 2, maxLocals := 2, code := jdk_78_method_2_code, exceptionTable := #[], attributes := #[] }
def k3m1 : Method := { name := "<init>", desc := "(Ljava/lang/String;)V", sig := { parameters := [(.object "java/lang/String")], returnType := none }, accessFlags := 1, code := some k3c1 }
def k3c2 : Code := { maxStack := 2, maxLocals := 1, code := ⟨#[0x2a, 0xb4, 0x00, 0x11, 0xc7, 0x00, 0x0a, 0x2a, 0xb4, 0x00, 0xc6, 0xc6, 0x00, 0x10, 0x2a, 0x03, 0xb6, 0x00, 0xca, 0x57, 0x2a, 0xb2, 0x00, 0x0d, 0xb5, 0x00, 0x11, 0x2a, 0xb0]⟩, exceptionTable := #[], attributes := #[] }
def k3m2 : Method := { name := "fillInStackTrace", desc := "()Ljava/lang/Throwable;", sig := { parameters := [], returnType := some (.object "java/lang/Throwable") }, accessFlags := 33, code := some k3c2 }
def k3m3 : Method := { name := "fillInStackTrace", desc := "(I)Ljava/lang/Throwable;", sig := { parameters := [.int], returnType := some (.object "java/lang/Throwable") }, accessFlags := 258, code := none }
/-- java/lang/Throwable -/
def k3 : Class := { plain "java/lang/Throwable" (some 0) with
  accessFlags := 33
  interfaces := #[2]
  cf := some (fileOf pool3 8 #[.nestMembers #[193, 93, 101, 269]] #[{ accessFlags := 1, nameIndex := 5, descriptorIndex := 6, attributes := #[] }, { accessFlags := 1, nameIndex := 5, descriptorIndex := 223, attributes := #[] }, { accessFlags := 33, nameIndex := 29, descriptorIndex := 30, attributes := #[] }, { accessFlags := 258, nameIndex := 29, descriptorIndex := 204, attributes := #[] }] 33 2 #[318] #[{ accessFlags := 26, nameIndex := 320, descriptorIndex := 321, attributes := #[] }, { accessFlags := 130, nameIndex := 200, descriptorIndex := 201, attributes := #[] }, { accessFlags := 2, nameIndex := 33, descriptorIndex := 34, attributes := #[] }, { accessFlags := 26, nameIndex := 15, descriptorIndex := 16, attributes := #[] }, { accessFlags := 2, nameIndex := 11, descriptorIndex := 12, attributes := #[] }, { accessFlags := 2, nameIndex := 19, descriptorIndex := 16, attributes := #[] }, { accessFlags := 130, nameIndex := 211, descriptorIndex := 212, attributes := #[] }, { accessFlags := 26, nameIndex := 22, descriptorIndex := 23, attributes := #[] }, { accessFlags := 2, nameIndex := 26, descriptorIndex := 23, attributes := #[] }, { accessFlags := 26, nameIndex := 327, descriptorIndex := 34, attributes := #[] }, { accessFlags := 26, nameIndex := 328, descriptorIndex := 34, attributes := #[] }, { accessFlags := 26, nameIndex := 329, descriptorIndex := 34, attributes := #[] }, { accessFlags := 26, nameIndex := 330, descriptorIndex := 34, attributes := #[] }, { accessFlags := 26, nameIndex := 304, descriptorIndex := 305, attributes := #[] }, { accessFlags := 4120, nameIndex := 165, descriptorIndex := 166, attributes := #[] }])
  fields := #[{ name := "serialVersionUID", type := .long, accessFlags := 26, slot := 0, constantValue := 0 }, { name := "backtrace", type := (.object "java/lang/Object"), accessFlags := 130, slot := 0, constantValue := 0 }, { name := "detailMessage", type := (.object "java/lang/String"), accessFlags := 2, slot := 1, constantValue := 0 }, { name := "UNASSIGNED_STACK", type := (.array (.object "java/lang/StackTraceElement")), accessFlags := 26, slot := 1, constantValue := 0 }, { name := "cause", type := (.object "java/lang/Throwable"), accessFlags := 2, slot := 2, constantValue := 0 }, { name := "stackTrace", type := (.array (.object "java/lang/StackTraceElement")), accessFlags := 2, slot := 3, constantValue := 0 }, { name := "depth", type := .int, accessFlags := 130, slot := 4, constantValue := 0 }, { name := "SUPPRESSED_SENTINEL", type := (.object "java/util/List"), accessFlags := 26, slot := 2, constantValue := 0 }, { name := "suppressedExceptions", type := (.object "java/util/List"), accessFlags := 2, slot := 5, constantValue := 0 }, { name := "NULL_CAUSE_MESSAGE", type := (.object "java/lang/String"), accessFlags := 26, slot := 3, constantValue := 0 }, { name := "SELF_SUPPRESSION_MESSAGE", type := (.object "java/lang/String"), accessFlags := 26, slot := 4, constantValue := 0 }, { name := "CAUSE_CAPTION", type := (.object "java/lang/String"), accessFlags := 26, slot := 5, constantValue := 0 }, { name := "SUPPRESSED_CAPTION", type := (.object "java/lang/String"), accessFlags := 26, slot := 6, constantValue := 0 }, { name := "EMPTY_THROWABLE_ARRAY", type := (.array (.object "java/lang/Throwable")), accessFlags := 26, slot := 7, constantValue := 0 }, { name := "$assertionsDisabled", type := .boolean, accessFlags := 4120, slot := 8, constantValue := 0 }]
  methods := #[k3m0, k3m1, k3m2, k3m3]
  instanceTypes := #[(.object "java/lang/Object"), (.object "java/lang/String"), (.object "java/lang/Throwable"), (.array (.object "java/lang/StackTraceElement")), .int, (.object "java/util/List")]
  staticTypes := #[.long, (.array (.object "java/lang/StackTraceElement")), (.object "java/util/List"), (.object "java/lang/String"), (.object "java/lang/String"), (.object "java/lang/String"), (.object "java/lang/String"), (.array (.object "java/lang/Throwable")), .boolean]
  resolved := Array.replicate 404 none
  statics := some 0 }

def pool4 : Array CpInfo := pool [(2, .class_ 4), (1, u "java/lang/Throwable"), (0, u "<init>"), (0, u "()V"), (0, .methodref 2 8), (0, .nameAndType 5 9), (0, u "(Ljava/lang/String;)V"), (9, .class_ 20), (0, u "java/lang/Exception"), (0, u "serialVersionUID"), (0, u "J")] 17

def k4m0 : Method := { name := "<init>", desc := "()V", sig := { parameters := [], returnType := none }, accessFlags := 1, code := none }
def k4c1 : Code := { maxStack := 2, maxLocals := 2, code := jdk_59_method_2_code, exceptionTable := #[], attributes := #[] }
def k4m1 : Method := { name := "<init>", desc := "(Ljava/lang/String;)V", sig := { parameters := [(.object "java/lang/String")], returnType := none }, accessFlags := 1, code := some k4c1 }
/-- java/lang/Exception -/
def k4 : Class := { plain "java/lang/Exception" (some 3) with
  accessFlags := 33
  interfaces := #[]
  cf := some (fileOf pool4 19 #[] #[{ accessFlags := 1, nameIndex := 5, descriptorIndex := 6, attributes := #[] }, { accessFlags := 1, nameIndex := 5, descriptorIndex := 9, attributes := #[] }] 33 2 #[] #[{ accessFlags := 24, nameIndex := 21, descriptorIndex := 22, attributes := #[] }])
  fields := #[{ name := "serialVersionUID", type := .long, accessFlags := 24, slot := 0, constantValue := 0 }]
  methods := #[k4m0, k4m1]
  instanceTypes := #[(.object "java/lang/Object"), (.object "java/lang/String"), (.object "java/lang/Throwable"), (.array (.object "java/lang/StackTraceElement")), .int, (.object "java/util/List")]
  staticTypes := #[.long]
  resolved := Array.replicate 40 none
  statics := none }

def pool5 : Array CpInfo := pool [(1, .methodref 2 3), (0, .class_ 4), (0, .nameAndType 5 6), (0, u "java/lang/Exception"), (0, u "<init>"), (0, u "(Ljava/lang/String;)V"), (0, .fieldref 8 9), (0, .class_ 10), (0, .nameAndType 11 12), (0, u "com/example/rhadamanthus/rhadamanthus/core/SyntaxError"), (0, u "line"), (0, u "I"), (0, .fieldref 8 14), (0, .nameAndType 15 12), (0, u "column"), (0, u "serialVersionUID"), (0, u "J"), (3, u "(Ljava/lang/String;II)V"), (5, u "liesBeyond"), (0, u "(Lcom/example/rhadamanthus/rhadamanthus/core/SyntaxError;)Z")] 3

def k5c0 : Code := { maxStack := 2, maxLocals := 4, code := prog_179_method_1_code, exceptionTable := #[], attributes := #[] }
def k5m0 : Method := { name := "<init>", desc := "(Ljava/lang/String;II)V", sig := { parameters := [(.object "java/lang/String"), .int, .int], returnType := none }, accessFlags := 0, code := some k5c0 }
def k5c1 : Code := { maxStack := 2, maxLocals := 2, code := prog_179_method_4_code, exceptionTable := #[], attributes := #[] }
def k5m1 : Method := { name := "liesBeyond", desc := "(Lcom/example/rhadamanthus/rhadamanthus/core/SyntaxError;)Z", sig := { parameters := [(.object "com/example/rhadamanthus/rhadamanthus/core/SyntaxError")], returnType := some .boolean }, accessFlags := 0, code := some k5c1 }
/-- com/example/rhadamanthus/rhadamanthus/core/SyntaxError -/
def k5 : Class := { plain "com/example/rhadamanthus/rhadamanthus/core/SyntaxError" (some 4) with
  accessFlags := 48
  interfaces := #[]
  cf := some (fileOf pool5 8 #[] #[{ accessFlags := 0, nameIndex := 5, descriptorIndex := 21, attributes := #[] }, { accessFlags := 0, nameIndex := 27, descriptorIndex := 28, attributes := #[] }] 48 2 #[] #[{ accessFlags := 26, nameIndex := 16, descriptorIndex := 17, attributes := #[] }, { accessFlags := 18, nameIndex := 11, descriptorIndex := 12, attributes := #[] }, { accessFlags := 18, nameIndex := 15, descriptorIndex := 12, attributes := #[] }])
  fields := #[{ name := "serialVersionUID", type := .long, accessFlags := 26, slot := 0, constantValue := 0 }, { name := "line", type := .int, accessFlags := 18, slot := 6, constantValue := 0 }, { name := "column", type := .int, accessFlags := 18, slot := 7, constantValue := 0 }]
  methods := #[k5m0, k5m1]
  instanceTypes := #[(.object "java/lang/Object"), (.object "java/lang/String"), (.object "java/lang/Throwable"), (.array (.object "java/lang/StackTraceElement")), .int, (.object "java/util/List"), .int, .int]
  staticTypes := #[.long]
  resolved := Array.replicate 32 none
  statics := none }

def pool6 : Array CpInfo := pool [(1, .class_ 2), (0, u "java/lang/Comparable"), (0, .class_ 4), (0, u "java/lang/Object")] 7

/-- java/lang/Comparable -/
def k6 : Class := { plain "java/lang/Comparable" (some 0) with
  accessFlags := 1537
  interfaces := #[]
  cf := some (fileOf pool6 1 #[] #[] 1537 3 #[] #[])
  fields := #[]
  methods := #[]
  instanceTypes := #[]
  staticTypes := #[]
  resolved := Array.replicate 12 none
  statics := none }

def pool7 : Array CpInfo := pool [(2, .class_ 4), (1, u "java/lang/CharSequence"), (42, .class_ 48), (0, u "java/lang/CharSequence$1CodePointIterator"), (10, .class_ 60), (0, u "java/lang/CharSequence$1CharIterator"), (5, .class_ 67), (0, u "java/lang/Object")] 63

/-- java/lang/CharSequence -/
def k7 : Class := { plain "java/lang/CharSequence" (some 0) with
  accessFlags := 1537
  interfaces := #[]
  cf := some (fileOf pool7 2 #[.nestMembers #[47, 59]] #[] 1537 66 #[] #[])
  fields := #[]
  methods := #[]
  instanceTypes := #[]
  staticTypes := #[]
  resolved := Array.replicate 131 none
  statics := none }

def pool8 : Array CpInfo := pool [(1, .class_ 2), (0, u "java/lang/constant/Constable"), (0, .class_ 4), (0, u "java/lang/Object")] 6

/-- java/lang/constant/Constable -/
def k8 : Class := { plain "java/lang/constant/Constable" (some 0) with
  accessFlags := 1537
  interfaces := #[]
  cf := some (fileOf pool8 1 #[] #[] 1537 3 #[] #[])
  fields := #[]
  methods := #[]
  instanceTypes := #[]
  staticTypes := #[]
  resolved := Array.replicate 11 none
  statics := none }

def pool9 : Array CpInfo := pool [(1, .class_ 2), (0, u "java/lang/constant/ConstantDesc"), (0, .class_ 4), (0, u "java/lang/Object")] 32

/-- java/lang/constant/ConstantDesc -/
def k9 : Class := { plain "java/lang/constant/ConstantDesc" (some 0) with
  accessFlags := 1537
  interfaces := #[]
  cf := some (fileOf pool9 1 #[] #[] 1537 3 #[] #[])
  fields := #[]
  methods := #[]
  instanceTypes := #[]
  staticTypes := #[]
  resolved := Array.replicate 37 none
  statics := none }

def pool10 : Array CpInfo := pool [(2, .class_ 4), (1, u "java/lang/Object"), (0, u "<init>"), (0, u "()V"), (3, .class_ 12), (1, u "java/lang/String"), (0, u "value"), (0, u "[B"), (2, u "coder"), (0, u "B"), (2, u "hash"), (0, u "I"), (2, u "hashIsZero"), (0, u "Z"), (13, u "COMPACT_STRINGS"), (534, .class_ 576), (0, u "java/lang/CharSequence"), (22, u "CASE_INSENSITIVE_ORDER"), (0, u "Ljava/util/Comparator;"), (500, u "serialPersistentFields"), (0, u "[Ljava/io/ObjectStreamField;"), (0, .class_ 1104), (0, u "java/lang/String$CaseInsensitiveComparator"), (1, .class_ 1107), (0, u "java/io/Serializable"), (0, .class_ 1109), (0, u "java/lang/Comparable"), (0, .class_ 1111), (0, u "java/lang/constant/Constable"), (0, .class_ 1113), (0, u "java/lang/constant/ConstantDesc"), (2, u "serialVersionUID"), (0, u "J"), (3, u "REPL"), (0, u "C"), (2, u "LATIN1"), (1, u "UTF16")] 323

def k10m0 : Method := { name := "<init>", desc := "()V", sig := { parameters := [], returnType := none }, accessFlags := 1, code := none }
/-- java/lang/String -/
def k10 : Class := { plain "java/lang/String" (some 0) with
  accessFlags := 49
  interfaces := #[2, 6, 7, 8, 9]
  cf := some (fileOf pool10 10 #[.nestMembers #[1103]] #[{ accessFlags := 1, nameIndex := 5, descriptorIndex := 6, attributes := #[] }] 49 2 #[1106, 1108, 575, 1110, 1112] #[{ accessFlags := 18, nameIndex := 13, descriptorIndex := 14, attributes := #[] }, { accessFlags := 18, nameIndex := 17, descriptorIndex := 18, attributes := #[] }, { accessFlags := 2, nameIndex := 21, descriptorIndex := 22, attributes := #[] }, { accessFlags := 2, nameIndex := 25, descriptorIndex := 26, attributes := #[] }, { accessFlags := 26, nameIndex := 1116, descriptorIndex := 1117, attributes := #[] }, { accessFlags := 24, nameIndex := 40, descriptorIndex := 26, attributes := #[] }, { accessFlags := 26, nameIndex := 1101, descriptorIndex := 1102, attributes := #[] }, { accessFlags := 26, nameIndex := 1121, descriptorIndex := 1122, attributes := #[] }, { accessFlags := 25, nameIndex := 599, descriptorIndex := 600, attributes := #[] }, { accessFlags := 24, nameIndex := 1125, descriptorIndex := 18, attributes := #[] }, { accessFlags := 24, nameIndex := 1127, descriptorIndex := 18, attributes := #[] }])
  fields := #[{ name := "value", type := (.array .byte), accessFlags := 18, slot := 0, constantValue := 0 }, { name := "coder", type := .byte, accessFlags := 18, slot := 1, constantValue := 0 }, { name := "hash", type := .int, accessFlags := 2, slot := 2, constantValue := 0 }, { name := "hashIsZero", type := .boolean, accessFlags := 2, slot := 3, constantValue := 0 }, { name := "serialVersionUID", type := .long, accessFlags := 26, slot := 0, constantValue := 0 }, { name := "COMPACT_STRINGS", type := .boolean, accessFlags := 24, slot := 1, constantValue := 0 }, { name := "serialPersistentFields", type := (.array (.object "java/io/ObjectStreamField")), accessFlags := 26, slot := 2, constantValue := 0 }, { name := "REPL", type := .char, accessFlags := 26, slot := 3, constantValue := 0 }, { name := "CASE_INSENSITIVE_ORDER", type := (.object "java/util/Comparator"), accessFlags := 25, slot := 4, constantValue := 0 }, { name := "LATIN1", type := .byte, accessFlags := 24, slot := 5, constantValue := 0 }, { name := "UTF16", type := .byte, accessFlags := 24, slot := 6, constantValue := 0 }]
  methods := #[k10m0]
  instanceTypes := #[(.array .byte), .byte, .int, .boolean]
  staticTypes := #[.long, .boolean, (.array (.object "java/io/ObjectStreamField")), .char, (.object "java/util/Comparator"), .byte, .byte]
  resolved := Array.replicate 1451 none
  statics := none }

def pool11 : Array CpInfo := pool [(2, .class_ 4), (1, u "java/lang/Object"), (0, u "<init>"), (0, u "()V"), (12, .class_ 20), (0, u "java/util/Collections"), (63, u "r"), (0, u "Ljava/util/Random;"), (80, .class_ 167), (0, u "java/util/Collections$UnmodifiableCollection"), (6, .class_ 175), (0, u "java/util/Collections$UnmodifiableSequencedCollection"), (6, .class_ 183), (0, u "java/util/Collections$UnmodifiableSet"), (6, .class_ 191), (0, u "java/util/Collections$UnmodifiableSequencedSet"), (6, .class_ 199), (0, u "java/util/Collections$UnmodifiableSortedSet"), (6, .class_ 207), (0, u "java/util/Collections$UnmodifiableNavigableSet"), (4, .class_ 213), (0, u "java/util/Collections$UnmodifiableList"), (1, .class_ 216), (0, u "java/util/Collections$UnmodifiableRandomAccessList"), (6, .class_ 224), (0, u "java/util/Collections$UnmodifiableMap"), (6, .class_ 232), (0, u "java/util/Collections$UnmodifiableSequencedMap"), (4, .class_ 238), (0, u "java/util/Collections$UnmodifiableSortedMap"), (6, .class_ 246), (0, u "java/util/Collections$UnmodifiableNavigableMap"), (3, .class_ 251), (0, u "java/util/Collections$SynchronizedCollection"), (4, .class_ 257), (0, u "java/util/Collections$SynchronizedSet"), (4, .class_ 263), (0, u "java/util/Collections$SynchronizedSortedSet"), (1, .class_ 266), (0, u "java/util/Collections$SynchronizedNavigableSet"), (1, .class_ 269), (0, u "java/util/Collections$SynchronizedRandomAccessList"), (1, .class_ 272), (0, u "java/util/Collections$SynchronizedList"), (5, .class_ 279), (0, u "java/util/Collections$SynchronizedMap"), (1, .class_ 282), (0, u "java/util/Collections$SynchronizedSortedMap"), (1, .class_ 285), (0, u "java/util/Collections$SynchronizedNavigableMap"), (1, .class_ 288), (0, u "java/util/Collections$CheckedCollection"), (11, .class_ 301), (0, u "java/util/Collections$CheckedQueue"), (3, .class_ 306), (0, u "java/util/Collections$CheckedSet"), (3, .class_ 311), (0, u "java/util/Collections$CheckedSortedSet"), (3, .class_ 316), (0, u "java/util/Collections$CheckedNavigableSet"), (3, .class_ 321), (0, u "java/util/Collections$CheckedRandomAccessList"), (3, .class_ 326), (0, u "java/util/Collections$CheckedList"), (1, .class_ 329), (0, u "java/util/Collections$CheckedMap"), (3, .class_ 334), (0, u "java/util/Collections$CheckedSortedMap"), (3, .class_ 339), (0, u "java/util/Collections$CheckedNavigableMap"), (4, .class_ 346), (1, u "java/util/Collections$EmptyIterator"), (3, .class_ 352), (1, u "java/util/Collections$EmptyListIterator"), (2, .class_ 357), (1, u "java/util/Collections$EmptyEnumeration"), (4, u "EMPTY_SET"), (0, u "Ljava/util/Set;"), (6, u "EMPTY_LIST"), (0, u "Ljava/util/List;"), (2, u "EMPTY_MAP"), (0, u "Ljava/util/Map;"), (4, .class_ 381), (0, u "java/util/Collections$SingletonSet"), (2, .class_ 385), (0, u "java/util/Collections$1"), (1, .class_ 388), (0, u "java/util/Collections$2"), (1, .class_ 391), (0, u "java/util/Collections$SingletonList"), (1, .class_ 394), (0, u "java/util/Collections$SingletonMap"), (22, .class_ 418), (0, u "java/util/Collections$CopiesList"), (4, .class_ 425), (1, u "java/util/Collections$ReverseComparator"), (8, .class_ 435), (0, u "java/util/Collections$ReverseComparator2"), (6, .class_ 443), (0, u "java/util/Collections$3"), (25, .class_ 470), (0, u "java/util/Collections$SetFromMap"), (2, .class_ 474), (0, u "java/util/Collections$SequencedSetFromMap"), (3, .class_ 479), (0, u "java/util/Collections$AsLIFOQueue"), (11, .class_ 492), (0, u "java/util/Collections$EmptySet"), (1, .class_ 495), (0, u "java/util/Collections$EmptyList"), (1, .class_ 498), (0, u "java/util/Collections$EmptyMap"), (1, u "BINARYSEARCH_THRESHOLD"), (0, u "I"), (2, u "REVERSE_THRESHOLD"), (1, u "SHUFFLE_THRESHOLD"), (1, u "FILL_THRESHOLD"), (1, u "ROTATE_THRESHOLD"), (1, u "COPY_THRESHOLD"), (1, u "REPLACEALL_THRESHOLD"), (1, u "INDEXOFSUBLIST_THRESHOLD"), (333, .class_ 851), (0, u "java/util/Collections$CheckedMap$CheckedEntrySet"), (0, .class_ 853), (0, u "java/util/Collections$CheckedMap$CheckedEntrySet$CheckedEntry"), (0, .class_ 855), (0, u "java/util/Collections$CheckedMap$CheckedEntrySet$1"), (0, .class_ 857), (0, u "java/util/Collections$CheckedList$1"), (0, .class_ 859), (0, u "java/util/Collections$CheckedCollection$1"), (0, .class_ 861), (0, u "java/util/Collections$UnmodifiableNavigableMap$EmptyNavigableMap"), (0, .class_ 863), (0, u "java/util/Collections$UnmodifiableMap$UnmodifiableEntrySet"), (0, .class_ 865), (0, u "java/util/Collections$UnmodifiableMap$UnmodifiableEntrySet$UnmodifiableEntry"), (0, .class_ 867), (0, u "java/util/Collections$UnmodifiableMap$UnmodifiableEntrySet$UnmodifiableEntrySetSpliterator"), (0, .class_ 869), (0, u "java/util/Collections$UnmodifiableMap$UnmodifiableEntrySet$1"), (0, .class_ 871), (0, u "java/util/Collections$UnmodifiableList$1"), (0, .class_ 873), (0, u "java/util/Collections$UnmodifiableNavigableSet$EmptyNavigableSet"), (0, .class_ 875), (0, u "java/util/Collections$UnmodifiableCollection$1")] 57

def k11m0 : Method := { name := "<init>", desc := "()V", sig := { parameters := [], returnType := none }, accessFlags := 2, code := none }
/-- java/util/Collections -/
def k11 : Class := { plain "java/util/Collections" (some 0) with
  accessFlags := 33
  interfaces := #[]
  cf := some (fileOf pool11 19 #[.nestMembers #[478, 473, 469, 434, 423, 417, 393, 390, 380, 497, 494, 491, 355, 350, 344, 338, 333, 328, 850, 852, 854, 320, 325, 856, 315, 310, 305, 300, 287, 858, 284, 281, 278, 268, 271, 265, 262, 256, 250, 245, 860, 237, 231, 223, 862, 864, 866, 868, 215, 212, 870, 206, 872, 198, 190, 182, 174, 166, 874, 442, 387, 384]] #[{ accessFlags := 2, nameIndex := 5, descriptorIndex := 6, attributes := #[] }] 33 2 #[] #[{ accessFlags := 26, nameIndex := 500, descriptorIndex := 501, attributes := #[] }, { accessFlags := 26, nameIndex := 504, descriptorIndex := 501, attributes := #[] }, { accessFlags := 26, nameIndex := 506, descriptorIndex := 501, attributes := #[] }, { accessFlags := 26, nameIndex := 508, descriptorIndex := 501, attributes := #[] }, { accessFlags := 26, nameIndex := 510, descriptorIndex := 501, attributes := #[] }, { accessFlags := 26, nameIndex := 512, descriptorIndex := 501, attributes := #[] }, { accessFlags := 26, nameIndex := 514, descriptorIndex := 501, attributes := #[] }, { accessFlags := 26, nameIndex := 516, descriptorIndex := 501, attributes := #[] }, { accessFlags := 10, nameIndex := 84, descriptorIndex := 85, attributes := #[] }, { accessFlags := 25, nameIndex := 362, descriptorIndex := 363, attributes := #[] }, { accessFlags := 25, nameIndex := 370, descriptorIndex := 371, attributes := #[] }, { accessFlags := 25, nameIndex := 374, descriptorIndex := 375, attributes := #[] }])
  fields := #[{ name := "BINARYSEARCH_THRESHOLD", type := .int, accessFlags := 26, slot := 0, constantValue := 0 }, { name := "REVERSE_THRESHOLD", type := .int, accessFlags := 26, slot := 1, constantValue := 0 }, { name := "SHUFFLE_THRESHOLD", type := .int, accessFlags := 26, slot := 2, constantValue := 0 }, { name := "FILL_THRESHOLD", type := .int, accessFlags := 26, slot := 3, constantValue := 0 }, { name := "ROTATE_THRESHOLD", type := .int, accessFlags := 26, slot := 4, constantValue := 0 }, { name := "COPY_THRESHOLD", type := .int, accessFlags := 26, slot := 5, constantValue := 0 }, { name := "REPLACEALL_THRESHOLD", type := .int, accessFlags := 26, slot := 6, constantValue := 0 }, { name := "INDEXOFSUBLIST_THRESHOLD", type := .int, accessFlags := 26, slot := 7, constantValue := 0 }, { name := "r", type := (.object "java/util/Random"), accessFlags := 10, slot := 8, constantValue := 0 }, { name := "EMPTY_SET", type := (.object "java/util/Set"), accessFlags := 25, slot := 9, constantValue := 0 }, { name := "EMPTY_LIST", type := (.object "java/util/List"), accessFlags := 25, slot := 10, constantValue := 0 }, { name := "EMPTY_MAP", type := (.object "java/util/Map"), accessFlags := 25, slot := 11, constantValue := 0 }]
  methods := #[k11m0]
  instanceTypes := #[]
  staticTypes := #[.int, .int, .int, .int, .int, .int, .int, .int, (.object "java/util/Random"), (.object "java/util/Set"), (.object "java/util/List"), (.object "java/util/Map")]
  resolved := Array.replicate 933 none
  statics := some 1 }

def pool12 : Array CpInfo := pool [(8, .class_ 10), (1, u "java/lang/Iterable"), (24, .class_ 36), (0, u "java/lang/Object")] 25

/-- java/lang/Iterable -/
def k12 : Class := { plain "java/lang/Iterable" (some 0) with
  accessFlags := 1537
  interfaces := #[]
  cf := some (fileOf pool12 8 #[] #[] 1537 35 #[] #[])
  fields := #[]
  methods := #[]
  instanceTypes := #[]
  staticTypes := #[]
  resolved := Array.replicate 62 none
  statics := none }

def pool13 : Array CpInfo := pool [(10, .class_ 12), (1, u "java/util/Collection"), (47, .class_ 61), (0, u "java/lang/Object"), (0, .class_ 63), (0, u "java/lang/Iterable")] 51

/-- java/util/Collection -/
def k13 : Class := { plain "java/util/Collection" (some 0) with
  accessFlags := 1537
  interfaces := #[12]
  cf := some (fileOf pool13 10 #[] #[] 1537 60 #[62] #[])
  fields := #[]
  methods := #[]
  instanceTypes := #[]
  staticTypes := #[]
  resolved := Array.replicate 115 none
  statics := none }

def pool14 : Array CpInfo := pool [(2, .class_ 4), (1, u "java/lang/Object"), (0, u "<init>"), (0, u "()V"), (1, .class_ 10), (1, u "java/util/AbstractCollection"), (66, .class_ 78), (0, u "java/util/Collection")] 81

def k14m0 : Method := { name := "<init>", desc := "()V", sig := { parameters := [], returnType := none }, accessFlags := 4, code := none }
/-- java/util/AbstractCollection -/
def k14 : Class := { plain "java/util/AbstractCollection" (some 0) with
  accessFlags := 1057
  interfaces := #[13]
  cf := some (fileOf pool14 8 #[] #[{ accessFlags := 4, nameIndex := 5, descriptorIndex := 6, attributes := #[] }] 1057 2 #[77] #[])
  fields := #[]
  methods := #[k14m0]
  instanceTypes := #[]
  staticTypes := #[]
  resolved := Array.replicate 160 none
  statics := none }

def pool15 : Array CpInfo := pool [(8, .class_ 10), (1, u "java/util/SequencedCollection"), (15, .class_ 27), (0, u "java/lang/Object"), (0, .class_ 29), (0, u "java/util/Collection")] 27

/-- java/util/SequencedCollection -/
def k15 : Class := { plain "java/util/SequencedCollection" (some 0) with
  accessFlags := 1537
  interfaces := #[13]
  cf := some (fileOf pool15 8 #[] #[] 1537 26 #[28] #[])
  fields := #[]
  methods := #[]
  instanceTypes := #[]
  staticTypes := #[]
  resolved := Array.replicate 57 none
  statics := none }

def pool16 : Array CpInfo := pool [(8, .class_ 10), (1, u "java/util/List"), (92, .class_ 104), (0, u "java/lang/Object"), (15, .class_ 121), (0, u "java/util/SequencedCollection")] 129

/-- java/util/List -/
def k16 : Class := { plain "java/util/List" (some 0) with
  accessFlags := 1537
  interfaces := #[15]
  cf := some (fileOf pool16 8 #[] #[] 1537 103 #[120] #[])
  fields := #[]
  methods := #[]
  instanceTypes := #[]
  staticTypes := #[]
  resolved := Array.replicate 251 none
  statics := none }

def pool17 : Array CpInfo := pool [(2, .class_ 4), (1, u "java/util/AbstractCollection"), (0, u "<init>"), (0, u "()V"), (1, .class_ 10), (1, u "java/util/AbstractList"), (0, u "modCount"), (0, u "I"), (64, .class_ 78), (0, u "java/util/AbstractList$Itr"), (3, .class_ 83), (0, u "java/util/AbstractList$ListItr"), (9, .class_ 94), (0, u "java/util/AbstractList$RandomAccessSubList"), (3, .class_ 99), (0, u "java/util/AbstractList$SubList"), (33, .class_ 134), (0, u "java/util/List"), (73, .class_ 209), (0, u "java/util/AbstractList$SubList$1"), (0, .class_ 211), (0, u "java/util/AbstractList$RandomAccessSpliterator")] 6

def k17m0 : Method := { name := "<init>", desc := "()V", sig := { parameters := [], returnType := none }, accessFlags := 4, code := none }
/-- java/util/AbstractList -/
def k17 : Class := { plain "java/util/AbstractList" (some 14) with
  accessFlags := 1057
  interfaces := #[16]
  cf := some (fileOf pool17 8 #[.nestMembers #[93, 98, 208, 210, 82, 77]] #[{ accessFlags := 4, nameIndex := 5, descriptorIndex := 6, attributes := #[] }] 1057 2 #[133] #[{ accessFlags := 132, nameIndex := 11, descriptorIndex := 12, attributes := #[] }])
  fields := #[{ name := "modCount", type := .int, accessFlags := 132, slot := 0, constantValue := 0 }]
  methods := #[k17m0]
  instanceTypes := #[.int]
  staticTypes := #[]
  resolved := Array.replicate 218 none
  statics := none }

def pool18 : Array CpInfo := pool [(1, .class_ 2), (0, u "java/util/RandomAccess"), (0, .class_ 4), (0, u "java/lang/Object")] 2

/-- java/util/RandomAccess -/
def k18 : Class := { plain "java/util/RandomAccess" (some 0) with
  accessFlags := 1537
  interfaces := #[]
  cf := some (fileOf pool18 1 #[] #[] 1537 3 #[] #[])
  fields := #[]
  methods := #[]
  instanceTypes := #[]
  staticTypes := #[]
  resolved := Array.replicate 7 none
  statics := none }

def pool19 : Array CpInfo := pool [(2, .class_ 4), (1, u "java/util/AbstractList"), (0, u "<init>"), (0, u "()V"), (1, .class_ 10), (1, u "java/util/Collections"), (54, .class_ 66), (0, u "java/util/Collections$EmptyList"), (0, .class_ 68), (0, u "java/util/RandomAccess"), (0, .class_ 70), (0, u "java/io/Serializable"), (0, u "serialVersionUID"), (0, u "J")] 77

def k19m0 : Method := { name := "<init>", desc := "()V", sig := { parameters := [], returnType := none }, accessFlags := 2, code := none }
/-- java/util/Collections$EmptyList -/
def k19 : Class := { plain "java/util/Collections$EmptyList" (some 17) with
  accessFlags := 32
  interfaces := #[18, 2]
  cf := some (fileOf pool19 65 #[.nestHost 8] #[{ accessFlags := 2, nameIndex := 5, descriptorIndex := 6, attributes := #[] }] 32 2 #[67, 69] #[{ accessFlags := 26, nameIndex := 71, descriptorIndex := 72, attributes := #[] }])
  fields := #[{ name := "serialVersionUID", type := .long, accessFlags := 26, slot := 0, constantValue := 0 }]
  methods := #[k19m0]
  instanceTypes := #[.int]
  staticTypes := #[.long]
  resolved := Array.replicate 150 none
  statics := none }

def pool20 : Array CpInfo := pool [(2, .class_ 4), (1, u "java/lang/StackTraceElement"), (0, u "<init>"), (2, .class_ 10), (1, u "java/lang/Object"), (0, u "()V"), (2, u "format"), (0, u "B"), (2, u "classLoaderName"), (0, u "Ljava/lang/String;"), (2, u "moduleName"), (2, u "moduleVersion"), (12, u "declaringClass"), (4, u "methodName"), (2, u "fileName"), (2, u "lineNumber"), (0, u "I"), (65, u "declaringClassObject"), (0, u "Ljava/lang/Class;"), (33, .class_ 153), (1, u "java/lang/StackTraceElement$HashedModules"), (17, .class_ 172), (0, u "java/io/Serializable"), (0, u "NATIVE_METHOD"), (1, u "UNKNOWN_SOURCE"), (2, u "BUILTIN_CLASS_LOADER"), (1, u "JDK_NON_UPGRADEABLE_MODULE"), (1, u "serialVersionUID"), (0, u "J")] 51

def k20m0 : Method := { name := "<init>", desc := "()V", sig := { parameters := [], returnType := none }, accessFlags := 2, code := none }
/-- java/lang/StackTraceElement -/
def k20 : Class := { plain "java/lang/StackTraceElement" (some 0) with
  accessFlags := 49
  interfaces := #[2]
  cf := some (fileOf pool20 2 #[.nestMembers #[151]] #[{ accessFlags := 2, nameIndex := 5, descriptorIndex := 11, attributes := #[] }] 49 8 #[171] #[{ accessFlags := 26, nameIndex := 173, descriptorIndex := 19, attributes := #[] }, { accessFlags := 26, nameIndex := 175, descriptorIndex := 19, attributes := #[] }, { accessFlags := 130, nameIndex := 116, descriptorIndex := 117, attributes := #[] }, { accessFlags := 2, nameIndex := 18, descriptorIndex := 19, attributes := #[] }, { accessFlags := 2, nameIndex := 22, descriptorIndex := 19, attributes := #[] }, { accessFlags := 2, nameIndex := 25, descriptorIndex := 19, attributes := #[] }, { accessFlags := 2, nameIndex := 38, descriptorIndex := 19, attributes := #[] }, { accessFlags := 2, nameIndex := 43, descriptorIndex := 19, attributes := #[] }, { accessFlags := 2, nameIndex := 46, descriptorIndex := 19, attributes := #[] }, { accessFlags := 2, nameIndex := 49, descriptorIndex := 50, attributes := #[] }, { accessFlags := 2, nameIndex := 14, descriptorIndex := 15, attributes := #[] }, { accessFlags := 26, nameIndex := 178, descriptorIndex := 15, attributes := #[] }, { accessFlags := 26, nameIndex := 180, descriptorIndex := 15, attributes := #[] }, { accessFlags := 26, nameIndex := 182, descriptorIndex := 183, attributes := #[] }])
  fields := #[{ name := "NATIVE_METHOD", type := (.object "java/lang/String"), accessFlags := 26, slot := 0, constantValue := 0 }, { name := "UNKNOWN_SOURCE", type := (.object "java/lang/String"), accessFlags := 26, slot := 1, constantValue := 0 }, { name := "declaringClassObject", type := (.object "java/lang/Class"), accessFlags := 130, slot := 0, constantValue := 0 }, { name := "classLoaderName", type := (.object "java/lang/String"), accessFlags := 2, slot := 1, constantValue := 0 }, { name := "moduleName", type := (.object "java/lang/String"), accessFlags := 2, slot := 2, constantValue := 0 }, { name := "moduleVersion", type := (.object "java/lang/String"), accessFlags := 2, slot := 3, constantValue := 0 }, { name := "declaringClass", type := (.object "java/lang/String"), accessFlags := 2, slot := 4, constantValue := 0 }, { name := "methodName", type := (.object "java/lang/String"), accessFlags := 2, slot := 5, constantValue := 0 }, { name := "fileName", type := (.object "java/lang/String"), accessFlags := 2, slot := 6, constantValue := 0 }, { name := "lineNumber", type := .int, accessFlags := 2, slot := 7, constantValue := 0 }, { name := "format", type := .byte, accessFlags := 2, slot := 8, constantValue := 0 }, { name := "BUILTIN_CLASS_LOADER", type := .byte, accessFlags := 26, slot := 2, constantValue := 0 }, { name := "JDK_NON_UPGRADEABLE_MODULE", type := .byte, accessFlags := 26, slot := 3, constantValue := 0 }, { name := "serialVersionUID", type := .long, accessFlags := 26, slot := 4, constantValue := 0 }]
  methods := #[k20m0]
  instanceTypes := #[(.object "java/lang/Class"), (.object "java/lang/String"), (.object "java/lang/String"), (.object "java/lang/String"), (.object "java/lang/String"), (.object "java/lang/String"), (.object "java/lang/String"), .int, .byte]
  staticTypes := #[(.object "java/lang/String"), (.object "java/lang/String"), .byte, .byte, .long]
  resolved := Array.replicate 235 none
  statics := none }

def pool21 : Array CpInfo := pool [(1, u "java/lang/Cloneable"), (0, .class_ 1), (0, u "java/lang/Object"), (0, .class_ 3)] 3

/-- java/lang/Cloneable -/
def k21 : Class := { plain "java/lang/Cloneable" (some 0) with
  accessFlags := 1537
  interfaces := #[]
  cf := some (fileOf pool21 2 #[] #[] 1537 4 #[] #[])
  fields := #[]
  methods := #[]
  instanceTypes := #[]
  staticTypes := #[]
  resolved := Array.replicate 8 none
  statics := none }

/-- the primitive byte -/
def k22 : Class := { plain "byte" none with kind := .primitive 'B', accessFlags := 0x411 }
/-- [B -/
def k23 : Class := { plain "[B" (some 0) with kind := .array 22 .byte, interfaces := #[21, 2], accessFlags := 1041 }

/-- the primitive int -/
def k24 : Class := { plain "int" none with kind := .primitive 'I', accessFlags := 0x411 }
/-- [I -/
def k25 : Class := { plain "[I" (some 0) with kind := .array 24 .int, interfaces := #[21, 2], accessFlags := 1041 }

/-- [Ljava/lang/Object; -/
def k26 : Class := { plain "[Ljava/lang/Object;" (some 0) with kind := .array 0 (.object "java/lang/Object"), interfaces := #[21, 2], accessFlags := 1041 }

/-- [Ljava/lang/StackTraceElement; -/
def k27 : Class := { plain "[Ljava/lang/StackTraceElement;" (some 0) with kind := .array 20 (.object "java/lang/StackTraceElement"), interfaces := #[21, 2], accessFlags := 1041 }

/-- [Ljava/lang/Throwable; -/
def k28 : Class := { plain "[Ljava/lang/Throwable;" (some 0) with kind := .array 3 (.object "java/lang/Throwable"), interfaces := #[21, 2], accessFlags := 1041 }

def heap : Heap := #[{ cls := 3, slots := #[.long 0, .ref 2, .ref 3, .null, .null, .null, .null, .ref 4, .int 1], vm := .statics 3 },
  { cls := 11, slots := #[.int 0, .int 0, .int 0, .int 0, .int 0, .int 0, .int 0, .int 0, .null, .null, .ref 3, .null], vm := .statics 11 },
  { cls := 27, slots := #[], vm := .none },
  { cls := 19, slots := #[.int 0], vm := .none },
  { cls := 28, slots := #[], vm := .none }]
def classes : Array Class := #[k0, k1, k2, k3, k4, k5, k6, k7, k8, k9, k10, k11, k12, k13, k14, k15, k16, k17, k18, k19, k20, k21, k22, k23, k24, k25, k26, k27, k28]
def interned : List (Array UInt16 × Addr) := []
def slotsUsed : Nat := 22
def theMethod : MethodId := ⟨1, 3⟩
def args0 : Array Value := #[.int 5, .int 2, .int 3, .int 4, .int 7]
def aboutOver (below : List Frame) : State where
  vm := { classes := classes, interned := interned.toArray }
  heap := heap
  slotsUsed := slotsUsed
  threads := #[{ frames := .invoking theMethod args0 :: below }]
def below0 : List Frame := [.native { method := ⟨0, 0⟩, args := #[] }]
def about1 : State := aboutOver below0
def p0 : Program := .bare "" "" ""
def e0 : Env := launch0.env 0 0 0
theorem w_frames : about1.frames = Frame.invoking theMethod args0 :: below0 := rfl
set_option maxRecDepth 65536 in
theorem w_args : argsFit about1.vm theMethod args0 = true := by decide +kernel
set_option maxRecDepth 65536 in
theorem w_heap : heapFits about1 = true := by decide +kernel
set_option maxRecDepth 65536 in
theorem w_runnable : about1.curStatus? = some .runnable := by decide +kernel
set_option maxRecDepth 65536 in
theorem w_alone : about1.alone = true := by decide +kernel
set_option maxRecDepth 65536 in
theorem w_named : about1.methodNamed? x = some theMethod := by decide +kernel
set_option maxRecDepth 65536 in
theorem w_hears : about1.hears theMethod below0 = true := by decide +kernel
set_option maxRecDepth 65536 in
theorem w_ripe : about1.ripe theMethod args0 below0 = true := by decide +kernel
theorem w_running : about1.status = .running := rfl
set_option maxRecDepth 65536 in
theorem w_room : about1.hasRoom e0.platform room_1 = true :=
  launch0.hasRoom_least _ room_1 (by decide +kernel) (by decide +kernel) (by decide +kernel) (by decide +kernel) (by decide +kernel) (by decide +kernel)
theorem allAtoms_all (ts : List Jvm.Cond) (a : Array Jvm.Value) (st : Jvm.State) : (allAtoms ts).before a st = ts.all (fun c => c.before a st) := by
  induction ts with
  | nil => rfl
  | cons c t ih =>
    show (Jvm.Cond.and c (allAtoms t)).before a st = _
    rw [Jvm.Cond.before_and, ih, List.all_cons]
def words1 : List Jvm.Cond := Jvm.Cond.code x code maxLocals ret :: tables_1
/-- a 'code' word, met by the world's own term for the bytes: nothing is compared byte by byte -/
theorem code_word {y : MethodName} {bytes : ByteArray} {mx : Nat} {rt : Option FieldType} {a : Array Value} {s : State} {m : MethodId} {meth : Method} {c : Code} (h1 : s.methodNamed? y = some m) (h2 : s.vm.method? m = some meth) (h3 : meth.code = some c) (h4 : c.code = bytes)
    (h5 : (c.maxLocals == mx && c.exceptionTable.isEmpty && decide (c.maxStack ≤ mostOperands) && decide (meth.sig.returnType = rt) && !meth.locks && decide (parseMethodDescriptor y.desc = some meth.sig)) = true) : (Jvm.Cond.code y bytes mx rt).before a s = true := by
  simp only [Bool.and_eq_true, beq_iff_eq, Bool.not_eq_true', decide_eq_true_eq] at h5
  obtain ⟨⟨⟨⟨⟨g1, g2⟩, g3⟩, g4⟩, g5⟩, g6⟩ := h5
  simp [Cond.before, Cond.holds, Cond.value, h1, h2, h3, h4, g1, g2, g3, g4, g5, g6]
def isCode : Jvm.Cond → Bool
  | .code _ _ _ _ => true
  | _ => false
theorem all_split {L : List Jvm.Cond} {P : Jvm.Cond → Bool} (h1 : L.all (fun c => isCode c || P c) = true) (h2 : ∀ c ∈ L.filter isCode, P c = true) : L.all P = true := by
  refine List.all_eq_true.mpr fun c hc => ?_
  have h := List.all_eq_true.mp h1 c hc
  rcases Bool.eq_false_or_eq_true (isCode c) with hi | hi
  · exact h2 c (List.mem_filter.mpr ⟨hc, hi⟩)
  · simpa [hi] using h
set_option maxRecDepth 65536 in
theorem w_c0 : (Jvm.Cond.code x code maxLocals ret).before args0 about1 = true := code_word (m := ⟨1, 3⟩) (meth := k1m3) (c := k1c3) (by decide +kernel) rfl rfl rfl (by decide +kernel)
set_option maxRecDepth 65536 in
theorem w_c1 : (Jvm.Cond.code ({ cls := "com/example/rhadamanthus/rhadamanthus/core/SyntaxErrorLiesBeyondPinLaw", name := "near", desc := "(III)I" } : Jvm.MethodName) method_3_code (3 : Nat) (Option.some Jvm.ClassFile.FieldType.int)).before args0 about1 = true := code_word (m := ⟨1, 2⟩) (meth := k1m2) (c := k1c2) (by decide +kernel) rfl rfl rfl (by decide +kernel)
set_option maxRecDepth 65536 in
theorem w_c2 : (Jvm.Cond.code ({ cls := "com/example/rhadamanthus/rhadamanthus/core/SyntaxError", name := "<init>", desc := "(Ljava/lang/String;II)V" } : Jvm.MethodName) prog_179_method_1_code (4 : Nat) (Option.none : Option Jvm.ClassFile.FieldType)).before args0 about1 = true := code_word (m := ⟨5, 0⟩) (meth := k5m0) (c := k5c0) (by decide +kernel) rfl rfl rfl (by decide +kernel)
set_option maxRecDepth 65536 in
theorem w_c3 : (Jvm.Cond.code ({ cls := "java/lang/Exception", name := "<init>", desc := "(Ljava/lang/String;)V" } : Jvm.MethodName) jdk_59_method_2_code (2 : Nat) (Option.none : Option Jvm.ClassFile.FieldType)).before args0 about1 = true := code_word (m := ⟨4, 1⟩) (meth := k4m1) (c := k4c1) (by decide +kernel) rfl rfl rfl (by decide +kernel)
set_option maxRecDepth 65536 in
theorem w_c4 : (Jvm.Cond.code ({ cls := "java/lang/Throwable", name := "<init>", desc := "(Ljava/lang/String;)V" } : Jvm.MethodName) jdk_78_method_2_code (2 : Nat) (Option.none : Option Jvm.ClassFile.FieldType)).before args0 about1 = true := code_word (m := ⟨3, 1⟩) (meth := k3m1) (c := k3c1) (by decide +kernel) rfl rfl rfl (by decide +kernel)
set_option maxRecDepth 65536 in
theorem w_c5 : (Jvm.Cond.code ({ cls := "java/lang/Object", name := "<init>", desc := "()V" } : Jvm.MethodName) object_method_1_code (1 : Nat) (Option.none : Option Jvm.ClassFile.FieldType)).before args0 about1 = true := code_word (m := ⟨0, 0⟩) (meth := k0m0) (c := k0c0) (by decide +kernel) rfl rfl rfl (by decide +kernel)
set_option maxRecDepth 65536 in
theorem w_c6 : (Jvm.Cond.code ({ cls := "java/lang/Throwable", name := "<init>", desc := "()V" } : Jvm.MethodName) jdk_78_method_1_code (1 : Nat) (Option.none : Option Jvm.ClassFile.FieldType)).before args0 about1 = true := code_word (m := ⟨3, 0⟩) (meth := k3m0) (c := k3c0) (by decide +kernel) rfl rfl rfl (by decide +kernel)
set_option maxRecDepth 65536 in
theorem w_c7 : (Jvm.Cond.code ({ cls := "com/example/rhadamanthus/rhadamanthus/core/SyntaxErrorLiesBeyondPinLaw", name := "key", desc := "(II)J" } : Jvm.MethodName) method_2_code (2 : Nat) (Option.some Jvm.ClassFile.FieldType.long)).before args0 about1 = true := code_word (m := ⟨1, 1⟩) (meth := k1m1) (c := k1c1) (by decide +kernel) rfl rfl rfl (by decide +kernel)
set_option maxRecDepth 65536 in
theorem w_c8 : (Jvm.Cond.code ({ cls := "com/example/rhadamanthus/rhadamanthus/core/SyntaxError", name := "liesBeyond", desc := "(Lcom/example/rhadamanthus/rhadamanthus/core/SyntaxError;)Z" } : Jvm.MethodName) prog_179_method_4_code (2 : Nat) (Option.some Jvm.ClassFile.FieldType.boolean)).before args0 about1 = true := code_word (m := ⟨5, 1⟩) (meth := k5m1) (c := k5c1) (by decide +kernel) rfl rfl rfl (by decide +kernel)
def codes1 : List Jvm.Cond := [Jvm.Cond.code x code maxLocals ret, Jvm.Cond.code ({ cls := "com/example/rhadamanthus/rhadamanthus/core/SyntaxErrorLiesBeyondPinLaw", name := "near", desc := "(III)I" } : Jvm.MethodName) method_3_code (3 : Nat) (Option.some Jvm.ClassFile.FieldType.int), Jvm.Cond.code ({ cls := "com/example/rhadamanthus/rhadamanthus/core/SyntaxError", name := "<init>", desc := "(Ljava/lang/String;II)V" } : Jvm.MethodName) prog_179_method_1_code (4 : Nat) (Option.none : Option Jvm.ClassFile.FieldType), Jvm.Cond.code ({ cls := "java/lang/Exception", name := "<init>", desc := "(Ljava/lang/String;)V" } : Jvm.MethodName) jdk_59_method_2_code (2 : Nat) (Option.none : Option Jvm.ClassFile.FieldType), Jvm.Cond.code ({ cls := "java/lang/Throwable", name := "<init>", desc := "(Ljava/lang/String;)V" } : Jvm.MethodName) jdk_78_method_2_code (2 : Nat) (Option.none : Option Jvm.ClassFile.FieldType), Jvm.Cond.code ({ cls := "java/lang/Object", name := "<init>", desc := "()V" } : Jvm.MethodName) object_method_1_code (1 : Nat) (Option.none : Option Jvm.ClassFile.FieldType), Jvm.Cond.code ({ cls := "java/lang/Throwable", name := "<init>", desc := "()V" } : Jvm.MethodName) jdk_78_method_1_code (1 : Nat) (Option.none : Option Jvm.ClassFile.FieldType), Jvm.Cond.code ({ cls := "com/example/rhadamanthus/rhadamanthus/core/SyntaxErrorLiesBeyondPinLaw", name := "key", desc := "(II)J" } : Jvm.MethodName) method_2_code (2 : Nat) (Option.some Jvm.ClassFile.FieldType.long), Jvm.Cond.code ({ cls := "com/example/rhadamanthus/rhadamanthus/core/SyntaxError", name := "liesBeyond", desc := "(Lcom/example/rhadamanthus/rhadamanthus/core/SyntaxError;)Z" } : Jvm.MethodName) prog_179_method_4_code (2 : Nat) (Option.some Jvm.ClassFile.FieldType.boolean)]
set_option maxRecDepth 65536 in
theorem codes_eq : words1.filter isCode = codes1 := rfl
theorem w_codes : ∀ c ∈ words1.filter isCode, c.before args0 about1 = true := by
  rw [codes_eq]
  intro c hc
  simp only [codes1, List.mem_cons, List.not_mem_nil, or_false] at hc
  rcases hc with rfl | rfl | rfl | rfl | rfl | rfl | rfl | rfl | rfl
  · exact w_c0
  · exact w_c1
  · exact w_c2
  · exact w_c3
  · exact w_c4
  · exact w_c5
  · exact w_c6
  · exact w_c7
  · exact w_c8
set_option maxRecDepth 65536 in
theorem w_t1 : (words1.take 24).all (fun c => isCode c || c.before args0 about1) = true := by decide +kernel
set_option maxRecDepth 65536 in
theorem w_t2 : ((words1.drop 24).take 24).all (fun c => isCode c || c.before args0 about1) = true := by decide +kernel
set_option maxRecDepth 65536 in
theorem w_t3 : (((words1.drop 24).drop 24).take 24).all (fun c => isCode c || c.before args0 about1) = true := by decide +kernel
set_option maxRecDepth 65536 in
theorem w_t4 : (((words1.drop 24).drop 24).drop 24).all (fun c => isCode c || c.before args0 about1) = true := by decide +kernel
theorem w_tables : (allAtoms (Jvm.Cond.code x code maxLocals ret :: tables_1)).before args0 about1 = true := by
  rw [allAtoms_all]
  show words1.all (fun c => c.before args0 about1) = true
  refine all_split ?_ w_codes
  rw [← List.take_append_drop 24 words1, List.all_append, w_t1, ← List.take_append_drop 24 (words1.drop 24), List.all_append, w_t2, ← List.take_append_drop 24 ((words1.drop 24).drop 24), List.all_append, w_t3, w_t4]
  rfl
set_option maxRecDepth 65536 in
theorem w_rest : rest_1_c.before args0 about1 = true := by decide +kernel
set_option maxRecDepth 65536 in
theorem w_case : (Jvm.Cond.and given_1 narrow_1).before args0 about1 = true := by decide +kernel
theorem w_applies : (headSpec (Jvm.Cond.code x code maxLocals ret :: tables_1) room_1).applies x e0.platform about1 = true :=
  (Spec.applies_iff w_frames).mpr ⟨w_running, w_runnable, w_alone, w_named, w_hears, w_ripe, w_room, w_tables⟩
theorem atStart : AtStart classFile x code maxLocals ret World_1 tables_1 room_1 Calls_1 rest_1 Pre_1 launch0 p0 e0 about1 theMethod args0 below0 :=
  ⟨lists_1, trivial, launch0.admits_env _ _ _, launch0.least_env, fairChoices_fair.cas, fairChoices_fair.clock, w_frames, w_args, w_heap, w_applies, ⟨(by decide +kernel : framesKnown about1 = true), ⟨(by decide +kernel : tablesKnown about1 = true), trivial⟩⟩, w_rest, w_case⟩
end start1
theorem witness_1 : WitnessClaimed_1 := ⟨start1.p0, start1.e0, start1.about1, start1.theMethod, start1.args0, start1.below0, start1.atStart⟩
end Jvm.Pilot.@@N@@
