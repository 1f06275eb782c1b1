import JvmDerived
import JvmDerived.Pilot.@@N@@Statement
import JvmDerived.Pilot.@@N@@Code
set_option linter.unusedVariables false
set_option linter.unusedSimpArgs false
@@BLOCK:NumsL.lean.txt@@
namespace Jvm.RoadKit
open Sem ClassFile Op Lib Jvm.Stand Jvm.Free Jvm.LawKit
section New
variable {p : Program} {l : Launch} {e : Env} {R : Room} {s : State} {m : MethodId} {args : Array Value} {below : List Frame} {meth : Method} {c : Code} {T : State} {locs : List Loc} {cells slots : Nat}
theorem retI (X : Stand p l e R s m args below meth c T locs cells slots) (hx : p.tables.exec = Jvm.exec) {pc : Nat} {Ls : Array Slot} {z : Int32} {rest : List Value} (hret : meth.sig.returnType = some .int) (hd : decode c.code pc = .ok (.ireturn, 1)) {fs : List Frame}
    (hl : ∀ (f : JFrame) (acts : List Action), f.method = m → f.locked = none → f.entered = [] → (doReturn e (T.setTop f) acts (some (.int z))).1 = T.setFrames fs) : Steps p.tables e below (T.setTop (mkF m pc Ls (.int z :: rest))) (T.setFrames fs) := by
  have hm' : T.vm.method? m = some meth := X.method'
  have hn : narrow .int (.int z) = .int z := rfl
  show Steps p.tables e below (T.setTop { method := m, pc := pc, locals := Ls, stack := _ :: rest, locked := none }) _
  jvm_step X.here [X.here.top, hx, hd, hm', hret, hn]
  first | (intro acts; rw [hl _ acts rfl rfl rfl]) | rw [hl _ _ rfl rfl rfl]
  exact Steps.refl _
end New
end Jvm.RoadKit
namespace Jvm.Pilot.@@N@@
open Jvm Jvm.ClassFile Sem Op Lib Jvm.Free Jvm.Stand Jvm.LawKit Jvm.RoadKit Bundle Jvm.Pilot.@@N@@.Jvm.D
theorem d1_0 : decode prog_146_method_4_code 0 = .ok (.iload_n 1, 1) := by decide +kernel
theorem d1_1 : decode prog_146_method_4_code 1 = .ok (.bipush 16, 2) := by decide +kernel
theorem d1_3 : decode prog_146_method_4_code 3 = .ok (.if_icmp .ne 48, 3) := by decide +kernel
theorem d1_6 : decode prog_146_method_4_code 6 = .ok (.iload_n 0, 1) := by decide +kernel
theorem d1_7 : decode prog_146_method_4_code 7 = .ok (.bipush 48, 2) := by decide +kernel
theorem d1_9 : decode prog_146_method_4_code 9 = .ok (.if_icmp .lt 9, 3) := by decide +kernel
theorem d1_12 : decode prog_146_method_4_code 12 = .ok (.iload_n 0, 1) := by decide +kernel
theorem d1_13 : decode prog_146_method_4_code 13 = .ok (.bipush 57, 2) := by decide +kernel
theorem d1_15 : decode prog_146_method_4_code 15 = .ok (.if_icmp .le 27, 3) := by decide +kernel
theorem d1_18 : decode prog_146_method_4_code 18 = .ok (.iload_n 0, 1) := by decide +kernel
theorem d1_19 : decode prog_146_method_4_code 19 = .ok (.bipush 97, 2) := by decide +kernel
theorem d1_21 : decode prog_146_method_4_code 21 = .ok (.if_icmp .lt 9, 3) := by decide +kernel
theorem d1_24 : decode prog_146_method_4_code 24 = .ok (.iload_n 0, 1) := by decide +kernel
theorem d1_25 : decode prog_146_method_4_code 25 = .ok (.bipush 102, 2) := by decide +kernel
theorem d1_27 : decode prog_146_method_4_code 27 = .ok (.if_icmp .le 15, 3) := by decide +kernel
theorem d1_30 : decode prog_146_method_4_code 30 = .ok (.iload_n 0, 1) := by decide +kernel
theorem d1_31 : decode prog_146_method_4_code 31 = .ok (.bipush 65, 2) := by decide +kernel
theorem d1_33 : decode prog_146_method_4_code 33 = .ok (.if_icmp .lt 13, 3) := by decide +kernel
theorem d1_36 : decode prog_146_method_4_code 36 = .ok (.iload_n 0, 1) := by decide +kernel
theorem d1_37 : decode prog_146_method_4_code 37 = .ok (.bipush 70, 2) := by decide +kernel
theorem d1_39 : decode prog_146_method_4_code 39 = .ok (.if_icmp .gt 7, 3) := by decide +kernel
theorem d1_42 : decode prog_146_method_4_code 42 = .ok (.iconst 1, 1) := by decide +kernel
theorem d1_43 : decode prog_146_method_4_code 43 = .ok (.goto 4, 3) := by decide +kernel
theorem d1_46 : decode prog_146_method_4_code 46 = .ok (.iconst 0, 1) := by decide +kernel
theorem d1_47 : decode prog_146_method_4_code 47 = .ok (.istore_n 2, 1) := by decide +kernel
theorem d1_48 : decode prog_146_method_4_code 48 = .ok (.goto 23, 3) := by decide +kernel
theorem d1_51 : decode prog_146_method_4_code 51 = .ok (.iload_n 0, 1) := by decide +kernel
theorem d1_52 : decode prog_146_method_4_code 52 = .ok (.bipush 48, 2) := by decide +kernel
theorem d1_54 : decode prog_146_method_4_code 54 = .ok (.if_icmp .lt 15, 3) := by decide +kernel
theorem d1_57 : decode prog_146_method_4_code 57 = .ok (.iload_n 0, 1) := by decide +kernel
theorem d1_58 : decode prog_146_method_4_code 58 = .ok (.bipush 48, 2) := by decide +kernel
theorem d1_60 : decode prog_146_method_4_code 60 = .ok (.iload_n 1, 1) := by decide +kernel
theorem d1_61 : decode prog_146_method_4_code 61 = .ok (.iadd, 1) := by decide +kernel
theorem d1_62 : decode prog_146_method_4_code 62 = .ok (.if_icmp .ge 7, 3) := by decide +kernel
theorem d1_65 : decode prog_146_method_4_code 65 = .ok (.iconst 1, 1) := by decide +kernel
theorem d1_66 : decode prog_146_method_4_code 66 = .ok (.goto 4, 3) := by decide +kernel
theorem d1_69 : decode prog_146_method_4_code 69 = .ok (.iconst 0, 1) := by decide +kernel
theorem d1_70 : decode prog_146_method_4_code 70 = .ok (.istore_n 2, 1) := by decide +kernel
theorem d1_71 : decode prog_146_method_4_code 71 = .ok (.iload_n 2, 1) := by decide +kernel
theorem d1_72 : decode prog_146_method_4_code 72 = .ok (.ireturn, 1) := by decide +kernel
theorem pn_1 : plainName "com/example/rhadamanthus/rhadamanthus/core/AsciiDigits" = true := by first | (simp [plainName, overriddenIn]; done) | decide +kernel
theorem ef_1 (m : MethodId) (x0 : Int32) (x1 : Int32) : entryFrame m #[(.int x0), (.int x1)] 3 = mkF m 0 #[.val (.int x0), .val (.int x1), .unset] [] := by first | (simp [entryFrame, mkF, argsToLocals, Value.category]; done) | rfl
def own_f1 (p1 : Int32) (p2 : Int32) : Int32 := (if p2 = (16 : Int32) then (if p1 < (48 : Int32) then (if p1 < (97 : Int32) then (if p1 < (65 : Int32) then (0 : Int32) else (if (70 : Int32) < p1 then (0 : Int32) else (1 : Int32))) else (if (102 : Int32) < p1 then (if p1 < (65 : Int32) then (0 : Int32) else (if (70 : Int32) < p1 then (0 : Int32) else (1 : Int32))) else (1 : Int32))) else (if (57 : Int32) < p1 then (if p1 < (97 : Int32) then (if p1 < (65 : Int32) then (0 : Int32) else (if (70 : Int32) < p1 then (0 : Int32) else (1 : Int32))) else (if (102 : Int32) < p1 then (if p1 < (65 : Int32) then (0 : Int32) else (if (70 : Int32) < p1 then (0 : Int32) else (1 : Int32))) else (1 : Int32))) else (1 : Int32))) else (if p1 < (48 : Int32) then (0 : Int32) else (if p1 < ((48 : Int32) + p2) then (1 : Int32) else (0 : Int32))))
def Q1 (Z : State) (p1 : Int32) (p2 : Int32) (h0 : Heap) (n0 : Nat) (v : Option Value) (h : Heap) (L : List Loc) : Prop := v = some (.int (own_f1 p1 p2)) ∧ Fr n0 L ∧ h = h0
set_option maxRecDepth 65536 in
set_option maxHeartbeats 40000000 in
theorem rm1 (l : Launch) (Z : State) (a0 : Array Value) (hw : ∀ d ∈ tables_1, d.before a0 Z = true) (ws : List Jvm.Cond) (p1 : Int32) (p2 : Int32) (h0 : Heap) (n0 : Nat) (Z0 : n0 ≤ h0.size) :
    MetFree l (⟨"com/example/rhadamanthus/rhadamanthus/core/AsciiDigits", "isDigit", "(CI)Z"⟩ : MethodName) (head1 (Jvm.Cond.code (⟨"com/example/rhadamanthus/rhadamanthus/core/AsciiDigits", "isDigit", "(CI)Z"⟩ : MethodName) prog_146_method_4_code 3 (some .boolean) :: ws) ({ frames := 0, cells := 0, slots := 0, locals := 0 } : Room)) (fun a U => a = #[(.int p1), (.int p2)] ∧ Z.Warmed39 U.vm ∧ U.heap = h0) (fun _ _ _ _ _ => True) (fun _ U o U' => ∃ v L, o = .returned v ∧ Q1 Z p1 p2 h0 n0 v U'.heap L ∧ FrameEnd U o U' L ({ frames := 0, cells := 0, slots := 0, locals := 0 } : Room).cells ({ frames := 0, cells := 0, slots := 0, locals := 0 } : Room).slots) := by
  refine MetFree.of_bodySF (plainFor_of_name pn_1) hisR ?_
  intro p e s m args below meth c s₁ Bd hml0 hP hK
  obtain ⟨rfl, hZ, hh⟩ := hP
  have hx := Bd.exec
  have hby := Bd.bytes
  have hml : c.maxLocals = 3 := hml0
  have hown : s.vm.findClass "com/example/rhadamanthus/rhadamanthus/core/AsciiDigits" = some m.cls := findClass_of_methodNamed Bd.named
  have hnm := (name_of_methodNamed Bd.named Bd.method).1
  have X0 : Stand p l e ({ frames := 0, cells := 0, slots := 0, locals := 0 } : Room) s m #[(.int p1), (.int p2)] below meth c s₁ [] 0 0 := Stand.of_body Bd
  have e0 : s₁.heap = h0 := by rw [← hh, Bd.state]; rfl
  have N0 := Fr.nil n0
  have pre0 : ∀ t, Steps p.tables e below (s₁.setTop (mkF m 0 #[.val (.int p1), .val (.int p2), .unset] [])) t → Steps p.tables e below (s₁.setTop (entryFrame m #[(.int p1), (.int p2)] 3)) t := fun t k => castTop (ef_1 m p1 p2) k
  obtain ⟨fs, hr, hrun, hended, hW, hsame⟩ := X0.leave (v := some (.int (own_f1 p1 p2))) (fun h => by rw [Bd.returns] at h; cases h)
  refine ⟨_, _, pre0 _ ?_, hrun, hended, _, _, rfl, ?_, ⟨_, rfl⟩, hW, hsame.mono (by decide) (by decide)⟩
  · show Steps p.tables e below (s₁.setTop (mkF m 0 #[.val (.int p1), .val (.int p2), .unset] [])) _
    refine XS.iloadN X0.here hx rfl (hb hby d1_0) rfl ?_
    show Steps p.tables e below (s₁.setTop (mkF m 1 #[.val (.int p1), .val (.int p2), .unset] [(.int p2)])) _
    refine XS.bipush X0.here hx rfl (hb hby d1_1) ?_
    show Steps p.tables e below (s₁.setTop (mkF m 3 #[.val (.int p1), .val (.int p2), .unset] [(.int (16 : Int32)), (.int p2)])) _
    by_cases hc3 : p2 = (16 : Int32)
    · refine XS.icmpNo X0.here hx rfl (hb hby d1_3) rfl (teq hc3).2 ?_
      show Steps p.tables e below (s₁.setTop (mkF m 6 #[.val (.int p1), .val (.int p2), .unset] [])) _
      refine XS.iloadN X0.here hx rfl (hb hby d1_6) rfl ?_
      show Steps p.tables e below (s₁.setTop (mkF m 7 #[.val (.int p1), .val (.int p2), .unset] [(.int p1)])) _
      refine XS.bipush X0.here hx rfl (hb hby d1_7) ?_
      show Steps p.tables e below (s₁.setTop (mkF m 9 #[.val (.int p1), .val (.int p2), .unset] [(.int (48 : Int32)), (.int p1)])) _
      by_cases hc9 : p1 < (48 : Int32)
      · refine XS.icmpYes X0.here hx rfl (pc0 := 9) (pc' := 18) rfl (hb hby d1_9) rfl (tlt hc9).1 (by decide) (by decide) ?_
        show Steps p.tables e below (s₁.setTop (mkF m 18 #[.val (.int p1), .val (.int p2), .unset] [])) _
        refine XS.iloadN X0.here hx rfl (hb hby d1_18) rfl ?_
        show Steps p.tables e below (s₁.setTop (mkF m 19 #[.val (.int p1), .val (.int p2), .unset] [(.int p1)])) _
        refine XS.bipush X0.here hx rfl (hb hby d1_19) ?_
        show Steps p.tables e below (s₁.setTop (mkF m 21 #[.val (.int p1), .val (.int p2), .unset] [(.int (97 : Int32)), (.int p1)])) _
        by_cases hc21 : p1 < (97 : Int32)
        · refine XS.icmpYes X0.here hx rfl (pc0 := 21) (pc' := 30) rfl (hb hby d1_21) rfl (tlt hc21).1 (by decide) (by decide) ?_
          show Steps p.tables e below (s₁.setTop (mkF m 30 #[.val (.int p1), .val (.int p2), .unset] [])) _
          refine XS.iloadN X0.here hx rfl (hb hby d1_30) rfl ?_
          show Steps p.tables e below (s₁.setTop (mkF m 31 #[.val (.int p1), .val (.int p2), .unset] [(.int p1)])) _
          refine XS.bipush X0.here hx rfl (hb hby d1_31) ?_
          show Steps p.tables e below (s₁.setTop (mkF m 33 #[.val (.int p1), .val (.int p2), .unset] [(.int (65 : Int32)), (.int p1)])) _
          by_cases hc33 : p1 < (65 : Int32)
          · refine XS.icmpYes X0.here hx rfl (pc0 := 33) (pc' := 46) rfl (hb hby d1_33) rfl (tlt hc33).1 (by decide) (by decide) ?_
            show Steps p.tables e below (s₁.setTop (mkF m 46 #[.val (.int p1), .val (.int p2), .unset] [])) _
            refine XS.iconst X0.here hx rfl (hb hby d1_46) ?_
            show Steps p.tables e below (s₁.setTop (mkF m 47 #[.val (.int p1), .val (.int p2), .unset] [(.int (0 : Int32))])) _
            refine XS.istoreN X0.here hx rfl (hb hby d1_47) rfl (l' := #[.val (.int p1), .val (.int p2), .val (.int (0 : Int32))]) rfl ?_
            show Steps p.tables e below (s₁.setTop (mkF m 48 #[.val (.int p1), .val (.int p2), .val (.int (0 : Int32))] [])) _
            refine XS.goto X0.here hx rfl (pc0 := 48) (pc' := 71) rfl (hb hby d1_48) (by decide) (by decide) ?_
            show Steps p.tables e below (s₁.setTop (mkF m 71 #[.val (.int p1), .val (.int p2), .val (.int (0 : Int32))] [])) _
            refine XS.iloadN X0.here hx rfl (hb hby d1_71) rfl ?_
            show Steps p.tables e below (s₁.setTop (mkF m 72 #[.val (.int p1), .val (.int p2), .val (.int (0 : Int32))] [(.int (0 : Int32))])) _
            have hv : own_f1 p1 p2 = (0 : Int32) := by simp only [own_f1, if_pos hc3, if_pos hc9, if_pos hc21, if_pos hc33]
            rw [hv] at hr
            exact retN X0 hx (t := .boolean) Bd.returns (by simp) (hb hby d1_72) hr
          · refine XS.icmpNo X0.here hx rfl (hb hby d1_33) rfl (flt hc33).1 ?_
            show Steps p.tables e below (s₁.setTop (mkF m 36 #[.val (.int p1), .val (.int p2), .unset] [])) _
            refine XS.iloadN X0.here hx rfl (hb hby d1_36) rfl ?_
            show Steps p.tables e below (s₁.setTop (mkF m 37 #[.val (.int p1), .val (.int p2), .unset] [(.int p1)])) _
            refine XS.bipush X0.here hx rfl (hb hby d1_37) ?_
            show Steps p.tables e below (s₁.setTop (mkF m 39 #[.val (.int p1), .val (.int p2), .unset] [(.int (70 : Int32)), (.int p1)])) _
            by_cases hc39 : (70 : Int32) < p1
            · refine XS.icmpYes X0.here hx rfl (pc0 := 39) (pc' := 46) rfl (hb hby d1_39) rfl (tlt hc39).2.2.1 (by decide) (by decide) ?_
              show Steps p.tables e below (s₁.setTop (mkF m 46 #[.val (.int p1), .val (.int p2), .unset] [])) _
              refine XS.iconst X0.here hx rfl (hb hby d1_46) ?_
              show Steps p.tables e below (s₁.setTop (mkF m 47 #[.val (.int p1), .val (.int p2), .unset] [(.int (0 : Int32))])) _
              refine XS.istoreN X0.here hx rfl (hb hby d1_47) rfl (l' := #[.val (.int p1), .val (.int p2), .val (.int (0 : Int32))]) rfl ?_
              show Steps p.tables e below (s₁.setTop (mkF m 48 #[.val (.int p1), .val (.int p2), .val (.int (0 : Int32))] [])) _
              refine XS.goto X0.here hx rfl (pc0 := 48) (pc' := 71) rfl (hb hby d1_48) (by decide) (by decide) ?_
              show Steps p.tables e below (s₁.setTop (mkF m 71 #[.val (.int p1), .val (.int p2), .val (.int (0 : Int32))] [])) _
              refine XS.iloadN X0.here hx rfl (hb hby d1_71) rfl ?_
              show Steps p.tables e below (s₁.setTop (mkF m 72 #[.val (.int p1), .val (.int p2), .val (.int (0 : Int32))] [(.int (0 : Int32))])) _
              have hv : own_f1 p1 p2 = (0 : Int32) := by simp only [own_f1, if_pos hc3, if_pos hc9, if_pos hc21, if_neg hc33, if_pos hc39]
              rw [hv] at hr
              exact retN X0 hx (t := .boolean) Bd.returns (by simp) (hb hby d1_72) hr
            · refine XS.icmpNo X0.here hx rfl (hb hby d1_39) rfl (flt hc39).2.2.1 ?_
              show Steps p.tables e below (s₁.setTop (mkF m 42 #[.val (.int p1), .val (.int p2), .unset] [])) _
              refine XS.iconst X0.here hx rfl (hb hby d1_42) ?_
              show Steps p.tables e below (s₁.setTop (mkF m 43 #[.val (.int p1), .val (.int p2), .unset] [(.int (1 : Int32))])) _
              refine XS.goto X0.here hx rfl (pc0 := 43) (pc' := 47) rfl (hb hby d1_43) (by decide) (by decide) ?_
              show Steps p.tables e below (s₁.setTop (mkF m 47 #[.val (.int p1), .val (.int p2), .unset] [(.int (1 : Int32))])) _
              refine XS.istoreN X0.here hx rfl (hb hby d1_47) rfl (l' := #[.val (.int p1), .val (.int p2), .val (.int (1 : Int32))]) rfl ?_
              show Steps p.tables e below (s₁.setTop (mkF m 48 #[.val (.int p1), .val (.int p2), .val (.int (1 : Int32))] [])) _
              refine XS.goto X0.here hx rfl (pc0 := 48) (pc' := 71) rfl (hb hby d1_48) (by decide) (by decide) ?_
              show Steps p.tables e below (s₁.setTop (mkF m 71 #[.val (.int p1), .val (.int p2), .val (.int (1 : Int32))] [])) _
              refine XS.iloadN X0.here hx rfl (hb hby d1_71) rfl ?_
              show Steps p.tables e below (s₁.setTop (mkF m 72 #[.val (.int p1), .val (.int p2), .val (.int (1 : Int32))] [(.int (1 : Int32))])) _
              have hv : own_f1 p1 p2 = (1 : Int32) := by simp only [own_f1, if_pos hc3, if_pos hc9, if_pos hc21, if_neg hc33, if_neg hc39]
              rw [hv] at hr
              exact retN X0 hx (t := .boolean) Bd.returns (by simp) (hb hby d1_72) hr
        · refine XS.icmpNo X0.here hx rfl (hb hby d1_21) rfl (flt hc21).1 ?_
          show Steps p.tables e below (s₁.setTop (mkF m 24 #[.val (.int p1), .val (.int p2), .unset] [])) _
          refine XS.iloadN X0.here hx rfl (hb hby d1_24) rfl ?_
          show Steps p.tables e below (s₁.setTop (mkF m 25 #[.val (.int p1), .val (.int p2), .unset] [(.int p1)])) _
          refine XS.bipush X0.here hx rfl (hb hby d1_25) ?_
          show Steps p.tables e below (s₁.setTop (mkF m 27 #[.val (.int p1), .val (.int p2), .unset] [(.int (102 : Int32)), (.int p1)])) _
          by_cases hc27 : (102 : Int32) < p1
          · refine XS.icmpNo X0.here hx rfl (hb hby d1_27) rfl (tlt hc27).2.2.2 ?_
            show Steps p.tables e below (s₁.setTop (mkF m 30 #[.val (.int p1), .val (.int p2), .unset] [])) _
            refine XS.iloadN X0.here hx rfl (hb hby d1_30) rfl ?_
            show Steps p.tables e below (s₁.setTop (mkF m 31 #[.val (.int p1), .val (.int p2), .unset] [(.int p1)])) _
            refine XS.bipush X0.here hx rfl (hb hby d1_31) ?_
            show Steps p.tables e below (s₁.setTop (mkF m 33 #[.val (.int p1), .val (.int p2), .unset] [(.int (65 : Int32)), (.int p1)])) _
            by_cases hc33 : p1 < (65 : Int32)
            · refine XS.icmpYes X0.here hx rfl (pc0 := 33) (pc' := 46) rfl (hb hby d1_33) rfl (tlt hc33).1 (by decide) (by decide) ?_
              show Steps p.tables e below (s₁.setTop (mkF m 46 #[.val (.int p1), .val (.int p2), .unset] [])) _
              refine XS.iconst X0.here hx rfl (hb hby d1_46) ?_
              show Steps p.tables e below (s₁.setTop (mkF m 47 #[.val (.int p1), .val (.int p2), .unset] [(.int (0 : Int32))])) _
              refine XS.istoreN X0.here hx rfl (hb hby d1_47) rfl (l' := #[.val (.int p1), .val (.int p2), .val (.int (0 : Int32))]) rfl ?_
              show Steps p.tables e below (s₁.setTop (mkF m 48 #[.val (.int p1), .val (.int p2), .val (.int (0 : Int32))] [])) _
              refine XS.goto X0.here hx rfl (pc0 := 48) (pc' := 71) rfl (hb hby d1_48) (by decide) (by decide) ?_
              show Steps p.tables e below (s₁.setTop (mkF m 71 #[.val (.int p1), .val (.int p2), .val (.int (0 : Int32))] [])) _
              refine XS.iloadN X0.here hx rfl (hb hby d1_71) rfl ?_
              show Steps p.tables e below (s₁.setTop (mkF m 72 #[.val (.int p1), .val (.int p2), .val (.int (0 : Int32))] [(.int (0 : Int32))])) _
              have hv : own_f1 p1 p2 = (0 : Int32) := by simp only [own_f1, if_pos hc3, if_pos hc9, if_neg hc21, if_pos hc27, if_pos hc33]
              rw [hv] at hr
              exact retN X0 hx (t := .boolean) Bd.returns (by simp) (hb hby d1_72) hr
            · refine XS.icmpNo X0.here hx rfl (hb hby d1_33) rfl (flt hc33).1 ?_
              show Steps p.tables e below (s₁.setTop (mkF m 36 #[.val (.int p1), .val (.int p2), .unset] [])) _
              refine XS.iloadN X0.here hx rfl (hb hby d1_36) rfl ?_
              show Steps p.tables e below (s₁.setTop (mkF m 37 #[.val (.int p1), .val (.int p2), .unset] [(.int p1)])) _
              refine XS.bipush X0.here hx rfl (hb hby d1_37) ?_
              show Steps p.tables e below (s₁.setTop (mkF m 39 #[.val (.int p1), .val (.int p2), .unset] [(.int (70 : Int32)), (.int p1)])) _
              by_cases hc39 : (70 : Int32) < p1
              · refine XS.icmpYes X0.here hx rfl (pc0 := 39) (pc' := 46) rfl (hb hby d1_39) rfl (tlt hc39).2.2.1 (by decide) (by decide) ?_
                show Steps p.tables e below (s₁.setTop (mkF m 46 #[.val (.int p1), .val (.int p2), .unset] [])) _
                refine XS.iconst X0.here hx rfl (hb hby d1_46) ?_
                show Steps p.tables e below (s₁.setTop (mkF m 47 #[.val (.int p1), .val (.int p2), .unset] [(.int (0 : Int32))])) _
                refine XS.istoreN X0.here hx rfl (hb hby d1_47) rfl (l' := #[.val (.int p1), .val (.int p2), .val (.int (0 : Int32))]) rfl ?_
                show Steps p.tables e below (s₁.setTop (mkF m 48 #[.val (.int p1), .val (.int p2), .val (.int (0 : Int32))] [])) _
                refine XS.goto X0.here hx rfl (pc0 := 48) (pc' := 71) rfl (hb hby d1_48) (by decide) (by decide) ?_
                show Steps p.tables e below (s₁.setTop (mkF m 71 #[.val (.int p1), .val (.int p2), .val (.int (0 : Int32))] [])) _
                refine XS.iloadN X0.here hx rfl (hb hby d1_71) rfl ?_
                show Steps p.tables e below (s₁.setTop (mkF m 72 #[.val (.int p1), .val (.int p2), .val (.int (0 : Int32))] [(.int (0 : Int32))])) _
                have hv : own_f1 p1 p2 = (0 : Int32) := by simp only [own_f1, if_pos hc3, if_pos hc9, if_neg hc21, if_pos hc27, if_neg hc33, if_pos hc39]
                rw [hv] at hr
                exact retN X0 hx (t := .boolean) Bd.returns (by simp) (hb hby d1_72) hr
              · refine XS.icmpNo X0.here hx rfl (hb hby d1_39) rfl (flt hc39).2.2.1 ?_
                show Steps p.tables e below (s₁.setTop (mkF m 42 #[.val (.int p1), .val (.int p2), .unset] [])) _
                refine XS.iconst X0.here hx rfl (hb hby d1_42) ?_
                show Steps p.tables e below (s₁.setTop (mkF m 43 #[.val (.int p1), .val (.int p2), .unset] [(.int (1 : Int32))])) _
                refine XS.goto X0.here hx rfl (pc0 := 43) (pc' := 47) rfl (hb hby d1_43) (by decide) (by decide) ?_
                show Steps p.tables e below (s₁.setTop (mkF m 47 #[.val (.int p1), .val (.int p2), .unset] [(.int (1 : Int32))])) _
                refine XS.istoreN X0.here hx rfl (hb hby d1_47) rfl (l' := #[.val (.int p1), .val (.int p2), .val (.int (1 : Int32))]) rfl ?_
                show Steps p.tables e below (s₁.setTop (mkF m 48 #[.val (.int p1), .val (.int p2), .val (.int (1 : Int32))] [])) _
                refine XS.goto X0.here hx rfl (pc0 := 48) (pc' := 71) rfl (hb hby d1_48) (by decide) (by decide) ?_
                show Steps p.tables e below (s₁.setTop (mkF m 71 #[.val (.int p1), .val (.int p2), .val (.int (1 : Int32))] [])) _
                refine XS.iloadN X0.here hx rfl (hb hby d1_71) rfl ?_
                show Steps p.tables e below (s₁.setTop (mkF m 72 #[.val (.int p1), .val (.int p2), .val (.int (1 : Int32))] [(.int (1 : Int32))])) _
                have hv : own_f1 p1 p2 = (1 : Int32) := by simp only [own_f1, if_pos hc3, if_pos hc9, if_neg hc21, if_pos hc27, if_neg hc33, if_neg hc39]
                rw [hv] at hr
                exact retN X0 hx (t := .boolean) Bd.returns (by simp) (hb hby d1_72) hr
          · refine XS.icmpYes X0.here hx rfl (pc0 := 27) (pc' := 42) rfl (hb hby d1_27) rfl (flt hc27).2.2.2 (by decide) (by decide) ?_
            show Steps p.tables e below (s₁.setTop (mkF m 42 #[.val (.int p1), .val (.int p2), .unset] [])) _
            refine XS.iconst X0.here hx rfl (hb hby d1_42) ?_
            show Steps p.tables e below (s₁.setTop (mkF m 43 #[.val (.int p1), .val (.int p2), .unset] [(.int (1 : Int32))])) _
            refine XS.goto X0.here hx rfl (pc0 := 43) (pc' := 47) rfl (hb hby d1_43) (by decide) (by decide) ?_
            show Steps p.tables e below (s₁.setTop (mkF m 47 #[.val (.int p1), .val (.int p2), .unset] [(.int (1 : Int32))])) _
            refine XS.istoreN X0.here hx rfl (hb hby d1_47) rfl (l' := #[.val (.int p1), .val (.int p2), .val (.int (1 : Int32))]) rfl ?_
            show Steps p.tables e below (s₁.setTop (mkF m 48 #[.val (.int p1), .val (.int p2), .val (.int (1 : Int32))] [])) _
            refine XS.goto X0.here hx rfl (pc0 := 48) (pc' := 71) rfl (hb hby d1_48) (by decide) (by decide) ?_
            show Steps p.tables e below (s₁.setTop (mkF m 71 #[.val (.int p1), .val (.int p2), .val (.int (1 : Int32))] [])) _
            refine XS.iloadN X0.here hx rfl (hb hby d1_71) rfl ?_
            show Steps p.tables e below (s₁.setTop (mkF m 72 #[.val (.int p1), .val (.int p2), .val (.int (1 : Int32))] [(.int (1 : Int32))])) _
            have hv : own_f1 p1 p2 = (1 : Int32) := by simp only [own_f1, if_pos hc3, if_pos hc9, if_neg hc21, if_neg hc27]
            rw [hv] at hr
            exact retN X0 hx (t := .boolean) Bd.returns (by simp) (hb hby d1_72) hr
      · refine XS.icmpNo X0.here hx rfl (hb hby d1_9) rfl (flt hc9).1 ?_
        show Steps p.tables e below (s₁.setTop (mkF m 12 #[.val (.int p1), .val (.int p2), .unset] [])) _
        refine XS.iloadN X0.here hx rfl (hb hby d1_12) rfl ?_
        show Steps p.tables e below (s₁.setTop (mkF m 13 #[.val (.int p1), .val (.int p2), .unset] [(.int p1)])) _
        refine XS.bipush X0.here hx rfl (hb hby d1_13) ?_
        show Steps p.tables e below (s₁.setTop (mkF m 15 #[.val (.int p1), .val (.int p2), .unset] [(.int (57 : Int32)), (.int p1)])) _
        by_cases hc15 : (57 : Int32) < p1
        · refine XS.icmpNo X0.here hx rfl (hb hby d1_15) rfl (tlt hc15).2.2.2 ?_
          show Steps p.tables e below (s₁.setTop (mkF m 18 #[.val (.int p1), .val (.int p2), .unset] [])) _
          refine XS.iloadN X0.here hx rfl (hb hby d1_18) rfl ?_
          show Steps p.tables e below (s₁.setTop (mkF m 19 #[.val (.int p1), .val (.int p2), .unset] [(.int p1)])) _
          refine XS.bipush X0.here hx rfl (hb hby d1_19) ?_
          show Steps p.tables e below (s₁.setTop (mkF m 21 #[.val (.int p1), .val (.int p2), .unset] [(.int (97 : Int32)), (.int p1)])) _
          by_cases hc21 : p1 < (97 : Int32)
          · refine XS.icmpYes X0.here hx rfl (pc0 := 21) (pc' := 30) rfl (hb hby d1_21) rfl (tlt hc21).1 (by decide) (by decide) ?_
            show Steps p.tables e below (s₁.setTop (mkF m 30 #[.val (.int p1), .val (.int p2), .unset] [])) _
            refine XS.iloadN X0.here hx rfl (hb hby d1_30) rfl ?_
            show Steps p.tables e below (s₁.setTop (mkF m 31 #[.val (.int p1), .val (.int p2), .unset] [(.int p1)])) _
            refine XS.bipush X0.here hx rfl (hb hby d1_31) ?_
            show Steps p.tables e below (s₁.setTop (mkF m 33 #[.val (.int p1), .val (.int p2), .unset] [(.int (65 : Int32)), (.int p1)])) _
            by_cases hc33 : p1 < (65 : Int32)
            · refine XS.icmpYes X0.here hx rfl (pc0 := 33) (pc' := 46) rfl (hb hby d1_33) rfl (tlt hc33).1 (by decide) (by decide) ?_
              show Steps p.tables e below (s₁.setTop (mkF m 46 #[.val (.int p1), .val (.int p2), .unset] [])) _
              refine XS.iconst X0.here hx rfl (hb hby d1_46) ?_
              show Steps p.tables e below (s₁.setTop (mkF m 47 #[.val (.int p1), .val (.int p2), .unset] [(.int (0 : Int32))])) _
              refine XS.istoreN X0.here hx rfl (hb hby d1_47) rfl (l' := #[.val (.int p1), .val (.int p2), .val (.int (0 : Int32))]) rfl ?_
              show Steps p.tables e below (s₁.setTop (mkF m 48 #[.val (.int p1), .val (.int p2), .val (.int (0 : Int32))] [])) _
              refine XS.goto X0.here hx rfl (pc0 := 48) (pc' := 71) rfl (hb hby d1_48) (by decide) (by decide) ?_
              show Steps p.tables e below (s₁.setTop (mkF m 71 #[.val (.int p1), .val (.int p2), .val (.int (0 : Int32))] [])) _
              refine XS.iloadN X0.here hx rfl (hb hby d1_71) rfl ?_
              show Steps p.tables e below (s₁.setTop (mkF m 72 #[.val (.int p1), .val (.int p2), .val (.int (0 : Int32))] [(.int (0 : Int32))])) _
              have hv : own_f1 p1 p2 = (0 : Int32) := by simp only [own_f1, if_pos hc3, if_neg hc9, if_pos hc15, if_pos hc21, if_pos hc33]
              rw [hv] at hr
              exact retN X0 hx (t := .boolean) Bd.returns (by simp) (hb hby d1_72) hr
            · refine XS.icmpNo X0.here hx rfl (hb hby d1_33) rfl (flt hc33).1 ?_
              show Steps p.tables e below (s₁.setTop (mkF m 36 #[.val (.int p1), .val (.int p2), .unset] [])) _
              refine XS.iloadN X0.here hx rfl (hb hby d1_36) rfl ?_
              show Steps p.tables e below (s₁.setTop (mkF m 37 #[.val (.int p1), .val (.int p2), .unset] [(.int p1)])) _
              refine XS.bipush X0.here hx rfl (hb hby d1_37) ?_
              show Steps p.tables e below (s₁.setTop (mkF m 39 #[.val (.int p1), .val (.int p2), .unset] [(.int (70 : Int32)), (.int p1)])) _
              by_cases hc39 : (70 : Int32) < p1
              · refine XS.icmpYes X0.here hx rfl (pc0 := 39) (pc' := 46) rfl (hb hby d1_39) rfl (tlt hc39).2.2.1 (by decide) (by decide) ?_
                show Steps p.tables e below (s₁.setTop (mkF m 46 #[.val (.int p1), .val (.int p2), .unset] [])) _
                refine XS.iconst X0.here hx rfl (hb hby d1_46) ?_
                show Steps p.tables e below (s₁.setTop (mkF m 47 #[.val (.int p1), .val (.int p2), .unset] [(.int (0 : Int32))])) _
                refine XS.istoreN X0.here hx rfl (hb hby d1_47) rfl (l' := #[.val (.int p1), .val (.int p2), .val (.int (0 : Int32))]) rfl ?_
                show Steps p.tables e below (s₁.setTop (mkF m 48 #[.val (.int p1), .val (.int p2), .val (.int (0 : Int32))] [])) _
                refine XS.goto X0.here hx rfl (pc0 := 48) (pc' := 71) rfl (hb hby d1_48) (by decide) (by decide) ?_
                show Steps p.tables e below (s₁.setTop (mkF m 71 #[.val (.int p1), .val (.int p2), .val (.int (0 : Int32))] [])) _
                refine XS.iloadN X0.here hx rfl (hb hby d1_71) rfl ?_
                show Steps p.tables e below (s₁.setTop (mkF m 72 #[.val (.int p1), .val (.int p2), .val (.int (0 : Int32))] [(.int (0 : Int32))])) _
                have hv : own_f1 p1 p2 = (0 : Int32) := by simp only [own_f1, if_pos hc3, if_neg hc9, if_pos hc15, if_pos hc21, if_neg hc33, if_pos hc39]
                rw [hv] at hr
                exact retN X0 hx (t := .boolean) Bd.returns (by simp) (hb hby d1_72) hr
              · refine XS.icmpNo X0.here hx rfl (hb hby d1_39) rfl (flt hc39).2.2.1 ?_
                show Steps p.tables e below (s₁.setTop (mkF m 42 #[.val (.int p1), .val (.int p2), .unset] [])) _
                refine XS.iconst X0.here hx rfl (hb hby d1_42) ?_
                show Steps p.tables e below (s₁.setTop (mkF m 43 #[.val (.int p1), .val (.int p2), .unset] [(.int (1 : Int32))])) _
                refine XS.goto X0.here hx rfl (pc0 := 43) (pc' := 47) rfl (hb hby d1_43) (by decide) (by decide) ?_
                show Steps p.tables e below (s₁.setTop (mkF m 47 #[.val (.int p1), .val (.int p2), .unset] [(.int (1 : Int32))])) _
                refine XS.istoreN X0.here hx rfl (hb hby d1_47) rfl (l' := #[.val (.int p1), .val (.int p2), .val (.int (1 : Int32))]) rfl ?_
                show Steps p.tables e below (s₁.setTop (mkF m 48 #[.val (.int p1), .val (.int p2), .val (.int (1 : Int32))] [])) _
                refine XS.goto X0.here hx rfl (pc0 := 48) (pc' := 71) rfl (hb hby d1_48) (by decide) (by decide) ?_
                show Steps p.tables e below (s₁.setTop (mkF m 71 #[.val (.int p1), .val (.int p2), .val (.int (1 : Int32))] [])) _
                refine XS.iloadN X0.here hx rfl (hb hby d1_71) rfl ?_
                show Steps p.tables e below (s₁.setTop (mkF m 72 #[.val (.int p1), .val (.int p2), .val (.int (1 : Int32))] [(.int (1 : Int32))])) _
                have hv : own_f1 p1 p2 = (1 : Int32) := by simp only [own_f1, if_pos hc3, if_neg hc9, if_pos hc15, if_pos hc21, if_neg hc33, if_neg hc39]
                rw [hv] at hr
                exact retN X0 hx (t := .boolean) Bd.returns (by simp) (hb hby d1_72) hr
          · refine XS.icmpNo X0.here hx rfl (hb hby d1_21) rfl (flt hc21).1 ?_
            show Steps p.tables e below (s₁.setTop (mkF m 24 #[.val (.int p1), .val (.int p2), .unset] [])) _
            refine XS.iloadN X0.here hx rfl (hb hby d1_24) rfl ?_
            show Steps p.tables e below (s₁.setTop (mkF m 25 #[.val (.int p1), .val (.int p2), .unset] [(.int p1)])) _
            refine XS.bipush X0.here hx rfl (hb hby d1_25) ?_
            show Steps p.tables e below (s₁.setTop (mkF m 27 #[.val (.int p1), .val (.int p2), .unset] [(.int (102 : Int32)), (.int p1)])) _
            by_cases hc27 : (102 : Int32) < p1
            · refine XS.icmpNo X0.here hx rfl (hb hby d1_27) rfl (tlt hc27).2.2.2 ?_
              show Steps p.tables e below (s₁.setTop (mkF m 30 #[.val (.int p1), .val (.int p2), .unset] [])) _
              refine XS.iloadN X0.here hx rfl (hb hby d1_30) rfl ?_
              show Steps p.tables e below (s₁.setTop (mkF m 31 #[.val (.int p1), .val (.int p2), .unset] [(.int p1)])) _
              refine XS.bipush X0.here hx rfl (hb hby d1_31) ?_
              show Steps p.tables e below (s₁.setTop (mkF m 33 #[.val (.int p1), .val (.int p2), .unset] [(.int (65 : Int32)), (.int p1)])) _
              by_cases hc33 : p1 < (65 : Int32)
              · refine XS.icmpYes X0.here hx rfl (pc0 := 33) (pc' := 46) rfl (hb hby d1_33) rfl (tlt hc33).1 (by decide) (by decide) ?_
                show Steps p.tables e below (s₁.setTop (mkF m 46 #[.val (.int p1), .val (.int p2), .unset] [])) _
                refine XS.iconst X0.here hx rfl (hb hby d1_46) ?_
                show Steps p.tables e below (s₁.setTop (mkF m 47 #[.val (.int p1), .val (.int p2), .unset] [(.int (0 : Int32))])) _
                refine XS.istoreN X0.here hx rfl (hb hby d1_47) rfl (l' := #[.val (.int p1), .val (.int p2), .val (.int (0 : Int32))]) rfl ?_
                show Steps p.tables e below (s₁.setTop (mkF m 48 #[.val (.int p1), .val (.int p2), .val (.int (0 : Int32))] [])) _
                refine XS.goto X0.here hx rfl (pc0 := 48) (pc' := 71) rfl (hb hby d1_48) (by decide) (by decide) ?_
                show Steps p.tables e below (s₁.setTop (mkF m 71 #[.val (.int p1), .val (.int p2), .val (.int (0 : Int32))] [])) _
                refine XS.iloadN X0.here hx rfl (hb hby d1_71) rfl ?_
                show Steps p.tables e below (s₁.setTop (mkF m 72 #[.val (.int p1), .val (.int p2), .val (.int (0 : Int32))] [(.int (0 : Int32))])) _
                have hv : own_f1 p1 p2 = (0 : Int32) := by simp only [own_f1, if_pos hc3, if_neg hc9, if_pos hc15, if_neg hc21, if_pos hc27, if_pos hc33]
                rw [hv] at hr
                exact retN X0 hx (t := .boolean) Bd.returns (by simp) (hb hby d1_72) hr
              · refine XS.icmpNo X0.here hx rfl (hb hby d1_33) rfl (flt hc33).1 ?_
                show Steps p.tables e below (s₁.setTop (mkF m 36 #[.val (.int p1), .val (.int p2), .unset] [])) _
                refine XS.iloadN X0.here hx rfl (hb hby d1_36) rfl ?_
                show Steps p.tables e below (s₁.setTop (mkF m 37 #[.val (.int p1), .val (.int p2), .unset] [(.int p1)])) _
                refine XS.bipush X0.here hx rfl (hb hby d1_37) ?_
                show Steps p.tables e below (s₁.setTop (mkF m 39 #[.val (.int p1), .val (.int p2), .unset] [(.int (70 : Int32)), (.int p1)])) _
                by_cases hc39 : (70 : Int32) < p1
                · refine XS.icmpYes X0.here hx rfl (pc0 := 39) (pc' := 46) rfl (hb hby d1_39) rfl (tlt hc39).2.2.1 (by decide) (by decide) ?_
                  show Steps p.tables e below (s₁.setTop (mkF m 46 #[.val (.int p1), .val (.int p2), .unset] [])) _
                  refine XS.iconst X0.here hx rfl (hb hby d1_46) ?_
                  show Steps p.tables e below (s₁.setTop (mkF m 47 #[.val (.int p1), .val (.int p2), .unset] [(.int (0 : Int32))])) _
                  refine XS.istoreN X0.here hx rfl (hb hby d1_47) rfl (l' := #[.val (.int p1), .val (.int p2), .val (.int (0 : Int32))]) rfl ?_
                  show Steps p.tables e below (s₁.setTop (mkF m 48 #[.val (.int p1), .val (.int p2), .val (.int (0 : Int32))] [])) _
                  refine XS.goto X0.here hx rfl (pc0 := 48) (pc' := 71) rfl (hb hby d1_48) (by decide) (by decide) ?_
                  show Steps p.tables e below (s₁.setTop (mkF m 71 #[.val (.int p1), .val (.int p2), .val (.int (0 : Int32))] [])) _
                  refine XS.iloadN X0.here hx rfl (hb hby d1_71) rfl ?_
                  show Steps p.tables e below (s₁.setTop (mkF m 72 #[.val (.int p1), .val (.int p2), .val (.int (0 : Int32))] [(.int (0 : Int32))])) _
                  have hv : own_f1 p1 p2 = (0 : Int32) := by simp only [own_f1, if_pos hc3, if_neg hc9, if_pos hc15, if_neg hc21, if_pos hc27, if_neg hc33, if_pos hc39]
                  rw [hv] at hr
                  exact retN X0 hx (t := .boolean) Bd.returns (by simp) (hb hby d1_72) hr
                · refine XS.icmpNo X0.here hx rfl (hb hby d1_39) rfl (flt hc39).2.2.1 ?_
                  show Steps p.tables e below (s₁.setTop (mkF m 42 #[.val (.int p1), .val (.int p2), .unset] [])) _
                  refine XS.iconst X0.here hx rfl (hb hby d1_42) ?_
                  show Steps p.tables e below (s₁.setTop (mkF m 43 #[.val (.int p1), .val (.int p2), .unset] [(.int (1 : Int32))])) _
                  refine XS.goto X0.here hx rfl (pc0 := 43) (pc' := 47) rfl (hb hby d1_43) (by decide) (by decide) ?_
                  show Steps p.tables e below (s₁.setTop (mkF m 47 #[.val (.int p1), .val (.int p2), .unset] [(.int (1 : Int32))])) _
                  refine XS.istoreN X0.here hx rfl (hb hby d1_47) rfl (l' := #[.val (.int p1), .val (.int p2), .val (.int (1 : Int32))]) rfl ?_
                  show Steps p.tables e below (s₁.setTop (mkF m 48 #[.val (.int p1), .val (.int p2), .val (.int (1 : Int32))] [])) _
                  refine XS.goto X0.here hx rfl (pc0 := 48) (pc' := 71) rfl (hb hby d1_48) (by decide) (by decide) ?_
                  show Steps p.tables e below (s₁.setTop (mkF m 71 #[.val (.int p1), .val (.int p2), .val (.int (1 : Int32))] [])) _
                  refine XS.iloadN X0.here hx rfl (hb hby d1_71) rfl ?_
                  show Steps p.tables e below (s₁.setTop (mkF m 72 #[.val (.int p1), .val (.int p2), .val (.int (1 : Int32))] [(.int (1 : Int32))])) _
                  have hv : own_f1 p1 p2 = (1 : Int32) := by simp only [own_f1, if_pos hc3, if_neg hc9, if_pos hc15, if_neg hc21, if_pos hc27, if_neg hc33, if_neg hc39]
                  rw [hv] at hr
                  exact retN X0 hx (t := .boolean) Bd.returns (by simp) (hb hby d1_72) hr
            · refine XS.icmpYes X0.here hx rfl (pc0 := 27) (pc' := 42) rfl (hb hby d1_27) rfl (flt hc27).2.2.2 (by decide) (by decide) ?_
              show Steps p.tables e below (s₁.setTop (mkF m 42 #[.val (.int p1), .val (.int p2), .unset] [])) _
              refine XS.iconst X0.here hx rfl (hb hby d1_42) ?_
              show Steps p.tables e below (s₁.setTop (mkF m 43 #[.val (.int p1), .val (.int p2), .unset] [(.int (1 : Int32))])) _
              refine XS.goto X0.here hx rfl (pc0 := 43) (pc' := 47) rfl (hb hby d1_43) (by decide) (by decide) ?_
              show Steps p.tables e below (s₁.setTop (mkF m 47 #[.val (.int p1), .val (.int p2), .unset] [(.int (1 : Int32))])) _
              refine XS.istoreN X0.here hx rfl (hb hby d1_47) rfl (l' := #[.val (.int p1), .val (.int p2), .val (.int (1 : Int32))]) rfl ?_
              show Steps p.tables e below (s₁.setTop (mkF m 48 #[.val (.int p1), .val (.int p2), .val (.int (1 : Int32))] [])) _
              refine XS.goto X0.here hx rfl (pc0 := 48) (pc' := 71) rfl (hb hby d1_48) (by decide) (by decide) ?_
              show Steps p.tables e below (s₁.setTop (mkF m 71 #[.val (.int p1), .val (.int p2), .val (.int (1 : Int32))] [])) _
              refine XS.iloadN X0.here hx rfl (hb hby d1_71) rfl ?_
              show Steps p.tables e below (s₁.setTop (mkF m 72 #[.val (.int p1), .val (.int p2), .val (.int (1 : Int32))] [(.int (1 : Int32))])) _
              have hv : own_f1 p1 p2 = (1 : Int32) := by simp only [own_f1, if_pos hc3, if_neg hc9, if_pos hc15, if_neg hc21, if_neg hc27]
              rw [hv] at hr
              exact retN X0 hx (t := .boolean) Bd.returns (by simp) (hb hby d1_72) hr
        · refine XS.icmpYes X0.here hx rfl (pc0 := 15) (pc' := 42) rfl (hb hby d1_15) rfl (flt hc15).2.2.2 (by decide) (by decide) ?_
          show Steps p.tables e below (s₁.setTop (mkF m 42 #[.val (.int p1), .val (.int p2), .unset] [])) _
          refine XS.iconst X0.here hx rfl (hb hby d1_42) ?_
          show Steps p.tables e below (s₁.setTop (mkF m 43 #[.val (.int p1), .val (.int p2), .unset] [(.int (1 : Int32))])) _
          refine XS.goto X0.here hx rfl (pc0 := 43) (pc' := 47) rfl (hb hby d1_43) (by decide) (by decide) ?_
          show Steps p.tables e below (s₁.setTop (mkF m 47 #[.val (.int p1), .val (.int p2), .unset] [(.int (1 : Int32))])) _
          refine XS.istoreN X0.here hx rfl (hb hby d1_47) rfl (l' := #[.val (.int p1), .val (.int p2), .val (.int (1 : Int32))]) rfl ?_
          show Steps p.tables e below (s₁.setTop (mkF m 48 #[.val (.int p1), .val (.int p2), .val (.int (1 : Int32))] [])) _
          refine XS.goto X0.here hx rfl (pc0 := 48) (pc' := 71) rfl (hb hby d1_48) (by decide) (by decide) ?_
          show Steps p.tables e below (s₁.setTop (mkF m 71 #[.val (.int p1), .val (.int p2), .val (.int (1 : Int32))] [])) _
          refine XS.iloadN X0.here hx rfl (hb hby d1_71) rfl ?_
          show Steps p.tables e below (s₁.setTop (mkF m 72 #[.val (.int p1), .val (.int p2), .val (.int (1 : Int32))] [(.int (1 : Int32))])) _
          have hv : own_f1 p1 p2 = (1 : Int32) := by simp only [own_f1, if_pos hc3, if_neg hc9, if_neg hc15]
          rw [hv] at hr
          exact retN X0 hx (t := .boolean) Bd.returns (by simp) (hb hby d1_72) hr
    · refine XS.icmpYes X0.here hx rfl (pc0 := 3) (pc' := 51) rfl (hb hby d1_3) rfl (feq hc3).2 (by decide) (by decide) ?_
      show Steps p.tables e below (s₁.setTop (mkF m 51 #[.val (.int p1), .val (.int p2), .unset] [])) _
      refine XS.iloadN X0.here hx rfl (hb hby d1_51) rfl ?_
      show Steps p.tables e below (s₁.setTop (mkF m 52 #[.val (.int p1), .val (.int p2), .unset] [(.int p1)])) _
      refine XS.bipush X0.here hx rfl (hb hby d1_52) ?_
      show Steps p.tables e below (s₁.setTop (mkF m 54 #[.val (.int p1), .val (.int p2), .unset] [(.int (48 : Int32)), (.int p1)])) _
      by_cases hc54 : p1 < (48 : Int32)
      · refine XS.icmpYes X0.here hx rfl (pc0 := 54) (pc' := 69) rfl (hb hby d1_54) rfl (tlt hc54).1 (by decide) (by decide) ?_
        show Steps p.tables e below (s₁.setTop (mkF m 69 #[.val (.int p1), .val (.int p2), .unset] [])) _
        refine XS.iconst X0.here hx rfl (hb hby d1_69) ?_
        show Steps p.tables e below (s₁.setTop (mkF m 70 #[.val (.int p1), .val (.int p2), .unset] [(.int (0 : Int32))])) _
        refine XS.istoreN X0.here hx rfl (hb hby d1_70) rfl (l' := #[.val (.int p1), .val (.int p2), .val (.int (0 : Int32))]) rfl ?_
        show Steps p.tables e below (s₁.setTop (mkF m 71 #[.val (.int p1), .val (.int p2), .val (.int (0 : Int32))] [])) _
        refine XS.iloadN X0.here hx rfl (hb hby d1_71) rfl ?_
        show Steps p.tables e below (s₁.setTop (mkF m 72 #[.val (.int p1), .val (.int p2), .val (.int (0 : Int32))] [(.int (0 : Int32))])) _
        have hv : own_f1 p1 p2 = (0 : Int32) := by simp only [own_f1, if_neg hc3, if_pos hc54]
        rw [hv] at hr
        exact retN X0 hx (t := .boolean) Bd.returns (by simp) (hb hby d1_72) hr
      · refine XS.icmpNo X0.here hx rfl (hb hby d1_54) rfl (flt hc54).1 ?_
        show Steps p.tables e below (s₁.setTop (mkF m 57 #[.val (.int p1), .val (.int p2), .unset] [])) _
        refine XS.iloadN X0.here hx rfl (hb hby d1_57) rfl ?_
        show Steps p.tables e below (s₁.setTop (mkF m 58 #[.val (.int p1), .val (.int p2), .unset] [(.int p1)])) _
        refine XS.bipush X0.here hx rfl (hb hby d1_58) ?_
        show Steps p.tables e below (s₁.setTop (mkF m 60 #[.val (.int p1), .val (.int p2), .unset] [(.int (48 : Int32)), (.int p1)])) _
        refine XS.iloadN X0.here hx rfl (hb hby d1_60) rfl ?_
        show Steps p.tables e below (s₁.setTop (mkF m 61 #[.val (.int p1), .val (.int p2), .unset] [(.int p2), (.int (48 : Int32)), (.int p1)])) _
        refine XS.iadd X0.here hx rfl (hb hby d1_61) rfl ?_
        show Steps p.tables e below (s₁.setTop (mkF m 62 #[.val (.int p1), .val (.int p2), .unset] [(.int ((48 : Int32) + p2)), (.int p1)])) _
        by_cases hc62 : p1 < ((48 : Int32) + p2)
        · refine XS.icmpNo X0.here hx rfl (hb hby d1_62) rfl (tlt hc62).2.1 ?_
          show Steps p.tables e below (s₁.setTop (mkF m 65 #[.val (.int p1), .val (.int p2), .unset] [])) _
          refine XS.iconst X0.here hx rfl (hb hby d1_65) ?_
          show Steps p.tables e below (s₁.setTop (mkF m 66 #[.val (.int p1), .val (.int p2), .unset] [(.int (1 : Int32))])) _
          refine XS.goto X0.here hx rfl (pc0 := 66) (pc' := 70) rfl (hb hby d1_66) (by decide) (by decide) ?_
          show Steps p.tables e below (s₁.setTop (mkF m 70 #[.val (.int p1), .val (.int p2), .unset] [(.int (1 : Int32))])) _
          refine XS.istoreN X0.here hx rfl (hb hby d1_70) rfl (l' := #[.val (.int p1), .val (.int p2), .val (.int (1 : Int32))]) rfl ?_
          show Steps p.tables e below (s₁.setTop (mkF m 71 #[.val (.int p1), .val (.int p2), .val (.int (1 : Int32))] [])) _
          refine XS.iloadN X0.here hx rfl (hb hby d1_71) rfl ?_
          show Steps p.tables e below (s₁.setTop (mkF m 72 #[.val (.int p1), .val (.int p2), .val (.int (1 : Int32))] [(.int (1 : Int32))])) _
          have hv : own_f1 p1 p2 = (1 : Int32) := by simp only [own_f1, if_neg hc3, if_neg hc54, if_pos hc62]
          rw [hv] at hr
          exact retN X0 hx (t := .boolean) Bd.returns (by simp) (hb hby d1_72) hr
        · refine XS.icmpYes X0.here hx rfl (pc0 := 62) (pc' := 69) rfl (hb hby d1_62) rfl (flt hc62).2.1 (by decide) (by decide) ?_
          show Steps p.tables e below (s₁.setTop (mkF m 69 #[.val (.int p1), .val (.int p2), .unset] [])) _
          refine XS.iconst X0.here hx rfl (hb hby d1_69) ?_
          show Steps p.tables e below (s₁.setTop (mkF m 70 #[.val (.int p1), .val (.int p2), .unset] [(.int (0 : Int32))])) _
          refine XS.istoreN X0.here hx rfl (hb hby d1_70) rfl (l' := #[.val (.int p1), .val (.int p2), .val (.int (0 : Int32))]) rfl ?_
          show Steps p.tables e below (s₁.setTop (mkF m 71 #[.val (.int p1), .val (.int p2), .val (.int (0 : Int32))] [])) _
          refine XS.iloadN X0.here hx rfl (hb hby d1_71) rfl ?_
          show Steps p.tables e below (s₁.setTop (mkF m 72 #[.val (.int p1), .val (.int p2), .val (.int (0 : Int32))] [(.int (0 : Int32))])) _
          have hv : own_f1 p1 p2 = (0 : Int32) := by simp only [own_f1, if_neg hc3, if_neg hc54, if_neg hc62]
          rw [hv] at hr
          exact retN X0 hx (t := .boolean) Bd.returns (by simp) (hb hby d1_72) hr
  · show Q1 Z p1 p2 h0 n0 _ s₁.heap _
    rw [e0]
    exact ⟨rfl, N0, rfl⟩
theorem os0_34 {s0 : Slot} {s1 : Slot} {s2 : Slot} {z3 : Value} {s4 : Slot} {s5 : Slot} {s6 : Slot} {v : Int32} (h : One s4) : storeLocals #[s0, s1, s2, .val z3, s4, s5, s6] 4 (.int v) = some #[s0, s1, s2, .val z3, .val (.int v), s5, s6] := by
  rcases h with rfl | ⟨w, rfl, hw⟩
  · rfl
  · cases w <;> first | rfl | (simp [Value.category] at hw)
def own_r4 (i3 : Int32) : Int32 := (if i3 = (0 : Int32) then (8 : Int32) else (if i3 = (1 : Int32) then (10 : Int32) else (16 : Int32)))
set_option maxRecDepth 65536 in
set_option maxHeartbeats 40000000 in
theorem seg0_13_36 {p : Program} {l : Launch} {e : Env} {R : Room} {s : State} {m : MethodId} {args : Array Value} {below : List Frame} {meth : Method} {c : Code} {T0 : State} {locs : List Loc} {cells slots : Nat} {Z : State} {a0 : Array Value} (s0 : Slot) (s1 : Slot) (s2 : Slot) (i3 : Int32) (s4 : Slot) (s5 : Slot) (s6 : Slot)
    (X0 : Stand p l e R s m args below meth c T0 locs cells slots) (hx : p.tables.exec = Jvm.exec) (hZ : Z.Warmed39 s.vm) (hw : ∀ d ∈ tables_1, d.before a0 Z = true) (hby : c.code = code) (hml : c.maxLocals = 7) (hown : s.vm.findClass "com/example/rhadamanthus/rhadamanthus/core/AsciiDigitsIsDigitPinLaw" = some m.cls) (hs4 : One s4) :
    ∀ target, Steps p.tables e below (T0.setTop (mkF m 36 #[s0, s1, s2, .val (.int i3), .val (.int (own_r4 i3)), s5, s6] [])) target → Steps p.tables e below (T0.setTop (mkF m 13 #[s0, s1, s2, .val (.int i3), s4, s5, s6] [])) target := by
  intro target kt
  show Steps p.tables e below (T0.setTop (mkF m 13 #[s0, s1, s2, .val (.int i3), s4, s5, s6] [])) _
  refine XS.iloadN X0.here hx rfl (hb hby at_13) rfl ?_
  show Steps p.tables e below (T0.setTop (mkF m 14 #[s0, s1, s2, .val (.int i3), s4, s5, s6] [(.int i3)])) _
  by_cases hc14 : i3 = (0 : Int32)
  · refine XS.ifNo X0.here hx rfl (hb hby at_14) rfl ((if0 _ _).trans (teq hc14).2) ?_
    show Steps p.tables e below (T0.setTop (mkF m 17 #[s0, s1, s2, .val (.int i3), s4, s5, s6] [])) _
    refine XS.bipush X0.here hx rfl (hb hby at_17) ?_
    show Steps p.tables e below (T0.setTop (mkF m 19 #[s0, s1, s2, .val (.int i3), s4, s5, s6] [(.int (8 : Int32))])) _
    refine XS.goto X0.here hx rfl (pc0 := 19) (pc' := 34) rfl (hb hby at_19) (by decide) (by decide) ?_
    show Steps p.tables e below (T0.setTop (mkF m 34 #[s0, s1, s2, .val (.int i3), s4, s5, s6] [(.int (8 : Int32))])) _
    refine XS.istore X0.here hx rfl (hb hby at_34) rfl (l' := #[s0, s1, s2, .val (.int i3), .val (.int (8 : Int32)), s5, s6]) (os0_34 hs4) ?_
    have hv4 : own_r4 i3 = (8 : Int32) := by simp only [own_r4, if_pos hc14]
    rw [hv4] at kt
    exact kt
  · refine XS.ifYes X0.here hx rfl (pc0 := 14) (pc' := 22) rfl (hb hby at_14) rfl ((if0 _ _).trans (feq hc14).2) (by decide) (by decide) ?_
    show Steps p.tables e below (T0.setTop (mkF m 22 #[s0, s1, s2, .val (.int i3), s4, s5, s6] [])) _
    refine XS.iloadN X0.here hx rfl (hb hby at_22) rfl ?_
    show Steps p.tables e below (T0.setTop (mkF m 23 #[s0, s1, s2, .val (.int i3), s4, s5, s6] [(.int i3)])) _
    refine XS.iconst X0.here hx rfl (hb hby at_23) ?_
    show Steps p.tables e below (T0.setTop (mkF m 24 #[s0, s1, s2, .val (.int i3), s4, s5, s6] [(.int (1 : Int32)), (.int i3)])) _
    by_cases hc24 : i3 = (1 : Int32)
    · refine XS.icmpNo X0.here hx rfl (hb hby at_24) rfl (teq hc24).2 ?_
      show Steps p.tables e below (T0.setTop (mkF m 27 #[s0, s1, s2, .val (.int i3), s4, s5, s6] [])) _
      refine XS.bipush X0.here hx rfl (hb hby at_27) ?_
      show Steps p.tables e below (T0.setTop (mkF m 29 #[s0, s1, s2, .val (.int i3), s4, s5, s6] [(.int (10 : Int32))])) _
      refine XS.goto X0.here hx rfl (pc0 := 29) (pc' := 34) rfl (hb hby at_29) (by decide) (by decide) ?_
      show Steps p.tables e below (T0.setTop (mkF m 34 #[s0, s1, s2, .val (.int i3), s4, s5, s6] [(.int (10 : Int32))])) _
      refine XS.istore X0.here hx rfl (hb hby at_34) rfl (l' := #[s0, s1, s2, .val (.int i3), .val (.int (10 : Int32)), s5, s6]) (os0_34 hs4) ?_
      have hv4 : own_r4 i3 = (10 : Int32) := by simp only [own_r4, if_neg hc14, if_pos hc24]
      rw [hv4] at kt
      exact kt
    · refine XS.icmpYes X0.here hx rfl (pc0 := 24) (pc' := 32) rfl (hb hby at_24) rfl (feq hc24).2 (by decide) (by decide) ?_
      show Steps p.tables e below (T0.setTop (mkF m 32 #[s0, s1, s2, .val (.int i3), s4, s5, s6] [])) _
      refine XS.bipush X0.here hx rfl (hb hby at_32) ?_
      show Steps p.tables e below (T0.setTop (mkF m 34 #[s0, s1, s2, .val (.int i3), s4, s5, s6] [(.int (16 : Int32))])) _
      refine XS.istore X0.here hx rfl (hb hby at_34) rfl (l' := #[s0, s1, s2, .val (.int i3), .val (.int (16 : Int32)), s5, s6]) (os0_34 hs4) ?_
      have hv4 : own_r4 i3 = (16 : Int32) := by simp only [own_r4, if_neg hc14, if_neg hc24]
      rw [hv4] at kt
      exact kt
theorem os0_107 {s0 : Slot} {s1 : Slot} {z2 : Value} {s3 : Slot} {s4 : Slot} {s5 : Slot} {s6 : Slot} {v : Int32} (h : One s5) : storeLocals #[s0, s1, .val z2, s3, s4, s5, s6] 5 (.int v) = some #[s0, s1, .val z2, s3, s4, .val (.int v), s6] := by
  rcases h with rfl | ⟨w, rfl, hw⟩
  · rfl
  · cases w <;> first | rfl | (simp [Value.category] at hw)
theorem os0_100 {s0 : Slot} {s1 : Slot} {z2 : Value} {s3 : Slot} {s4 : Slot} {s5 : Slot} {s6 : Slot} {v : Int32} (h : One s5) : storeLocals #[s0, s1, .val z2, s3, s4, s5, s6] 5 (.int v) = some #[s0, s1, .val z2, s3, s4, .val (.int v), s6] := by
  rcases h with rfl | ⟨w, rfl, hw⟩
  · rfl
  · cases w <;> first | rfl | (simp [Value.category] at hw)
theorem os0_76 {s0 : Slot} {s1 : Slot} {z2 : Value} {s3 : Slot} {s4 : Slot} {s5 : Slot} {s6 : Slot} {v : Int32} (h : One s5) : storeLocals #[s0, s1, .val z2, s3, s4, s5, s6] 5 (.int v) = some #[s0, s1, .val z2, s3, s4, .val (.int v), s6] := by
  rcases h with rfl | ⟨w, rfl, hw⟩
  · rfl
  · cases w <;> first | rfl | (simp [Value.category] at hw)
theorem os0_52 {s0 : Slot} {s1 : Slot} {z2 : Value} {s3 : Slot} {s4 : Slot} {s5 : Slot} {s6 : Slot} {v : Int32} (h : One s5) : storeLocals #[s0, s1, .val z2, s3, s4, s5, s6] 5 (.int v) = some #[s0, s1, .val z2, s3, s4, .val (.int v), s6] := by
  rcases h with rfl | ⟨w, rfl, hw⟩
  · rfl
  · cases w <;> first | rfl | (simp [Value.category] at hw)
def own_v5 (i2 : Int32) : Int32 := (if i2 < (48 : Int32) then (if i2 < (97 : Int32) then (if i2 < (65 : Int32) then (99 : Int32) else (if (90 : Int32) < i2 then (99 : Int32) else ((i2 - (65 : Int32)) + (10 : Int32)))) else (if (122 : Int32) < i2 then (if i2 < (65 : Int32) then (99 : Int32) else (if (90 : Int32) < i2 then (99 : Int32) else ((i2 - (65 : Int32)) + (10 : Int32)))) else ((i2 - (97 : Int32)) + (10 : Int32)))) else (if (57 : Int32) < i2 then (if i2 < (97 : Int32) then (if i2 < (65 : Int32) then (99 : Int32) else (if (90 : Int32) < i2 then (99 : Int32) else ((i2 - (65 : Int32)) + (10 : Int32)))) else (if (122 : Int32) < i2 then (if i2 < (65 : Int32) then (99 : Int32) else (if (90 : Int32) < i2 then (99 : Int32) else ((i2 - (65 : Int32)) + (10 : Int32)))) else ((i2 - (97 : Int32)) + (10 : Int32)))) else (i2 - (48 : Int32))))
set_option maxRecDepth 65536 in
set_option maxHeartbeats 40000000 in
theorem seg0_36_109 {p : Program} {l : Launch} {e : Env} {R : Room} {s : State} {m : MethodId} {args : Array Value} {below : List Frame} {meth : Method} {c : Code} {T0 : State} {locs : List Loc} {cells slots : Nat} {Z : State} {a0 : Array Value} (s0 : Slot) (s1 : Slot) (i2 : Int32) (s3 : Slot) (s4 : Slot) (s5 : Slot) (s6 : Slot)
    (X0 : Stand p l e R s m args below meth c T0 locs cells slots) (hx : p.tables.exec = Jvm.exec) (hZ : Z.Warmed39 s.vm) (hw : ∀ d ∈ tables_1, d.before a0 Z = true) (hby : c.code = code) (hml : c.maxLocals = 7) (hown : s.vm.findClass "com/example/rhadamanthus/rhadamanthus/core/AsciiDigitsIsDigitPinLaw" = some m.cls) (hs5 : One s5) :
    ∀ target, Steps p.tables e below (T0.setTop (mkF m 109 #[s0, s1, .val (.int i2), s3, s4, .val (.int (own_v5 i2)), s6] [])) target → Steps p.tables e below (T0.setTop (mkF m 36 #[s0, s1, .val (.int i2), s3, s4, s5, s6] [])) target := by
  intro target kt
  show Steps p.tables e below (T0.setTop (mkF m 36 #[s0, s1, .val (.int i2), s3, s4, s5, s6] [])) _
  refine XS.iloadN X0.here hx rfl (hb hby at_36) rfl ?_
  show Steps p.tables e below (T0.setTop (mkF m 37 #[s0, s1, .val (.int i2), s3, s4, s5, s6] [(.int i2)])) _
  refine XS.bipush X0.here hx rfl (hb hby at_37) ?_
  show Steps p.tables e below (T0.setTop (mkF m 39 #[s0, s1, .val (.int i2), s3, s4, s5, s6] [(.int (48 : Int32)), (.int i2)])) _
  by_cases hc39 : i2 < (48 : Int32)
  · refine XS.icmpYes X0.here hx rfl (pc0 := 39) (pc' := 57) rfl (hb hby at_39) rfl (tlt hc39).1 (by decide) (by decide) ?_
    show Steps p.tables e below (T0.setTop (mkF m 57 #[s0, s1, .val (.int i2), s3, s4, s5, s6] [])) _
    refine XS.iloadN X0.here hx rfl (hb hby at_57) rfl ?_
    show Steps p.tables e below (T0.setTop (mkF m 58 #[s0, s1, .val (.int i2), s3, s4, s5, s6] [(.int i2)])) _
    refine XS.bipush X0.here hx rfl (hb hby at_58) ?_
    show Steps p.tables e below (T0.setTop (mkF m 60 #[s0, s1, .val (.int i2), s3, s4, s5, s6] [(.int (97 : Int32)), (.int i2)])) _
    by_cases hc60 : i2 < (97 : Int32)
    · refine XS.icmpYes X0.here hx rfl (pc0 := 60) (pc' := 81) rfl (hb hby at_60) rfl (tlt hc60).1 (by decide) (by decide) ?_
      show Steps p.tables e below (T0.setTop (mkF m 81 #[s0, s1, .val (.int i2), s3, s4, s5, s6] [])) _
      refine XS.iloadN X0.here hx rfl (hb hby at_81) rfl ?_
      show Steps p.tables e below (T0.setTop (mkF m 82 #[s0, s1, .val (.int i2), s3, s4, s5, s6] [(.int i2)])) _
      refine XS.bipush X0.here hx rfl (hb hby at_82) ?_
      show Steps p.tables e below (T0.setTop (mkF m 84 #[s0, s1, .val (.int i2), s3, s4, s5, s6] [(.int (65 : Int32)), (.int i2)])) _
      by_cases hc84 : i2 < (65 : Int32)
      · refine XS.icmpYes X0.here hx rfl (pc0 := 84) (pc' := 105) rfl (hb hby at_84) rfl (tlt hc84).1 (by decide) (by decide) ?_
        show Steps p.tables e below (T0.setTop (mkF m 105 #[s0, s1, .val (.int i2), s3, s4, s5, s6] [])) _
        refine XS.bipush X0.here hx rfl (hb hby at_105) ?_
        show Steps p.tables e below (T0.setTop (mkF m 107 #[s0, s1, .val (.int i2), s3, s4, s5, s6] [(.int (99 : Int32))])) _
        refine XS.istore X0.here hx rfl (hb hby at_107) rfl (l' := #[s0, s1, .val (.int i2), s3, s4, .val (.int (99 : Int32)), s6]) (os0_107 hs5) ?_
        have hv5 : own_v5 i2 = (99 : Int32) := by simp only [own_v5, if_pos hc39, if_pos hc60, if_pos hc84]
        rw [hv5] at kt
        exact kt
      · refine XS.icmpNo X0.here hx rfl (hb hby at_84) rfl (flt hc84).1 ?_
        show Steps p.tables e below (T0.setTop (mkF m 87 #[s0, s1, .val (.int i2), s3, s4, s5, s6] [])) _
        refine XS.iloadN X0.here hx rfl (hb hby at_87) rfl ?_
        show Steps p.tables e below (T0.setTop (mkF m 88 #[s0, s1, .val (.int i2), s3, s4, s5, s6] [(.int i2)])) _
        refine XS.bipush X0.here hx rfl (hb hby at_88) ?_
        show Steps p.tables e below (T0.setTop (mkF m 90 #[s0, s1, .val (.int i2), s3, s4, s5, s6] [(.int (90 : Int32)), (.int i2)])) _
        by_cases hc90 : (90 : Int32) < i2
        · refine XS.icmpYes X0.here hx rfl (pc0 := 90) (pc' := 105) rfl (hb hby at_90) rfl (tlt hc90).2.2.1 (by decide) (by decide) ?_
          show Steps p.tables e below (T0.setTop (mkF m 105 #[s0, s1, .val (.int i2), s3, s4, s5, s6] [])) _
          refine XS.bipush X0.here hx rfl (hb hby at_105) ?_
          show Steps p.tables e below (T0.setTop (mkF m 107 #[s0, s1, .val (.int i2), s3, s4, s5, s6] [(.int (99 : Int32))])) _
          refine XS.istore X0.here hx rfl (hb hby at_107) rfl (l' := #[s0, s1, .val (.int i2), s3, s4, .val (.int (99 : Int32)), s6]) (os0_107 hs5) ?_
          have hv5 : own_v5 i2 = (99 : Int32) := by simp only [own_v5, if_pos hc39, if_pos hc60, if_neg hc84, if_pos hc90]
          rw [hv5] at kt
          exact kt
        · refine XS.icmpNo X0.here hx rfl (hb hby at_90) rfl (flt hc90).2.2.1 ?_
          show Steps p.tables e below (T0.setTop (mkF m 93 #[s0, s1, .val (.int i2), s3, s4, s5, s6] [])) _
          refine XS.iloadN X0.here hx rfl (hb hby at_93) rfl ?_
          show Steps p.tables e below (T0.setTop (mkF m 94 #[s0, s1, .val (.int i2), s3, s4, s5, s6] [(.int i2)])) _
          refine XS.bipush X0.here hx rfl (hb hby at_94) ?_
          show Steps p.tables e below (T0.setTop (mkF m 96 #[s0, s1, .val (.int i2), s3, s4, s5, s6] [(.int (65 : Int32)), (.int i2)])) _
          refine XS.isub X0.here hx rfl (hb hby at_96) rfl ?_
          show Steps p.tables e below (T0.setTop (mkF m 97 #[s0, s1, .val (.int i2), s3, s4, s5, s6] [(.int (i2 - (65 : Int32)))])) _
          refine XS.bipush X0.here hx rfl (hb hby at_97) ?_
          show Steps p.tables e below (T0.setTop (mkF m 99 #[s0, s1, .val (.int i2), s3, s4, s5, s6] [(.int (10 : Int32)), (.int (i2 - (65 : Int32)))])) _
          refine XS.iadd X0.here hx rfl (hb hby at_99) rfl ?_
          show Steps p.tables e below (T0.setTop (mkF m 100 #[s0, s1, .val (.int i2), s3, s4, s5, s6] [(.int ((i2 - (65 : Int32)) + (10 : Int32)))])) _
          refine XS.istore X0.here hx rfl (hb hby at_100) rfl (l' := #[s0, s1, .val (.int i2), s3, s4, .val (.int ((i2 - (65 : Int32)) + (10 : Int32))), s6]) (os0_100 hs5) ?_
          show Steps p.tables e below (T0.setTop (mkF m 102 #[s0, s1, .val (.int i2), s3, s4, .val (.int ((i2 - (65 : Int32)) + (10 : Int32))), s6] [])) _
          refine XS.goto X0.here hx rfl (pc0 := 102) (pc' := 109) rfl (hb hby at_102) (by decide) (by decide) ?_
          have hv5 : own_v5 i2 = ((i2 - (65 : Int32)) + (10 : Int32)) := by simp only [own_v5, if_pos hc39, if_pos hc60, if_neg hc84, if_neg hc90]
          rw [hv5] at kt
          exact kt
    · refine XS.icmpNo X0.here hx rfl (hb hby at_60) rfl (flt hc60).1 ?_
      show Steps p.tables e below (T0.setTop (mkF m 63 #[s0, s1, .val (.int i2), s3, s4, s5, s6] [])) _
      refine XS.iloadN X0.here hx rfl (hb hby at_63) rfl ?_
      show Steps p.tables e below (T0.setTop (mkF m 64 #[s0, s1, .val (.int i2), s3, s4, s5, s6] [(.int i2)])) _
      refine XS.bipush X0.here hx rfl (hb hby at_64) ?_
      show Steps p.tables e below (T0.setTop (mkF m 66 #[s0, s1, .val (.int i2), s3, s4, s5, s6] [(.int (122 : Int32)), (.int i2)])) _
      by_cases hc66 : (122 : Int32) < i2
      · refine XS.icmpYes X0.here hx rfl (pc0 := 66) (pc' := 81) rfl (hb hby at_66) rfl (tlt hc66).2.2.1 (by decide) (by decide) ?_
        show Steps p.tables e below (T0.setTop (mkF m 81 #[s0, s1, .val (.int i2), s3, s4, s5, s6] [])) _
        refine XS.iloadN X0.here hx rfl (hb hby at_81) rfl ?_
        show Steps p.tables e below (T0.setTop (mkF m 82 #[s0, s1, .val (.int i2), s3, s4, s5, s6] [(.int i2)])) _
        refine XS.bipush X0.here hx rfl (hb hby at_82) ?_
        show Steps p.tables e below (T0.setTop (mkF m 84 #[s0, s1, .val (.int i2), s3, s4, s5, s6] [(.int (65 : Int32)), (.int i2)])) _
        by_cases hc84 : i2 < (65 : Int32)
        · refine XS.icmpYes X0.here hx rfl (pc0 := 84) (pc' := 105) rfl (hb hby at_84) rfl (tlt hc84).1 (by decide) (by decide) ?_
          show Steps p.tables e below (T0.setTop (mkF m 105 #[s0, s1, .val (.int i2), s3, s4, s5, s6] [])) _
          refine XS.bipush X0.here hx rfl (hb hby at_105) ?_
          show Steps p.tables e below (T0.setTop (mkF m 107 #[s0, s1, .val (.int i2), s3, s4, s5, s6] [(.int (99 : Int32))])) _
          refine XS.istore X0.here hx rfl (hb hby at_107) rfl (l' := #[s0, s1, .val (.int i2), s3, s4, .val (.int (99 : Int32)), s6]) (os0_107 hs5) ?_
          have hv5 : own_v5 i2 = (99 : Int32) := by simp only [own_v5, if_pos hc39, if_neg hc60, if_pos hc66, if_pos hc84]
          rw [hv5] at kt
          exact kt
        · refine XS.icmpNo X0.here hx rfl (hb hby at_84) rfl (flt hc84).1 ?_
          show Steps p.tables e below (T0.setTop (mkF m 87 #[s0, s1, .val (.int i2), s3, s4, s5, s6] [])) _
          refine XS.iloadN X0.here hx rfl (hb hby at_87) rfl ?_
          show Steps p.tables e below (T0.setTop (mkF m 88 #[s0, s1, .val (.int i2), s3, s4, s5, s6] [(.int i2)])) _
          refine XS.bipush X0.here hx rfl (hb hby at_88) ?_
          show Steps p.tables e below (T0.setTop (mkF m 90 #[s0, s1, .val (.int i2), s3, s4, s5, s6] [(.int (90 : Int32)), (.int i2)])) _
          by_cases hc90 : (90 : Int32) < i2
          · refine XS.icmpYes X0.here hx rfl (pc0 := 90) (pc' := 105) rfl (hb hby at_90) rfl (tlt hc90).2.2.1 (by decide) (by decide) ?_
            show Steps p.tables e below (T0.setTop (mkF m 105 #[s0, s1, .val (.int i2), s3, s4, s5, s6] [])) _
            refine XS.bipush X0.here hx rfl (hb hby at_105) ?_
            show Steps p.tables e below (T0.setTop (mkF m 107 #[s0, s1, .val (.int i2), s3, s4, s5, s6] [(.int (99 : Int32))])) _
            refine XS.istore X0.here hx rfl (hb hby at_107) rfl (l' := #[s0, s1, .val (.int i2), s3, s4, .val (.int (99 : Int32)), s6]) (os0_107 hs5) ?_
            have hv5 : own_v5 i2 = (99 : Int32) := by simp only [own_v5, if_pos hc39, if_neg hc60, if_pos hc66, if_neg hc84, if_pos hc90]
            rw [hv5] at kt
            exact kt
          · refine XS.icmpNo X0.here hx rfl (hb hby at_90) rfl (flt hc90).2.2.1 ?_
            show Steps p.tables e below (T0.setTop (mkF m 93 #[s0, s1, .val (.int i2), s3, s4, s5, s6] [])) _
            refine XS.iloadN X0.here hx rfl (hb hby at_93) rfl ?_
            show Steps p.tables e below (T0.setTop (mkF m 94 #[s0, s1, .val (.int i2), s3, s4, s5, s6] [(.int i2)])) _
            refine XS.bipush X0.here hx rfl (hb hby at_94) ?_
            show Steps p.tables e below (T0.setTop (mkF m 96 #[s0, s1, .val (.int i2), s3, s4, s5, s6] [(.int (65 : Int32)), (.int i2)])) _
            refine XS.isub X0.here hx rfl (hb hby at_96) rfl ?_
            show Steps p.tables e below (T0.setTop (mkF m 97 #[s0, s1, .val (.int i2), s3, s4, s5, s6] [(.int (i2 - (65 : Int32)))])) _
            refine XS.bipush X0.here hx rfl (hb hby at_97) ?_
            show Steps p.tables e below (T0.setTop (mkF m 99 #[s0, s1, .val (.int i2), s3, s4, s5, s6] [(.int (10 : Int32)), (.int (i2 - (65 : Int32)))])) _
            refine XS.iadd X0.here hx rfl (hb hby at_99) rfl ?_
            show Steps p.tables e below (T0.setTop (mkF m 100 #[s0, s1, .val (.int i2), s3, s4, s5, s6] [(.int ((i2 - (65 : Int32)) + (10 : Int32)))])) _
            refine XS.istore X0.here hx rfl (hb hby at_100) rfl (l' := #[s0, s1, .val (.int i2), s3, s4, .val (.int ((i2 - (65 : Int32)) + (10 : Int32))), s6]) (os0_100 hs5) ?_
            show Steps p.tables e below (T0.setTop (mkF m 102 #[s0, s1, .val (.int i2), s3, s4, .val (.int ((i2 - (65 : Int32)) + (10 : Int32))), s6] [])) _
            refine XS.goto X0.here hx rfl (pc0 := 102) (pc' := 109) rfl (hb hby at_102) (by decide) (by decide) ?_
            have hv5 : own_v5 i2 = ((i2 - (65 : Int32)) + (10 : Int32)) := by simp only [own_v5, if_pos hc39, if_neg hc60, if_pos hc66, if_neg hc84, if_neg hc90]
            rw [hv5] at kt
            exact kt
      · refine XS.icmpNo X0.here hx rfl (hb hby at_66) rfl (flt hc66).2.2.1 ?_
        show Steps p.tables e below (T0.setTop (mkF m 69 #[s0, s1, .val (.int i2), s3, s4, s5, s6] [])) _
        refine XS.iloadN X0.here hx rfl (hb hby at_69) rfl ?_
        show Steps p.tables e below (T0.setTop (mkF m 70 #[s0, s1, .val (.int i2), s3, s4, s5, s6] [(.int i2)])) _
        refine XS.bipush X0.here hx rfl (hb hby at_70) ?_
        show Steps p.tables e below (T0.setTop (mkF m 72 #[s0, s1, .val (.int i2), s3, s4, s5, s6] [(.int (97 : Int32)), (.int i2)])) _
        refine XS.isub X0.here hx rfl (hb hby at_72) rfl ?_
        show Steps p.tables e below (T0.setTop (mkF m 73 #[s0, s1, .val (.int i2), s3, s4, s5, s6] [(.int (i2 - (97 : Int32)))])) _
        refine XS.bipush X0.here hx rfl (hb hby at_73) ?_
        show Steps p.tables e below (T0.setTop (mkF m 75 #[s0, s1, .val (.int i2), s3, s4, s5, s6] [(.int (10 : Int32)), (.int (i2 - (97 : Int32)))])) _
        refine XS.iadd X0.here hx rfl (hb hby at_75) rfl ?_
        show Steps p.tables e below (T0.setTop (mkF m 76 #[s0, s1, .val (.int i2), s3, s4, s5, s6] [(.int ((i2 - (97 : Int32)) + (10 : Int32)))])) _
        refine XS.istore X0.here hx rfl (hb hby at_76) rfl (l' := #[s0, s1, .val (.int i2), s3, s4, .val (.int ((i2 - (97 : Int32)) + (10 : Int32))), s6]) (os0_76 hs5) ?_
        show Steps p.tables e below (T0.setTop (mkF m 78 #[s0, s1, .val (.int i2), s3, s4, .val (.int ((i2 - (97 : Int32)) + (10 : Int32))), s6] [])) _
        refine XS.goto X0.here hx rfl (pc0 := 78) (pc' := 109) rfl (hb hby at_78) (by decide) (by decide) ?_
        have hv5 : own_v5 i2 = ((i2 - (97 : Int32)) + (10 : Int32)) := by simp only [own_v5, if_pos hc39, if_neg hc60, if_neg hc66]
        rw [hv5] at kt
        exact kt
  · refine XS.icmpNo X0.here hx rfl (hb hby at_39) rfl (flt hc39).1 ?_
    show Steps p.tables e below (T0.setTop (mkF m 42 #[s0, s1, .val (.int i2), s3, s4, s5, s6] [])) _
    refine XS.iloadN X0.here hx rfl (hb hby at_42) rfl ?_
    show Steps p.tables e below (T0.setTop (mkF m 43 #[s0, s1, .val (.int i2), s3, s4, s5, s6] [(.int i2)])) _
    refine XS.bipush X0.here hx rfl (hb hby at_43) ?_
    show Steps p.tables e below (T0.setTop (mkF m 45 #[s0, s1, .val (.int i2), s3, s4, s5, s6] [(.int (57 : Int32)), (.int i2)])) _
    by_cases hc45 : (57 : Int32) < i2
    · refine XS.icmpYes X0.here hx rfl (pc0 := 45) (pc' := 57) rfl (hb hby at_45) rfl (tlt hc45).2.2.1 (by decide) (by decide) ?_
      show Steps p.tables e below (T0.setTop (mkF m 57 #[s0, s1, .val (.int i2), s3, s4, s5, s6] [])) _
      refine XS.iloadN X0.here hx rfl (hb hby at_57) rfl ?_
      show Steps p.tables e below (T0.setTop (mkF m 58 #[s0, s1, .val (.int i2), s3, s4, s5, s6] [(.int i2)])) _
      refine XS.bipush X0.here hx rfl (hb hby at_58) ?_
      show Steps p.tables e below (T0.setTop (mkF m 60 #[s0, s1, .val (.int i2), s3, s4, s5, s6] [(.int (97 : Int32)), (.int i2)])) _
      by_cases hc60 : i2 < (97 : Int32)
      · refine XS.icmpYes X0.here hx rfl (pc0 := 60) (pc' := 81) rfl (hb hby at_60) rfl (tlt hc60).1 (by decide) (by decide) ?_
        show Steps p.tables e below (T0.setTop (mkF m 81 #[s0, s1, .val (.int i2), s3, s4, s5, s6] [])) _
        refine XS.iloadN X0.here hx rfl (hb hby at_81) rfl ?_
        show Steps p.tables e below (T0.setTop (mkF m 82 #[s0, s1, .val (.int i2), s3, s4, s5, s6] [(.int i2)])) _
        refine XS.bipush X0.here hx rfl (hb hby at_82) ?_
        show Steps p.tables e below (T0.setTop (mkF m 84 #[s0, s1, .val (.int i2), s3, s4, s5, s6] [(.int (65 : Int32)), (.int i2)])) _
        by_cases hc84 : i2 < (65 : Int32)
        · refine XS.icmpYes X0.here hx rfl (pc0 := 84) (pc' := 105) rfl (hb hby at_84) rfl (tlt hc84).1 (by decide) (by decide) ?_
          show Steps p.tables e below (T0.setTop (mkF m 105 #[s0, s1, .val (.int i2), s3, s4, s5, s6] [])) _
          refine XS.bipush X0.here hx rfl (hb hby at_105) ?_
          show Steps p.tables e below (T0.setTop (mkF m 107 #[s0, s1, .val (.int i2), s3, s4, s5, s6] [(.int (99 : Int32))])) _
          refine XS.istore X0.here hx rfl (hb hby at_107) rfl (l' := #[s0, s1, .val (.int i2), s3, s4, .val (.int (99 : Int32)), s6]) (os0_107 hs5) ?_
          have hv5 : own_v5 i2 = (99 : Int32) := by simp only [own_v5, if_neg hc39, if_pos hc45, if_pos hc60, if_pos hc84]
          rw [hv5] at kt
          exact kt
        · refine XS.icmpNo X0.here hx rfl (hb hby at_84) rfl (flt hc84).1 ?_
          show Steps p.tables e below (T0.setTop (mkF m 87 #[s0, s1, .val (.int i2), s3, s4, s5, s6] [])) _
          refine XS.iloadN X0.here hx rfl (hb hby at_87) rfl ?_
          show Steps p.tables e below (T0.setTop (mkF m 88 #[s0, s1, .val (.int i2), s3, s4, s5, s6] [(.int i2)])) _
          refine XS.bipush X0.here hx rfl (hb hby at_88) ?_
          show Steps p.tables e below (T0.setTop (mkF m 90 #[s0, s1, .val (.int i2), s3, s4, s5, s6] [(.int (90 : Int32)), (.int i2)])) _
          by_cases hc90 : (90 : Int32) < i2
          · refine XS.icmpYes X0.here hx rfl (pc0 := 90) (pc' := 105) rfl (hb hby at_90) rfl (tlt hc90).2.2.1 (by decide) (by decide) ?_
            show Steps p.tables e below (T0.setTop (mkF m 105 #[s0, s1, .val (.int i2), s3, s4, s5, s6] [])) _
            refine XS.bipush X0.here hx rfl (hb hby at_105) ?_
            show Steps p.tables e below (T0.setTop (mkF m 107 #[s0, s1, .val (.int i2), s3, s4, s5, s6] [(.int (99 : Int32))])) _
            refine XS.istore X0.here hx rfl (hb hby at_107) rfl (l' := #[s0, s1, .val (.int i2), s3, s4, .val (.int (99 : Int32)), s6]) (os0_107 hs5) ?_
            have hv5 : own_v5 i2 = (99 : Int32) := by simp only [own_v5, if_neg hc39, if_pos hc45, if_pos hc60, if_neg hc84, if_pos hc90]
            rw [hv5] at kt
            exact kt
          · refine XS.icmpNo X0.here hx rfl (hb hby at_90) rfl (flt hc90).2.2.1 ?_
            show Steps p.tables e below (T0.setTop (mkF m 93 #[s0, s1, .val (.int i2), s3, s4, s5, s6] [])) _
            refine XS.iloadN X0.here hx rfl (hb hby at_93) rfl ?_
            show Steps p.tables e below (T0.setTop (mkF m 94 #[s0, s1, .val (.int i2), s3, s4, s5, s6] [(.int i2)])) _
            refine XS.bipush X0.here hx rfl (hb hby at_94) ?_
            show Steps p.tables e below (T0.setTop (mkF m 96 #[s0, s1, .val (.int i2), s3, s4, s5, s6] [(.int (65 : Int32)), (.int i2)])) _
            refine XS.isub X0.here hx rfl (hb hby at_96) rfl ?_
            show Steps p.tables e below (T0.setTop (mkF m 97 #[s0, s1, .val (.int i2), s3, s4, s5, s6] [(.int (i2 - (65 : Int32)))])) _
            refine XS.bipush X0.here hx rfl (hb hby at_97) ?_
            show Steps p.tables e below (T0.setTop (mkF m 99 #[s0, s1, .val (.int i2), s3, s4, s5, s6] [(.int (10 : Int32)), (.int (i2 - (65 : Int32)))])) _
            refine XS.iadd X0.here hx rfl (hb hby at_99) rfl ?_
            show Steps p.tables e below (T0.setTop (mkF m 100 #[s0, s1, .val (.int i2), s3, s4, s5, s6] [(.int ((i2 - (65 : Int32)) + (10 : Int32)))])) _
            refine XS.istore X0.here hx rfl (hb hby at_100) rfl (l' := #[s0, s1, .val (.int i2), s3, s4, .val (.int ((i2 - (65 : Int32)) + (10 : Int32))), s6]) (os0_100 hs5) ?_
            show Steps p.tables e below (T0.setTop (mkF m 102 #[s0, s1, .val (.int i2), s3, s4, .val (.int ((i2 - (65 : Int32)) + (10 : Int32))), s6] [])) _
            refine XS.goto X0.here hx rfl (pc0 := 102) (pc' := 109) rfl (hb hby at_102) (by decide) (by decide) ?_
            have hv5 : own_v5 i2 = ((i2 - (65 : Int32)) + (10 : Int32)) := by simp only [own_v5, if_neg hc39, if_pos hc45, if_pos hc60, if_neg hc84, if_neg hc90]
            rw [hv5] at kt
            exact kt
      · refine XS.icmpNo X0.here hx rfl (hb hby at_60) rfl (flt hc60).1 ?_
        show Steps p.tables e below (T0.setTop (mkF m 63 #[s0, s1, .val (.int i2), s3, s4, s5, s6] [])) _
        refine XS.iloadN X0.here hx rfl (hb hby at_63) rfl ?_
        show Steps p.tables e below (T0.setTop (mkF m 64 #[s0, s1, .val (.int i2), s3, s4, s5, s6] [(.int i2)])) _
        refine XS.bipush X0.here hx rfl (hb hby at_64) ?_
        show Steps p.tables e below (T0.setTop (mkF m 66 #[s0, s1, .val (.int i2), s3, s4, s5, s6] [(.int (122 : Int32)), (.int i2)])) _
        by_cases hc66 : (122 : Int32) < i2
        · refine XS.icmpYes X0.here hx rfl (pc0 := 66) (pc' := 81) rfl (hb hby at_66) rfl (tlt hc66).2.2.1 (by decide) (by decide) ?_
          show Steps p.tables e below (T0.setTop (mkF m 81 #[s0, s1, .val (.int i2), s3, s4, s5, s6] [])) _
          refine XS.iloadN X0.here hx rfl (hb hby at_81) rfl ?_
          show Steps p.tables e below (T0.setTop (mkF m 82 #[s0, s1, .val (.int i2), s3, s4, s5, s6] [(.int i2)])) _
          refine XS.bipush X0.here hx rfl (hb hby at_82) ?_
          show Steps p.tables e below (T0.setTop (mkF m 84 #[s0, s1, .val (.int i2), s3, s4, s5, s6] [(.int (65 : Int32)), (.int i2)])) _
          by_cases hc84 : i2 < (65 : Int32)
          · refine XS.icmpYes X0.here hx rfl (pc0 := 84) (pc' := 105) rfl (hb hby at_84) rfl (tlt hc84).1 (by decide) (by decide) ?_
            show Steps p.tables e below (T0.setTop (mkF m 105 #[s0, s1, .val (.int i2), s3, s4, s5, s6] [])) _
            refine XS.bipush X0.here hx rfl (hb hby at_105) ?_
            show Steps p.tables e below (T0.setTop (mkF m 107 #[s0, s1, .val (.int i2), s3, s4, s5, s6] [(.int (99 : Int32))])) _
            refine XS.istore X0.here hx rfl (hb hby at_107) rfl (l' := #[s0, s1, .val (.int i2), s3, s4, .val (.int (99 : Int32)), s6]) (os0_107 hs5) ?_
            have hv5 : own_v5 i2 = (99 : Int32) := by simp only [own_v5, if_neg hc39, if_pos hc45, if_neg hc60, if_pos hc66, if_pos hc84]
            rw [hv5] at kt
            exact kt
          · refine XS.icmpNo X0.here hx rfl (hb hby at_84) rfl (flt hc84).1 ?_
            show Steps p.tables e below (T0.setTop (mkF m 87 #[s0, s1, .val (.int i2), s3, s4, s5, s6] [])) _
            refine XS.iloadN X0.here hx rfl (hb hby at_87) rfl ?_
            show Steps p.tables e below (T0.setTop (mkF m 88 #[s0, s1, .val (.int i2), s3, s4, s5, s6] [(.int i2)])) _
            refine XS.bipush X0.here hx rfl (hb hby at_88) ?_
            show Steps p.tables e below (T0.setTop (mkF m 90 #[s0, s1, .val (.int i2), s3, s4, s5, s6] [(.int (90 : Int32)), (.int i2)])) _
            by_cases hc90 : (90 : Int32) < i2
            · refine XS.icmpYes X0.here hx rfl (pc0 := 90) (pc' := 105) rfl (hb hby at_90) rfl (tlt hc90).2.2.1 (by decide) (by decide) ?_
              show Steps p.tables e below (T0.setTop (mkF m 105 #[s0, s1, .val (.int i2), s3, s4, s5, s6] [])) _
              refine XS.bipush X0.here hx rfl (hb hby at_105) ?_
              show Steps p.tables e below (T0.setTop (mkF m 107 #[s0, s1, .val (.int i2), s3, s4, s5, s6] [(.int (99 : Int32))])) _
              refine XS.istore X0.here hx rfl (hb hby at_107) rfl (l' := #[s0, s1, .val (.int i2), s3, s4, .val (.int (99 : Int32)), s6]) (os0_107 hs5) ?_
              have hv5 : own_v5 i2 = (99 : Int32) := by simp only [own_v5, if_neg hc39, if_pos hc45, if_neg hc60, if_pos hc66, if_neg hc84, if_pos hc90]
              rw [hv5] at kt
              exact kt
            · refine XS.icmpNo X0.here hx rfl (hb hby at_90) rfl (flt hc90).2.2.1 ?_
              show Steps p.tables e below (T0.setTop (mkF m 93 #[s0, s1, .val (.int i2), s3, s4, s5, s6] [])) _
              refine XS.iloadN X0.here hx rfl (hb hby at_93) rfl ?_
              show Steps p.tables e below (T0.setTop (mkF m 94 #[s0, s1, .val (.int i2), s3, s4, s5, s6] [(.int i2)])) _
              refine XS.bipush X0.here hx rfl (hb hby at_94) ?_
              show Steps p.tables e below (T0.setTop (mkF m 96 #[s0, s1, .val (.int i2), s3, s4, s5, s6] [(.int (65 : Int32)), (.int i2)])) _
              refine XS.isub X0.here hx rfl (hb hby at_96) rfl ?_
              show Steps p.tables e below (T0.setTop (mkF m 97 #[s0, s1, .val (.int i2), s3, s4, s5, s6] [(.int (i2 - (65 : Int32)))])) _
              refine XS.bipush X0.here hx rfl (hb hby at_97) ?_
              show Steps p.tables e below (T0.setTop (mkF m 99 #[s0, s1, .val (.int i2), s3, s4, s5, s6] [(.int (10 : Int32)), (.int (i2 - (65 : Int32)))])) _
              refine XS.iadd X0.here hx rfl (hb hby at_99) rfl ?_
              show Steps p.tables e below (T0.setTop (mkF m 100 #[s0, s1, .val (.int i2), s3, s4, s5, s6] [(.int ((i2 - (65 : Int32)) + (10 : Int32)))])) _
              refine XS.istore X0.here hx rfl (hb hby at_100) rfl (l' := #[s0, s1, .val (.int i2), s3, s4, .val (.int ((i2 - (65 : Int32)) + (10 : Int32))), s6]) (os0_100 hs5) ?_
              show Steps p.tables e below (T0.setTop (mkF m 102 #[s0, s1, .val (.int i2), s3, s4, .val (.int ((i2 - (65 : Int32)) + (10 : Int32))), s6] [])) _
              refine XS.goto X0.here hx rfl (pc0 := 102) (pc' := 109) rfl (hb hby at_102) (by decide) (by decide) ?_
              have hv5 : own_v5 i2 = ((i2 - (65 : Int32)) + (10 : Int32)) := by simp only [own_v5, if_neg hc39, if_pos hc45, if_neg hc60, if_pos hc66, if_neg hc84, if_neg hc90]
              rw [hv5] at kt
              exact kt
        · refine XS.icmpNo X0.here hx rfl (hb hby at_66) rfl (flt hc66).2.2.1 ?_
          show Steps p.tables e below (T0.setTop (mkF m 69 #[s0, s1, .val (.int i2), s3, s4, s5, s6] [])) _
          refine XS.iloadN X0.here hx rfl (hb hby at_69) rfl ?_
          show Steps p.tables e below (T0.setTop (mkF m 70 #[s0, s1, .val (.int i2), s3, s4, s5, s6] [(.int i2)])) _
          refine XS.bipush X0.here hx rfl (hb hby at_70) ?_
          show Steps p.tables e below (T0.setTop (mkF m 72 #[s0, s1, .val (.int i2), s3, s4, s5, s6] [(.int (97 : Int32)), (.int i2)])) _
          refine XS.isub X0.here hx rfl (hb hby at_72) rfl ?_
          show Steps p.tables e below (T0.setTop (mkF m 73 #[s0, s1, .val (.int i2), s3, s4, s5, s6] [(.int (i2 - (97 : Int32)))])) _
          refine XS.bipush X0.here hx rfl (hb hby at_73) ?_
          show Steps p.tables e below (T0.setTop (mkF m 75 #[s0, s1, .val (.int i2), s3, s4, s5, s6] [(.int (10 : Int32)), (.int (i2 - (97 : Int32)))])) _
          refine XS.iadd X0.here hx rfl (hb hby at_75) rfl ?_
          show Steps p.tables e below (T0.setTop (mkF m 76 #[s0, s1, .val (.int i2), s3, s4, s5, s6] [(.int ((i2 - (97 : Int32)) + (10 : Int32)))])) _
          refine XS.istore X0.here hx rfl (hb hby at_76) rfl (l' := #[s0, s1, .val (.int i2), s3, s4, .val (.int ((i2 - (97 : Int32)) + (10 : Int32))), s6]) (os0_76 hs5) ?_
          show Steps p.tables e below (T0.setTop (mkF m 78 #[s0, s1, .val (.int i2), s3, s4, .val (.int ((i2 - (97 : Int32)) + (10 : Int32))), s6] [])) _
          refine XS.goto X0.here hx rfl (pc0 := 78) (pc' := 109) rfl (hb hby at_78) (by decide) (by decide) ?_
          have hv5 : own_v5 i2 = ((i2 - (97 : Int32)) + (10 : Int32)) := by simp only [own_v5, if_neg hc39, if_pos hc45, if_neg hc60, if_neg hc66]
          rw [hv5] at kt
          exact kt
    · refine XS.icmpNo X0.here hx rfl (hb hby at_45) rfl (flt hc45).2.2.1 ?_
      show Steps p.tables e below (T0.setTop (mkF m 48 #[s0, s1, .val (.int i2), s3, s4, s5, s6] [])) _
      refine XS.iloadN X0.here hx rfl (hb hby at_48) rfl ?_
      show Steps p.tables e below (T0.setTop (mkF m 49 #[s0, s1, .val (.int i2), s3, s4, s5, s6] [(.int i2)])) _
      refine XS.bipush X0.here hx rfl (hb hby at_49) ?_
      show Steps p.tables e below (T0.setTop (mkF m 51 #[s0, s1, .val (.int i2), s3, s4, s5, s6] [(.int (48 : Int32)), (.int i2)])) _
      refine XS.isub X0.here hx rfl (hb hby at_51) rfl ?_
      show Steps p.tables e below (T0.setTop (mkF m 52 #[s0, s1, .val (.int i2), s3, s4, s5, s6] [(.int (i2 - (48 : Int32)))])) _
      refine XS.istore X0.here hx rfl (hb hby at_52) rfl (l' := #[s0, s1, .val (.int i2), s3, s4, .val (.int (i2 - (48 : Int32))), s6]) (os0_52 hs5) ?_
      show Steps p.tables e below (T0.setTop (mkF m 54 #[s0, s1, .val (.int i2), s3, s4, .val (.int (i2 - (48 : Int32))), s6] [])) _
      refine XS.goto X0.here hx rfl (pc0 := 54) (pc' := 109) rfl (hb hby at_54) (by decide) (by decide) ?_
      have hv5 : own_v5 i2 = (i2 - (48 : Int32)) := by simp only [own_v5, if_neg hc39, if_neg hc45]
      rw [hv5] at kt
      exact kt
theorem os0_121 {s0 : Slot} {s1 : Slot} {s2 : Slot} {s3 : Slot} {z4 : Value} {z5 : Value} {s6 : Slot} {v : Int32} (h : One s6) : storeLocals #[s0, s1, s2, s3, .val z4, .val z5, s6] 6 (.int v) = some #[s0, s1, s2, s3, .val z4, .val z5, .val (.int v)] := by
  rcases h with rfl | ⟨w, rfl, hw⟩
  · rfl
  · cases w <;> first | rfl | (simp [Value.category] at hw)
def own_e6 (i4 : Int32) (i5 : Int32) : Int32 := (if i5 < i4 then (1 : Int32) else (0 : Int32))
set_option maxRecDepth 65536 in
set_option maxHeartbeats 40000000 in
theorem seg0_109_123 {p : Program} {l : Launch} {e : Env} {R : Room} {s : State} {m : MethodId} {args : Array Value} {below : List Frame} {meth : Method} {c : Code} {T0 : State} {locs : List Loc} {cells slots : Nat} {Z : State} {a0 : Array Value} (s0 : Slot) (s1 : Slot) (s2 : Slot) (s3 : Slot) (i4 : Int32) (i5 : Int32) (s6 : Slot)
    (X0 : Stand p l e R s m args below meth c T0 locs cells slots) (hx : p.tables.exec = Jvm.exec) (hZ : Z.Warmed39 s.vm) (hw : ∀ d ∈ tables_1, d.before a0 Z = true) (hby : c.code = code) (hml : c.maxLocals = 7) (hown : s.vm.findClass "com/example/rhadamanthus/rhadamanthus/core/AsciiDigitsIsDigitPinLaw" = some m.cls) (hs6 : One s6) :
    ∀ target, Steps p.tables e below (T0.setTop (mkF m 123 #[s0, s1, s2, s3, .val (.int i4), .val (.int i5), .val (.int (own_e6 i4 i5))] [])) target → Steps p.tables e below (T0.setTop (mkF m 109 #[s0, s1, s2, s3, .val (.int i4), .val (.int i5), s6] [])) target := by
  intro target kt
  show Steps p.tables e below (T0.setTop (mkF m 109 #[s0, s1, s2, s3, .val (.int i4), .val (.int i5), s6] [])) _
  refine XS.iload X0.here hx rfl (hb hby at_109) rfl ?_
  show Steps p.tables e below (T0.setTop (mkF m 111 #[s0, s1, s2, s3, .val (.int i4), .val (.int i5), s6] [(.int i5)])) _
  refine XS.iload X0.here hx rfl (hb hby at_111) rfl ?_
  show Steps p.tables e below (T0.setTop (mkF m 113 #[s0, s1, s2, s3, .val (.int i4), .val (.int i5), s6] [(.int i4), (.int i5)])) _
  by_cases hc113 : i5 < i4
  · refine XS.icmpNo X0.here hx rfl (hb hby at_113) rfl (tlt hc113).2.1 ?_
    show Steps p.tables e below (T0.setTop (mkF m 116 #[s0, s1, s2, s3, .val (.int i4), .val (.int i5), s6] [])) _
    refine XS.iconst X0.here hx rfl (hb hby at_116) ?_
    show Steps p.tables e below (T0.setTop (mkF m 117 #[s0, s1, s2, s3, .val (.int i4), .val (.int i5), s6] [(.int (1 : Int32))])) _
    refine XS.goto X0.here hx rfl (pc0 := 117) (pc' := 121) rfl (hb hby at_117) (by decide) (by decide) ?_
    show Steps p.tables e below (T0.setTop (mkF m 121 #[s0, s1, s2, s3, .val (.int i4), .val (.int i5), s6] [(.int (1 : Int32))])) _
    refine XS.istore X0.here hx rfl (hb hby at_121) rfl (l' := #[s0, s1, s2, s3, .val (.int i4), .val (.int i5), .val (.int (1 : Int32))]) (os0_121 hs6) ?_
    have hv6 : own_e6 i4 i5 = (1 : Int32) := by simp only [own_e6, if_pos hc113]
    rw [hv6] at kt
    exact kt
  · refine XS.icmpYes X0.here hx rfl (pc0 := 113) (pc' := 120) rfl (hb hby at_113) rfl (flt hc113).2.1 (by decide) (by decide) ?_
    show Steps p.tables e below (T0.setTop (mkF m 120 #[s0, s1, s2, s3, .val (.int i4), .val (.int i5), s6] [])) _
    refine XS.iconst X0.here hx rfl (hb hby at_120) ?_
    show Steps p.tables e below (T0.setTop (mkF m 121 #[s0, s1, s2, s3, .val (.int i4), .val (.int i5), s6] [(.int (0 : Int32))])) _
    refine XS.istore X0.here hx rfl (hb hby at_121) rfl (l' := #[s0, s1, s2, s3, .val (.int i4), .val (.int i5), .val (.int (0 : Int32))]) (os0_121 hs6) ?_
    have hv6 : own_e6 i4 i5 = (0 : Int32) := by simp only [own_e6, if_neg hc113]
    rw [hv6] at kt
    exact kt
theorem own_char (x : Int32) : 0 ≤ (x.toUInt32.toUInt16.toUInt32.toInt32).toInt ∧ (x.toUInt32.toUInt16.toUInt32.toInt32).toInt < 65536 := by
  have h : (x.toUInt32.toUInt16.toUInt32.toInt32).toBitVec.toNat = x.toBitVec.toNat % 65536 := by
    show ((x.toBitVec.setWidth 16).setWidth 32).toNat = _
    rw [BitVec.toNat_setWidth, BitVec.toNat_setWidth]
    omega
  have e : (x.toUInt32.toUInt16.toUInt32.toInt32).toInt = (x.toUInt32.toUInt16.toUInt32.toInt32).toBitVec.toInt := rfl
  rw [e, BitVec.toInt_eq_toNat_cond, h]
  split <;> omega
theorem own_r_cases (k : Int32) : own_r4 k = 8 ∨ own_r4 k = 10 ∨ own_r4 k = 16 := by
  unfold own_r4
  split
  · exact Or.inl rfl
  · split
    · exact Or.inr (Or.inl rfl)
    · exact Or.inr (Or.inr rfl)
theorem own_v_int {c : Int32} (h0 : 0 ≤ c.toInt) (h1 : c.toInt < 65536) : (own_v5 c).toInt = if 48 ≤ c.toInt ∧ c.toInt ≤ 57 then c.toInt - 48 else if 97 ≤ c.toInt ∧ c.toInt ≤ 122 then c.toInt - 87 else if 65 ≤ c.toInt ∧ c.toInt ≤ 90 then c.toInt - 55 else 99 := by
  have k48 : (48 : Int32).toInt = 48 := rfl
  have k65 : (65 : Int32).toInt = 65 := rfl
  have k97 : (97 : Int32).toInt = 97 := rfl
  have k10 : (10 : Int32).toInt = 10 := rfl
  have k99 : (99 : Int32).toInt = 99 := rfl
  have s48 : (c - (48 : Int32)).toInt = c.toInt - 48 := Jvm.Kit.i32_sub (by omega) (by omega)
  have t65 : (c - (65 : Int32)).toInt = c.toInt - 65 := Jvm.Kit.i32_sub (by omega) (by omega)
  have t97 : (c - (97 : Int32)).toInt = c.toInt - 97 := Jvm.Kit.i32_sub (by omega) (by omega)
  have s65 : (c - (65 : Int32) + (10 : Int32)).toInt = (c - (65 : Int32)).toInt + (10 : Int32).toInt := Jvm.Kit.i32_add (by omega) (by omega)
  have s97 : (c - (97 : Int32) + (10 : Int32)).toInt = (c - (97 : Int32)).toInt + (10 : Int32).toInt := Jvm.Kit.i32_add (by omega) (by omega)
  rw [t65, k10] at s65
  rw [t97, k10] at s97
  simp only [own_v5, Int32.lt_iff_toInt_lt, k48, k65, k97, show (57 : Int32).toInt = 57 from rfl, show (122 : Int32).toInt = 122 from rfl, show (90 : Int32).toInt = 90 from rfl]
  repeat' split
  all_goals omega
theorem own_eq {c k : Int32} (h : 0 ≤ c.toInt ∧ c.toInt < 65536) : own_f1 c (own_r4 k) = own_e6 (own_r4 k) (own_v5 c) := by
  have v := own_v_int h.1 h.2
  have h1 := h.1
  have h2 := h.2
  rcases own_r_cases k with q | q | q
  · rw [q]
    rw [own_f1, if_neg (by decide)]
    simp only [own_e6, Int32.lt_iff_toInt_lt, v, show (48 : Int32).toInt = 48 from rfl, show ((48 : Int32) + (8 : Int32)).toInt = 56 from rfl, show (8 : Int32).toInt = 8 from rfl]
    generalize c.toInt = n at *
    repeat' split
    all_goals first | rfl | omega
  · rw [q]
    rw [own_f1, if_neg (by decide)]
    simp only [own_e6, Int32.lt_iff_toInt_lt, v, show (48 : Int32).toInt = 48 from rfl, show ((48 : Int32) + (10 : Int32)).toInt = 58 from rfl, show (10 : Int32).toInt = 10 from rfl]
    generalize c.toInt = n at *
    repeat' split
    all_goals first | rfl | omega
  · rw [q]
    rw [own_f1, if_pos rfl]
    simp only [own_e6, Int32.lt_iff_toInt_lt, v, show (48 : Int32).toInt = 48 from rfl, show (97 : Int32).toInt = 97 from rfl, show (65 : Int32).toInt = 65 from rfl, show (70 : Int32).toInt = 70 from rfl, show (102 : Int32).toInt = 102 from rfl, show (57 : Int32).toInt = 57 from rfl, show (16 : Int32).toInt = 16 from rfl]
    generalize c.toInt = n at *
    repeat' split
    all_goals first | rfl | omega
-- lawwalk: body 0, com/example/rhadamanthus/rhadamanthus/core/AsciiDigitsIsDigitPinLaw.law:(II)Z, road fffff: 41 instruction(s); it ends in some (.int (1 : Int32)). IT PROVES NOTHING; a T-O-D-O is yours; 'no_word': the sheet bears no such word (A.json's tables).
-- 1. FACTS
theorem pn_0 : plainName "com/example/rhadamanthus/rhadamanthus/core/AsciiDigitsIsDigitPinLaw" = true := by first | (simp [plainName, overriddenIn]; done) | decide +kernel
theorem pd_0_0 : parseMethodDescriptor "(CI)Z" = some ⟨[.char, .int], some .boolean⟩ := by decide +kernel
theorem ef_0 (m : MethodId) (x0 : Int32) (x1 : Int32) : entryFrame m #[(.int x0), (.int x1)] maxLocals = mkF m 0 #[.val (.int x0), .val (.int x1), .unset, .unset, .unset, .unset, .unset] [] := by first | (simp [entryFrame, mkF, argsToLocals, Value.category, maxLocals]; done) | rfl
-- 2. THE CONTRACT: what this body leaves is yours
def Q0 (Z : State) (p1 : Int32) (p2 : Int32) (h0 : Heap) (n0 : Nat) (v : Option Value) (h : Heap) (L : List Loc) : Prop := v = some (.int (1 : Int32)) ∧ Fr n0 L
-- its room: frames: the greatest, locals: the greatest, cells 0 + .., slots 0 + ..: rm1: frames + 1; locals 0 + 3 + 11 + its room's locals; its cells and slots besides
set_option maxRecDepth 65536 in
set_option maxHeartbeats 40000000 in
theorem rm0 (l : Launch) (Z : State) (a0 : Array Value) (hw : ∀ d ∈ tables_1, d.before a0 Z = true) (ws : List Jvm.Cond) (p1 : Int32) (p2 : Int32) (h0 : Heap) (n0 : Nat) (Z0 : n0 ≤ h0.size) :
    MetFree l x (head1 (Jvm.Cond.code x code maxLocals ret :: ws) room_1) (fun a U => a = #[(.int p1), (.int p2)] ∧ Z.Warmed39 U.vm ∧ U.heap = h0) (fun _ _ _ _ _ => True) (fun _ U o U' => ∃ v L, o = .returned v ∧ Q0 Z p1 p2 h0 n0 v U'.heap L ∧ FrameEnd U o U' L room_1.cells room_1.slots) := by
  refine MetFree.of_bodySF (plainFor_of_name pn_0) hisR ?_
  intro p e s m args below meth c s₁ Bd hml0 hP hK
  obtain ⟨rfl, hZ, hh⟩ := hP
  have hx := Bd.exec
  have hby := Bd.bytes
  have hml : c.maxLocals = 7 := hml0
  have hown : s.vm.findClass "com/example/rhadamanthus/rhadamanthus/core/AsciiDigitsIsDigitPinLaw" = some m.cls := findClass_of_methodNamed Bd.named
  have hnm := (name_of_methodNamed Bd.named Bd.method).1
  have X0 : Stand p l e room_1 s m #[(.int p1), (.int p2)] below meth c s₁ [] 0 0 := Stand.of_body Bd
  have e0 : s₁.heap = h0 := by rw [← hh, Bd.state]; rfl
  have N0 := Fr.nil n0
  have pre0 : ∀ t, Steps p.tables e below (s₁.setTop (mkF m 0 #[.val (.int p1), .val (.int p2), .unset, .unset, .unset, .unset, .unset] [])) t → Steps p.tables e below (s₁.setTop (entryFrame m #[(.int p1), (.int p2)] maxLocals)) t := fun t k => castTop (ef_0 m p1 p2) k
  -- 3. LAWS
  -- pc 126: com/example/rhadamanthus/rhadamanthus/core/AsciiDigits.isDigit by its contract rm1
  obtain ⟨_, _, ⟨T3, L3, k3, n3⟩, -, X3, ⟨Lc3, hQ3, l3, y3, z3⟩, st3⟩ := Jvm.LawKit.callS X0 hx (y := (⟨"com/example/rhadamanthus/rhadamanthus/core/AsciiDigits", "isDigit", "(CI)Z"⟩ : MethodName)) hown (mvT hZ (hw _ (List.mem_of_getElem? (i := 2) rfl))) (mvT hZ (hw _ (List.mem_of_getElem? (i := 3) rfl))) (mvT hZ (hw _ (List.mem_of_getElem? (i := 4) rfl))) (mvT hZ (hw _ (List.mem_of_getElem? (i := 5) rfl))) (by decide) (backOf (W := 0) (rm1 l Z a0 hw [] ((p1 &&& (65535 : Int32)).toUInt32.toUInt16.toUInt32.toInt32) (own_r4 ((p2 &&& (2147483647 : Int32)) % (3 : Int32))) h0 n0 Z0) hZ (hw _ (List.mem_of_getElem? (i := 5) rfl)) (hw _ (List.mem_of_getElem? (i := 4) rfl)) (by decide) (by decide)) (g := (mkF m 126 #[.val (.int p1), .val (.int p2), .val (.int ((p1 &&& (65535 : Int32)).toUInt32.toUInt16.toUInt32.toInt32)), .val (.int ((p2 &&& (2147483647 : Int32)) % (3 : Int32))), .val (.int (own_r4 ((p2 &&& (2147483647 : Int32)) % (3 : Int32)))), .val (.int (own_v5 ((p1 &&& (65535 : Int32)).toUInt32.toUInt16.toUInt32.toInt32))), .val (.int (own_e6 (own_r4 ((p2 &&& (2147483647 : Int32)) % (3 : Int32))) (own_v5 ((p1 &&& (65535 : Int32)).toUInt32.toUInt16.toUInt32.toInt32))))] [(.int (own_r4 ((p2 &&& (2147483647 : Int32)) % (3 : Int32)))), (.int ((p1 &&& (65535 : Int32)).toUInt32.toUInt16.toUInt32.toInt32))])) rfl (by rw [hml]; rfl) (argsL := [(.int ((p1 &&& (65535 : Int32)).toUInt32.toUInt16.toUInt32.toInt32)), (.int (own_r4 ((p2 &&& (2147483647 : Int32)) % (3 : Int32))))]) (rest := []) (lenOf pd_0_0 rfl) rfl (by show 2 * 0 + _ ≤ _; exact Nat.le_of_eq rfl) (hb hby at_126) (fun _ _ => ⟨rfl, e0, (by decide : 0 + 0 ≤ _), (by decide : 0 + 0 ≤ _)⟩)
  dsimp only [Pt.U, Pt.locs, Pt.cells, Pt.slots] at X3 l3 y3 z3 st3 hQ3
  subst l3 y3 z3
  obtain ⟨rfl, N3q, hh3⟩ := hQ3
  have Z3 : n0 ≤ T3.heap.size := by rw [hh3]; exact Z0
  have N3 := Fr.app N0 N3q
  obtain ⟨fs, hr, hrun, hended, hW, hsame⟩ := X3.leave (v := some (.int (1 : Int32))) (fun h => by rw [Bd.returns] at h; cases h)
  refine ⟨_, _, pre0 _ ?_, hrun, hended, _, _, rfl, ?_, ⟨_, rfl⟩, hW, hsame.mono (by decide) (by decide)⟩
  -- 4. STEPS
  · show Steps p.tables e below (s₁.setTop (mkF m 0 #[.val (.int p1), .val (.int p2), .unset, .unset, .unset, .unset, .unset] [])) _
    refine XS.iloadN X0.here hx rfl (hb hby at_0) rfl ?_
    show Steps p.tables e below (s₁.setTop (mkF m 1 #[.val (.int p1), .val (.int p2), .unset, .unset, .unset, .unset, .unset] [(.int p1)])) _
    refine X0.ldcInt hx hown (mvT hZ (hw _ (List.mem_of_getElem? (i := 0) rfl))) (g := (mkF m 1 #[.val (.int p1), .val (.int p2), .unset, .unset, .unset, .unset, .unset] [(.int p1)])) rfl (hb hby at_1) _ ?_
    show Steps p.tables e below (s₁.setTop (mkF m 3 #[.val (.int p1), .val (.int p2), .unset, .unset, .unset, .unset, .unset] [(.int (65535 : Int32)), (.int p1)])) _
    refine XS.iand X0.here hx rfl (hb hby at_3) rfl ?_
    show Steps p.tables e below (s₁.setTop (mkF m 4 #[.val (.int p1), .val (.int p2), .unset, .unset, .unset, .unset, .unset] [(.int (p1 &&& (65535 : Int32)))])) _
    refine XS.i2c X0.here hx rfl (hb hby at_4) rfl ?_
    show Steps p.tables e below (s₁.setTop (mkF m 5 #[.val (.int p1), .val (.int p2), .unset, .unset, .unset, .unset, .unset] [(.int ((p1 &&& (65535 : Int32)).toUInt32.toUInt16.toUInt32.toInt32))])) _
    refine XS.istoreN X0.here hx rfl (hb hby at_5) rfl (l' := #[.val (.int p1), .val (.int p2), .val (.int ((p1 &&& (65535 : Int32)).toUInt32.toUInt16.toUInt32.toInt32)), .unset, .unset, .unset, .unset]) rfl ?_
    show Steps p.tables e below (s₁.setTop (mkF m 6 #[.val (.int p1), .val (.int p2), .val (.int ((p1 &&& (65535 : Int32)).toUInt32.toUInt16.toUInt32.toInt32)), .unset, .unset, .unset, .unset] [])) _
    refine XS.iloadN X0.here hx rfl (hb hby at_6) rfl ?_
    show Steps p.tables e below (s₁.setTop (mkF m 7 #[.val (.int p1), .val (.int p2), .val (.int ((p1 &&& (65535 : Int32)).toUInt32.toUInt16.toUInt32.toInt32)), .unset, .unset, .unset, .unset] [(.int p2)])) _
    refine X0.ldcInt hx hown (mvT hZ (hw _ (List.mem_of_getElem? (i := 1) rfl))) (g := (mkF m 7 #[.val (.int p1), .val (.int p2), .val (.int ((p1 &&& (65535 : Int32)).toUInt32.toUInt16.toUInt32.toInt32)), .unset, .unset, .unset, .unset] [(.int p2)])) rfl (hb hby at_7) _ ?_
    show Steps p.tables e below (s₁.setTop (mkF m 9 #[.val (.int p1), .val (.int p2), .val (.int ((p1 &&& (65535 : Int32)).toUInt32.toUInt16.toUInt32.toInt32)), .unset, .unset, .unset, .unset] [(.int (2147483647 : Int32)), (.int p2)])) _
    refine XS.iand X0.here hx rfl (hb hby at_9) rfl ?_
    show Steps p.tables e below (s₁.setTop (mkF m 10 #[.val (.int p1), .val (.int p2), .val (.int ((p1 &&& (65535 : Int32)).toUInt32.toUInt16.toUInt32.toInt32)), .unset, .unset, .unset, .unset] [(.int (p2 &&& (2147483647 : Int32)))])) _
    refine XS.iconst X0.here hx rfl (hb hby at_10) ?_
    show Steps p.tables e below (s₁.setTop (mkF m 11 #[.val (.int p1), .val (.int p2), .val (.int ((p1 &&& (65535 : Int32)).toUInt32.toUInt16.toUInt32.toInt32)), .unset, .unset, .unset, .unset] [(.int (3 : Int32)), (.int (p2 &&& (2147483647 : Int32)))])) _
    refine iremM X0 hx rfl (hb hby at_11) rfl (by decide) ?_
    show Steps p.tables e below (s₁.setTop (mkF m 12 #[.val (.int p1), .val (.int p2), .val (.int ((p1 &&& (65535 : Int32)).toUInt32.toUInt16.toUInt32.toInt32)), .unset, .unset, .unset, .unset] [(.int ((p2 &&& (2147483647 : Int32)) % (3 : Int32)))])) _
    refine XS.istoreN X0.here hx rfl (hb hby at_12) rfl (l' := #[.val (.int p1), .val (.int p2), .val (.int ((p1 &&& (65535 : Int32)).toUInt32.toUInt16.toUInt32.toInt32)), .val (.int ((p2 &&& (2147483647 : Int32)) % (3 : Int32))), .unset, .unset, .unset]) rfl ?_
    show Steps p.tables e below (s₁.setTop (mkF m 13 #[.val (.int p1), .val (.int p2), .val (.int ((p1 &&& (65535 : Int32)).toUInt32.toUInt16.toUInt32.toInt32)), .val (.int ((p2 &&& (2147483647 : Int32)) % (3 : Int32))), .unset, .unset, .unset] [])) _
    refine seg0_13_36 (.val (.int p1)) (.val (.int p2)) (.val (.int ((p1 &&& (65535 : Int32)).toUInt32.toUInt16.toUInt32.toInt32))) ((p2 &&& (2147483647 : Int32)) % (3 : Int32)) .unset .unset .unset X0 hx hZ hw hby hml hown One.u _ ?_
    refine seg0_36_109 (.val (.int p1)) (.val (.int p2)) ((p1 &&& (65535 : Int32)).toUInt32.toUInt16.toUInt32.toInt32) (.val (.int ((p2 &&& (2147483647 : Int32)) % (3 : Int32)))) (.val (.int (own_r4 ((p2 &&& (2147483647 : Int32)) % (3 : Int32))))) .unset .unset X0 hx hZ hw hby hml hown One.u _ ?_
    refine seg0_109_123 (.val (.int p1)) (.val (.int p2)) (.val (.int ((p1 &&& (65535 : Int32)).toUInt32.toUInt16.toUInt32.toInt32))) (.val (.int ((p2 &&& (2147483647 : Int32)) % (3 : Int32)))) (own_r4 ((p2 &&& (2147483647 : Int32)) % (3 : Int32))) (own_v5 ((p1 &&& (65535 : Int32)).toUInt32.toUInt16.toUInt32.toInt32)) .unset X0 hx hZ hw hby hml hown One.u _ ?_
    show Steps p.tables e below (s₁.setTop (mkF m 123 #[.val (.int p1), .val (.int p2), .val (.int ((p1 &&& (65535 : Int32)).toUInt32.toUInt16.toUInt32.toInt32)), .val (.int ((p2 &&& (2147483647 : Int32)) % (3 : Int32))), .val (.int (own_r4 ((p2 &&& (2147483647 : Int32)) % (3 : Int32)))), .val (.int (own_v5 ((p1 &&& (65535 : Int32)).toUInt32.toUInt16.toUInt32.toInt32))), .val (.int (own_e6 (own_r4 ((p2 &&& (2147483647 : Int32)) % (3 : Int32))) (own_v5 ((p1 &&& (65535 : Int32)).toUInt32.toUInt16.toUInt32.toInt32))))] [])) _
    refine XS.iloadN X0.here hx rfl (hb hby at_123) rfl ?_
    show Steps p.tables e below (s₁.setTop (mkF m 124 #[.val (.int p1), .val (.int p2), .val (.int ((p1 &&& (65535 : Int32)).toUInt32.toUInt16.toUInt32.toInt32)), .val (.int ((p2 &&& (2147483647 : Int32)) % (3 : Int32))), .val (.int (own_r4 ((p2 &&& (2147483647 : Int32)) % (3 : Int32)))), .val (.int (own_v5 ((p1 &&& (65535 : Int32)).toUInt32.toUInt16.toUInt32.toInt32))), .val (.int (own_e6 (own_r4 ((p2 &&& (2147483647 : Int32)) % (3 : Int32))) (own_v5 ((p1 &&& (65535 : Int32)).toUInt32.toUInt16.toUInt32.toInt32))))] [(.int ((p1 &&& (65535 : Int32)).toUInt32.toUInt16.toUInt32.toInt32))])) _
    refine XS.iload X0.here hx rfl (hb hby at_124) rfl ?_
    show Steps p.tables e below (s₁.setTop (mkF m 126 #[.val (.int p1), .val (.int p2), .val (.int ((p1 &&& (65535 : Int32)).toUInt32.toUInt16.toUInt32.toInt32)), .val (.int ((p2 &&& (2147483647 : Int32)) % (3 : Int32))), .val (.int (own_r4 ((p2 &&& (2147483647 : Int32)) % (3 : Int32)))), .val (.int (own_v5 ((p1 &&& (65535 : Int32)).toUInt32.toUInt16.toUInt32.toInt32))), .val (.int (own_e6 (own_r4 ((p2 &&& (2147483647 : Int32)) % (3 : Int32))) (own_v5 ((p1 &&& (65535 : Int32)).toUInt32.toUInt16.toUInt32.toInt32))))] [(.int (own_r4 ((p2 &&& (2147483647 : Int32)) % (3 : Int32)))), (.int ((p1 &&& (65535 : Int32)).toUInt32.toUInt16.toUInt32.toInt32))])) _
    refine st3 _ ?_
    show Steps p.tables e below (T3.setTop (mkF m 129 #[.val (.int p1), .val (.int p2), .val (.int ((p1 &&& (65535 : Int32)).toUInt32.toUInt16.toUInt32.toInt32)), .val (.int ((p2 &&& (2147483647 : Int32)) % (3 : Int32))), .val (.int (own_r4 ((p2 &&& (2147483647 : Int32)) % (3 : Int32)))), .val (.int (own_v5 ((p1 &&& (65535 : Int32)).toUInt32.toUInt16.toUInt32.toInt32))), .val (.int (own_e6 (own_r4 ((p2 &&& (2147483647 : Int32)) % (3 : Int32))) (own_v5 ((p1 &&& (65535 : Int32)).toUInt32.toUInt16.toUInt32.toInt32))))] [(.int (own_f1 ((p1 &&& (65535 : Int32)).toUInt32.toUInt16.toUInt32.toInt32) (own_r4 ((p2 &&& (2147483647 : Int32)) % (3 : Int32)))))])) _
    refine XS.iload X3.here hx rfl (hb hby at_129) rfl ?_
    show Steps p.tables e below (T3.setTop (mkF m 131 #[.val (.int p1), .val (.int p2), .val (.int ((p1 &&& (65535 : Int32)).toUInt32.toUInt16.toUInt32.toInt32)), .val (.int ((p2 &&& (2147483647 : Int32)) % (3 : Int32))), .val (.int (own_r4 ((p2 &&& (2147483647 : Int32)) % (3 : Int32)))), .val (.int (own_v5 ((p1 &&& (65535 : Int32)).toUInt32.toUInt16.toUInt32.toInt32))), .val (.int (own_e6 (own_r4 ((p2 &&& (2147483647 : Int32)) % (3 : Int32))) (own_v5 ((p1 &&& (65535 : Int32)).toUInt32.toUInt16.toUInt32.toInt32))))] [(.int (own_e6 (own_r4 ((p2 &&& (2147483647 : Int32)) % (3 : Int32))) (own_v5 ((p1 &&& (65535 : Int32)).toUInt32.toUInt16.toUInt32.toInt32)))), (.int (own_f1 ((p1 &&& (65535 : Int32)).toUInt32.toUInt16.toUInt32.toInt32) (own_r4 ((p2 &&& (2147483647 : Int32)) % (3 : Int32)))))])) _
    refine XS.icmpNo X3.here hx rfl (hb hby at_131) rfl (teq (own_eq (own_char _) : (own_f1 ((p1 &&& (65535 : Int32)).toUInt32.toUInt16.toUInt32.toInt32) (own_r4 ((p2 &&& (2147483647 : Int32)) % (3 : Int32)))) = (own_e6 (own_r4 ((p2 &&& (2147483647 : Int32)) % (3 : Int32))) (own_v5 ((p1 &&& (65535 : Int32)).toUInt32.toUInt16.toUInt32.toInt32))))).2 ?_
    show Steps p.tables e below (T3.setTop (mkF m 134 #[.val (.int p1), .val (.int p2), .val (.int ((p1 &&& (65535 : Int32)).toUInt32.toUInt16.toUInt32.toInt32)), .val (.int ((p2 &&& (2147483647 : Int32)) % (3 : Int32))), .val (.int (own_r4 ((p2 &&& (2147483647 : Int32)) % (3 : Int32)))), .val (.int (own_v5 ((p1 &&& (65535 : Int32)).toUInt32.toUInt16.toUInt32.toInt32))), .val (.int (own_e6 (own_r4 ((p2 &&& (2147483647 : Int32)) % (3 : Int32))) (own_v5 ((p1 &&& (65535 : Int32)).toUInt32.toUInt16.toUInt32.toInt32))))] [])) _
    refine XS.iconst X3.here hx rfl (hb hby at_134) ?_
    show Steps p.tables e below (T3.setTop (mkF m 135 #[.val (.int p1), .val (.int p2), .val (.int ((p1 &&& (65535 : Int32)).toUInt32.toUInt16.toUInt32.toInt32)), .val (.int ((p2 &&& (2147483647 : Int32)) % (3 : Int32))), .val (.int (own_r4 ((p2 &&& (2147483647 : Int32)) % (3 : Int32)))), .val (.int (own_v5 ((p1 &&& (65535 : Int32)).toUInt32.toUInt16.toUInt32.toInt32))), .val (.int (own_e6 (own_r4 ((p2 &&& (2147483647 : Int32)) % (3 : Int32))) (own_v5 ((p1 &&& (65535 : Int32)).toUInt32.toUInt16.toUInt32.toInt32))))] [(.int (1 : Int32))])) _
    refine XS.goto X3.here hx rfl (pc0 := 135) (pc' := 139) rfl (hb hby at_135) (by decide) (by decide) ?_
    show Steps p.tables e below (T3.setTop (mkF m 139 #[.val (.int p1), .val (.int p2), .val (.int ((p1 &&& (65535 : Int32)).toUInt32.toUInt16.toUInt32.toInt32)), .val (.int ((p2 &&& (2147483647 : Int32)) % (3 : Int32))), .val (.int (own_r4 ((p2 &&& (2147483647 : Int32)) % (3 : Int32)))), .val (.int (own_v5 ((p1 &&& (65535 : Int32)).toUInt32.toUInt16.toUInt32.toInt32))), .val (.int (own_e6 (own_r4 ((p2 &&& (2147483647 : Int32)) % (3 : Int32))) (own_v5 ((p1 &&& (65535 : Int32)).toUInt32.toUInt16.toUInt32.toInt32))))] [(.int (1 : Int32))])) _
    exact retN X3 hx (t := .boolean) Bd.returns (by simp) (hb hby at_139) hr
  · show Q0 Z p1 p2 h0 n0 _ T3.heap _
    exact ⟨rfl, N3⟩
-- 5. FROM THE CASE'S WORDS TO rm0, AND THE OWED THEOREMS
set_option maxRecDepth 65536 in
set_option maxHeartbeats 40000000 in
theorem comes_1 {Post : Tables → Env → Array Value → State → Outcome → State → Prop} (hpost : ∀ tb e args s v u, (limb_1_1.after args s (.returned v) u = true ∧ limb_1_2.after args s (.returned v) u = true ∧ True) → FrameEnd s (.returned v) u (Jvm.fieldLocs frame_1_writes args s ++ Jvm.arrayLocs frame_1_arrays args s ++ Jvm.staticLocs frame_1_statics s) 0 0 → Post tb e args s (.returned v) u) :
    ArmFor flags0 classFile x code maxLocals ret World_1 tables_1 room_1 Calls_1 rest_1 Pre_1 Post := by
  intro l hfl _ _ p e ha hc hk s m args below hf hA hF happ hP
  obtain ⟨hcalls, hrest, hpre⟩ := hP
  obtain ⟨-, -, -, hnamed, -, -, -, hat⟩ := (Spec.applies_iff hf).mp happ
  obtain ⟨hg, hn⟩ := and_e (Cond.before_iff.mp (show (Jvm.Cond.and given_1 narrow_1).before args s = true from hpre))
  obtain ⟨g4, g5⟩ := and_e hg
  obtain ⟨g6, g7⟩ := and_e g5
  obtain ⟨w0, w1, rfl⟩ : ∃ w0 w1 : Value, args = #[w0, w1] := by
    have hs : args.size = 2 := by simpa [Cond.value, given_1] using g4
    obtain ⟨L⟩ := args
    match L, hs with
    | [w0, w1], _ => exact ⟨w0, w1, rfl⟩
  have hw := fun d (hd : d ∈ tables_1) => atoms_spec (ws := Jvm.Cond.code x code maxLocals ret :: tables_1) hat d (List.mem_cons_of_mem _ hd)
  have hfit : Fit s := fun {y c} hc i hi => by
    obtain ⟨ha, rfl⟩ := Array.getElem?_eq_some_iff.mp hc
    have q := List.all_eq_true.mp ((Array.all_eq_true_iff_forall_mem.mp hF) _ (Array.getElem_mem ha)) i (List.mem_range.mpr hi)
    simpa [Array.getElem?_eq_getElem hi] using q
  obtain ⟨i0, ei0⟩ := is_v g6
  obtain rfl : w0 = (.int i0) := Option.some.inj ei0
  obtain ⟨i1, ei1⟩ := is_v g7
  obtain rfl : w1 = (.int i1) := Option.some.inj ei1
  obtain ⟨n, o, h1, h2, h3, _, L, rfl, ⟨rfl, N⟩, hq⟩ := rm0 l s _ hw tables_1 i0 i1 s.heap s.heap.size (Nat.le_refl _) p e ha hc hk s m _ below hf ((Spec.applies_iff_loose hf).mp happ).1 ⟨rfl, State.Warmed39.refl s, rfl⟩ trivial
  refine ⟨n, _, h1, h2, h3, hpost _ _ _ _ _ _ ⟨Cond.after_iff.mpr rfl, Cond.after_iff.mpr (eq_i res_at (Term.int_eval (1)) rfl), trivial⟩ ⟨hq.1, hq.2.1, (hq.2.2.sift fun y hy => Or.inr (N y hy)).mono (by decide) (by decide)⟩⟩
theorem main_1_1 : Claimed_1_1 := comes_1 fun _ _ _ _ _ _ h hF => ⟨h.1, hF⟩
theorem main_1_2 : Claimed_1_2 := comes_1 fun _ _ _ _ _ _ h hF => ⟨h.2.1, hF⟩
end Jvm.Pilot.@@N@@
namespace Jvm.Pilot.@@N@@
open Jvm Jvm.ClassFile Sem Op Lib Jvm.Free Jvm.Stand Jvm.Pilot.@@N@@.Jvm.D
/-! MADE BY PROGRAM (witnessworld.py) out of the Statement's table words and the real class files: 9 classes; the members and pool entries that the words name. The judged class is class 1, her method 1. -/
namespace start1
open Jvm.ClassFile
def u (s : String) : CpInfo := .utf8 (stringToUtf16 s)
/-- a pool by its gaps: so many unusable entries, then the entry; so many at the end -/
def gap : Nat → List CpInfo → List CpInfo
  | 0, r => r
  | n + 1, r => .unusable :: gap n r
def poolList (es : List (Nat × CpInfo)) (last : Nat) : List CpInfo := es.foldr (fun e r => gap e.1 (e.2 :: r)) (gap last [])
def pool (es : List (Nat × CpInfo)) (last : Nat) : Array CpInfo := ⟨poolList es last⟩
def fileOf (pool : Array CpInfo) (this : Nat) (attrs : Array Attribute := #[]) (ms : Array MethodInfo := #[]) (fl : Nat := 33) (sup : Nat := 0) (ifs : Array Nat := #[]) (fds : Array FieldInfo := #[]) : ClassFile where
  minorVersion := 0
  majorVersion := 65
  constantPool := pool
  accessFlags := fl
  thisClass := this
  superClass := sup
  interfaces := ifs
  fields := fds
  methods := ms
  attributes := attrs
def plain (name : String) (sup : Option ClassId) : Class where
  name := name
  kind := .ordinary
  loader := none
  accessFlags := 33
  super := sup
  interfaces := #[]
  cf := none
  fields := #[]
  methods := #[]
  instanceTypes := #[]
  staticTypes := #[]
  resolved := #[]
  callSites := []
  init := .initialized
  statics := none
  mirror := none

def pool0 : Array CpInfo := pool [(5, u "<init>"), (0, u "()V"), (1, .class_ 10), (1, u "java/lang/Object")] 113

def k0m0 : Method := { name := "<init>", desc := "()V", sig := { parameters := [], returnType := none }, accessFlags := 1, code := none }
/-- java/lang/Object -/
def k0 : Class := { plain "java/lang/Object" none with
  accessFlags := 33
  interfaces := #[]
  cf := some (fileOf pool0 8 #[] #[{ accessFlags := 1, nameIndex := 5, descriptorIndex := 6, attributes := #[] }] 33 0 #[] #[])
  fields := #[]
  methods := #[k0m0]
  instanceTypes := #[]
  staticTypes := #[]
  resolved := Array.replicate 124 none
  statics := none }

def pool1 : Array CpInfo := pool [(2, .class_ 4), (1, u "java/lang/Object"), (0, u "<init>"), (0, u "()V"), (0, .integer 65535), (0, .integer 2147483647), (0, .methodref 10 11), (0, .class_ 12), (0, .nameAndType 13 14), (0, u "com/example/rhadamanthus/rhadamanthus/core/AsciiDigits"), (0, u "isDigit"), (0, u "(CI)Z"), (0, .class_ 16), (0, u "com/example/rhadamanthus/rhadamanthus/core/AsciiDigitsIsDigitPinLaw"), (2, u "law"), (0, u "(II)Z")] 3

def k1m0 : Method := { name := "<init>", desc := "()V", sig := { parameters := [], returnType := none }, accessFlags := 2, code := none }
def k1c1 : Code := { maxStack := 2, maxLocals := 7, code := code, exceptionTable := #[], attributes := #[] }
def k1m1 : Method := { name := "law", desc := "(II)Z", sig := { parameters := [.int, .int], returnType := some .boolean }, accessFlags := 9, code := some k1c1 }
/-- com/example/rhadamanthus/rhadamanthus/core/AsciiDigitsIsDigitPinLaw -/
def k1 : Class := { plain "com/example/rhadamanthus/rhadamanthus/core/AsciiDigitsIsDigitPinLaw" (some 0) with
  accessFlags := 49
  interfaces := #[]
  cf := some (fileOf pool1 15 #[] #[{ accessFlags := 2, nameIndex := 5, descriptorIndex := 6, attributes := #[] }, { accessFlags := 9, nameIndex := 19, descriptorIndex := 20, attributes := #[] }] 49 2 #[] #[])
  fields := #[]
  methods := #[k1m0, k1m1]
  instanceTypes := #[]
  staticTypes := #[]
  resolved := Array.replicate 24 none
  statics := none }

def pool2 : Array CpInfo := pool [(2, .class_ 4), (1, u "java/lang/Object"), (0, u "<init>"), (0, u "()V"), (7, .class_ 16), (1, u "com/example/rhadamanthus/rhadamanthus/core/AsciiDigits"), (8, u "isDigit"), (0, u "(CI)Z")] 14

def k2m0 : Method := { name := "<init>", desc := "()V", sig := { parameters := [], returnType := none }, accessFlags := 2, code := none }
def k2c1 : Code := { maxStack := 3, maxLocals := 3, code := prog_146_method_4_code, exceptionTable := #[], attributes := #[] }
def k2m1 : Method := { name := "isDigit", desc := "(CI)Z", sig := { parameters := [.char, .int], returnType := some .boolean }, accessFlags := 9, code := some k2c1 }
/-- com/example/rhadamanthus/rhadamanthus/core/AsciiDigits -/
def k2 : Class := { plain "com/example/rhadamanthus/rhadamanthus/core/AsciiDigits" (some 0) with
  accessFlags := 49
  interfaces := #[]
  cf := some (fileOf pool2 14 #[] #[{ accessFlags := 2, nameIndex := 5, descriptorIndex := 6, attributes := #[] }, { accessFlags := 9, nameIndex := 25, descriptorIndex := 26, attributes := #[] }] 49 2 #[] #[])
  fields := #[]
  methods := #[k2m0, k2m1]
  instanceTypes := #[]
  staticTypes := #[]
  resolved := Array.replicate 41 none
  statics := none }

def pool3 : Array CpInfo := pool [(1, u "java/lang/Cloneable"), (0, .class_ 1), (0, u "java/lang/Object"), (0, .class_ 3)] 3

/-- java/lang/Cloneable -/
def k3 : Class := { plain "java/lang/Cloneable" (some 0) with
  accessFlags := 1537
  interfaces := #[]
  cf := some (fileOf pool3 2 #[] #[] 1537 4 #[] #[])
  fields := #[]
  methods := #[]
  instanceTypes := #[]
  staticTypes := #[]
  resolved := Array.replicate 8 none
  statics := none }

def pool4 : Array CpInfo := pool [(1, u "java/io/Serializable"), (0, .class_ 1), (0, u "java/lang/Object"), (0, .class_ 3)] 3

/-- java/io/Serializable -/
def k4 : Class := { plain "java/io/Serializable" (some 0) with
  accessFlags := 1537
  interfaces := #[]
  cf := some (fileOf pool4 2 #[] #[] 1537 4 #[] #[])
  fields := #[]
  methods := #[]
  instanceTypes := #[]
  staticTypes := #[]
  resolved := Array.replicate 8 none
  statics := none }

/-- the primitive byte -/
def k5 : Class := { plain "byte" none with kind := .primitive 'B', accessFlags := 0x411 }
/-- [B -/
def k6 : Class := { plain "[B" (some 0) with kind := .array 5 .byte, interfaces := #[3, 4], accessFlags := 1041 }

/-- the primitive int -/
def k7 : Class := { plain "int" none with kind := .primitive 'I', accessFlags := 0x411 }
/-- [I -/
def k8 : Class := { plain "[I" (some 0) with kind := .array 7 .int, interfaces := #[3, 4], accessFlags := 1041 }

def heap : Heap := #[]
def classes : Array Class := #[k0, k1, k2, k3, k4, k5, k6, k7, k8]
def interned : List (Array UInt16 × Addr) := []
def slotsUsed : Nat := 0
def theMethod : MethodId := ⟨1, 1⟩
def args0 : Array Value := #[.int 53, .int 7]
def aboutOver (below : List Frame) : State where
  vm := { classes := classes, interned := interned.toArray }
  heap := heap
  slotsUsed := slotsUsed
  threads := #[{ frames := .invoking theMethod args0 :: below }]
def below0 : List Frame := [.native { method := ⟨0, 0⟩, args := #[] }]
def about1 : State := aboutOver below0
def p0 : Program := .bare "" "" ""
def e0 : Env := launch0.env 0 0 0
theorem w_frames : about1.frames = Frame.invoking theMethod args0 :: below0 := rfl
set_option maxRecDepth 65536 in
theorem w_args : argsFit about1.vm theMethod args0 = true := by decide +kernel
set_option maxRecDepth 65536 in
theorem w_heap : heapFits about1 = true := by decide +kernel
set_option maxRecDepth 65536 in
theorem w_runnable : about1.curStatus? = some .runnable := by decide +kernel
set_option maxRecDepth 65536 in
theorem w_alone : about1.alone = true := by decide +kernel
set_option maxRecDepth 65536 in
theorem w_named : about1.methodNamed? x = some theMethod := by decide +kernel
set_option maxRecDepth 65536 in
theorem w_hears : about1.hears theMethod below0 = true := by decide +kernel
set_option maxRecDepth 65536 in
theorem w_ripe : about1.ripe theMethod args0 below0 = true := by decide +kernel
theorem w_running : about1.status = .running := rfl
set_option maxRecDepth 65536 in
theorem w_room : about1.hasRoom e0.platform room_1 = true :=
  launch0.hasRoom_least _ room_1 (by decide +kernel) (by decide +kernel) (by decide +kernel) (by decide +kernel) (by decide +kernel) (by decide +kernel)
theorem allAtoms_all (ts : List Jvm.Cond) (a : Array Jvm.Value) (st : Jvm.State) : (allAtoms ts).before a st = ts.all (fun c => c.before a st) := by
  induction ts with
  | nil => rfl
  | cons c t ih =>
    show (Jvm.Cond.and c (allAtoms t)).before a st = _
    rw [Jvm.Cond.before_and, ih, List.all_cons]
def words1 : List Jvm.Cond := Jvm.Cond.code x code maxLocals ret :: tables_1
/-- a 'code' word, met by the world's own term for the bytes: nothing is compared byte by byte -/
theorem code_word {y : MethodName} {bytes : ByteArray} {mx : Nat} {rt : Option FieldType} {a : Array Value} {s : State} {m : MethodId} {meth : Method} {c : Code} (h1 : s.methodNamed? y = some m) (h2 : s.vm.method? m = some meth) (h3 : meth.code = some c) (h4 : c.code = bytes)
    (h5 : (c.maxLocals == mx && c.exceptionTable.isEmpty && decide (c.maxStack ≤ mostOperands) && decide (meth.sig.returnType = rt) && !meth.locks && decide (parseMethodDescriptor y.desc = some meth.sig)) = true) : (Jvm.Cond.code y bytes mx rt).before a s = true := by
  simp only [Bool.and_eq_true, beq_iff_eq, Bool.not_eq_true', decide_eq_true_eq] at h5
  obtain ⟨⟨⟨⟨⟨g1, g2⟩, g3⟩, g4⟩, g5⟩, g6⟩ := h5
  simp [Cond.before, Cond.holds, Cond.value, h1, h2, h3, h4, g1, g2, g3, g4, g5, g6]
def isCode : Jvm.Cond → Bool
  | .code _ _ _ _ => true
  | _ => false
theorem all_split {L : List Jvm.Cond} {P : Jvm.Cond → Bool} (h1 : L.all (fun c => isCode c || P c) = true) (h2 : ∀ c ∈ L.filter isCode, P c = true) : L.all P = true := by
  refine List.all_eq_true.mpr fun c hc => ?_
  have h := List.all_eq_true.mp h1 c hc
  rcases Bool.eq_false_or_eq_true (isCode c) with hi | hi
  · exact h2 c (List.mem_filter.mpr ⟨hc, hi⟩)
  · simpa [hi] using h
set_option maxRecDepth 65536 in
theorem w_c0 : (Jvm.Cond.code x code maxLocals ret).before args0 about1 = true := code_word (m := ⟨1, 1⟩) (meth := k1m1) (c := k1c1) (by decide +kernel) rfl rfl rfl (by decide +kernel)
set_option maxRecDepth 65536 in
theorem w_c1 : (Jvm.Cond.code ({ cls := "com/example/rhadamanthus/rhadamanthus/core/AsciiDigits", name := "isDigit", desc := "(CI)Z" } : Jvm.MethodName) prog_146_method_4_code (3 : Nat) (Option.some Jvm.ClassFile.FieldType.boolean)).before args0 about1 = true := code_word (m := ⟨2, 1⟩) (meth := k2m1) (c := k2c1) (by decide +kernel) rfl rfl rfl (by decide +kernel)
def codes1 : List Jvm.Cond := [Jvm.Cond.code x code maxLocals ret, Jvm.Cond.code ({ cls := "com/example/rhadamanthus/rhadamanthus/core/AsciiDigits", name := "isDigit", desc := "(CI)Z" } : Jvm.MethodName) prog_146_method_4_code (3 : Nat) (Option.some Jvm.ClassFile.FieldType.boolean)]
set_option maxRecDepth 65536 in
theorem codes_eq : words1.filter isCode = codes1 := rfl
theorem w_codes : ∀ c ∈ words1.filter isCode, c.before args0 about1 = true := by
  rw [codes_eq]
  intro c hc
  simp only [codes1, List.mem_cons, List.not_mem_nil, or_false] at hc
  rcases hc with rfl | rfl
  · exact w_c0
  · exact w_c1
set_option maxRecDepth 65536 in
theorem w_t1 : words1.all (fun c => isCode c || c.before args0 about1) = true := by decide +kernel
theorem w_tables : (allAtoms (Jvm.Cond.code x code maxLocals ret :: tables_1)).before args0 about1 = true := by
  rw [allAtoms_all]
  show words1.all (fun c => c.before args0 about1) = true
  refine all_split ?_ w_codes
  rw [w_t1]
set_option maxRecDepth 65536 in
theorem w_case : (Jvm.Cond.and given_1 narrow_1).before args0 about1 = true := by decide +kernel
theorem w_applies : (headSpec (Jvm.Cond.code x code maxLocals ret :: tables_1) room_1).applies x e0.platform about1 = true :=
  (Spec.applies_iff w_frames).mpr ⟨w_running, w_runnable, w_alone, w_named, w_hears, w_ripe, w_room, w_tables⟩
theorem atStart : AtStart classFile x code maxLocals ret World_1 tables_1 room_1 Calls_1 rest_1 Pre_1 launch0 p0 e0 about1 theMethod args0 below0 :=
  ⟨lists_1, trivial, launch0.admits_env _ _ _, launch0.least_env, fairChoices_fair.cas, fairChoices_fair.clock, w_frames, w_args, w_heap, w_applies, trivial, trivial, w_case⟩
end start1
theorem witness_1 : WitnessClaimed_1 := ⟨start1.p0, start1.e0, start1.about1, start1.theMethod, start1.args0, start1.below0, start1.atStart⟩
end Jvm.Pilot.@@N@@
