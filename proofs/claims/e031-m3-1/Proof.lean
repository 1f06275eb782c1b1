import JvmDerived
import JvmDerived.Pilot.@@N@@Statement
import JvmDerived.Pilot.@@N@@Code
set_option linter.unusedVariables false
set_option linter.unusedSimpArgs false
namespace Jvm.RoadKit
open Sem ClassFile Op Lib Jvm.Stand Jvm.Free Jvm.LawKit
section New
variable {p : Program} {l : Launch} {e : Env} {R : Room} {s : State} {m : MethodId} {args : Array Value} {below : List Frame} {meth : Method} {c : Code} {T : State} {locs : List Loc} {cells slots : Nat}
theorem retI (X : Stand p l e R s m args below meth c T locs cells slots) (hx : p.tables.exec = Jvm.exec) {pc : Nat} {Ls : Array Slot} {z : Int32} {rest : List Value} (hret : meth.sig.returnType = some .int) (hd : decode c.code pc = .ok (.ireturn, 1)) {fs : List Frame}
    (hl : ∀ (f : JFrame) (acts : List Action), f.method = m → f.locked = none → f.entered = [] → (doReturn e (T.setTop f) acts (some (.int z))).1 = T.setFrames fs) : Steps p.tables e below (T.setTop (mkF m pc Ls (.int z :: rest))) (T.setFrames fs) := by
  have hm' : T.vm.method? m = some meth := X.method'
  have hn : narrow .int (.int z) = .int z := rfl
  show Steps p.tables e below (T.setTop { method := m, pc := pc, locals := Ls, stack := _ :: rest, locked := none }) _
  jvm_step X.here [X.here.top, hx, hd, hm', hret, hn]
  first | (intro acts; rw [hl _ acts rfl rfl rfl]) | rw [hl _ _ rfl rfl rfl]
  exact Steps.refl _
end New
end Jvm.RoadKit
/- laws to paste: Road.backV (cut by pick.py; bodies as the Statement names them) -/
namespace Jvm.Pilot.@@N@@
namespace StrChars
open Jvm Sem ClassFile Op Lib Jvm.Stand Jvm.Free.XT Jvm.Free.ALB Jvm.Free.JM Jvm.Free
open Jvm.Lib.Cold (StaticIs)
/-- a char array whose places are chars -/
def Ch (a : Addr) (A : Cell) (U : State) : Prop := Arr .char a A U ∧ Typed .char A
theorem Ch.mv {a : Addr} {A : Cell} {U U' : State} (h : Ch a A U) (hal : U.vm.Alike U'.vm) (hh : U'.heap = U.heap) : Ch a A U' := ⟨h.1.mv hal hh, h.2⟩
theorem Ch.keep {a : Addr} {A : Cell} {U U' : State} (h : Ch a A U) (hal : U.vm.Alike U'.vm) (hk : U'.heap[a]? = some A) : Ch a A U' := ⟨h.1.keep hal hk, h.2⟩
/-- what place i of a char[]'s cell holds -/
def cv (A : Cell) (i : Nat) : Int32 := match A.slots[i]? with | some (.int x) => x | _ => 0
theorem Ch.get {a : Addr} {A : Cell} {U : State} (h : Ch a A U) {i : Nat} (hi : i < A.slots.size) : A.slots[i]? = some (.int (cv A i)) := by
  have e := Array.getElem?_eq_getElem hi
  have f := h.2 i _ e
  unfold cv; rw [e]
  generalize A.slots[i] = v at f
  cases v <;> simp [fits] at f ⊢
/-- the byte that i2b leaves of a char -/
def lo8 (x : Int32) : Int32 := x.toInt8.toInt32
theorem fits_lo8 (y : Int32) : fits .byte (.int (lo8 y)) = true := by
  have h1 := y.toInt8.le_toInt
  have h2 := y.toInt8.toInt_lt
  simp only [lo8, fits, Bool.and_eq_true, decide_eq_true_eq, Int32.le_iff_toInt_le, Int8.toInt_toInt32, show (-128 : Int32).toInt = -128 from by decide, show (127 : Int32).toInt = 127 from by decide]
  omega
/-- A' is A but that each place j of lo .. hi - 1 holds f j -/
def Laid (A A' : Cell) (lo hi : Nat) (f : Nat → Value) : Prop := A'.cls = A.cls ∧ A'.vm = A.vm ∧ A'.slots.size = A.slots.size ∧ ∀ i, A'.slots[i]? = if lo ≤ i ∧ i < hi then some (f i) else A.slots[i]?
theorem Laid.zero (A : Cell) (lo : Nat) (f : Nat → Value) : Laid A A lo (lo + 0) f := ⟨rfl, rfl, rfl, fun i => by rw [if_neg (by omega)]⟩
theorem Laid.step {A Ak : Cell} {lo k : Nat} {f : Nat → Value} {v : Value} (h : Laid A Ak lo k f) (hlo : lo ≤ k) (hk : k < Ak.slots.size) (hv : v = f k) : Laid A (Ak.setSlot k v) lo (k + 1) f := by
  refine ⟨h.1, h.2.1, by simpa [Cell.setSlot] using h.2.2.1, fun i => ?_⟩
  by_cases e : k = i
  · subst e; rw [Cell.slots_setSlot_self v hk, if_pos (by omega), hv]
  · rw [Cell.slots_setSlot_ne v e, h.2.2.2 i]
    by_cases q : lo ≤ i ∧ i < k
    · rw [if_pos q, if_pos (by omega)]
    · rw [if_neg q, if_neg (by omega)]
def U16 : String := "java/lang/StringUTF16"
namespace Cmp5
def yN : MethodName := ⟨"java/lang/StringUTF16", "compress", "([CI[BII)I"⟩
abbrev yB : ByteArray := jdk_52_method_21_code
theorem d0 : decode yB 0 = .ok (.iconst 0, 1) := by decide +kernel
theorem d1 : decode yB 1 = .ok (.istore 5, 2) := by decide +kernel
theorem d3 : decode yB 3 = .ok (.iload 5, 2) := by decide +kernel
theorem d5 : decode yB 5 = .ok (.iload 4, 2) := by decide +kernel
theorem d7 : decode yB 7 = .ok (.if_icmp (.ge) 37, 3) := by decide +kernel
theorem d10 : decode yB 10 = .ok (.aload_n 0, 1) := by decide +kernel
theorem d11 : decode yB 11 = .ok (.iload_n 1, 1) := by decide +kernel
theorem d12 : decode yB 12 = .ok (.caload, 1) := by decide +kernel
theorem d13 : decode yB 13 = .ok (.istore 6, 2) := by decide +kernel
theorem d15 : decode yB 15 = .ok (.iload 6, 2) := by decide +kernel
theorem d17 : decode yB 17 = .ok (.sipush 255, 3) := by decide +kernel
theorem d20 : decode yB 20 = .ok (.if_icmp (.le) 6, 3) := by decide +kernel
theorem d26 : decode yB 26 = .ok (.aload_n 2, 1) := by decide +kernel
theorem d27 : decode yB 27 = .ok (.iload_n 3, 1) := by decide +kernel
theorem d28 : decode yB 28 = .ok (.iload 6, 2) := by decide +kernel
theorem d30 : decode yB 30 = .ok (.i2b, 1) := by decide +kernel
theorem d31 : decode yB 31 = .ok (.bastore, 1) := by decide +kernel
theorem d32 : decode yB 32 = .ok (.iinc 1 1, 3) := by decide +kernel
theorem d35 : decode yB 35 = .ok (.iinc 3 1, 3) := by decide +kernel
theorem d38 : decode yB 38 = .ok (.iinc 5 1, 3) := by decide +kernel
theorem d41 : decode yB 41 = .ok (.goto (-38), 3) := by decide +kernel
theorem d44 : decode yB 44 = .ok (.iload 4, 2) := by decide +kernel
theorem d46 : decode yB 46 = .ok (.ireturn, 1) := by decide +kernel
def site : List Cond := []
def tab : Cond := tabOf yN yB 7 (some .int) site
def P (b : Addr) (A : Cell) (d : Addr) (B : Cell) (o q len : Nat) (args : Array Value) (s : State) : Prop := args = #[.ref b, .int (Int32.ofNat o), .ref d, .int (Int32.ofNat q), .int (Int32.ofNat len)] ∧ Ch b A s ∧ Arr .byte d B s ∧ b ≠ d ∧ o + len ≤ A.slots.size ∧ q + len ≤ B.slots.size ∧ ∀ i, i < len → ¬ 255 < cv A (o + i)
def E (b : Addr) (A : Cell) (d : Addr) (B : Cell) (o q len : Nat) (r : Option Value) (s u : State) : Prop := r = some (.int (Int32.ofNat len)) ∧ ∃ B', Put d B' s u ∧ Laid B B' q (q + len) (fun j => Value.int (lo8 (cv A (o + (j - q)))))
/-- no char of the range above 255: len; the places written hold each char's low byte -/
theorem law (l : Launch) (b : Addr) (A : Cell) (d : Addr) (B : Cell) (o q len : Nat) : Law l yN 5 5 0 0 yB 7 (some .int) site (P b A d B o q len) (E b A d B o q len) (copyLocs d q len) 0 0 := by
  refine Law.of_walk (plainFor_of_name (by decide +kernel)) (by decide +kernel) (by decide +kernel) (by decide) (fun _ _ h => by rw [h.1]; rfl) (fun _ U U' hal hh h => ⟨h.1, h.2.1.mv hal hh, h.2.2.1.mv hal hh, h.2.2.2⟩) (fun r U U' V V' h1 hal h2 h => ⟨h.1, h.2.elim fun B' q => ⟨B', q.1.mv h1 h2, q.2⟩⟩) ?_
  intro p e s m args below meth c s₁ X0 hexec hbytes hml hret hlk hnm hown hh0 W hP
  obtain ⟨rfl, hA, hB, hne, l1, l2, hp⟩ := hP
  have c1 : Steps p.tables e below (s₁.setTop (entryFrame m #[.ref b, .int (Int32.ofNat o), .ref d, .int (Int32.ofNat q), .int (Int32.ofNat len)] 7)) (s₁.setTop (mkF m 0 #[.val (.ref b), .val (.int (Int32.ofNat o)), .val (.ref d), .val (.int (Int32.ofNat q)), .val (.int (Int32.ofNat len)), .unset, .unset] [])) := entry rfl
  have hA0 := hA.1.mv X0.warmed.alike hh0
  have hB0 := hB.mv X0.warmed.alike hh0
  have a31 := hA.1.2.2.2
  have c2 : Steps p.tables e below (s₁.setTop (entryFrame m #[.ref b, .int (Int32.ofNat o), .ref d, .int (Int32.ofNat q), .int (Int32.ofNat len)] 7)) (s₁.setTop (mkF m 3 #[.val (.ref b), .val (.int (Int32.ofNat o)), .val (.ref d), .val (.int (Int32.ofNat q)), .val (.int (Int32.ofNat len)), .val (.int 0), .unset] [])) := c1.trans (by
    refine iconstV X0.here hexec rfl 0 (hb hbytes d0) (by decide) ?_
    refine XS.istore X0.here hexec rfl (hb hbytes d1) rfl rfl ?_
    exact Steps.refl _)
  have loop : ∀ (r i : Nat), i + r = len → ∀ (z : Slot), (z = .unset ∨ ∃ w, z = .val w ∧ w.category = 1) → ∀ (Tl : State) (Bk : Cell), Stand p l e { frames := 0, locals := 0, cells := 0, slots := 0 } s m #[.ref b, .int (Int32.ofNat o), .ref d, .int (Int32.ofNat q), .int (Int32.ofNat len)] below meth c Tl ([] ++ copyLocs d q i) 0 0 → Put d Bk s₁ Tl → Laid B Bk q (q + i) (fun j => Value.int (lo8 (cv A (o + (j - q))))) →
      Steps p.tables e below (s₁.setTop (entryFrame m #[.ref b, .int (Int32.ofNat o), .ref d, .int (Int32.ofNat q), .int (Int32.ofNat len)] 7)) (Tl.setTop (mkF m 3 #[.val (.ref b), .val (.int (Int32.ofNat (o + i))), .val (.ref d), .val (.int (Int32.ofNat (q + i))), .val (.int (Int32.ofNat len)), .val (.int (Int32.ofNat i)), z] [])) → ∃ (T' : State) (B' : Cell) (z' : Slot), Stand p l e { frames := 0, locals := 0, cells := 0, slots := 0 } s m #[.ref b, .int (Int32.ofNat o), .ref d, .int (Int32.ofNat q), .int (Int32.ofNat len)] below meth c T' ([] ++ copyLocs d q len) 0 0 ∧ Put d B' s₁ T' ∧ Laid B B' q (q + len) (fun j => Value.int (lo8 (cv A (o + (j - q))))) ∧
      Steps p.tables e below (s₁.setTop (entryFrame m #[.ref b, .int (Int32.ofNat o), .ref d, .int (Int32.ofNat q), .int (Int32.ofNat len)] 7)) (T'.setTop (mkF m 3 #[.val (.ref b), .val (.int (Int32.ofNat (o + len))), .val (.ref d), .val (.int (Int32.ofNat (q + len))), .val (.int (Int32.ofNat len)), .val (.int (Int32.ofNat len)), z'] [])) := by
    intro r
    induction r with
    | zero =>
      intro i hi z hz Tl Bk Xl pl fl cl
      have hil : i = len := by omega
      rw [hil] at Xl fl cl
      exact ⟨Tl, Bk, z, Xl, pl, fl, cl⟩
    | succ r ih =>
      intro i hi z hz Tl Bk Xl pl fl cl
      have all := X0.warmed.alike.symm.trans Xl.warmed.alike
      have hAl := hA0.keep all (pl.other hne hA0.1)
      have hBk := hB0.like all pl.1 fl.1 fl.2.1 fl.2.2.1
      have hlt : q + i < Bk.slots.size := by rw [fl.2.2.1]; omega
      have c3 : Steps p.tables e below (s₁.setTop (entryFrame m #[.ref b, .int (Int32.ofNat o), .ref d, .int (Int32.ofNat q), .int (Int32.ofNat len)] 7)) (Tl.setTop (mkF m 12 #[.val (.ref b), .val (.int (Int32.ofNat (o + i))), .val (.ref d), .val (.int (Int32.ofNat (q + i))), .val (.int (Int32.ofNat len)), .val (.int (Int32.ofNat i)), z] [.int (Int32.ofNat (o + i)), .ref b])) := cl.trans (by
        refine XS.iload Xl.here hexec rfl (hb hbytes d3) rfl ?_
        refine XS.iload Xl.here hexec rfl (hb hbytes d5) rfl ?_
        refine XS.icmpNo Xl.here hexec rfl (hb hbytes d7) rfl (ii_ge_f (lt32 (by omega) (by omega))) ?_
        refine XS.aloadN Xl.here hexec rfl (hb hbytes d10) rfl rfl ?_
        refine XS.iloadN Xl.here hexec rfl (hb hbytes d11) rfl ?_
        exact Steps.refl _)
      have c4 : Steps p.tables e below (s₁.setTop (entryFrame m #[.ref b, .int (Int32.ofNat o), .ref d, .int (Int32.ofNat q), .int (Int32.ofNat len)] 7)) (Tl.setTop (mkF m 13 #[.val (.ref b), .val (.int (Int32.ofNat (o + i))), .val (.ref d), .val (.int (Int32.ofNat (q + i))), .val (.int (Int32.ofNat len)), .val (.int (Int32.ofNat i)), z] [.int (cv A (o + i))])) := c3.trans (by
        refine Xl.aget hexec hAl rfl (hA.get (i := o + i) (by omega)) rfl rfl (hb hbytes d12) ?_
        exact Steps.refl _)
      have c5 : Steps p.tables e below (s₁.setTop (entryFrame m #[.ref b, .int (Int32.ofNat o), .ref d, .int (Int32.ofNat q), .int (Int32.ofNat len)] 7)) (Tl.setTop (mkF m 15 #[.val (.ref b), .val (.int (Int32.ofNat (o + i))), .val (.ref d), .val (.int (Int32.ofNat (q + i))), .val (.int (Int32.ofNat len)), .val (.int (Int32.ofNat i)), .val (.int (cv A (o + i)))] [])) := c4.trans (by
        refine XS.istoreS Xl.here hexec rfl (hb hbytes d13) rfl rfl hz ?_
        exact Steps.refl _)
      have c6 : Steps p.tables e below (s₁.setTop (entryFrame m #[.ref b, .int (Int32.ofNat o), .ref d, .int (Int32.ofNat q), .int (Int32.ofNat len)] 7)) (Tl.setTop (mkF m 31 #[.val (.ref b), .val (.int (Int32.ofNat (o + i))), .val (.ref d), .val (.int (Int32.ofNat (q + i))), .val (.int (Int32.ofNat len)), .val (.int (Int32.ofNat i)), .val (.int (cv A (o + i)))] [.int (lo8 (cv A (o + i))), .int (Int32.ofNat (q + i)), .ref d])) := c5.trans (by
        refine XS.iload Xl.here hexec rfl (hb hbytes d15) rfl ?_
        refine sipushV Xl.here hexec rfl 255 (hb hbytes d17) (by decide) ?_
        refine XS.icmpYes Xl.here hexec rfl (pc0 := 20) rfl (hb hbytes d20) rfl (ii_le_t (hp i (by omega))) (by decide) rfl ?_
        refine XS.aloadN Xl.here hexec rfl (hb hbytes d26) rfl rfl ?_
        refine XS.iloadN Xl.here hexec rfl (hb hbytes d27) rfl ?_
        refine XS.iload Xl.here hexec rfl (hb hbytes d28) rfl ?_
        refine i2b Xl.here hexec rfl (hb hbytes d30) rfl ?_
        exact Steps.refl _)
      obtain ⟨T7, X7, p7, st7⟩ := Xl.aput hexec hBk rfl hlt rfl (fits_lo8 (cv A (o + i))) (g := (mkF m 31 #[.val (.ref b), .val (.int (Int32.ofNat (o + i))), .val (.ref d), .val (.int (Int32.ofNat (q + i))), .val (.int (Int32.ofNat len)), .val (.int (Int32.ofNat i)), .val (.int (cv A (o + i)))] [.int (lo8 (cv A (o + i))), .int (Int32.ofNat (q + i)), .ref d])) rfl (rest := []) rfl (hb hbytes d31)
      have c8 : Steps p.tables e below (s₁.setTop (entryFrame m #[.ref b, .int (Int32.ofNat o), .ref d, .int (Int32.ofNat q), .int (Int32.ofNat len)] 7)) (T7.setTop (mkF m 32 #[.val (.ref b), .val (.int (Int32.ofNat (o + i))), .val (.ref d), .val (.int (Int32.ofNat (q + i))), .val (.int (Int32.ofNat len)), .val (.int (Int32.ofNat i)), .val (.int (cv A (o + i)))] [])) := c6.trans (st7 _ (Steps.refl _))
      have c9 : Steps p.tables e below (s₁.setTop (entryFrame m #[.ref b, .int (Int32.ofNat o), .ref d, .int (Int32.ofNat q), .int (Int32.ofNat len)] 7)) (T7.setTop (mkF m 3 #[.val (.ref b), .val (.int (Int32.ofNat (o + i) + 1)), .val (.ref d), .val (.int (Int32.ofNat (q + i) + 1)), .val (.int (Int32.ofNat len)), .val (.int (Int32.ofNat i + 1)), .val (.int (cv A (o + i)))] [])) := c8.trans (by
        refine iincV X7.here hexec rfl 1 (hb hbytes d32) (by decide) rfl rfl ?_
        refine iincV X7.here hexec rfl 1 (hb hbytes d35) (by decide) rfl rfl ?_
        refine iincV X7.here hexec rfl 1 (hb hbytes d38) (by decide) rfl rfl ?_
        refine XS.goto X7.here hexec rfl (pc0 := 41) rfl (hb hbytes d41) (by decide) rfl ?_
        exact Steps.refl _)
      have c10 : Steps p.tables e below (s₁.setTop (entryFrame m #[.ref b, .int (Int32.ofNat o), .ref d, .int (Int32.ofNat q), .int (Int32.ofNat len)] 7)) (T7.setTop (mkF m 3 #[.val (.ref b), .val (.int (Int32.ofNat (o + (i + 1)))), .val (.ref d), .val (.int (Int32.ofNat (q + (i + 1)))), .val (.int (Int32.ofNat len)), .val (.int (Int32.ofNat (i + 1))), .val (.int (cv A (o + i)))] [])) := by
        have := c9
        rw [succ32, succ32, succ32] at this
        exact this
      exact ih (i + 1) (by omega) _ (Or.inr ⟨_, rfl, rfl⟩) T7 _ (by rw [copyLocs_step, ← List.append_assoc]; exact X7) (pl.trans p7) (fl.step (by omega) hlt (by simp)) c10
  obtain ⟨T9, B9, z9, X9, p9, f9, g9⟩ := loop len 0 (by omega) .unset (Or.inl rfl) s₁ B (by simpa [copyLocs] using X0) ⟨hB0.1, fun _ _ => rfl, rfl⟩ (Laid.zero _ _ _) c2
  have c11 : Steps p.tables e below (s₁.setTop (entryFrame m #[.ref b, .int (Int32.ofNat o), .ref d, .int (Int32.ofNat q), .int (Int32.ofNat len)] 7)) (T9.setTop (mkF m 46 #[.val (.ref b), .val (.int (Int32.ofNat (o + len))), .val (.ref d), .val (.int (Int32.ofNat (q + len))), .val (.int (Int32.ofNat len)), .val (.int (Int32.ofNat len)), z9] [.int (Int32.ofNat len)])) := g9.trans (by
    refine XS.iload X9.here hexec rfl (hb hbytes d3) rfl ?_
    refine XS.iload X9.here hexec rfl (hb hbytes d5) rfl ?_
    refine XS.icmpYes X9.here hexec rfl (pc0 := 7) rfl (hb hbytes d7) rfl (ii_ge_t (nlt32 (by omega) (Nat.le_refl _))) (by decide) rfl ?_
    refine XS.iload X9.here hexec rfl (hb hbytes d44) rfl ?_
    exact Steps.refl _)
  exact ⟨T9, some (.int (Int32.ofNat len)), _, _, _, X9, by simp, rfl, rfl, (fun h => by cases h), ⟨rfl, B9, p9.from hh0, f9⟩, fun fs hl => c11.trans (X9.ireturnOut hexec hret rfl (Or.inl rfl) (hb hbytes d46) hl)⟩
end Cmp5
namespace Cmp3
def yN : MethodName := ⟨"java/lang/StringUTF16", "compress", "([CII)[B"⟩
abbrev yB : ByteArray := jdk_52_method_16_code
theorem d0 : decode yB 0 = .ok (.iload_n 2, 1) := by decide +kernel
theorem d1 : decode yB 1 = .ok (.newarray .byte, 2) := by decide +kernel
theorem d3 : decode yB 3 = .ok (.astore_n 3, 1) := by decide +kernel
theorem d4 : decode yB 4 = .ok (.aload_n 0, 1) := by decide +kernel
theorem d5 : decode yB 5 = .ok (.iload_n 1, 1) := by decide +kernel
theorem d6 : decode yB 6 = .ok (.aload_n 3, 1) := by decide +kernel
theorem d7 : decode yB 7 = .ok (.iconst 0, 1) := by decide +kernel
theorem d8 : decode yB 8 = .ok (.iload_n 2, 1) := by decide +kernel
theorem d9 : decode yB 9 = .ok (.invokestatic 115, 3) := by decide +kernel
theorem d12 : decode yB 12 = .ok (.istore 4, 2) := by decide +kernel
theorem d14 : decode yB 14 = .ok (.iload 4, 2) := by decide +kernel
theorem d16 : decode yB 16 = .ok (.iload_n 2, 1) := by decide +kernel
theorem d17 : decode yB 17 = .ok (.if_icmp (.eq) 40, 3) := by decide +kernel
theorem d57 : decode yB 57 = .ok (.aload_n 3, 1) := by decide +kernel
theorem d58 : decode yB 58 = .ok (.areturn, 1) := by decide +kernel
def site : List Cond := [.arrayClass .byte, Cmp5.tab] ++ staticW U16 115 Cmp5.yN
def tab : Cond := tabOf yN yB 6 (some (.array .byte)) site
def P (b : Addr) (A : Cell) (o len : Nat) (args : Array Value) (s : State) : Prop := args = #[.ref b, .int (Int32.ofNat o), .int (Int32.ofNat len)] ∧ Ch b A s ∧ o + len ≤ A.slots.size ∧ len ≤ 536870912 ∧ ∀ i, i < len → ¬ 255 < cv A (o + i)
def E (b : Addr) (A : Cell) (o len : Nat) (r : Option Value) (s u : State) : Prop := NewArr .byte "[B" len (fun j => .int (lo8 (cv A (o + j)))) r s u ∧ u.heap.size = s.heap.size + 1
/-- no char of the range above 255: a new byte[] of their low bytes -/
theorem law (l : Launch) (b : Addr) (A : Cell) (o len : Nat) : Law l yN 3 3 1 18 yB 6 (some (.array .byte)) site (P b A o len) (E b A o len) [] 1 len := by
  refine Law.of_walk (plainFor_of_name (by decide +kernel)) (by decide +kernel) (by decide +kernel) (by decide) (fun _ _ h => by rw [h.1]; rfl) (fun _ U U' hal hh h => ⟨h.1, h.2.1.mv hal hh, h.2.2⟩) (fun r U U' V V' h1 hal h2 h => ⟨NewArr.mv r U U' V V' h1 hal h2 h.1, by rw [h1, h2]; exact h.2⟩) ?_
  intro p e s m args below meth c s₁ X0 hexec hbytes hml hret hlk hnm hown hh0 W hP
  obtain ⟨rfl, hA, l1, l2, hp⟩ := hP
  have a31 := hA.1.2.2.2
  have c1 : Steps p.tables e below (s₁.setTop (entryFrame m #[.ref b, .int (Int32.ofNat o), .int (Int32.ofNat len)] 6)) (s₁.setTop (mkF m 0 #[.val (.ref b), .val (.int (Int32.ofNat o)), .val (.int (Int32.ofNat len)), .unset, .unset, .unset] [])) := entry rfl
  have c2 : Steps p.tables e below (s₁.setTop (entryFrame m #[.ref b, .int (Int32.ofNat o), .int (Int32.ofNat len)] 6)) (s₁.setTop (mkF m 1 #[.val (.ref b), .val (.int (Int32.ofNat o)), .val (.int (Int32.ofNat len)), .unset, .unset, .unset] [.int (Int32.ofNat len)])) := c1.trans (by
    refine XS.iloadN X0.here hexec rfl (hb hbytes d0) rfl ?_
    exact Steps.refl _)
  obtain ⟨T3, B3, X3, ba3, bs3, bv3, bh3, bf3, st3⟩ := X0.anew hexec (atype := .byte) (wk W (.arrayClass .byte)) rfl (by show len * 1 ≤ _; omega) (by omega) (g := (mkF m 1 #[.val (.ref b), .val (.int (Int32.ofNat o)), .val (.int (Int32.ofNat len)), .unset, .unset, .unset] [.int (Int32.ofNat len)])) rfl (hb hbytes d1) (rest := []) rfl (Nat.le_refl _) (by show 0 + len ≤ len; omega)
  rw [hh0] at ba3 st3
  have kp3 : XT.Kept s T3 := (XT.Kept.of_eq hh0).push bh3
  have hA3 := hA.keep X3.warmed.alike (kp3 _ _ hA.1.1)
  have hne : b ≠ s.heap.size := hA.1.ne
  have c4 : Steps p.tables e below (s₁.setTop (entryFrame m #[.ref b, .int (Int32.ofNat o), .int (Int32.ofNat len)] 6)) (T3.setTop (mkF m 3 #[.val (.ref b), .val (.int (Int32.ofNat o)), .val (.int (Int32.ofNat len)), .unset, .unset, .unset] [.ref s.heap.size])) := c2.trans (st3 _ (Steps.refl _))
  have c5 : Steps p.tables e below (s₁.setTop (entryFrame m #[.ref b, .int (Int32.ofNat o), .int (Int32.ofNat len)] 6)) (T3.setTop (mkF m 9 #[.val (.ref b), .val (.int (Int32.ofNat o)), .val (.int (Int32.ofNat len)), .val (.ref s.heap.size), .unset, .unset] [.int (Int32.ofNat len), .int 0, .ref s.heap.size, .int (Int32.ofNat o), .ref b])) := c4.trans (by
    refine XS.astoreN X3.here hexec rfl (hb hbytes d3) rfl rfl rfl ?_
    refine XS.aloadN X3.here hexec rfl (hb hbytes d4) rfl rfl ?_
    refine XS.iloadN X3.here hexec rfl (hb hbytes d5) rfl ?_
    refine XS.aloadN X3.here hexec rfl (hb hbytes d6) rfl rfl ?_
    refine iconstV X3.here hexec rfl 0 (hb hbytes d7) (by decide) ?_
    refine XS.iloadN X3.here hexec rfl (hb hbytes d8) rfl ?_
    exact Steps.refl _)
  obtain ⟨v6, T6, X6, E6, g6⟩ := X3.callS hexec (Cmp5.law l b A s.heap.size B3 o 0 len) hown (wks W (staticW U16 115 Cmp5.yN)) (wk W Cmp5.tab) (W := 0) (Nat.le_of_ble_eq_true rfl) (Nat.le_of_ble_eq_true rfl) (Nat.le_refl _) (by show 0 + len + 0 ≤ len; omega) (g := (mkF m 9 #[.val (.ref b), .val (.int (Int32.ofNat o)), .val (.int (Int32.ofNat len)), .val (.ref s.heap.size), .unset, .unset] [.int (Int32.ofNat len), .int (Int32.ofNat 0), .ref s.heap.size, .int (Int32.ofNat o), .ref b])) rfl (by rw [hml]; rfl) c5 (argsL := [.ref b, .int (Int32.ofNat o), .ref s.heap.size, .int (Int32.ofNat 0), .int (Int32.ofNat len)]) (rest := []) rfl rfl (by show 2 * 0 + 0 ≤ _; decide) (hb hbytes d9) (⟨rfl, hA3, ba3, hne, l1, by rw [bs3]; simp, hp⟩)
  obtain ⟨rfl, B6, p6, f6⟩ := E6
  have c7 : Steps p.tables e below (s₁.setTop (entryFrame m #[.ref b, .int (Int32.ofNat o), .int (Int32.ofNat len)] 6)) (T6.setTop (mkF m 12 #[.val (.ref b), .val (.int (Int32.ofNat o)), .val (.int (Int32.ofNat len)), .val (.ref s.heap.size), .unset, .unset] [.int (Int32.ofNat len)])) := g6
  have c8 : Steps p.tables e below (s₁.setTop (entryFrame m #[.ref b, .int (Int32.ofNat o), .int (Int32.ofNat len)] 6)) (T6.setTop (mkF m 58 #[.val (.ref b), .val (.int (Int32.ofNat o)), .val (.int (Int32.ofNat len)), .val (.ref s.heap.size), .val (.int (Int32.ofNat len)), .unset] [.ref s.heap.size])) := c7.trans (by
    refine XS.istore X6.here hexec rfl (hb hbytes d12) rfl rfl ?_
    refine XS.iload X6.here hexec rfl (hb hbytes d14) rfl ?_
    refine XS.iloadN X6.here hexec rfl (hb hbytes d16) rfl ?_
    refine XS.icmpYes X6.here hexec rfl (pc0 := 17) rfl (hb hbytes d17) rfl (ii_eq_t rfl) (by decide) rfl ?_
    refine XS.aloadN X6.here hexec rfl (hb hbytes d57) rfl rfl ?_
    exact Steps.refl _)
  have X8 := X6.wide (L' := []) (cells' := 1) (slots' := len) (fun x hx hlt => by
    simp only [List.nil_append, copyLocs, List.mem_map, List.mem_range] at hx
    obtain ⟨i, -, rfl⟩ := hx
    exact absurd hlt (Nat.lt_irrefl _)) (Nat.le_refl _) (by omega)
  exact ⟨T6, some (.ref s.heap.size), _, _, _, X8, rfl, rfl, rfl, (fun h => by cases h), ⟨⟨rfl, B6, ba3.like (X3.warmed.alike.symm.trans X6.warmed.alike) p6.1 f6.1 f6.2.1 f6.2.2.1, f6.2.1.trans bv3, by rw [X6.warmed.alike.findClass, f6.1]; exact bf3, by rw [f6.2.2.1, bs3]; simp, fun j hj => by rw [f6.2.2.2 j, if_pos (by omega)]; rfl, kp3.put p6 (Nat.le_refl _)⟩, by rw [p6.2.2, bh3, hh0]; simp⟩, fun fs hl => c8.trans (X8.areturnOut hexec rfl hret rfl (hb hbytes d58) hl)⟩
end Cmp3
namespace CodL
def yN : MethodName := ⟨"java/lang/StringUTF16", "coderFromArrayLen", "([BI)B"⟩
abbrev yB : ByteArray := jdk_52_method_15_code
theorem d0 : decode yB 0 = .ok (.iload_n 1, 1) := by decide +kernel
theorem d1 : decode yB 1 = .ok (.aload_n 0, 1) := by decide +kernel
theorem d2 : decode yB 2 = .ok (.arraylength, 1) := by decide +kernel
theorem d3 : decode yB 3 = .ok (.isub, 1) := by decide +kernel
theorem d4 : decode yB 4 = .ok (.bipush 31, 2) := by decide +kernel
theorem d6 : decode yB 6 = .ok (.iushr, 1) := by decide +kernel
theorem d7 : decode yB 7 = .ok (.i2b, 1) := by decide +kernel
theorem d8 : decode yB 8 = .ok (.ireturn, 1) := by decide +kernel
def site : List Cond := []
def tab : Cond := tabOf yN yB 2 (some .byte) site
def P (d : Addr) (B : Cell) (args : Array Value) (s : State) : Prop := args = #[.ref d, .int (Int32.ofNat B.slots.size)] ∧ Arr .byte d B s
def E (r : Option Value) (s u : State) : Prop := XT.PureE (some (.int 0)) r s u
/-- an array as long as the number of chars: LATIN1 -/
theorem law (l : Launch) (d : Addr) (B : Cell) : Law l yN 2 2 0 0 yB 2 (some .byte) site (P d B) E [] 0 0 := by
  refine Law.of_walk (plainFor_of_name (by decide +kernel)) (by decide +kernel) (by decide +kernel) (by decide) (fun _ _ h => by rw [h.1]; rfl) (fun _ U U' hal hh h => ⟨h.1, h.2.mv hal hh⟩) (fun r U U' V V' h1 hal h2 h => XT.PureE.mv r U U' V V' h1 hal h2 h) ?_
  intro p e s m args below meth c s₁ X0 hexec hbytes hml hret hlk hnm hown hh0 W hP
  obtain ⟨rfl, hB⟩ := hP
  have hB0 := hB.mv X0.warmed.alike hh0
  have c1 : Steps p.tables e below (s₁.setTop (entryFrame m #[.ref d, .int (Int32.ofNat B.slots.size)] 2)) (s₁.setTop (mkF m 0 #[.val (.ref d), .val (.int (Int32.ofNat B.slots.size))] [])) := entry rfl
  have c2 : Steps p.tables e below (s₁.setTop (entryFrame m #[.ref d, .int (Int32.ofNat B.slots.size)] 2)) (s₁.setTop (mkF m 2 #[.val (.ref d), .val (.int (Int32.ofNat B.slots.size))] [.ref d, .int (Int32.ofNat B.slots.size)])) := c1.trans (by
    refine XS.iloadN X0.here hexec rfl (hb hbytes d0) rfl ?_
    refine XS.aloadN X0.here hexec rfl (hb hbytes d1) rfl rfl ?_
    exact Steps.refl _)
  have c3 : Steps p.tables e below (s₁.setTop (entryFrame m #[.ref d, .int (Int32.ofNat B.slots.size)] 2)) (s₁.setTop (mkF m 8 #[.val (.ref d), .val (.int (Int32.ofNat B.slots.size))] [.int (lo8 (ushr (Int32.ofNat B.slots.size - Int32.ofNat B.slots.size) 31))])) := c2.trans (by
    refine X0.alen hexec hB0 rfl rfl (hb hbytes d2) ?_
    refine XS.isub X0.here hexec rfl (hb hbytes d3) rfl ?_
    refine bipushV X0.here hexec rfl 31 (hb hbytes d4) (by decide) ?_
    refine iushr X0.here hexec rfl (hb hbytes d6) rfl ?_
    refine i2b X0.here hexec rfl (hb hbytes d7) rfl ?_
    exact Steps.refl _)
  have e0 : lo8 (ushr (Int32.ofNat B.slots.size - Int32.ofNat B.slots.size) 31) = 0 := by rw [Int32.sub_self]; decide
  rw [e0] at c3
  exact ⟨s₁, some (.int 0), _, _, _, X0, rfl, rfl, rfl, (fun h => by cases h), ⟨rfl, hh0⟩, fun fs hl => c3.trans (X0.ireturnOut hexec hret rfl (Or.inr (Or.inr (Or.inl rfl))) (hb hbytes d8) hl)⟩
end CodL
/-- the String at a is Latin-1 over a new byte[] (the heap's one new cell): the low bytes of the len chars of A from o on; every cell but a is kept -/
def Got (a : Addr) (D : Cell) (fV fC : Field) (A : Cell) (o len : Nat) (r : Option Value) (s u : State) : Prop := r = none ∧ ∃ D' V : Cell, Blank "java/lang/String" a D' u ∧ Same D D' [fV.slot, fC.slot] ∧ D'.slots[fV.slot]? = some (.ref s.heap.size) ∧ D'.slots[fC.slot]? = some (.int 0) ∧ Arr .byte s.heap.size V u ∧ V.vm = .none ∧ u.vm.findClass "[B" = some V.cls ∧ V.slots.size = len ∧ (∀ j, j < len → V.slots[j]? = some (.int (lo8 (cv A (o + j))))) ∧ (∀ (y : Addr) (c : Cell), y ≠ a → s.heap[y]? = some c → u.heap[y]? = some c) ∧ u.heap.size = s.heap.size + 1
theorem Got.mv {a : Addr} {D A : Cell} {fV fC : Field} {o len : Nat} : ∀ r (U U' V V' : State), U'.heap = U.heap → V.vm.Alike V'.vm → V'.heap = V.heap → Got a D fV fC A o len r U V → Got a D fV fC A o len r U' V' :=
  fun r U U' V V' h1 hal h2 ⟨e0, D', X, a1, a2, a3, a4, a5, a6, a7, a8, a9, a10, a11⟩ => ⟨e0, D', X, a1.mv hal h2, a2, by rw [h1]; exact a3, a4, by rw [h1]; exact a5.mv hal h2, a6, by rw [hal.findClass]; exact a7, a8, a9, by rw [h1, h2]; exact a10, by rw [h1, h2]; exact a11⟩
namespace New4
def yN : MethodName := ⟨"java/lang/String", "<init>", "([CIILjava/lang/Void;)V"⟩
abbrev yB : ByteArray := jdk_42_method_149_code
theorem d0 : decode yB 0 = .ok (.aload_n 0, 1) := by decide +kernel
theorem d1 : decode yB 1 = .ok (.invokespecial 1, 3) := by decide +kernel
theorem d4 : decode yB 4 = .ok (.iload_n 3, 1) := by decide +kernel
theorem d5 : decode yB 5 = .ok (.ifCond (.ne) 22, 3) := by decide +kernel
theorem d27 : decode yB 27 = .ok (.getstatic 38, 3) := by decide +kernel
theorem d30 : decode yB 30 = .ok (.ifCond (.eq) 28, 3) := by decide +kernel
theorem d33 : decode yB 33 = .ok (.aload_n 1, 1) := by decide +kernel
theorem d34 : decode yB 34 = .ok (.iload_n 2, 1) := by decide +kernel
theorem d35 : decode yB 35 = .ok (.iload_n 3, 1) := by decide +kernel
theorem d36 : decode yB 36 = .ok (.invokestatic 177, 3) := by decide +kernel
theorem d39 : decode yB 39 = .ok (.astore 5, 2) := by decide +kernel
theorem d41 : decode yB 41 = .ok (.aload_n 0, 1) := by decide +kernel
theorem d42 : decode yB 42 = .ok (.aload 5, 2) := by decide +kernel
theorem d44 : decode yB 44 = .ok (.iload_n 3, 1) := by decide +kernel
theorem d45 : decode yB 45 = .ok (.invokestatic 47, 3) := by decide +kernel
theorem d48 : decode yB 48 = .ok (.putfield 15, 3) := by decide +kernel
theorem d51 : decode yB 51 = .ok (.aload_n 0, 1) := by decide +kernel
theorem d52 : decode yB 52 = .ok (.aload 5, 2) := by decide +kernel
theorem d54 : decode yB 54 = .ok (.putfield 9, 3) := by decide +kernel
theorem d57 : decode yB 57 = .ok (.return_, 1) := by decide +kernel
def site : List Cond := [.fieldLink "java/lang/String" 38 "java/lang/String" "COMPACT_STRINGS" "Z", Cmp3.tab, CodL.tab, .laysFinal "java/lang/String" "java/lang/String" "value" "[B", .fieldLink "java/lang/String" 9 "java/lang/String" "value" "[B", .laysFinal "java/lang/String" "java/lang/String" "coder" "B", .fieldLink "java/lang/String" 15 "java/lang/String" "coder" "B"] ++ objW "java/lang/String" 1 ++ staticW "java/lang/String" 177 Cmp3.yN ++ staticW "java/lang/String" 47 CodL.yN
def tab : Cond := tabOf yN yB 6 none site
def P (a : Addr) (D : Cell) (fV fC : Field) (b : Addr) (A : Cell) (z : Int32) (o len : Nat) (args : Array Value) (s : State) : Prop := args = #[.ref a, .ref b, .int (Int32.ofNat o), .int (Int32.ofNat len), .null] ∧ Blank "java/lang/String" a D s ∧ Found "java/lang/String" "value" "[B" fV s ∧ Found "java/lang/String" "coder" "B" fC s ∧ Ch b A s ∧ StaticIs s "java/lang/String" "COMPACT_STRINGS" "Z" (.int z) ∧ ¬ z = 0 ∧ 0 < len ∧ o + len ≤ A.slots.size ∧ len ≤ 536870912 ∧ ∀ i, i < len → ¬ 255 < cv A (o + i)
def E (a : Addr) (D : Cell) (fV fC : Field) (A : Cell) (o len : Nat) (r : Option Value) (s u : State) : Prop := Got a D fV fC A o len r s u
/-- len > 0, no char of the range above 255: a Latin-1 String of their low bytes -/
theorem law (l : Launch) (a : Addr) (D : Cell) (fV fC : Field) (b : Addr) (A : Cell) (z : Int32) (o len : Nat) : Law l yN 5 4 2 35 yB 6 none site (P a D fV fC b A z o len) (E a D fV fC A o len) [⟨a, fC.slot⟩, ⟨a, fV.slot⟩] 1 len := by
  refine Law.of_walk (plainFor_of_name (by decide +kernel)) (by decide +kernel) (by decide +kernel) (by decide) (fun _ _ h => by rw [h.1]; rfl) (fun _ U U' hal hh h => ⟨h.1, h.2.1.mv hal hh, h.2.2.1.al hal, h.2.2.2.1.al hal, h.2.2.2.2.1.mv hal hh, h.2.2.2.2.2.1.there hal hh, h.2.2.2.2.2.2⟩) (fun r U U' V V' h1 hal h2 h => Got.mv r U U' V V' h1 hal h2 h) ?_
  intro p e s m args below meth c s₁ X0 hexec hbytes hml hret hlk hnm hown hh0 W hP
  obtain ⟨rfl, hB, f1, f2, hA, s1, hz, l0, l1, l2, hp⟩ := hP
  have a31 := hA.1.2.2.2
  have c1 : Steps p.tables e below (s₁.setTop (entryFrame m #[.ref a, .ref b, .int (Int32.ofNat o), .int (Int32.ofNat len), .null] 6)) (s₁.setTop (mkF m 0 #[.val (.ref a), .val (.ref b), .val (.int (Int32.ofNat o)), .val (.int (Int32.ofNat len)), .val .null, .unset] [])) := entry rfl
  have c2 : Steps p.tables e below (s₁.setTop (entryFrame m #[.ref a, .ref b, .int (Int32.ofNat o), .int (Int32.ofNat len), .null] 6)) (s₁.setTop (mkF m 1 #[.val (.ref a), .val (.ref b), .val (.int (Int32.ofNat o)), .val (.int (Int32.ofNat len)), .val .null, .unset] [.ref a])) := c1.trans (by
    refine XS.aloadN X0.here hexec rfl (hb hbytes d0) rfl rfl ?_
    exact Steps.refl _)
  obtain ⟨T3, X3, q3, st3⟩ := X0.oinit hexec hown (wks W (objW "java/lang/String" 1)) (g := (mkF m 1 #[.val (.ref a), .val (.ref b), .val (.int (Int32.ofNat o)), .val (.int (Int32.ofNat len)), .val .null, .unset] [.ref a])) rfl (by rw [hml]; rfl) (rest := []) rfl (hb hbytes d1) (W := 0) (by show 2 * 0 + 0 ≤ _; decide) (Nat.le_of_ble_eq_true rfl) (Nat.le_of_ble_eq_true rfl)
  have hh3 := q3.trans hh0
  have c4 : Steps p.tables e below (s₁.setTop (entryFrame m #[.ref a, .ref b, .int (Int32.ofNat o), .int (Int32.ofNat len), .null] 6)) (T3.setTop (mkF m 27 #[.val (.ref a), .val (.ref b), .val (.int (Int32.ofNat o)), .val (.int (Int32.ofNat len)), .val .null, .unset] [])) := (c2.trans (st3 _ (Steps.refl _))).trans (by
    refine XS.iloadN X3.here hexec rfl (hb hbytes d4) rfl ?_
    refine XS.ifYes X3.here hexec rfl (pc0 := 5) rfl (hb hbytes d5) rfl (i0_ne_t (nz32 (by omega) l0)) (by decide) rfl ?_
    exact Steps.refl _)
  obtain ⟨T5, X5, q5, st5⟩ := X3.sget hexec hown (wk W (.fieldLink "java/lang/String" 38 "java/lang/String" "COMPACT_STRINGS" "Z")) s1 (fun _ _ h => by rw [hh3]; exact h) (g := (mkF m 27 #[.val (.ref a), .val (.ref b), .val (.int (Int32.ofNat o)), .val (.int (Int32.ofNat len)), .val .null, .unset] [])) rfl (hb hbytes d27)
  have hh5 := q5.trans hh3
  have c6 : Steps p.tables e below (s₁.setTop (entryFrame m #[.ref a, .ref b, .int (Int32.ofNat o), .int (Int32.ofNat len), .null] 6)) (T5.setTop (mkF m 30 #[.val (.ref a), .val (.ref b), .val (.int (Int32.ofNat o)), .val (.int (Int32.ofNat len)), .val .null, .unset] [.int z])) := c4.trans (st5 _ (Steps.refl _))
  have c7 : Steps p.tables e below (s₁.setTop (entryFrame m #[.ref a, .ref b, .int (Int32.ofNat o), .int (Int32.ofNat len), .null] 6)) (T5.setTop (mkF m 36 #[.val (.ref a), .val (.ref b), .val (.int (Int32.ofNat o)), .val (.int (Int32.ofNat len)), .val .null, .unset] [.int (Int32.ofNat len), .int (Int32.ofNat o), .ref b])) := c6.trans (by
    refine XS.ifNo X5.here hexec rfl (hb hbytes d30) rfl (i0_eq_f hz) ?_
    refine XS.aloadN X5.here hexec rfl (hb hbytes d33) rfl rfl ?_
    refine XS.iloadN X5.here hexec rfl (hb hbytes d34) rfl ?_
    refine XS.iloadN X5.here hexec rfl (hb hbytes d35) rfl ?_
    exact Steps.refl _)
  obtain ⟨v8, T8, X8, E8, g8⟩ := X5.callS hexec (Cmp3.law l b A o len) hown (wks W (staticW "java/lang/String" 177 Cmp3.yN)) (wk W Cmp3.tab) (W := 0) (Nat.le_of_ble_eq_true rfl) (Nat.le_of_ble_eq_true rfl) (Nat.le_refl _) (by show 0 + len ≤ len; omega) (g := (mkF m 36 #[.val (.ref a), .val (.ref b), .val (.int (Int32.ofNat o)), .val (.int (Int32.ofNat len)), .val .null, .unset] [.int (Int32.ofNat len), .int (Int32.ofNat o), .ref b])) rfl (by rw [hml]; rfl) c7 (argsL := [.ref b, .int (Int32.ofNat o), .int (Int32.ofNat len)]) (rest := []) rfl rfl (by show 2 * 0 + 0 ≤ _; decide) (hb hbytes d36) (⟨rfl, hA.mv X5.warmed.alike hh5, l1, l2, hp⟩)
  obtain ⟨e8, z8⟩ := E8
  obtain ⟨rfl, N, n1, n2, n3, n4, n5, n6⟩ := NewArr.mv _ T5 s _ _ hh5.symm (Vm.Alike.refl _) rfl e8
  rw [hh5] at z8
  have hB1 := hB.keep X8.warmed.alike (n6 _ _ hB.1)
  have hne : s.heap.size ≠ a := (Nat.ne_of_lt (Array.getElem?_eq_some_iff.mp hB.1).1).symm
  have c9 : Steps p.tables e below (s₁.setTop (entryFrame m #[.ref a, .ref b, .int (Int32.ofNat o), .int (Int32.ofNat len), .null] 6)) (T8.setTop (mkF m 39 #[.val (.ref a), .val (.ref b), .val (.int (Int32.ofNat o)), .val (.int (Int32.ofNat len)), .val .null, .unset] [.ref s.heap.size])) := g8
  have c10 : Steps p.tables e below (s₁.setTop (entryFrame m #[.ref a, .ref b, .int (Int32.ofNat o), .int (Int32.ofNat len), .null] 6)) (T8.setTop (mkF m 45 #[.val (.ref a), .val (.ref b), .val (.int (Int32.ofNat o)), .val (.int (Int32.ofNat len)), .val .null, .val (.ref s.heap.size)] [.int (Int32.ofNat N.slots.size), .ref s.heap.size, .ref a])) := by
    have hc : Steps p.tables e below (s₁.setTop (entryFrame m #[.ref a, .ref b, .int (Int32.ofNat o), .int (Int32.ofNat len), .null] 6)) (T8.setTop (mkF m 45 #[.val (.ref a), .val (.ref b), .val (.int (Int32.ofNat o)), .val (.int (Int32.ofNat len)), .val .null, .val (.ref s.heap.size)] [.int (Int32.ofNat len), .ref s.heap.size, .ref a])) := c9.trans (by
      refine XS.astore X8.here hexec rfl (hb hbytes d39) rfl rfl rfl ?_
      refine XS.aloadN X8.here hexec rfl (hb hbytes d41) rfl rfl ?_
      refine XS.aload X8.here hexec rfl (hb hbytes d42) rfl rfl ?_
      refine XS.iloadN X8.here hexec rfl (hb hbytes d44) rfl ?_
      exact Steps.refl _)
    rw [n4]; exact hc
  obtain ⟨v11, T11, X11, E11, g11⟩ := X8.callS hexec (CodL.law l s.heap.size N) hown (wks W (staticW "java/lang/String" 47 CodL.yN)) (wk W CodL.tab) (W := 1) (Nat.le_of_ble_eq_true rfl) (Nat.le_of_ble_eq_true rfl) (Nat.le_refl _) (by show 0 + len + 0 ≤ len; omega) (g := (mkF m 45 #[.val (.ref a), .val (.ref b), .val (.int (Int32.ofNat o)), .val (.int (Int32.ofNat len)), .val .null, .val (.ref s.heap.size)] [.int (Int32.ofNat N.slots.size), .ref s.heap.size, .ref a])) rfl (by rw [hml]; rfl) c10 (argsL := [.ref s.heap.size, .int (Int32.ofNat N.slots.size)]) (rest := [.ref a]) rfl rfl (by show 2 * 0 + (1 + 0) ≤ _; decide) (hb hbytes d45) (⟨rfl, n1⟩)
  obtain ⟨rfl, q11⟩ := E11
  have hB11 := hB1.mv (X8.warmed.alike.symm.trans X11.warmed.alike) q11
  have c12 : Steps p.tables e below (s₁.setTop (entryFrame m #[.ref a, .ref b, .int (Int32.ofNat o), .int (Int32.ofNat len), .null] 6)) (T11.setTop (mkF m 48 #[.val (.ref a), .val (.ref b), .val (.int (Int32.ofNat o)), .val (.int (Int32.ofNat len)), .val .null, .val (.ref s.heap.size)] [.int 0, .ref a])) := g11
  obtain ⟨T13, X13, p13, bl13, sl13, st13⟩ := X11.finit hexec hown (wk W (.fieldLink "java/lang/String" 15 "java/lang/String" "coder" "B")) (Or.inr ⟨_, (wk W (.laysFinal "java/lang/String" "java/lang/String" "coder" "B"))⟩) (Or.inl ⟨rfl, hnm⟩) f2 (Or.inl rfl) hB11 (t := .byte) (by decide +kernel) rfl (g := (mkF m 48 #[.val (.ref a), .val (.ref b), .val (.int (Int32.ofNat o)), .val (.int (Int32.ofNat len)), .val .null, .val (.ref s.heap.size)] [.int 0, .ref a])) rfl (rest := []) rfl (hb hbytes d48)
  have c14 : Steps p.tables e below (s₁.setTop (entryFrame m #[.ref a, .ref b, .int (Int32.ofNat o), .int (Int32.ofNat len), .null] 6)) (T13.setTop (mkF m 54 #[.val (.ref a), .val (.ref b), .val (.int (Int32.ofNat o)), .val (.int (Int32.ofNat len)), .val .null, .val (.ref s.heap.size)] [.ref s.heap.size, .ref a])) := (c12.trans (st13 _ (Steps.refl _))).trans (by
    refine XS.aloadN X13.here hexec rfl (hb hbytes d51) rfl rfl ?_
    refine XS.aload X13.here hexec rfl (hb hbytes d52) rfl rfl ?_
    exact Steps.refl _)
  obtain ⟨T15, X15, p15, bl15, sl15, st15⟩ := X13.finit hexec hown (wk W (.fieldLink "java/lang/String" 9 "java/lang/String" "value" "[B")) (Or.inr ⟨_, (wk W (.laysFinal "java/lang/String" "java/lang/String" "value" "[B"))⟩) (Or.inl ⟨rfl, hnm⟩) f1 (Or.inl rfl) bl13 (t := (.array .byte)) (by decide +kernel) rfl (g := (mkF m 54 #[.val (.ref a), .val (.ref b), .val (.int (Int32.ofNat o)), .val (.int (Int32.ofNat len)), .val .null, .val (.ref s.heap.size)] [.ref s.heap.size, .ref a])) rfl (rest := []) rfl (hb hbytes d54)
  have c16 : Steps p.tables e below (s₁.setTop (entryFrame m #[.ref a, .ref b, .int (Int32.ofNat o), .int (Int32.ofNat len), .null] 6)) (T15.setTop (mkF m 57 #[.val (.ref a), .val (.ref b), .val (.int (Int32.ofNat o)), .val (.int (Int32.ofNat len)), .val .null, .val (.ref s.heap.size)] [])) := c14.trans (st15 _ (Steps.refl _))
  have ap := apart (Or.inr ⟨_, (wk W (.laysFinal "java/lang/String" "java/lang/String" "value" "[B"))⟩) (Or.inr ⟨_, (wk W (.laysFinal "java/lang/String" "java/lang/String" "coder" "B"))⟩) f1 f2 (t₁ := .array .byte) (t₂ := .byte) (by decide +kernel) (by decide +kernel) (by decide)
  have al := X8.warmed.alike.symm.trans X15.warmed.alike
  have n7 : T11.heap[s.heap.size]? = some N := by rw [q11]; exact n1.1
  exact ⟨T15, none, _, _, _, X15, by simp, rfl, by omega, (fun _ => rfl), ⟨rfl, _, N, bl15, ((Same.refl D _).set _ (by simp)).set _ (by simp), sl15, (Cell.slots_setSlot_ne _ ap).trans sl13, n1.keep al (p15.other hne (p13.other hne n7)), n2, by rw [al.findClass]; exact n3, n4, n5, fun y c h1 h2 => p15.other h1 (p13.other h1 (by rw [q11]; exact n6 y c h2)), by rw [p15.2.2, p13.2.2, q11]; exact z8⟩, fun fs hl => c16.trans (X15.returnOut hexec hret (hb hbytes d57) hl)⟩
end New4
namespace New1
def yN : MethodName := ⟨"java/lang/String", "<init>", "([C)V"⟩
abbrev yB : ByteArray := jdk_42_method_3_code
theorem d0 : decode yB 0 = .ok (.aload_n 0, 1) := by decide +kernel
theorem d1 : decode yB 1 = .ok (.aload_n 1, 1) := by decide +kernel
theorem d2 : decode yB 2 = .ok (.iconst 0, 1) := by decide +kernel
theorem d3 : decode yB 3 = .ok (.aload_n 1, 1) := by decide +kernel
theorem d4 : decode yB 4 = .ok (.arraylength, 1) := by decide +kernel
theorem d5 : decode yB 5 = .ok (.aconst_null, 1) := by decide +kernel
theorem d6 : decode yB 6 = .ok (.invokespecial 27, 3) := by decide +kernel
theorem d9 : decode yB 9 = .ok (.return_, 1) := by decide +kernel
def site : List Cond := [New4.tab] ++ initW "java/lang/String" 27 New4.yN
def tab : Cond := tabOf yN yB 2 none site
def P (a : Addr) (D : Cell) (fV fC : Field) (b : Addr) (A : Cell) (z : Int32) (args : Array Value) (s : State) : Prop := args = #[.ref a, .ref b] ∧ Blank "java/lang/String" a D s ∧ Found "java/lang/String" "value" "[B" fV s ∧ Found "java/lang/String" "coder" "B" fC s ∧ Ch b A s ∧ StaticIs s "java/lang/String" "COMPACT_STRINGS" "Z" (.int z) ∧ ¬ z = 0 ∧ 0 < A.slots.size ∧ A.slots.size ≤ 536870912 ∧ ∀ i, i < A.slots.size → ¬ 255 < cv A i
def E (a : Addr) (D : Cell) (fV fC : Field) (A : Cell) (r : Option Value) (s u : State) : Prop := Got a D fV fC A 0 A.slots.size r s u
/-- new String(chars), not empty, no char above 255: a Latin-1 String of their low bytes -/
theorem law (l : Launch) (a : Addr) (D : Cell) (fV fC : Field) (b : Addr) (A : Cell) (z : Int32) : Law l yN 2 1 3 52 yB 2 none site (P a D fV fC b A z) (E a D fV fC A) [⟨a, fC.slot⟩, ⟨a, fV.slot⟩] 1 A.slots.size := by
  refine Law.of_walk (plainFor_of_name (by decide +kernel)) (by decide +kernel) (by decide +kernel) (by decide) (fun _ _ h => by rw [h.1]; rfl) (fun _ U U' hal hh h => ⟨h.1, h.2.1.mv hal hh, h.2.2.1.al hal, h.2.2.2.1.al hal, h.2.2.2.2.1.mv hal hh, h.2.2.2.2.2.1.there hal hh, h.2.2.2.2.2.2⟩) (fun r U U' V V' h1 hal h2 h => Got.mv r U U' V V' h1 hal h2 h) ?_
  intro p e s m args below meth c s₁ X0 hexec hbytes hml hret hlk hnm hown hh0 W hP
  obtain ⟨rfl, hB, f1, f2, hA, s1, hz, l0, l2, hp⟩ := hP
  have c1 : Steps p.tables e below (s₁.setTop (entryFrame m #[.ref a, .ref b] 2)) (s₁.setTop (mkF m 0 #[.val (.ref a), .val (.ref b)] [])) := entry rfl
  have c2 : Steps p.tables e below (s₁.setTop (entryFrame m #[.ref a, .ref b] 2)) (s₁.setTop (mkF m 6 #[.val (.ref a), .val (.ref b)] [.null, .int (Int32.ofNat A.slots.size), .int 0, .ref b, .ref a])) := c1.trans (by
    refine XS.aloadN X0.here hexec rfl (hb hbytes d0) rfl rfl ?_
    refine XS.aloadN X0.here hexec rfl (hb hbytes d1) rfl rfl ?_
    refine iconstV X0.here hexec rfl 0 (hb hbytes d2) (by decide) ?_
    refine XS.aloadN X0.here hexec rfl (hb hbytes d3) rfl rfl ?_
    refine X0.alen hexec (hA.1.mv X0.warmed.alike hh0) rfl rfl (hb hbytes d4) ?_
    refine XS.aconstNull X0.here hexec rfl (hb hbytes d5) ?_
    exact Steps.refl _)
  obtain ⟨v3, T3, X3, E3, g3⟩ := X0.callN hexec (New4.law l a D fV fC b A z 0 A.slots.size) rfl hown (wks W (initW "java/lang/String" 27 New4.yN)) (W New4.tab (by simp only [site, List.mem_cons, List.mem_append, true_or, or_true])) (W := 0) (Nat.le_of_ble_eq_true rfl) (Nat.le_of_ble_eq_true rfl) (Nat.le_refl _) (by show 0 + A.slots.size ≤ A.slots.size; omega) (g := (mkF m 6 #[.val (.ref a), .val (.ref b)] [.null, .int (Int32.ofNat A.slots.size), .int (Int32.ofNat 0), .ref b, .ref a])) rfl (by rw [hml]; rfl) c2 (argsL := [.ref b, .int (Int32.ofNat 0), .int (Int32.ofNat A.slots.size), .null]) (rest := []) rfl rfl (by show 2 * 0 + 0 ≤ _; decide) (hb hbytes d6) (⟨rfl, hB.mv X0.warmed.alike hh0, f1.al X0.warmed.alike, f2.al X0.warmed.alike, hA.mv X0.warmed.alike hh0, s1.there X0.warmed.alike hh0, hz, l0, by omega, l2, fun i hi => by rw [Nat.zero_add]; exact hp i hi⟩)
  have e0 := Got.mv _ s₁ s _ _ hh0.symm (Vm.Alike.refl _) rfl E3
  obtain rfl := e0.1
  have c4 : Steps p.tables e below (s₁.setTop (entryFrame m #[.ref a, .ref b] 2)) (T3.setTop (mkF m 9 #[.val (.ref a), .val (.ref b)] [])) := g3
  exact ⟨T3, none, _, _, _, X3, by simp, rfl, by omega, (fun _ => rfl), e0, fun fs hl => c4.trans (X3.returnOut hexec hret (hb hbytes d9) hl)⟩
theorem pays {l : Launch} {R : Room} {p : Program} {e : Env} {below : List Frame} {s : State} {sargs : Array Value} {len W : Nat} (a : Addr) (D : Cell) (fV fC : Field) (b : Addr) (A : Cell) (z : Int32) (htab : tab.before sargs s = true) (hfr : 4 ≤ R.frames) (hlo : W + 65 ≤ R.locals) :
    Back l R p e below s sargs yN len W (fun A₁ a₁ => A₁.cells + 1 ≤ R.cells ∧ A₁.slots + A.slots.size ≤ R.slots ∧ P a D fV fC b A z a₁ A₁.U) (fun A₁ _ v₁ B₁ => E a D fV fC A v₁ A₁.U B₁.U ∧ B₁.locs = A₁.locs ++ [⟨a, fC.slot⟩, ⟨a, fV.slot⟩] ∧ B₁.cells = A₁.cells + 1 ∧ B₁.slots = A₁.slots + A.slots.size) :=
  (law l a D fV fC b A z).pays htab hfr (by omega)
end New1
end StrChars
namespace StrChars.Road
open Jvm Sem ClassFile Op Lib Jvm.Stand Jvm.Free Jvm.Free.XT
open Jvm.Lib.Cold (StaticIs)
abbrev ST : String := "java/lang/String"
/-- every table word that New1's law asks, flat -/
abbrev words : List Jvm.Cond := [.code New1.yN New1.yB 2 none, .initialized ST, .methodLink ST 27 New4.yN, .instanceMethod New4.yN,
  .code New4.yN New4.yB 6 none, .fieldLink ST 38 ST "COMPACT_STRINGS" "Z", .laysFinal ST ST "value" "[B", .fieldLink ST 9 ST "value" "[B", .laysFinal ST ST "coder" "B", .fieldLink ST 15 ST "coder" "B",
  .methodLink ST 1 Lib.objectInit, .instanceMethod Lib.objectInit, .code Lib.objectInit ⟨#[0xb1]⟩ 1 none, .methodLink ST 177 Cmp3.yN, .static Cmp3.yN, .methodLink ST 47 CodL.yN, .static CodL.yN,
  .code Cmp3.yN Cmp3.yB 6 (some (.array .byte)), .initialized U16, .arrayClass .byte, .methodLink U16 115 Cmp5.yN, .static Cmp5.yN, .code Cmp5.yN Cmp5.yB 7 (some .int), .code CodL.yN CodL.yB 2 (some .byte)]
theorem tab_of {a : Array Value} {s : State} (h : ∀ w ∈ words, w.before a s = true) : New1.tab.before a s = true := by
  have h5 : Cmp5.tab.before a s = true := unparts (wk h (.code Cmp5.yN Cmp5.yB 7 (some .int))) (wks h (.initialized Cmp5.yN.cls :: Cmp5.site))
  have hc : CodL.tab.before a s = true := unparts (wk h (.code CodL.yN CodL.yB 2 (some .byte))) (wks h (.initialized CodL.yN.cls :: CodL.site))
  have q5 : ∀ w ∈ Cmp5.tab :: words, w.before a s = true := fun w hw => (List.mem_cons.mp hw).elim (fun e => e ▸ h5) (h w)
  have h3 : Cmp3.tab.before a s = true := unparts (wk q5 (.code Cmp3.yN Cmp3.yB 6 (some (.array .byte)))) (wks q5 (.initialized Cmp3.yN.cls :: Cmp3.site))
  have q3 : ∀ w ∈ Cmp3.tab :: CodL.tab :: words, w.before a s = true := fun w hw => (List.mem_cons.mp hw).elim (fun e => e ▸ h3) fun hw => (List.mem_cons.mp hw).elim (fun e => e ▸ hc) (h w)
  have h4 : New4.tab.before a s = true := unparts (wk q3 (.code New4.yN New4.yB 6 none)) (wks q3 (.initialized New4.yN.cls :: New4.site))
  have q4 : ∀ w ∈ New4.tab :: words, w.before a s = true := fun w hw => (List.mem_cons.mp hw).elim (fun e => e ▸ h4) (h w)
  exact unparts (wk q4 (.code New1.yN New1.yB 2 none)) (wks q4 (.initialized New1.yN.cls :: New1.site))
/-- the words ride from the start Z to the walk's own state -/
theorem moved {Z s : State} {a0 args : Array Value} (hZ : Z.Warmed39 s.vm) (hw : ∀ d ∈ words, d.before a0 Z = true) : ∀ d ∈ words, d.before args s = true := fun d hd => by
  have q := hw d hd
  have t : ∀ d ∈ words, d = .arrayClass .byte ∨ (d.onTables && d.keepsFace) = true := by decide +kernel
  rcases t d hd with rfl | t
  · exact RoadKit.mvA hZ q
  · exact RoadKit.mv hZ q t
/-- WHAT COMES BACK, over the tables of the start Z: h the heap at the call, h' behind it -/
def Q (Z : State) (x : Addr) (A : Cell) (h : Heap) (v : Option Value) (h' : Heap) (L : List Loc) : Prop := v = none ∧ (∀ y ∈ L, y.base = x) ∧ RoadKit.Keep h h' [x] ∧ h'.size = h.size + 1 ∧ RoadKit.Exa Z h' x ST ∧ RoadKit.Fld Z h' x ST "value" "[B" (.ref h.size) ∧ RoadKit.Fld Z h' x ST "coder" "B" (.int 0) ∧
  (∃ V : Cell, RoadKit.Arr Z h' h.size V .byte ∧ V.vm = .none ∧ Z.vm.findClass "[B" = some V.cls ∧ V.slots.size = A.slots.size ∧ ∀ j, j < A.slots.size → V.slots[j]? = some (.int (lo8 (cv A j)))) ∧
  ∀ (O n d : String) (w : Value), RoadKit.Fld Z h x O n d w → RoadKit.slotOf Z O n d ≠ RoadKit.slotOf Z ST "value" "[B" → RoadKit.slotOf Z O n d ≠ RoadKit.slotOf Z ST "coder" "B" → RoadKit.Fld Z h' x O n d w
/-- **new String(chars) AT A CALL, IN THE ROAD'S FORM**: for specialBack behind newO: x the fresh String, b the char[] with the cell A -/
theorem back {p : Program} {l : Launch} {e : Env} {R : Room} {s : State} {args : Array Value} {below : List Frame} {len W : Nat} {Z : State} {a0 : Array Value} {h : Heap} (hZ : Z.Warmed39 s.vm) (hw : ∀ d ∈ words, d.before a0 Z = true) {kI : Nat} (wi : (Jvm.Cond.instantiable ST kI).before a0 Z = true)
    {x b : Addr} {A : Cell} {z : Int32} {v0 c0 : Value} (E : RoadKit.Exa Z h x ST) (V : RoadKit.Fld Z h x ST "value" "[B" v0) (C : RoadKit.Fld Z h x ST "coder" "B" c0) (K : RoadKit.Arr Z h b A .char) (hty : Typed .char A) (S : RoadKit.Sta Z h ST "COMPACT_STRINGS" "Z" (.int z)) (hz : ¬ z = 0)
    (l0 : 0 < A.slots.size) (l2 : A.slots.size ≤ 536870912) (hp : ∀ i, i < A.slots.size → ¬ 255 < cv A i) (hfr : 4 ≤ R.frames) (hlo : W + 65 ≤ R.locals) :
    Back l R p e below s args New1.yN len W (fun P a => a = #[.ref x, .ref b] ∧ P.U.heap = h ∧ P.cells + 1 ≤ R.cells ∧ P.slots + A.slots.size ≤ R.slots)
      (fun P _ v B => ∃ L, Q Z x A h v B.U.heap L ∧ B.locs = P.locs ++ L ∧ B.cells = P.cells + 1 ∧ B.slots = P.slots + A.slots.size) := by
  intro m meth c P g ig mk a X hg hsize hdg hW hn hp'
  obtain ⟨rfl, rfl, r1, r2⟩ := hp'
  have al : Z.vm.Alike P.U.vm := hZ.alike.trans X.warmed.alike
  obtain ⟨D, cfV, kV, iV, fV, hD, gV, stV, knV, obV, asV, slV⟩ := id V
  obtain ⟨D', cfC, kC, iC, fC, hD', gC, stC, -, -, asC, slC⟩ := id C
  cases hD.symm.trans hD'
  obtain ⟨D2, kD, e1, e2, e3, e4, e5⟩ := id E
  cases hD.symm.trans e1
  obtain ⟨c2, k2, i1, i2, i3, -⟩ := Cond.instantiable_spec wi
  cases e2.symm.trans i1
  cases e3.symm.trans i2
  obtain ⟨kU, u1, u2⟩ := al.2.2 _ _ e3
  have hB : Blank ST x D P.U := ⟨hD, ⟨knV, fun q hq => by rw [hq] at obV; cases obV⟩, by rw [al.findClass]; exact e2, kU, u1, by rw [u2]; exact i3, by rw [u2]; exact e5 i3⟩
  have F1 : Found ST "value" "[B" fV P.U := ⟨SBG.found_only al ⟨cfV, kV, iV, gV⟩, stV⟩
  have F2 : Found ST "coder" "B" fC P.U := ⟨SBG.found_only al ⟨cfC, kC, iC, gC⟩, stC⟩
  have hA : Ch b A P.U := ⟨⟨K.1, State.isArrayOf_alike al K.2.1, K.2.2, by omega⟩, hty⟩
  have hS : StaticIs P.U ST "COMPACT_STRINGS" "Z" (.int z) := by
    obtain ⟨cfS, iS, kS, fS, st, cS, t1, t2, t3, t4, t5, t6, t7⟩ := S
    exact StaticIs.there (s := { Z with heap := P.U.heap }) ⟨cfS, iS, kS, fS, st, cS, t1, t2, t3, t4, t5, (fun q => by rw [q] at t6; cases t6), t7⟩ al rfl
  obtain ⟨v, B, X', ⟨⟨hv, E', V', q1, q2, q3, q4, q5, q6, q7, q8, q9, q10, q11⟩, hl, hc, hs⟩, st⟩ := New1.pays x D fV fC b A z (tab_of (moved hZ hw)) hfr hlo m meth c P g ig mk _ X hg hsize hdg hW hn ⟨r1, r2, rfl, hB, F1, F2, hA, hS, hz, l0, l2, hp⟩
  have al' : Z.vm.Alike B.U.vm := hZ.alike.trans X'.warmed.alike
  have hsz : E'.slots.size = D.slots.size := by
    obtain ⟨-, -, -, kB, w1, w2, w3⟩ := q1
    obtain ⟨kB', y1, y2⟩ := al'.2.2 _ _ e3
    rw [q2.2.1] at w1
    cases w1.symm.trans y1
    rw [w3, e5 i3, y2]
  refine ⟨v, B, X', ⟨_, ⟨hv, ?_, ⟨by omega, fun y cy hy hn' => q10 y cy (by simpa using hn') hy, fun y cy hy => ?_⟩, q11, ⟨E', _, q1.1, by rw [q2.2.1]; exact e2, by rw [q2.2.1]; exact e3, by rw [q2.1]; exact obV, fun _ => by rw [hsz]; exact e5 i3⟩,
    ⟨E', cfV, kV, iV, fV, q1.1, gV, stV, by rw [q2.1]; exact knV, by rw [q2.1]; exact obV, by rw [q2.2.1]; exact asV, q3⟩, ⟨E', cfC, kC, iC, fC, q1.1, gC, stC, by rw [q2.1]; exact knV, by rw [q2.1]; exact obV, by rw [q2.2.1]; exact asC, q4⟩,
    ⟨V', ⟨q5.1, State.isArrayOf_alike al'.symm q5.2.1, q5.2.2.1⟩, q6, by rw [← al'.findClass]; exact q7, q8, fun j hj => by have := q9 j hj; rwa [Nat.zero_add] at this⟩, fun O n d w F n1 n2 => ?_⟩, hl, hc, hs⟩, st⟩
  · intro y hy
    simp only [List.mem_cons, List.not_mem_nil, or_false] at hy
    rcases hy with rfl | rfl <;> rfl
  · by_cases q : y = x
    · subst q
      cases hD.symm.trans hy
      exact ⟨E', q1.1, q2.2.1, q2.1, hsz⟩
    · exact ⟨cy, q10 y cy q hy, rfl, rfl, rfl⟩
  · obtain ⟨D3, cf, k, i, f, g1, g2, g3, g4, g5, g6, g7⟩ := F
    cases hD.symm.trans g1
    simp only [RoadKit.slotOf, g2, gV, gC, Option.map_some, Option.getD_some] at n1 n2
    exact ⟨E', cf, k, i, f, q1.1, g2, g3, by rw [q2.1]; exact g4, by rw [q2.1]; exact g5, by rw [q2.2.1]; exact g6, by rw [q2.2.2 f.slot (by simp [n1, n2])]; exact g7⟩
end StrChars.Road
namespace StrChars.Road
open Jvm Sem ClassFile Op Lib Jvm.Stand Jvm.Free Jvm.Free.XT
/-- WHAT COMES BACK, the byte[] as a list of values -/
def QA (Z : State) (x : Addr) (zn : Int32) (cs : List Int32) (h : Heap) (v : Option Value) (h' : Heap) (L : List Loc) : Prop := v = none ∧ (∀ y ∈ L, y.base = x) ∧ RoadKit.Keep h h' [x] ∧ h'.size = h.size + 1 ∧ RoadKit.Exa Z h' x ST ∧ RoadKit.Fld Z h' x ST "value" "[B" (.ref h.size) ∧ RoadKit.Fld Z h' x ST "coder" "B" (.int 0) ∧
  (∃ kb, Z.vm.findClass "[B" = some kb ∧ RoadKit.Arv Z h' h.size kb .byte zn (cs.map fun c => .int (lo8 c)) (.int 0)) ∧
  ∀ (O n d : String) (w : Value), RoadKit.Fld Z h x O n d w → RoadKit.slotOf Z O n d ≠ RoadKit.slotOf Z ST "value" "[B" → RoadKit.slotOf Z O n d ≠ RoadKit.slotOf Z ST "coder" "B" → RoadKit.Fld Z h' x O n d w
/-- **new String(chars) AT A CALL, THE ARRAYS AS LISTS**: the char[] at b holds cs, not empty, no char above 255 -/
theorem backArv {p : Program} {l : Launch} {e : Env} {R : Room} {s : State} {args : Array Value} {below : List Frame} {len W : Nat} {Z : State} {a0 : Array Value} {h : Heap} (hZ : Z.Warmed39 s.vm) (hw : ∀ d ∈ words, d.before a0 Z = true) {kI : Nat} (wi : (Jvm.Cond.instantiable ST kI).before a0 Z = true)
    {x b : Addr} {k : ClassId} {zn z : Int32} {cs : List Int32} {dv v0 c0 : Value} (E : RoadKit.Exa Z h x ST) (V : RoadKit.Fld Z h x ST "value" "[B" v0) (C : RoadKit.Fld Z h x ST "coder" "B" c0) (K : RoadKit.Arv Z h b k .char zn (cs.map Value.int) dv) (S : RoadKit.Sta Z h ST "COMPACT_STRINGS" "Z" (.int z)) (hz : ¬ z = 0)
    (hlen : zn.toNatClampNeg = cs.length) (h0 : 0 < cs.length) (hbig : cs.length ≤ 536870912) (hall : ∀ c ∈ cs, ¬ 255 < c) (hfr : 4 ≤ R.frames) (hlo : W + 65 ≤ R.locals) :
    Back l R p e below s args New1.yN len W (fun P a => a = #[.ref x, .ref b] ∧ P.U.heap = h ∧ P.cells + 1 ≤ R.cells ∧ P.slots + cs.length ≤ R.slots)
      (fun P _ v B => ∃ L, QA Z x zn cs h v B.U.heap L ∧ B.locs = P.locs ++ L ∧ B.cells = P.cells + 1 ∧ B.slots = P.slots + cs.length) := by
  obtain ⟨A, K1, K2, K3, K4, K5, K6⟩ := K
  have e : A.slots.size = cs.length := K3.trans hlen
  have hat : ∀ (i : Nat) (hi : i < cs.length), A.slots[i]? = some (.int cs[i]) := fun i hi => by rw [K5 i (by omega)]; simp [List.getD_eq_getElem?_getD, hi]
  have hcv : ∀ (i : Nat) (hi : i < cs.length), cv A i = cs[i] := fun i hi => by unfold cv; rw [hat i hi]
  have hty : Typed .char A := fun i v hv => by
    have hi : i < A.slots.size := (Array.getElem?_eq_some_iff.mp hv).1
    have q := K5 i hi
    rw [hv] at q
    rw [Option.some.inj q]
    exact K6 i hi
  refine Back.mono (back hZ hw wi E V C K1 hty S hz (by omega) (by omega) (fun i hi => by rw [hcv i (by omega)]; exact hall _ (List.getElem_mem _)) hfr hlo) (fun P a hp => ⟨hp.1, hp.2.1, hp.2.2.1, by rw [e]; exact hp.2.2.2⟩) (fun P a v B hp hq => ?_)
  obtain ⟨L, ⟨q1, q2, q3, q4, q5, q6, q7, ⟨V', v1, v2, v3, v4, v5⟩, q9⟩, hl, hc, hs⟩ := hq
  refine ⟨L, ⟨q1, q2, q3, q4, q5, q6, q7, ⟨V'.cls, v3, V', v1, rfl, by rw [v4, e, hlen], K4, fun i hi => ?_, fun i hi => ?_⟩, q9⟩, hl, hc, by rw [hs, e]⟩
  · have hi' : i < cs.length := by omega
    rw [v5 i (by omega), hcv i hi']; simp [List.getD_eq_getElem?_getD, hi']
  · have hi' : i < cs.length := by omega
    simp only [List.getD_eq_getElem?_getD, List.getElem?_map, List.getElem?_eq_getElem hi', Option.map_some, Option.getD_some]
    exact fits_lo8 _
end StrChars.Road
namespace StrChars.Road
open Jvm Sem ClassFile Op Lib Jvm.Stand Jvm.Free Jvm.Free.XT
/-- WHAT COMES BACK, in the writer's own shape -/
def QV (Z : State) (x : Addr) (N : Int32) (bs : List Int32) (h : Heap) (n0 : Nat) (v : Option Value) (h' : Heap) (L : List Loc) : Prop := v = none ∧ RoadKit.Fr n0 L ∧ RoadKit.Keep h h' [x] ∧ RoadKit.Exa Z h' x ST ∧ RoadKit.Fld Z h' x ST "coder" "B" (.int 0) ∧
  ∃ (t : Addr) (kb : ClassId), n0 ≤ t ∧ h.size ≤ t ∧ ¬ t = x ∧ RoadKit.Fld Z h' x ST "value" "[B" (.ref t) ∧ RoadKit.Arv Z h' t kb .byte N (bs.map Value.int) (.int 0)
/-- **new String(chars) AT A CALL, FOR THE WRITER**: a char[] of n known ints, each 0 to 255 -/
theorem backV {p : Program} {l : Launch} {e : Env} {R : Room} {s : State} {args : Array Value} {below : List Frame} {len W : Nat} {Z : State} {a0 : Array Value} {h : Heap} (hZ : Z.Warmed39 s.vm) (hw : ∀ d ∈ words, d.before a0 Z = true) {kI : Nat} (wi : (Jvm.Cond.instantiable ST kI).before a0 Z = true)
    {x b : Addr} {kC : ClassId} {cs bs : List Int32} {d v0 c0 : Value} {z N : Int32} {n n0 : Nat} (hx0 : n0 ≤ x) (hh0 : n0 ≤ h.size) (E : RoadKit.Exa Z h x ST) (V : RoadKit.Fld Z h x ST "value" "[B" v0) (C : RoadKit.Fld Z h x ST "coder" "B" c0) (K : RoadKit.Arv Z h b kC .char N (cs.map Value.int) d) (S : RoadKit.Sta Z h ST "COMPACT_STRINGS" "Z" (.int z)) (hz : ¬ z = 0)
    (hn : cs.length = n) (hN : N = Int32.ofNat n) (l0 : 0 < n) (l2 : n ≤ 4000) (hp : ∀ c ∈ cs, ¬ c < 0 ∧ ¬ (255 : Int32) < c) (hb : bs = cs.map (fun c => c.toInt8.toInt32)) (hfr : 4 ≤ R.frames) (hlo : W + 65 ≤ R.locals) :
    Back l R p e below s args (⟨"java/lang/String", "<init>", "([C)V"⟩ : MethodName) len W (fun P a => a = #[.ref x, .ref b] ∧ P.U.heap = h ∧ P.cells + 1 ≤ R.cells ∧ P.slots + n ≤ R.slots)
      (fun P _ v B => ∃ L, QV Z x N bs h n0 v B.U.heap L ∧ B.locs = P.locs ++ L ∧ B.cells = P.cells + 1 ∧ B.slots = P.slots + n) := by
  subst hn hN hb
  refine Back.mono (backArv hZ hw wi E V C K S hz (n32 (by omega)) l0 (by omega) (fun c hc => (hp c hc).2) hfr hlo) (fun P a hp => hp) (fun P a v B hp hq => ?_)
  obtain ⟨L, ⟨q1, q2, q3, q4, q5, q6, q7, ⟨kb, v1, v2⟩, q9⟩, hl, hc, hs⟩ := hq
  exact ⟨L, ⟨q1, fun y hy => by rw [q2 y hy]; exact hx0, q3, q5, q7, h.size, kb, hh0, Nat.le_refl _, Nat.ne_of_gt E.lt, q6, by rw [List.map_map]; exact v2⟩, hl, hc, hs⟩
end StrChars.Road
end Jvm.Pilot.@@N@@
namespace Jvm.Pilot.@@N@@
open Jvm Jvm.ClassFile Sem Op Lib Jvm.Free Jvm.Stand Jvm.LawKit Jvm.RoadKit Bundle Jvm.Pilot.@@N@@.Jvm.D
def QR (Z : State) (r : Option Value) (h0 : Heap) (n0 : Nat) (v : Option Value) (h : Heap) (L : List Loc) : Prop := v = r ∧ Fr n0 L ∧ h = h0
def Q0 (Z : State) (h0 : Heap) (n0 : Nat) (v : Option Value) (h : Heap) (L : List Loc) : Prop := v = some (.int (1 : Int32)) ∧ Fr n0 L
abbrev own_KC : String := "com/example/stubwright/stubwright/read/Token$Kind"
abbrev own_KD : String := "Lcom/example/stubwright/stubwright/read/Token$Kind;"
theorem own_words : ∀ d ∈ StrChars.Road.words, d ∈ tables_1 := by decide +kernel
theorem own_cw {Z : State} {a0 : Array Value} (hw : ∀ d ∈ tables_1, d.before a0 Z = true) : ∀ d ∈ StrChars.Road.words, d.before a0 Z = true := fun d hd => hw d (own_words d hd)
theorem own_sta {Z : State} {h0 h : Heap} {C n d : String} {v : Value} (F : Sta Z h0 C n d v) (K : Keep h0 h []) : Sta Z h C n d v := by
  obtain ⟨cf, i, k, f, st, cell, h1, h2, h3, h4, h5, r⟩ := F
  exact ⟨cf, i, k, f, st, cell, h1, h2, h3, h4, K.2.1 _ _ h5 (by simp), r⟩
theorem own_256 (x : Int32) : ∃ k : Fin 256, (x &&& (255 : Int32)) = Int32.ofNat k.val := by
  have h : (x &&& 255).toBitVec.toNat < 256 := by
    simp only [Int32.toBitVec_and, BitVec.toNat_and]
    exact Nat.lt_succ_of_le Nat.and_le_right
  refine ⟨⟨_, h⟩, ?_⟩
  apply Int32.toBitVec_inj.mp
  show _ = BitVec.ofNat 32 _
  rw [BitVec.ofNat_toNat]; simp
theorem own_ch (x : Int32) : ¬ nar .char ((x &&& (255 : Int32)).toUInt32.toUInt16.toUInt32.toInt32) < 0 ∧ ¬ (255 : Int32) < nar .char ((x &&& (255 : Int32)).toUInt32.toUInt16.toUInt32.toInt32) := by
  obtain ⟨k, e⟩ := own_256 x
  rw [e]
  exact (by decide +kernel : ∀ k : Fin 256, ¬ nar .char ((Int32.ofNat k.val).toUInt32.toUInt16.toUInt32.toInt32) < 0 ∧ ¬ (255 : Int32) < nar .char ((Int32.ofNat k.val).toUInt32.toUInt16.toUInt32.toInt32)) k
theorem own_two {x y : Int32} : ∀ c ∈ [nar .char ((x &&& (255 : Int32)).toUInt32.toUInt16.toUInt32.toInt32), nar .char ((y &&& (255 : Int32)).toUInt32.toUInt16.toUInt32.toInt32)], ¬ c < 0 ∧ ¬ (255 : Int32) < c := by
  intro c hc
  simp only [List.mem_cons, List.not_mem_nil, or_false] at hc
  rcases hc with rfl | rfl
  · exact own_ch x
  · exact own_ch y
/-- the constant that kindOf(m) names -/
def own_kn (m : Int32) : String := if (m &&& (3 : Int32)) = 0 then "IDENTIFIER" else if (m &&& (3 : Int32)) = 1 then "KEYWORD" else if (m &&& (3 : Int32)) = 2 then "PUNCTUATOR" else "END"
theorem d2_0 : decode jdk_43_method_3_code 0 = .ok (.iload_n 0, 1) := by decide +kernel
theorem d2_1 : decode jdk_43_method_3_code 1 = .ok (.sipush 255, 3) := by decide +kernel
theorem d2_4 : decode jdk_43_method_3_code 4 = .ok (.if_icmp .gt 7, 3) := by decide +kernel
theorem d2_7 : decode jdk_43_method_3_code 7 = .ok (.iconst 1, 1) := by decide +kernel
theorem d2_8 : decode jdk_43_method_3_code 8 = .ok (.goto 4, 3) := by decide +kernel
theorem d2_11 : decode jdk_43_method_3_code 11 = .ok (.iconst 0, 1) := by decide +kernel
theorem d2_12 : decode jdk_43_method_3_code 12 = .ok (.ireturn, 1) := by decide +kernel
theorem pn_2 : plainName "java/lang/StringLatin1" = true := by first | (simp [plainName, overriddenIn]; done) | decide +kernel
theorem ef_2 (m : MethodId) (x0 : Int32) : entryFrame m #[(.int x0)] 1 = mkF m 0 #[.val (.int x0)] [] := by first | (simp [entryFrame, mkF, argsToLocals, Value.category]; done) | rfl
def own_f2 (p1 : Int32) : Int32 := (if (255 : Int32) < p1 then (0 : Int32) else (1 : Int32))
def Q2 (Z : State) (p1 : Int32) (h0 : Heap) (n0 : Nat) (v : Option Value) (h : Heap) (L : List Loc) : Prop := v = some (.int (own_f2 p1)) ∧ Fr n0 L ∧ h = h0
set_option maxRecDepth 65536 in
set_option maxHeartbeats 40000000 in
theorem rm2 (l : Launch) (Z : State) (a0 : Array Value) (hw : ∀ d ∈ tables_1, d.before a0 Z = true) (ws : List Jvm.Cond) (p1 : Int32) (h0 : Heap) (n0 : Nat) (Z0 : n0 ≤ h0.size) :
    MetFree l (⟨"java/lang/StringLatin1", "canEncode", "(C)Z"⟩ : MethodName) (head1 (Jvm.Cond.code (⟨"java/lang/StringLatin1", "canEncode", "(C)Z"⟩ : MethodName) jdk_43_method_3_code 1 (some .boolean) :: ws) ({ frames := 0, cells := 0, slots := 0, locals := 0 } : Room)) (fun a U => a = #[(.int p1)] ∧ Z.Warmed39 U.vm ∧ U.heap = h0) (fun _ _ _ _ _ => True) (fun _ U o U' => ∃ v L, o = .returned v ∧ Q2 Z p1 h0 n0 v U'.heap L ∧ FrameEnd U o U' L ({ frames := 0, cells := 0, slots := 0, locals := 0 } : Room).cells ({ frames := 0, cells := 0, slots := 0, locals := 0 } : Room).slots) := by
  refine MetFree.of_bodySF (plainFor_of_name pn_2) hisR ?_
  intro p e s m args below meth c s₁ Bd hml0 hP hK
  obtain ⟨rfl, hZ, hh⟩ := hP
  have hx := Bd.exec
  have hby := Bd.bytes
  have hml : c.maxLocals = 1 := hml0
  have hown : s.vm.findClass "java/lang/StringLatin1" = some m.cls := findClass_of_methodNamed Bd.named
  have hnm := (name_of_methodNamed Bd.named Bd.method).1
  have X0 : Stand p l e ({ frames := 0, cells := 0, slots := 0, locals := 0 } : Room) s m #[(.int p1)] below meth c s₁ [] 0 0 := Stand.of_body Bd
  have e0 : s₁.heap = h0 := by rw [← hh, Bd.state]; rfl
  have N0 := Fr.nil n0
  have pre0 : ∀ t, Steps p.tables e below (s₁.setTop (mkF m 0 #[.val (.int p1)] [])) t → Steps p.tables e below (s₁.setTop (entryFrame m #[(.int p1)] 1)) t := fun t k => castTop (ef_2 m p1) k
  obtain ⟨fs, hr, hrun, hended, hW, hsame⟩ := X0.leave (v := some (.int (own_f2 p1))) (fun h => by rw [Bd.returns] at h; cases h)
  refine ⟨_, _, pre0 _ ?_, hrun, hended, _, _, rfl, ?_, ⟨_, rfl⟩, hW, hsame.mono (by decide) (by decide)⟩
  · show Steps p.tables e below (s₁.setTop (mkF m 0 #[.val (.int p1)] [])) _
    refine XS.iloadN X0.here hx rfl (hb hby d2_0) rfl ?_
    show Steps p.tables e below (s₁.setTop (mkF m 1 #[.val (.int p1)] [(.int p1)])) _
    refine XS.sipush X0.here hx rfl (hb hby d2_1) ?_
    show Steps p.tables e below (s₁.setTop (mkF m 4 #[.val (.int p1)] [(.int (255 : Int32)), (.int p1)])) _
    by_cases hc4 : (255 : Int32) < p1
    · refine XS.icmpYes X0.here hx rfl (pc0 := 4) (pc' := 11) rfl (hb hby d2_4) rfl (tlt hc4).2.2.1 (by decide) (by decide) ?_
      show Steps p.tables e below (s₁.setTop (mkF m 11 #[.val (.int p1)] [])) _
      refine XS.iconst X0.here hx rfl (hb hby d2_11) ?_
      show Steps p.tables e below (s₁.setTop (mkF m 12 #[.val (.int p1)] [(.int (0 : Int32))])) _
      have hv : own_f2 p1 = (0 : Int32) := by simp only [own_f2, if_pos hc4]
      rw [hv] at hr
      exact retN X0 hx (t := .boolean) Bd.returns (by simp) (hb hby d2_12) hr
    · refine XS.icmpNo X0.here hx rfl (hb hby d2_4) rfl (flt hc4).2.2.1 ?_
      show Steps p.tables e below (s₁.setTop (mkF m 7 #[.val (.int p1)] [])) _
      refine XS.iconst X0.here hx rfl (hb hby d2_7) ?_
      show Steps p.tables e below (s₁.setTop (mkF m 8 #[.val (.int p1)] [(.int (1 : Int32))])) _
      refine XS.goto X0.here hx rfl (pc0 := 8) (pc' := 12) rfl (hb hby d2_8) (by decide) (by decide) ?_
      show Steps p.tables e below (s₁.setTop (mkF m 12 #[.val (.int p1)] [(.int (1 : Int32))])) _
      have hv : own_f2 p1 = (1 : Int32) := by simp only [own_f2, if_neg hc4]
      rw [hv] at hr
      exact retN X0 hx (t := .boolean) Bd.returns (by simp) (hb hby d2_12) hr
  · show Q2 Z p1 h0 n0 _ s₁.heap _
    rw [e0]
    exact ⟨rfl, N0, rfl⟩
theorem own_enc (x : Int32) : ¬ (own_f2 ((x &&& (255 : Int32)).toUInt32.toUInt16.toUInt32.toInt32)) = (0 : Int32) := by
  obtain ⟨k, e⟩ := own_256 x
  rw [e]
  exact (by decide +kernel : ∀ k : Fin 256, ¬ (own_f2 ((Int32.ofNat k.val).toUInt32.toUInt16.toUInt32.toInt32)) = (0 : Int32)) k
theorem d3_0 : decode jdk_43_method_46_code 0 = .ok (.iconst 1, 1) := by decide +kernel
theorem d3_1 : decode jdk_43_method_46_code 1 = .ok (.newarray .byte, 2) := by decide +kernel
theorem d3_3 : decode jdk_43_method_46_code 3 = .ok (.dup, 1) := by decide +kernel
theorem d3_4 : decode jdk_43_method_46_code 4 = .ok (.iconst 0, 1) := by decide +kernel
theorem d3_5 : decode jdk_43_method_46_code 5 = .ok (.iload_n 0, 1) := by decide +kernel
theorem d3_6 : decode jdk_43_method_46_code 6 = .ok (.i2b, 1) := by decide +kernel
theorem d3_7 : decode jdk_43_method_46_code 7 = .ok (.bastore, 1) := by decide +kernel
theorem d3_8 : decode jdk_43_method_46_code 8 = .ok (.areturn, 1) := by decide +kernel
theorem pn_3 : plainName "java/lang/StringLatin1" = true := by first | (simp [plainName, overriddenIn]; done) | decide +kernel
theorem ef_3 (m : MethodId) (x0 : Int32) : entryFrame m #[(.int x0)] 1 = mkF m 0 #[.val (.int x0)] [] := by first | (simp [entryFrame, mkF, argsToLocals, Value.category]; done) | rfl
def Q3 (Z : State) (p1 : Int32) (h0 : Heap) (n0 : Nat) (v : Option Value) (h : Heap) (L : List Loc) : Prop := ∃ b, v = some (.ref b) ∧ Fr n0 L ∧ Keep h0 h [] ∧ h0.size ≤ b
set_option maxRecDepth 65536 in
set_option maxHeartbeats 40000000 in
theorem rm3 (l : Launch) (Z : State) (a0 : Array Value) (hw : ∀ d ∈ tables_1, d.before a0 Z = true) (ws : List Jvm.Cond) (p1 : Int32) (h0 : Heap) (n0 : Nat) (Z0 : n0 ≤ h0.size) :
    MetFree l (⟨"java/lang/StringLatin1", "toBytes", "(C)[B"⟩ : MethodName) (head1 (Jvm.Cond.code (⟨"java/lang/StringLatin1", "toBytes", "(C)[B"⟩ : MethodName) jdk_43_method_46_code 1 (some (.array .byte)) :: ws) ({ frames := 0, cells := 1, slots := 1, locals := 0 } : Room)) (fun a U => a = #[(.int p1)] ∧ Z.Warmed39 U.vm ∧ U.heap = h0) (fun _ _ _ _ _ => True) (fun _ U o U' => ∃ v L, o = .returned v ∧ Q3 Z p1 h0 n0 v U'.heap L ∧ FrameEnd U o U' L ({ frames := 0, cells := 1, slots := 1, locals := 0 } : Room).cells ({ frames := 0, cells := 1, slots := 1, locals := 0 } : Room).slots) := by
  refine MetFree.of_bodySF (plainFor_of_name pn_3) hisR ?_
  intro p e s m args below meth c s₁ Bd hml0 hP hK
  obtain ⟨rfl, hZ, hh⟩ := hP
  have hx := Bd.exec
  have hby := Bd.bytes
  have hml : c.maxLocals = 1 := hml0
  have hown : s.vm.findClass "java/lang/StringLatin1" = some m.cls := findClass_of_methodNamed Bd.named
  have hnm := (name_of_methodNamed Bd.named Bd.method).1
  have X0 : Stand p l e ({ frames := 0, cells := 1, slots := 1, locals := 0 } : Room) s m #[(.int p1)] below meth c s₁ [] 0 0 := Stand.of_body Bd
  have e0 : s₁.heap = h0 := by rw [← hh, Bd.state]; rfl
  have N0 := Fr.nil n0
  have pre0 : ∀ t, Steps p.tables e below (s₁.setTop (mkF m 0 #[.val (.int p1)] [])) t → Steps p.tables e below (s₁.setTop (entryFrame m #[(.int p1)] 1)) t := fun t k => castTop (ef_3 m p1) k
  -- 3. LAWS
  obtain ⟨T2, h2, k2, X2, e2, E2, A2, st2⟩ := newP X0 hx hZ (hw _ (List.mem_of_getElem? (i := 14) rfl)) e0 (g := (mkF m 1 #[.val (.int p1)] [(.int (1 : Int32))])) rfl (hb hby d3_1) rfl (by decide) (cap := 1) (by decide) (by decide) (by decide) (by decide)
  obtain ⟨b2, g2⟩ : ∃ z, z = h0.size := ⟨_, rfl⟩      -- the fresh array's address
  rw [← g2] at A2 st2
  have V_b2 : Arv Z h2 b2 k2 .byte (1 : Int32) [(.int (0 : Int32))] (.int (0 : Int32)) := (Arv.new A2 (by decide)).pad (pad_rep [] (.int (0 : Int32)) 1)
  have g_b2 : n0 ≤ b2 := Nat.le_trans Z0 (Nat.le_of_eq g2.symm)
  have sz_b2 : h0.size ≤ b2 := (Nat.le_trans (Keep.refl h0 []).1 (Nat.le_of_eq g2.symm))
  have K2 : Keep h0 h2 [] := (Keep.refl h0 []).ext E2
  obtain ⟨cl_b2_7, Ar_b2, q_b2, S_b2, N_b2, H_b2, G_b2⟩ := V_b2      -- open the array's fact as it stands now (its cell, kind, length, elements)
  have hin7 : ¬ ((0 : Int32) < 0 ∨ cl_b2_7.slots.size ≤ ((0 : Int32)).toNatClampNeg) := inb_of S_b2 ⟨by decide, by decide⟩
  obtain ⟨T3, h3, X3, e3, W3, st3⟩ := stB X2 hx hZ e2 Ar_b2 (j := (0 : Int32)) hin7 (g := (mkF m 7 #[.val (.int p1)] [(.int (p1.toInt8.toInt32)), (.int (0 : Int32)), (.ref b2), (.ref b2)])) rfl rfl (hb hby d3_7)
  have V_b2_3 := Arv.set Ar_b2 q_b2 S_b2 N_b2 H_b2 G_b2 (fits_nar_byte _) W3 0 rfl (Nat.le_of_ble_eq_true rfl)      -- the array as it stands now (the place must lie among its first values: Arv.pad with pad_rep lengthens them)
  have K3 : Keep h0 h3 [] := K2.wr W3 (Or.inr sz_b2)
  have N3 := Fr.snoc X3 N0 g_b2
  -- (bastore into a boolean[]: stZ in stB's place)
  obtain ⟨fs, hr, hrun, hended, hW, hsame⟩ := X3.leave (v := some (.ref b2)) (fun h => by rw [Bd.returns] at h; cases h)
  refine ⟨_, _, pre0 _ ?_, hrun, hended, _, _, rfl, ?_, ⟨_, rfl⟩, hW, hsame.mono (by decide) (by decide)⟩
  -- 4. STEPS
  · show Steps p.tables e below (s₁.setTop (mkF m 0 #[.val (.int p1)] [])) _
    refine XS.iconst X0.here hx rfl (hb hby d3_0) ?_
    show Steps p.tables e below (s₁.setTop (mkF m 1 #[.val (.int p1)] [(.int (1 : Int32))])) _
    refine st2 _ ?_
    show Steps p.tables e below (T2.setTop (mkF m 3 #[.val (.int p1)] [(.ref b2)])) _
    refine XS.dup X2.here hx rfl (hb hby d3_3) rfl rfl ?_
    show Steps p.tables e below (T2.setTop (mkF m 4 #[.val (.int p1)] [(.ref b2), (.ref b2)])) _
    refine XS.iconst X2.here hx rfl (hb hby d3_4) ?_
    show Steps p.tables e below (T2.setTop (mkF m 5 #[.val (.int p1)] [(.int (0 : Int32)), (.ref b2), (.ref b2)])) _
    refine XS.iloadN X2.here hx rfl (hb hby d3_5) rfl ?_
    show Steps p.tables e below (T2.setTop (mkF m 6 #[.val (.int p1)] [(.int p1), (.int (0 : Int32)), (.ref b2), (.ref b2)])) _
    refine XS.i2b X2.here hx rfl (hb hby d3_6) rfl ?_
    show Steps p.tables e below (T2.setTop (mkF m 7 #[.val (.int p1)] [(.int (p1.toInt8.toInt32)), (.int (0 : Int32)), (.ref b2), (.ref b2)])) _
    refine st3 _ ?_
    show Steps p.tables e below (T3.setTop (mkF m 8 #[.val (.int p1)] [(.ref b2)])) _
    jvm_step X3.here [X3.here.top, hx, (hb hby d3_8), X3.method', Bd.returns, Value.isRef, FieldType.isReference]
    first | (intro acts; rw [hr _ acts rfl rfl rfl]) | rw [hr _ _ rfl rfl rfl]
    exact Steps.refl _
  · show Q3 Z p1 h0 n0 _ T3.heap _
    rw [e3]
    exact ⟨b2, rfl, N3, K3, sz_b2⟩
theorem d4_0 : decode jdk_42_method_151_code 0 = .ok (.aload_n 0, 1) := by decide +kernel
theorem d4_1 : decode jdk_42_method_151_code 1 = .ok (.invokespecial 1, 3) := by decide +kernel
theorem d4_4 : decode jdk_42_method_151_code 4 = .ok (.aload_n 0, 1) := by decide +kernel
theorem d4_5 : decode jdk_42_method_151_code 5 = .ok (.aload_n 1, 1) := by decide +kernel
theorem d4_6 : decode jdk_42_method_151_code 6 = .ok (.putfield 9, 3) := by decide +kernel
theorem d4_9 : decode jdk_42_method_151_code 9 = .ok (.aload_n 0, 1) := by decide +kernel
theorem d4_10 : decode jdk_42_method_151_code 10 = .ok (.iload_n 2, 1) := by decide +kernel
theorem d4_11 : decode jdk_42_method_151_code 11 = .ok (.putfield 15, 3) := by decide +kernel
theorem d4_14 : decode jdk_42_method_151_code 14 = .ok (.return_, 1) := by decide +kernel
theorem pn_4 : plainName "java/lang/String" = true := by first | (simp [plainName, overriddenIn]; done) | decide +kernel
theorem ef_4 (m : MethodId) (x0 : Addr) (x1 : Addr) (x2 : Int32) : entryFrame m #[(.ref x0), (.ref x1), (.int x2)] 3 = mkF m 0 #[.val (.ref x0), .val (.ref x1), .val (.int x2)] [] := by first | (simp [entryFrame, mkF, argsToLocals, Value.category]; done) | rfl
def Q4 (Z : State) (a1 : Addr) (a2 : Addr) (p3 : Int32) (u_value_a1 : Value) (u_coder_a1 : Value) (h0 : Heap) (n0 : Nat) (v : Option Value) (h : Heap) (L : List Loc) : Prop := v = none ∧ Fr n0 L ∧ Keep h0 h [a1] ∧ Exa Z h a1 "java/lang/String" ∧ Fld Z h a1 "java/lang/String" "value" "[B" (.ref a2) ∧ Fld Z h a1 "java/lang/String" "coder" "B" (.int (nar .byte p3))
set_option maxRecDepth 65536 in
set_option maxHeartbeats 40000000 in
theorem rm4 (l : Launch) (Z : State) (a0 : Array Value) (hw : ∀ d ∈ tables_1, d.before a0 Z = true) (ws : List Jvm.Cond) (a1 : Addr) (a2 : Addr) (p3 : Int32) (u_value_a1 : Value) (u_coder_a1 : Value) (h0 : Heap) (n0 : Nat) (Z0 : n0 ≤ h0.size) (E_a1 : Exa Z h0 a1 "java/lang/String") (F_value_a1 : Fld Z h0 a1 "java/lang/String" "value" "[B" u_value_a1) (g_a1 : n0 ≤ a1) (F_coder_a1 : Fld Z h0 a1 "java/lang/String" "coder" "B" u_coder_a1) :
    MetFree l (⟨"java/lang/String", "<init>", "([BB)V"⟩ : MethodName) (head1 (Jvm.Cond.code (⟨"java/lang/String", "<init>", "([BB)V"⟩ : MethodName) jdk_42_method_151_code 3 none :: ws) ({ frames := 1, cells := 0, slots := 0, locals := 12 } : Room)) (fun a U => a = #[(.ref a1), (.ref a2), (.int p3)] ∧ Z.Warmed39 U.vm ∧ U.heap = h0) (fun _ _ _ _ _ => True) (fun _ U o U' => ∃ v L, o = .returned v ∧ Q4 Z a1 a2 p3 u_value_a1 u_coder_a1 h0 n0 v U'.heap L ∧ FrameEnd U o U' L ({ frames := 1, cells := 0, slots := 0, locals := 12 } : Room).cells ({ frames := 1, cells := 0, slots := 0, locals := 12 } : Room).slots) := by
  refine MetFree.of_bodySF (plainFor_of_name pn_4) hisR ?_
  intro p e s m args below meth c s₁ Bd hml0 hP hK
  obtain ⟨rfl, hZ, hh⟩ := hP
  have hx := Bd.exec
  have hby := Bd.bytes
  have hml : c.maxLocals = 3 := hml0
  have hown : s.vm.findClass "java/lang/String" = some m.cls := findClass_of_methodNamed Bd.named
  have hnm := (name_of_methodNamed Bd.named Bd.method).1
  have X0 : Stand p l e ({ frames := 1, cells := 0, slots := 0, locals := 12 } : Room) s m #[(.ref a1), (.ref a2), (.int p3)] below meth c s₁ [] 0 0 := Stand.of_body Bd
  have e0 : s₁.heap = h0 := by rw [← hh, Bd.state]; rfl
  have N0 := Fr.nil n0
  have pre0 : ∀ t, Steps p.tables e below (s₁.setTop (mkF m 0 #[.val (.ref a1), .val (.ref a2), .val (.int p3)] [])) t → Steps p.tables e below (s₁.setTop (entryFrame m #[(.ref a1), (.ref a2), (.int p3)] 3)) t := fun t k => castTop (ef_4 m a1 a2 p3) k
  -- 3. LAWS
  obtain ⟨T4, X4, e4, st4⟩ := initO X0 hx hZ hown (hw _ (List.mem_of_getElem? (i := 19) rfl)) (hw _ (List.mem_of_getElem? (i := 20) rfl)) (hw _ (List.mem_of_getElem? (i := 21) rfl)) e0 (g := (mkF m 1 #[.val (.ref a1), .val (.ref a2), .val (.int p3)] [(.ref a1)])) rfl (by rw [hml]; rfl) rfl (hb hby d4_1) (by decide) (W := 0) (by show 2 * 0 + _ ≤ _; exact Nat.le_of_eq rfl) (by decide)
  obtain ⟨T5, h5, X5, e5, W5, st5⟩ := putF X4 hx hZ hown (host := "") (Or.inl (hw _ (List.mem_of_getElem? (i := 22) rfl))) Via.refl e4 F_value_a1 E_a1 (Or.inr ⟨(hw _ (List.mem_of_getElem? (i := 23) rfl)), rfl, hnm⟩) (hw _ (List.mem_of_getElem? (i := 10) rfl)) (ty := (.array .byte)) (by decide) rfl rfl (g := (mkF m 6 #[.val (.ref a1), .val (.ref a2), .val (.int p3)] [(.ref a2), (.ref a1)])) rfl rfl (hb hby d4_6)
  have Fw5 := F_value_a1.same W5      -- the field now holds (.ref a2)
  have K5 : Keep h0 h5 [a1] := (Keep.refl h0 [a1]).wr W5 (Or.inl (List.mem_of_getElem? (i := 0) rfl))
  have N5 := Fr.snoc X5 N0 g_a1
  obtain ⟨T6, h6, X6, e6, W6, st6⟩ := putFN X5 hx hZ hown (hw _ (List.mem_of_getElem? (i := 24) rfl)) Via.refl e5 (F_coder_a1.other W5 (Or.inr (slot_ne (Or.inr (hw _ (List.mem_of_getElem? (i := 25) rfl))) (Or.inr (hw _ (List.mem_of_getElem? (i := 23) rfl))) (by decide) (t := .byte) (t' := (.array .byte)) (by decide) (by decide)))) (E_a1.wr W5) (Or.inr ⟨(hw _ (List.mem_of_getElem? (i := 25) rfl)), rfl, hnm⟩) (hw _ (List.mem_of_getElem? (i := 10) rfl)) (ty := .byte) (v := .int p3) (v' := .int (nar .byte p3)) (by decide) rfl (fits_nar_byte _) (g := (mkF m 11 #[.val (.ref a1), .val (.ref a2), .val (.int p3)] [(.int p3), (.ref a1)])) rfl rfl (hb hby d4_11)
  have Fw6 := (F_coder_a1.other W5 (Or.inr (slot_ne (Or.inr (hw _ (List.mem_of_getElem? (i := 25) rfl))) (Or.inr (hw _ (List.mem_of_getElem? (i := 23) rfl))) (by decide) (t := .byte) (t' := (.array .byte)) (by decide) (by decide)))).same W6      -- the field now holds (.int p3)
  have K6 : Keep h0 h6 [a1] := K5.wr W6 (Or.inl (List.mem_of_getElem? (i := 0) rfl))
  have N6 := Fr.snoc X6 N5 g_a1
  obtain ⟨fs, hr, hrun, hended, hW, hsame⟩ := X6.leave (v := none) (fun _ => rfl)
  refine ⟨_, _, pre0 _ ?_, hrun, hended, _, _, rfl, ?_, ⟨_, rfl⟩, hW, hsame.mono (by decide) (by decide)⟩
  -- 4. STEPS
  · show Steps p.tables e below (s₁.setTop (mkF m 0 #[.val (.ref a1), .val (.ref a2), .val (.int p3)] [])) _
    refine XS.aloadN X0.here hx rfl (hb hby d4_0) rfl rfl ?_
    show Steps p.tables e below (s₁.setTop (mkF m 1 #[.val (.ref a1), .val (.ref a2), .val (.int p3)] [(.ref a1)])) _
    refine st4 _ ?_
    show Steps p.tables e below (T4.setTop (mkF m 4 #[.val (.ref a1), .val (.ref a2), .val (.int p3)] [])) _
    refine XS.aloadN X4.here hx rfl (hb hby d4_4) rfl rfl ?_
    show Steps p.tables e below (T4.setTop (mkF m 5 #[.val (.ref a1), .val (.ref a2), .val (.int p3)] [(.ref a1)])) _
    refine XS.aloadN X4.here hx rfl (hb hby d4_5) rfl rfl ?_
    show Steps p.tables e below (T4.setTop (mkF m 6 #[.val (.ref a1), .val (.ref a2), .val (.int p3)] [(.ref a2), (.ref a1)])) _
    refine st5 _ ?_
    show Steps p.tables e below (T5.setTop (mkF m 9 #[.val (.ref a1), .val (.ref a2), .val (.int p3)] [])) _
    refine XS.aloadN X5.here hx rfl (hb hby d4_9) rfl rfl ?_
    show Steps p.tables e below (T5.setTop (mkF m 10 #[.val (.ref a1), .val (.ref a2), .val (.int p3)] [(.ref a1)])) _
    refine XS.iloadN X5.here hx rfl (hb hby d4_10) rfl ?_
    show Steps p.tables e below (T5.setTop (mkF m 11 #[.val (.ref a1), .val (.ref a2), .val (.int p3)] [(.int p3), (.ref a1)])) _
    refine st6 _ ?_
    show Steps p.tables e below (T6.setTop (mkF m 14 #[.val (.ref a1), .val (.ref a2), .val (.int p3)] [])) _
    exact X6.returnOut hx Bd.returns (hb hby d4_14) hr
  · show Q4 Z a1 a2 p3 u_value_a1 u_coder_a1 h0 n0 _ T6.heap _
    rw [e6]
    exact ⟨rfl, N6, K6, ((E_a1.wr W5).wr W6), (Fw5.other W6 (Or.inr (slot_ne (Or.inr (hw _ (List.mem_of_getElem? (i := 23) rfl))) (Or.inr (hw _ (List.mem_of_getElem? (i := 25) rfl))) (by decide) (t := (.array .byte)) (t' := .byte) (by decide) (by decide)))), Fw6⟩
theorem d1_0 : decode jdk_42_method_139_code 0 = .ok (.getstatic 38, 3) := by decide +kernel
theorem d1_3 : decode jdk_42_method_139_code 3 = .ok (.ifCond .eq 23, 3) := by decide +kernel
theorem d1_6 : decode jdk_42_method_139_code 6 = .ok (.iload_n 0, 1) := by decide +kernel
theorem d1_7 : decode jdk_42_method_139_code 7 = .ok (.invokestatic 1015, 3) := by decide +kernel
theorem d1_10 : decode jdk_42_method_139_code 10 = .ok (.ifCond .eq 16, 3) := by decide +kernel
theorem d1_13 : decode jdk_42_method_139_code 13 = .ok (.new 10, 3) := by decide +kernel
theorem d1_16 : decode jdk_42_method_139_code 16 = .ok (.dup, 1) := by decide +kernel
theorem d1_17 : decode jdk_42_method_139_code 17 = .ok (.iload_n 0, 1) := by decide +kernel
theorem d1_18 : decode jdk_42_method_139_code 18 = .ok (.invokestatic 1018, 3) := by decide +kernel
theorem d1_21 : decode jdk_42_method_139_code 21 = .ok (.iconst 0, 1) := by decide +kernel
theorem d1_22 : decode jdk_42_method_139_code 22 = .ok (.invokespecial 209, 3) := by decide +kernel
theorem d1_25 : decode jdk_42_method_139_code 25 = .ok (.areturn, 1) := by decide +kernel
theorem pn_1 : plainName "java/lang/String" = true := by first | (simp [plainName, overriddenIn]; done) | decide +kernel
theorem pd_1_1 : parseMethodDescriptor "(C)Z" = some ⟨[.char], some .boolean⟩ := by decide +kernel
theorem pd_1_2 : parseMethodDescriptor "(C)[B" = some ⟨[.char], some (.array .byte)⟩ := by decide +kernel
theorem pd_1_3 : parseMethodDescriptor "([BB)V" = some ⟨[(.array .byte), .byte], none⟩ := by decide +kernel
theorem ef_1 (m : MethodId) (x0 : Int32) : entryFrame m #[(.int x0)] 1 = mkF m 0 #[.val (.int x0)] [] := by first | (simp [entryFrame, mkF, argsToLocals, Value.category]; done) | rfl
def Q1 (Z : State) (p1 : Int32) (w2 : Int32) (h0 : Heap) (n0 : Nat) (v : Option Value) (h : Heap) (L : List Loc) : Prop := ∃ b, v = some (.ref b) ∧ Fr n0 L ∧ Keep h0 h []
set_option maxRecDepth 65536 in
set_option maxHeartbeats 40000000 in
theorem rm1 (l : Launch) (Z : State) (a0 : Array Value) (hw : ∀ d ∈ tables_1, d.before a0 Z = true) (ws : List Jvm.Cond) (p1 : Int32) (w2 : Int32) (h0 : Heap) (n0 : Nat) (Z0 : n0 ≤ h0.size) (S_COMPACT_STRINGS : Sta Z h0 "java/lang/String" "COMPACT_STRINGS" "Z" (.int w2)) (hc3 : ¬ (w2 = (0 : Int32))) (hc10 : ¬ ((own_f2 p1) = (0 : Int32))) :
    MetFree l (⟨"java/lang/String", "valueOf", "(C)Ljava/lang/String;"⟩ : MethodName) (head1 (Jvm.Cond.code (⟨"java/lang/String", "valueOf", "(C)Ljava/lang/String;"⟩ : MethodName) jdk_42_method_139_code 1 (some (.object "java/lang/String")) :: ws) ({ frames := 2, cells := 2, slots := 5, locals := 27 } : Room)) (fun a U => a = #[(.int p1)] ∧ Z.Warmed39 U.vm ∧ U.heap = h0) (fun _ _ _ _ _ => True) (fun _ U o U' => ∃ v L, o = .returned v ∧ Q1 Z p1 w2 h0 n0 v U'.heap L ∧ FrameEnd U o U' L ({ frames := 2, cells := 2, slots := 5, locals := 27 } : Room).cells ({ frames := 2, cells := 2, slots := 5, locals := 27 } : Room).slots) := by
  refine MetFree.of_bodySF (plainFor_of_name pn_1) hisR ?_
  intro p e s m args below meth c s₁ Bd hml0 hP hK
  obtain ⟨rfl, hZ, hh⟩ := hP
  have hx := Bd.exec
  have hby := Bd.bytes
  have hml : c.maxLocals = 1 := hml0
  have hown : s.vm.findClass "java/lang/String" = some m.cls := findClass_of_methodNamed Bd.named
  have hnm := (name_of_methodNamed Bd.named Bd.method).1
  have X0 : Stand p l e ({ frames := 2, cells := 2, slots := 5, locals := 27 } : Room) s m #[(.int p1)] below meth c s₁ [] 0 0 := Stand.of_body Bd
  have e0 : s₁.heap = h0 := by rw [← hh, Bd.state]; rfl
  have N0 := Fr.nil n0
  have pre0 : ∀ t, Steps p.tables e below (s₁.setTop (mkF m 0 #[.val (.int p1)] [])) t → Steps p.tables e below (s₁.setTop (entryFrame m #[(.int p1)] 1)) t := fun t k => castTop (ef_1 m p1) k
  -- 3. LAWS
  obtain ⟨T3, X3, e3, st3⟩ := getS2 X0 hx hZ hown (host := "") (Or.inl (hw _ (List.mem_of_getElem? (i := 4) rfl))) Via.refl e0 S_COMPACT_STRINGS (g := (mkF m 0 #[.val (.int p1)] [])) rfl (hb hby d1_0)
  -- pc 7: java/lang/StringLatin1.canEncode by its contract rm2
  obtain ⟨_, _, ⟨T4, L4, k4, n4⟩, -, X4, ⟨Lc4, hQ4, l4, y4, z4⟩, st4⟩ := Jvm.LawKit.callS X3 hx (y := (⟨"java/lang/StringLatin1", "canEncode", "(C)Z"⟩ : MethodName)) hown (mvT hZ (hw _ (List.mem_of_getElem? (i := 5) rfl))) (mvT hZ (hw _ (List.mem_of_getElem? (i := 6) rfl))) (mvT hZ (hw _ (List.mem_of_getElem? (i := 7) rfl))) (mvT hZ (hw _ (List.mem_of_getElem? (i := 8) rfl))) (by decide) (backOf (W := 0) (rm2 l Z a0 hw [] p1 h0 n0 Z0) hZ (hw _ (List.mem_of_getElem? (i := 8) rfl)) (hw _ (List.mem_of_getElem? (i := 7) rfl)) (by decide) (by decide)) (g := (mkF m 7 #[.val (.int p1)] [(.int p1)])) rfl (by rw [hml]; rfl) (argsL := [(.int p1)]) (rest := []) (lenOf pd_1_1 rfl) rfl (by show 2 * 0 + _ ≤ _; exact Nat.le_of_eq rfl) (hb hby d1_7) (fun _ _ => ⟨rfl, e3, (by decide : 0 + 0 ≤ _), (by decide : 0 + 0 ≤ _)⟩)
  dsimp only [Pt.U, Pt.locs, Pt.cells, Pt.slots] at X4 l4 y4 z4 st4 hQ4
  subst l4 y4 z4
  obtain ⟨rfl, N4q, hh4⟩ := hQ4
  have Kc4 : Keep h0 T4.heap [] := by rw [hh4]; exact Keep.refl _ _
  have N4 := Fr.app N0 N4q
  have K4 : Keep h0 T4.heap [] := (Keep.refl h0 []).trans Kc4 (fun x_ hx_ => absurd hx_ (by simp))
  obtain ⟨T5, h5, X5, e5, E5, A5, D5, -, st5⟩ := newO X4 hx hZ hown (hw _ (List.mem_of_getElem? (i := 9) rfl)) (hw _ (List.mem_of_getElem? (i := 10) rfl)) (hw _ (List.mem_of_getElem? (i := 2) rfl)) rfl (g := (mkF m 13 #[.val (.int p1)] [])) rfl (hb hby d1_13) (by decide) (by decide)
  obtain ⟨b5, g5⟩ : ∃ z, z = T4.heap.size := ⟨_, rfl⟩      -- the fresh object's address
  rw [← g5] at A5 D5 st5      -- A5 : Exa Z h5 b5 "java/lang/String"; E5 : Ext T4.heap h5 (carries every older fact: .ext E5)
  have F_value_b5 : Fld Z h5 b5 "java/lang/String" "value" "[B" .null := D5 (Or.inr (hw _ (List.mem_of_getElem? (i := 23) rfl))) (ty := (.array .byte)) (by decide)
  have F_coder_b5 : Fld Z h5 b5 "java/lang/String" "coder" "B" (.int (0 : Int32)) := D5 (Or.inr (hw _ (List.mem_of_getElem? (i := 25) rfl))) (ty := .byte) (by decide)
  have E_b5 := A5
  have g_b5 : n0 ≤ b5 := Nat.le_trans (Nat.le_trans Z0 Kc4.1) (Nat.le_of_eq g5.symm)
  have sz_b5 : h0.size ≤ b5 := (Nat.le_trans K4.1 (Nat.le_of_eq g5.symm))
  have K5 : Keep h0 h5 [] := K4.ext E5
  -- pc 18: java/lang/StringLatin1.toBytes by its contract rm3
  obtain ⟨_, _, ⟨T6, L6, k6, n6⟩, -, X6, ⟨Lc6, hQ6, l6, y6, z6⟩, st6⟩ := Jvm.LawKit.callS X5 hx (y := (⟨"java/lang/StringLatin1", "toBytes", "(C)[B"⟩ : MethodName)) hown (mvT hZ (hw _ (List.mem_of_getElem? (i := 11) rfl))) (mvT hZ (hw _ (List.mem_of_getElem? (i := 12) rfl))) (mvT hZ (hw _ (List.mem_of_getElem? (i := 7) rfl))) (mvT hZ (hw _ (List.mem_of_getElem? (i := 13) rfl))) (by decide) (backOf (W := 2) (rm3 l Z a0 hw [] p1 h5 n0 (Nat.le_trans (Nat.le_trans Z0 Kc4.1) E5.1)) hZ (hw _ (List.mem_of_getElem? (i := 13) rfl)) (hw _ (List.mem_of_getElem? (i := 7) rfl)) (by decide) (by decide)) (g := (mkF m 18 #[.val (.int p1)] [(.int p1), (.ref b5), (.ref b5)])) rfl (by rw [hml]; rfl) (argsL := [(.int p1)]) (rest := [(.ref b5), (.ref b5)]) (lenOf pd_1_2 rfl) rfl (by show 2 * 0 + _ ≤ _; exact Nat.le_of_eq rfl) (hb hby d1_18) (fun _ _ => ⟨rfl, e5, (by decide : 1 + 1 ≤ _), (by decide : 4 + 1 ≤ _)⟩)
  dsimp only [Pt.U, Pt.locs, Pt.cells, Pt.slots] at X6 l6 y6 z6 st6 hQ6
  subst l6 y6 z6
  obtain ⟨r6, rfl, N6q, Kc6, le6⟩ := hQ6
  -- Kc6 : Keep h5 T6.heap []
  have N6 := Fr.app N4 N6q
  have K6 : Keep h0 T6.heap [] := K5.trans Kc6 (fun x_ hx_ => absurd hx_ (by simp))
  -- pc 22: the constructor of java/lang/String by its contract rm4
  obtain ⟨_, _, ⟨T7, L7, k7, n7⟩, -, X7, ⟨Lc7, hQ7, l7, y7, z7⟩, st7⟩ := X6.specialBack hx (y := (⟨"java/lang/String", "<init>", "([BB)V"⟩ : MethodName)) rfl hown (mvT hZ (hw _ (List.mem_of_getElem? (i := 15) rfl))) (mvT hZ (hw _ (List.mem_of_getElem? (i := 16) rfl))) (mvT hZ (hw _ (List.mem_of_getElem? (i := 18) rfl))) (by decide) (backOf (W := 1) (rm4 l Z a0 hw [] b5 r6 (0 : Int32) _ _ T6.heap n0 (Nat.le_trans (Nat.le_trans (Nat.le_trans Z0 Kc4.1) E5.1) Kc6.1) (E_b5.keep Kc6) (F_value_b5.keep Kc6 (by simp)) g_b5 (F_coder_b5.keep Kc6 (by simp))) hZ (hw _ (List.mem_of_getElem? (i := 18) rfl)) (hw _ (List.mem_of_getElem? (i := 2) rfl)) (by decide) (by decide)) (g := (mkF m 22 #[.val (.int p1)] [(.int (0 : Int32)), (.ref r6), (.ref b5), (.ref b5)])) rfl (by rw [hml]; rfl) (Steps.refl _) (a := b5) (argsL := [(.ref r6), (.int (0 : Int32))]) (rest := [(.ref b5)]) (lenOf pd_1_3 rfl) rfl (by show 2 * 0 + _ ≤ _; exact Nat.le_of_eq rfl) (hb hby d1_22) (fun _ _ => ⟨rfl, rfl, (by decide : 2 + 0 ≤ _), (by decide : 5 + 0 ≤ _)⟩)
  dsimp only [Pt.U, Pt.locs, Pt.cells, Pt.slots] at X7 l7 y7 z7 st7 hQ7
  subst l7 y7 z7
  obtain ⟨rfl, N7q, Kc7, -⟩ := hQ7
  -- Kc7 : Keep T6.heap T7.heap [b5]
  have N7 := Fr.app N6 N7q
  have K7 : Keep h0 T7.heap [] := K6.trans Kc7 (fun x_ hx_ => by rw [List.mem_singleton.mp hx_]; exact Or.inr sz_b5)
  obtain ⟨fs, hr, hrun, hended, hW, hsame⟩ := X7.leave (v := some (.ref b5)) (fun h => by rw [Bd.returns] at h; cases h)
  refine ⟨_, _, pre0 _ ?_, hrun, hended, _, _, rfl, ?_, ⟨_, rfl⟩, hW, hsame.mono (by decide) (by decide)⟩
  -- 4. STEPS
  · show Steps p.tables e below (s₁.setTop (mkF m 0 #[.val (.int p1)] [])) _
    refine st3 _ ?_
    show Steps p.tables e below (T3.setTop (mkF m 3 #[.val (.int p1)] [(.int w2)])) _
    refine XS.ifNo X3.here hx rfl (hb hby d1_3) rfl ((if0 _ _).trans (feq hc3).1) ?_
    show Steps p.tables e below (T3.setTop (mkF m 6 #[.val (.int p1)] [])) _
    refine XS.iloadN X3.here hx rfl (hb hby d1_6) rfl ?_
    show Steps p.tables e below (T3.setTop (mkF m 7 #[.val (.int p1)] [(.int p1)])) _
    refine st4 _ ?_
    show Steps p.tables e below (T4.setTop (mkF m 10 #[.val (.int p1)] [(.int (own_f2 p1))])) _
    refine XS.ifNo X4.here hx rfl (hb hby d1_10) rfl ((if0 _ _).trans (feq hc10).1) ?_
    show Steps p.tables e below (T4.setTop (mkF m 13 #[.val (.int p1)] [])) _
    refine st5 _ ?_
    show Steps p.tables e below (T5.setTop (mkF m 16 #[.val (.int p1)] [(.ref b5)])) _
    refine XS.dup X5.here hx rfl (hb hby d1_16) rfl rfl ?_
    show Steps p.tables e below (T5.setTop (mkF m 17 #[.val (.int p1)] [(.ref b5), (.ref b5)])) _
    refine XS.iloadN X5.here hx rfl (hb hby d1_17) rfl ?_
    show Steps p.tables e below (T5.setTop (mkF m 18 #[.val (.int p1)] [(.int p1), (.ref b5), (.ref b5)])) _
    refine st6 _ ?_
    show Steps p.tables e below (T6.setTop (mkF m 21 #[.val (.int p1)] [(.ref r6), (.ref b5), (.ref b5)])) _
    refine XS.iconst X6.here hx rfl (hb hby d1_21) ?_
    show Steps p.tables e below (T6.setTop (mkF m 22 #[.val (.int p1)] [(.int (0 : Int32)), (.ref r6), (.ref b5), (.ref b5)])) _
    refine st7.trans ?_
    show Steps p.tables e below (T7.setTop (mkF m 25 #[.val (.int p1)] [(.ref b5)])) _
    jvm_step X7.here [X7.here.top, hx, (hb hby d1_25), X7.method', Bd.returns, Value.isRef, FieldType.isReference]
    first | (intro acts; rw [hr _ acts rfl rfl rfl]) | rw [hr _ _ rfl rfl rfl]
    exact Steps.refl _
  · show Q1 Z p1 w2 h0 n0 _ T7.heap _
    exact ⟨b5, rfl, N7, K7⟩
theorem d12_0 : decode prog_39_method_2_code 0 = .ok (.aload_n 0, 1) := by decide +kernel
theorem d12_1 : decode prog_39_method_2_code 1 = .ok (.invokespecial 7, 3) := by decide +kernel
theorem d12_4 : decode prog_39_method_2_code 4 = .ok (.aload_n 0, 1) := by decide +kernel
theorem d12_5 : decode prog_39_method_2_code 5 = .ok (.aload_n 1, 1) := by decide +kernel
theorem d12_6 : decode prog_39_method_2_code 6 = .ok (.putfield 12, 3) := by decide +kernel
theorem d12_9 : decode prog_39_method_2_code 9 = .ok (.aload_n 0, 1) := by decide +kernel
theorem d12_10 : decode prog_39_method_2_code 10 = .ok (.iload_n 2, 1) := by decide +kernel
theorem d12_11 : decode prog_39_method_2_code 11 = .ok (.putfield 16, 3) := by decide +kernel
theorem d12_14 : decode prog_39_method_2_code 14 = .ok (.aload_n 0, 1) := by decide +kernel
theorem d12_15 : decode prog_39_method_2_code 15 = .ok (.iload_n 3, 1) := by decide +kernel
theorem d12_16 : decode prog_39_method_2_code 16 = .ok (.putfield 20, 3) := by decide +kernel
theorem d12_19 : decode prog_39_method_2_code 19 = .ok (.aload_n 0, 1) := by decide +kernel
theorem d12_20 : decode prog_39_method_2_code 20 = .ok (.aload 4, 2) := by decide +kernel
theorem d12_22 : decode prog_39_method_2_code 22 = .ok (.putfield 23, 3) := by decide +kernel
theorem d12_25 : decode prog_39_method_2_code 25 = .ok (.return_, 1) := by decide +kernel
theorem pn_12 : plainName "com/example/stubwright/stubwright/model/Position" = true := by first | (simp [plainName, overriddenIn]; done) | decide +kernel
theorem ef_12 (m : MethodId) (x0 : Addr) (x1 : Addr) (x2 : Int32) (x3 : Int32) (x4 : Addr) : entryFrame m #[(.ref x0), (.ref x1), (.int x2), (.int x3), (.ref x4)] 5 = mkF m 0 #[.val (.ref x0), .val (.ref x1), .val (.int x2), .val (.int x3), .val (.ref x4)] [] := by first | (simp [entryFrame, mkF, argsToLocals, Value.category]; done) | rfl
def Q12 (Z : State) (a1 : Addr) (a2 : Addr) (p3 : Int32) (p4 : Int32) (a5 : Addr) (u_file_a1 : Value) (u_line_a1 : Value) (u_column_a1 : Value) (u_source_a1 : Value) (h0 : Heap) (n0 : Nat) (v : Option Value) (h : Heap) (L : List Loc) : Prop := v = none ∧ Fr n0 L ∧ Keep h0 h [a1] ∧ Exa Z h a1 "com/example/stubwright/stubwright/model/Position" ∧ Fld Z h a1 "com/example/stubwright/stubwright/model/Position" "file" "Ljava/lang/String;" (.ref a2) ∧ Fld Z h a1 "com/example/stubwright/stubwright/model/Position" "line" "I" (.int p3) ∧ Fld Z h a1 "com/example/stubwright/stubwright/model/Position" "column" "I" (.int p4) ∧ Fld Z h a1 "com/example/stubwright/stubwright/model/Position" "source" "Ljava/lang/String;" (.ref a5)
set_option maxRecDepth 65536 in
set_option maxHeartbeats 40000000 in
theorem rm12 (l : Launch) (Z : State) (a0 : Array Value) (hw : ∀ d ∈ tables_1, d.before a0 Z = true) (ws : List Jvm.Cond) (a1 : Addr) (a2 : Addr) (p3 : Int32) (p4 : Int32) (a5 : Addr) (u_file_a1 : Value) (u_line_a1 : Value) (u_column_a1 : Value) (u_source_a1 : Value) (h0 : Heap) (n0 : Nat) (Z0 : n0 ≤ h0.size) (E_a1 : Exa Z h0 a1 "com/example/stubwright/stubwright/model/Position") (F_file_a1 : Fld Z h0 a1 "com/example/stubwright/stubwright/model/Position" "file" "Ljava/lang/String;" u_file_a1) (g_a1 : n0 ≤ a1) (F_line_a1 : Fld Z h0 a1 "com/example/stubwright/stubwright/model/Position" "line" "I" u_line_a1) (F_column_a1 : Fld Z h0 a1 "com/example/stubwright/stubwright/model/Position" "column" "I" u_column_a1) (F_source_a1 : Fld Z h0 a1 "com/example/stubwright/stubwright/model/Position" "source" "Ljava/lang/String;" u_source_a1) :
    MetFree l (⟨"com/example/stubwright/stubwright/model/Position", "<init>", "(Ljava/lang/String;IILjava/lang/String;)V"⟩ : MethodName) (head1 (Jvm.Cond.code (⟨"com/example/stubwright/stubwright/model/Position", "<init>", "(Ljava/lang/String;IILjava/lang/String;)V"⟩ : MethodName) prog_39_method_2_code 5 none :: ws) ({ frames := 1, cells := 0, slots := 0, locals := 12 } : Room)) (fun a U => a = #[(.ref a1), (.ref a2), (.int p3), (.int p4), (.ref a5)] ∧ Z.Warmed39 U.vm ∧ U.heap = h0) (fun _ _ _ _ _ => True) (fun _ U o U' => ∃ v L, o = .returned v ∧ Q12 Z a1 a2 p3 p4 a5 u_file_a1 u_line_a1 u_column_a1 u_source_a1 h0 n0 v U'.heap L ∧ FrameEnd U o U' L ({ frames := 1, cells := 0, slots := 0, locals := 12 } : Room).cells ({ frames := 1, cells := 0, slots := 0, locals := 12 } : Room).slots) := by
  refine MetFree.of_bodySF (plainFor_of_name pn_12) hisR ?_
  intro p e s m args below meth c s₁ Bd hml0 hP hK
  obtain ⟨rfl, hZ, hh⟩ := hP
  have hx := Bd.exec
  have hby := Bd.bytes
  have hml : c.maxLocals = 5 := hml0
  have hown : s.vm.findClass "com/example/stubwright/stubwright/model/Position" = some m.cls := findClass_of_methodNamed Bd.named
  have hnm := (name_of_methodNamed Bd.named Bd.method).1
  have X0 : Stand p l e ({ frames := 1, cells := 0, slots := 0, locals := 12 } : Room) s m #[(.ref a1), (.ref a2), (.int p3), (.int p4), (.ref a5)] below meth c s₁ [] 0 0 := Stand.of_body Bd
  have e0 : s₁.heap = h0 := by rw [← hh, Bd.state]; rfl
  have N0 := Fr.nil n0
  have pre0 : ∀ t, Steps p.tables e below (s₁.setTop (mkF m 0 #[.val (.ref a1), .val (.ref a2), .val (.int p3), .val (.int p4), .val (.ref a5)] [])) t → Steps p.tables e below (s₁.setTop (entryFrame m #[(.ref a1), (.ref a2), (.int p3), (.int p4), (.ref a5)] 5)) t := fun t k => castTop (ef_12 m a1 a2 p3 p4 a5) k
  -- 3. LAWS
  obtain ⟨T6, X6, e6, st6⟩ := initO X0 hx hZ hown (hw _ (List.mem_of_getElem? (i := 53) rfl)) (hw _ (List.mem_of_getElem? (i := 20) rfl)) (hw _ (List.mem_of_getElem? (i := 21) rfl)) e0 (g := (mkF m 1 #[.val (.ref a1), .val (.ref a2), .val (.int p3), .val (.int p4), .val (.ref a5)] [(.ref a1)])) rfl (by rw [hml]; rfl) rfl (hb hby d12_1) (by decide) (W := 0) (by show 2 * 0 + _ ≤ _; exact Nat.le_of_eq rfl) (by decide)
  obtain ⟨T7, h7, X7, e7, W7, st7⟩ := putF X6 hx hZ hown (host := "") (Or.inl (hw _ (List.mem_of_getElem? (i := 54) rfl))) Via.refl e6 F_file_a1 E_a1 (Or.inr ⟨(hw _ (List.mem_of_getElem? (i := 55) rfl)), rfl, hnm⟩) (hw _ (List.mem_of_getElem? (i := 45) rfl)) (ty := (.object "java/lang/String")) (by decide) rfl rfl (g := (mkF m 6 #[.val (.ref a1), .val (.ref a2), .val (.int p3), .val (.int p4), .val (.ref a5)] [(.ref a2), (.ref a1)])) rfl rfl (hb hby d12_6)
  have Fw7 := F_file_a1.same W7      -- the field now holds (.ref a2)
  have K7 : Keep h0 h7 [a1] := (Keep.refl h0 [a1]).wr W7 (Or.inl (List.mem_of_getElem? (i := 0) rfl))
  have N7 := Fr.snoc X7 N0 g_a1
  obtain ⟨T8, h8, X8, e8, W8, st8⟩ := putF X7 hx hZ hown (host := "") (Or.inl (hw _ (List.mem_of_getElem? (i := 56) rfl))) Via.refl e7 (F_line_a1.other W7 (Or.inr (slot_ne (Or.inr (hw _ (List.mem_of_getElem? (i := 57) rfl))) (Or.inr (hw _ (List.mem_of_getElem? (i := 55) rfl))) (by decide) (t := .int) (t' := (.object "java/lang/String")) (by decide) (by decide)))) (E_a1.wr W7) (Or.inr ⟨(hw _ (List.mem_of_getElem? (i := 57) rfl)), rfl, hnm⟩) (hw _ (List.mem_of_getElem? (i := 45) rfl)) (ty := .int) (by decide) rfl rfl (g := (mkF m 11 #[.val (.ref a1), .val (.ref a2), .val (.int p3), .val (.int p4), .val (.ref a5)] [(.int p3), (.ref a1)])) rfl rfl (hb hby d12_11)
  have Fw8 := (F_line_a1.other W7 (Or.inr (slot_ne (Or.inr (hw _ (List.mem_of_getElem? (i := 57) rfl))) (Or.inr (hw _ (List.mem_of_getElem? (i := 55) rfl))) (by decide) (t := .int) (t' := (.object "java/lang/String")) (by decide) (by decide)))).same W8      -- the field now holds (.int p3)
  have K8 : Keep h0 h8 [a1] := K7.wr W8 (Or.inl (List.mem_of_getElem? (i := 0) rfl))
  have N8 := Fr.snoc X8 N7 g_a1
  obtain ⟨T9, h9, X9, e9, W9, st9⟩ := putF X8 hx hZ hown (host := "") (Or.inl (hw _ (List.mem_of_getElem? (i := 58) rfl))) Via.refl e8 ((F_column_a1.other W7 (Or.inr (slot_ne (Or.inr (hw _ (List.mem_of_getElem? (i := 59) rfl))) (Or.inr (hw _ (List.mem_of_getElem? (i := 55) rfl))) (by decide) (t := .int) (t' := (.object "java/lang/String")) (by decide) (by decide)))).other W8 (Or.inr (slot_ne (Or.inr (hw _ (List.mem_of_getElem? (i := 59) rfl))) (Or.inr (hw _ (List.mem_of_getElem? (i := 57) rfl))) (by decide) (t := .int) (t' := .int) (by decide) (by decide)))) ((E_a1.wr W7).wr W8) (Or.inr ⟨(hw _ (List.mem_of_getElem? (i := 59) rfl)), rfl, hnm⟩) (hw _ (List.mem_of_getElem? (i := 45) rfl)) (ty := .int) (by decide) rfl rfl (g := (mkF m 16 #[.val (.ref a1), .val (.ref a2), .val (.int p3), .val (.int p4), .val (.ref a5)] [(.int p4), (.ref a1)])) rfl rfl (hb hby d12_16)
  have Fw9 := ((F_column_a1.other W7 (Or.inr (slot_ne (Or.inr (hw _ (List.mem_of_getElem? (i := 59) rfl))) (Or.inr (hw _ (List.mem_of_getElem? (i := 55) rfl))) (by decide) (t := .int) (t' := (.object "java/lang/String")) (by decide) (by decide)))).other W8 (Or.inr (slot_ne (Or.inr (hw _ (List.mem_of_getElem? (i := 59) rfl))) (Or.inr (hw _ (List.mem_of_getElem? (i := 57) rfl))) (by decide) (t := .int) (t' := .int) (by decide) (by decide)))).same W9      -- the field now holds (.int p4)
  have K9 : Keep h0 h9 [a1] := K8.wr W9 (Or.inl (List.mem_of_getElem? (i := 0) rfl))
  have N9 := Fr.snoc X9 N8 g_a1
  obtain ⟨T10, h10, X10, e10, W10, st10⟩ := putF X9 hx hZ hown (host := "") (Or.inl (hw _ (List.mem_of_getElem? (i := 60) rfl))) Via.refl e9 (((F_source_a1.other W7 (Or.inr (slot_ne (Or.inr (hw _ (List.mem_of_getElem? (i := 61) rfl))) (Or.inr (hw _ (List.mem_of_getElem? (i := 55) rfl))) (by decide) (t := (.object "java/lang/String")) (t' := (.object "java/lang/String")) (by decide) (by decide)))).other W8 (Or.inr (slot_ne (Or.inr (hw _ (List.mem_of_getElem? (i := 61) rfl))) (Or.inr (hw _ (List.mem_of_getElem? (i := 57) rfl))) (by decide) (t := (.object "java/lang/String")) (t' := .int) (by decide) (by decide)))).other W9 (Or.inr (slot_ne (Or.inr (hw _ (List.mem_of_getElem? (i := 61) rfl))) (Or.inr (hw _ (List.mem_of_getElem? (i := 59) rfl))) (by decide) (t := (.object "java/lang/String")) (t' := .int) (by decide) (by decide)))) (((E_a1.wr W7).wr W8).wr W9) (Or.inr ⟨(hw _ (List.mem_of_getElem? (i := 61) rfl)), rfl, hnm⟩) (hw _ (List.mem_of_getElem? (i := 45) rfl)) (ty := (.object "java/lang/String")) (by decide) rfl rfl (g := (mkF m 22 #[.val (.ref a1), .val (.ref a2), .val (.int p3), .val (.int p4), .val (.ref a5)] [(.ref a5), (.ref a1)])) rfl rfl (hb hby d12_22)
  have Fw10 := (((F_source_a1.other W7 (Or.inr (slot_ne (Or.inr (hw _ (List.mem_of_getElem? (i := 61) rfl))) (Or.inr (hw _ (List.mem_of_getElem? (i := 55) rfl))) (by decide) (t := (.object "java/lang/String")) (t' := (.object "java/lang/String")) (by decide) (by decide)))).other W8 (Or.inr (slot_ne (Or.inr (hw _ (List.mem_of_getElem? (i := 61) rfl))) (Or.inr (hw _ (List.mem_of_getElem? (i := 57) rfl))) (by decide) (t := (.object "java/lang/String")) (t' := .int) (by decide) (by decide)))).other W9 (Or.inr (slot_ne (Or.inr (hw _ (List.mem_of_getElem? (i := 61) rfl))) (Or.inr (hw _ (List.mem_of_getElem? (i := 59) rfl))) (by decide) (t := (.object "java/lang/String")) (t' := .int) (by decide) (by decide)))).same W10      -- the field now holds (.ref a5)
  have K10 : Keep h0 h10 [a1] := K9.wr W10 (Or.inl (List.mem_of_getElem? (i := 0) rfl))
  have N10 := Fr.snoc X10 N9 g_a1
  obtain ⟨fs, hr, hrun, hended, hW, hsame⟩ := X10.leave (v := none) (fun _ => rfl)
  refine ⟨_, _, pre0 _ ?_, hrun, hended, _, _, rfl, ?_, ⟨_, rfl⟩, hW, hsame.mono (by decide) (by decide)⟩
  -- 4. STEPS
  · show Steps p.tables e below (s₁.setTop (mkF m 0 #[.val (.ref a1), .val (.ref a2), .val (.int p3), .val (.int p4), .val (.ref a5)] [])) _
    refine XS.aloadN X0.here hx rfl (hb hby d12_0) rfl rfl ?_
    show Steps p.tables e below (s₁.setTop (mkF m 1 #[.val (.ref a1), .val (.ref a2), .val (.int p3), .val (.int p4), .val (.ref a5)] [(.ref a1)])) _
    refine st6 _ ?_
    show Steps p.tables e below (T6.setTop (mkF m 4 #[.val (.ref a1), .val (.ref a2), .val (.int p3), .val (.int p4), .val (.ref a5)] [])) _
    refine XS.aloadN X6.here hx rfl (hb hby d12_4) rfl rfl ?_
    show Steps p.tables e below (T6.setTop (mkF m 5 #[.val (.ref a1), .val (.ref a2), .val (.int p3), .val (.int p4), .val (.ref a5)] [(.ref a1)])) _
    refine XS.aloadN X6.here hx rfl (hb hby d12_5) rfl rfl ?_
    show Steps p.tables e below (T6.setTop (mkF m 6 #[.val (.ref a1), .val (.ref a2), .val (.int p3), .val (.int p4), .val (.ref a5)] [(.ref a2), (.ref a1)])) _
    refine st7 _ ?_
    show Steps p.tables e below (T7.setTop (mkF m 9 #[.val (.ref a1), .val (.ref a2), .val (.int p3), .val (.int p4), .val (.ref a5)] [])) _
    refine XS.aloadN X7.here hx rfl (hb hby d12_9) rfl rfl ?_
    show Steps p.tables e below (T7.setTop (mkF m 10 #[.val (.ref a1), .val (.ref a2), .val (.int p3), .val (.int p4), .val (.ref a5)] [(.ref a1)])) _
    refine XS.iloadN X7.here hx rfl (hb hby d12_10) rfl ?_
    show Steps p.tables e below (T7.setTop (mkF m 11 #[.val (.ref a1), .val (.ref a2), .val (.int p3), .val (.int p4), .val (.ref a5)] [(.int p3), (.ref a1)])) _
    refine st8 _ ?_
    show Steps p.tables e below (T8.setTop (mkF m 14 #[.val (.ref a1), .val (.ref a2), .val (.int p3), .val (.int p4), .val (.ref a5)] [])) _
    refine XS.aloadN X8.here hx rfl (hb hby d12_14) rfl rfl ?_
    show Steps p.tables e below (T8.setTop (mkF m 15 #[.val (.ref a1), .val (.ref a2), .val (.int p3), .val (.int p4), .val (.ref a5)] [(.ref a1)])) _
    refine XS.iloadN X8.here hx rfl (hb hby d12_15) rfl ?_
    show Steps p.tables e below (T8.setTop (mkF m 16 #[.val (.ref a1), .val (.ref a2), .val (.int p3), .val (.int p4), .val (.ref a5)] [(.int p4), (.ref a1)])) _
    refine st9 _ ?_
    show Steps p.tables e below (T9.setTop (mkF m 19 #[.val (.ref a1), .val (.ref a2), .val (.int p3), .val (.int p4), .val (.ref a5)] [])) _
    refine XS.aloadN X9.here hx rfl (hb hby d12_19) rfl rfl ?_
    show Steps p.tables e below (T9.setTop (mkF m 20 #[.val (.ref a1), .val (.ref a2), .val (.int p3), .val (.int p4), .val (.ref a5)] [(.ref a1)])) _
    refine XS.aload X9.here hx rfl (hb hby d12_20) rfl rfl ?_
    show Steps p.tables e below (T9.setTop (mkF m 22 #[.val (.ref a1), .val (.ref a2), .val (.int p3), .val (.int p4), .val (.ref a5)] [(.ref a5), (.ref a1)])) _
    refine st10 _ ?_
    show Steps p.tables e below (T10.setTop (mkF m 25 #[.val (.ref a1), .val (.ref a2), .val (.int p3), .val (.int p4), .val (.ref a5)] [])) _
    exact X10.returnOut hx Bd.returns (hb hby d12_25) hr
  · show Q12 Z a1 a2 p3 p4 a5 u_file_a1 u_line_a1 u_column_a1 u_source_a1 h0 n0 _ T10.heap _
    rw [e10]
    exact ⟨rfl, N10, K10, ((((E_a1.wr W7).wr W8).wr W9).wr W10), (((Fw7.other W8 (Or.inr (slot_ne (Or.inr (hw _ (List.mem_of_getElem? (i := 55) rfl))) (Or.inr (hw _ (List.mem_of_getElem? (i := 57) rfl))) (by decide) (t := (.object "java/lang/String")) (t' := .int) (by decide) (by decide)))).other W9 (Or.inr (slot_ne (Or.inr (hw _ (List.mem_of_getElem? (i := 55) rfl))) (Or.inr (hw _ (List.mem_of_getElem? (i := 59) rfl))) (by decide) (t := (.object "java/lang/String")) (t' := .int) (by decide) (by decide)))).other W10 (Or.inr (slot_ne (Or.inr (hw _ (List.mem_of_getElem? (i := 55) rfl))) (Or.inr (hw _ (List.mem_of_getElem? (i := 61) rfl))) (by decide) (t := (.object "java/lang/String")) (t' := (.object "java/lang/String")) (by decide) (by decide)))), ((Fw8.other W9 (Or.inr (slot_ne (Or.inr (hw _ (List.mem_of_getElem? (i := 57) rfl))) (Or.inr (hw _ (List.mem_of_getElem? (i := 59) rfl))) (by decide) (t := .int) (t' := .int) (by decide) (by decide)))).other W10 (Or.inr (slot_ne (Or.inr (hw _ (List.mem_of_getElem? (i := 57) rfl))) (Or.inr (hw _ (List.mem_of_getElem? (i := 61) rfl))) (by decide) (t := .int) (t' := (.object "java/lang/String")) (by decide) (by decide)))), (Fw9.other W10 (Or.inr (slot_ne (Or.inr (hw _ (List.mem_of_getElem? (i := 59) rfl))) (Or.inr (hw _ (List.mem_of_getElem? (i := 61) rfl))) (by decide) (t := .int) (t' := (.object "java/lang/String")) (by decide) (by decide)))), Fw10⟩
theorem d11_0 : decode prog_39_method_1_code 0 = .ok (.aload_n 0, 1) := by decide +kernel
theorem d11_1 : decode prog_39_method_1_code 1 = .ok (.aload_n 1, 1) := by decide +kernel
theorem d11_2 : decode prog_39_method_1_code 2 = .ok (.iload_n 2, 1) := by decide +kernel
theorem d11_3 : decode prog_39_method_1_code 3 = .ok (.iload_n 3, 1) := by decide +kernel
theorem d11_4 : decode prog_39_method_1_code 4 = .ok (.aload_n 1, 1) := by decide +kernel
theorem d11_5 : decode prog_39_method_1_code 5 = .ok (.invokespecial 1, 3) := by decide +kernel
theorem d11_8 : decode prog_39_method_1_code 8 = .ok (.return_, 1) := by decide +kernel
theorem pn_11 : plainName "com/example/stubwright/stubwright/model/Position" = true := by first | (simp [plainName, overriddenIn]; done) | decide +kernel
theorem pd_11_11 : parseMethodDescriptor "(Ljava/lang/String;IILjava/lang/String;)V" = some ⟨[(.object "java/lang/String"), .int, .int, (.object "java/lang/String")], none⟩ := by decide +kernel
theorem ef_11 (m : MethodId) (x0 : Addr) (x1 : Addr) (x2 : Int32) (x3 : Int32) : entryFrame m #[(.ref x0), (.ref x1), (.int x2), (.int x3)] 4 = mkF m 0 #[.val (.ref x0), .val (.ref x1), .val (.int x2), .val (.int x3)] [] := by first | (simp [entryFrame, mkF, argsToLocals, Value.category]; done) | rfl
def Q11 (Z : State) (a1 : Addr) (a2 : Addr) (p3 : Int32) (p4 : Int32) (u_file_a1 : Value) (u_line_a1 : Value) (u_column_a1 : Value) (u_source_a1 : Value) (h0 : Heap) (n0 : Nat) (v : Option Value) (h : Heap) (L : List Loc) : Prop := v = none ∧ Fr n0 L ∧ Keep h0 h [a1] ∧ True
set_option maxRecDepth 65536 in
set_option maxHeartbeats 40000000 in
theorem rm11 (l : Launch) (Z : State) (a0 : Array Value) (hw : ∀ d ∈ tables_1, d.before a0 Z = true) (ws : List Jvm.Cond) (a1 : Addr) (a2 : Addr) (p3 : Int32) (p4 : Int32) (u_file_a1 : Value) (u_line_a1 : Value) (u_column_a1 : Value) (u_source_a1 : Value) (h0 : Heap) (n0 : Nat) (Z0 : n0 ≤ h0.size) (E_a1 : Exa Z h0 a1 "com/example/stubwright/stubwright/model/Position") (F_file_a1 : Fld Z h0 a1 "com/example/stubwright/stubwright/model/Position" "file" "Ljava/lang/String;" u_file_a1) (g_a1 : n0 ≤ a1) (F_line_a1 : Fld Z h0 a1 "com/example/stubwright/stubwright/model/Position" "line" "I" u_line_a1) (F_column_a1 : Fld Z h0 a1 "com/example/stubwright/stubwright/model/Position" "column" "I" u_column_a1) (F_source_a1 : Fld Z h0 a1 "com/example/stubwright/stubwright/model/Position" "source" "Ljava/lang/String;" u_source_a1) :
    MetFree l (⟨"com/example/stubwright/stubwright/model/Position", "<init>", "(Ljava/lang/String;II)V"⟩ : MethodName) (head1 (Jvm.Cond.code (⟨"com/example/stubwright/stubwright/model/Position", "<init>", "(Ljava/lang/String;II)V"⟩ : MethodName) prog_39_method_1_code 4 none :: ws) ({ frames := 2, cells := 0, slots := 0, locals := 28 } : Room)) (fun a U => a = #[(.ref a1), (.ref a2), (.int p3), (.int p4)] ∧ Z.Warmed39 U.vm ∧ U.heap = h0) (fun _ _ _ _ _ => True) (fun _ U o U' => ∃ v L, o = .returned v ∧ Q11 Z a1 a2 p3 p4 u_file_a1 u_line_a1 u_column_a1 u_source_a1 h0 n0 v U'.heap L ∧ FrameEnd U o U' L ({ frames := 2, cells := 0, slots := 0, locals := 28 } : Room).cells ({ frames := 2, cells := 0, slots := 0, locals := 28 } : Room).slots) := by
  refine MetFree.of_bodySF (plainFor_of_name pn_11) hisR ?_
  intro p e s m args below meth c s₁ Bd hml0 hP hK
  obtain ⟨rfl, hZ, hh⟩ := hP
  have hx := Bd.exec
  have hby := Bd.bytes
  have hml : c.maxLocals = 4 := hml0
  have hown : s.vm.findClass "com/example/stubwright/stubwright/model/Position" = some m.cls := findClass_of_methodNamed Bd.named
  have hnm := (name_of_methodNamed Bd.named Bd.method).1
  have X0 : Stand p l e ({ frames := 2, cells := 0, slots := 0, locals := 28 } : Room) s m #[(.ref a1), (.ref a2), (.int p3), (.int p4)] below meth c s₁ [] 0 0 := Stand.of_body Bd
  have e0 : s₁.heap = h0 := by rw [← hh, Bd.state]; rfl
  have N0 := Fr.nil n0
  have pre0 : ∀ t, Steps p.tables e below (s₁.setTop (mkF m 0 #[.val (.ref a1), .val (.ref a2), .val (.int p3), .val (.int p4)] [])) t → Steps p.tables e below (s₁.setTop (entryFrame m #[(.ref a1), (.ref a2), (.int p3), (.int p4)] 4)) t := fun t k => castTop (ef_11 m a1 a2 p3 p4) k
  -- 3. LAWS
  -- pc 5: the constructor of com/example/stubwright/stubwright/model/Position by its contract rm12
  obtain ⟨_, _, ⟨T5, L5, k5, n5⟩, -, X5, ⟨Lc5, hQ5, l5, y5, z5⟩, st5⟩ := X0.specialBack hx (y := (⟨"com/example/stubwright/stubwright/model/Position", "<init>", "(Ljava/lang/String;IILjava/lang/String;)V"⟩ : MethodName)) rfl hown (mvT hZ (hw _ (List.mem_of_getElem? (i := 50) rfl))) (mvT hZ (hw _ (List.mem_of_getElem? (i := 51) rfl))) (mvT hZ (hw _ (List.mem_of_getElem? (i := 52) rfl))) (by decide) (backOf (W := 0) (rm12 l Z a0 hw [] a1 a2 p3 p4 a2 _ _ _ _ h0 n0 Z0 E_a1 F_file_a1 g_a1 F_line_a1 F_column_a1 F_source_a1) hZ (hw _ (List.mem_of_getElem? (i := 52) rfl)) (hw _ (List.mem_of_getElem? (i := 46) rfl)) (by decide) (by decide)) (g := (mkF m 5 #[.val (.ref a1), .val (.ref a2), .val (.int p3), .val (.int p4)] [(.ref a2), (.int p4), (.int p3), (.ref a2), (.ref a1)])) rfl (by rw [hml]; rfl) (Steps.refl _) (a := a1) (argsL := [(.ref a2), (.int p3), (.int p4), (.ref a2)]) (rest := []) (lenOf pd_11_11 rfl) rfl (by show 2 * 0 + _ ≤ _; exact Nat.le_of_eq rfl) (hb hby d11_5) (fun _ _ => ⟨rfl, e0, (by decide : 0 + 0 ≤ _), (by decide : 0 + 0 ≤ _)⟩)
  dsimp only [Pt.U, Pt.locs, Pt.cells, Pt.slots] at X5 l5 y5 z5 st5 hQ5
  subst l5 y5 z5
  obtain ⟨rfl, N5q, Kc5, -⟩ := hQ5
  -- Kc5 : Keep h0 T5.heap [a1]
  have N5 := Fr.app N0 N5q
  have K5 : Keep h0 T5.heap [a1] := (Keep.refl h0 [a1]).trans Kc5 (fun x_ hx_ => by rw [List.mem_singleton.mp hx_]; exact Or.inl (List.mem_of_getElem? (i := 0) rfl))
  obtain ⟨fs, hr, hrun, hended, hW, hsame⟩ := X5.leave (v := none) (fun _ => rfl)
  refine ⟨_, _, pre0 _ ?_, hrun, hended, _, _, rfl, ?_, ⟨_, rfl⟩, hW, hsame.mono (by decide) (by decide)⟩
  -- 4. STEPS
  · show Steps p.tables e below (s₁.setTop (mkF m 0 #[.val (.ref a1), .val (.ref a2), .val (.int p3), .val (.int p4)] [])) _
    refine XS.aloadN X0.here hx rfl (hb hby d11_0) rfl rfl ?_
    show Steps p.tables e below (s₁.setTop (mkF m 1 #[.val (.ref a1), .val (.ref a2), .val (.int p3), .val (.int p4)] [(.ref a1)])) _
    refine XS.aloadN X0.here hx rfl (hb hby d11_1) rfl rfl ?_
    show Steps p.tables e below (s₁.setTop (mkF m 2 #[.val (.ref a1), .val (.ref a2), .val (.int p3), .val (.int p4)] [(.ref a2), (.ref a1)])) _
    refine XS.iloadN X0.here hx rfl (hb hby d11_2) rfl ?_
    show Steps p.tables e below (s₁.setTop (mkF m 3 #[.val (.ref a1), .val (.ref a2), .val (.int p3), .val (.int p4)] [(.int p3), (.ref a2), (.ref a1)])) _
    refine XS.iloadN X0.here hx rfl (hb hby d11_3) rfl ?_
    show Steps p.tables e below (s₁.setTop (mkF m 4 #[.val (.ref a1), .val (.ref a2), .val (.int p3), .val (.int p4)] [(.int p4), (.int p3), (.ref a2), (.ref a1)])) _
    refine XS.aloadN X0.here hx rfl (hb hby d11_4) rfl rfl ?_
    show Steps p.tables e below (s₁.setTop (mkF m 5 #[.val (.ref a1), .val (.ref a2), .val (.int p3), .val (.int p4)] [(.ref a2), (.int p4), (.int p3), (.ref a2), (.ref a1)])) _
    refine st5.trans ?_
    show Steps p.tables e below (T5.setTop (mkF m 8 #[.val (.ref a1), .val (.ref a2), .val (.int p3), .val (.int p4)] [])) _
    exact X5.returnOut hx Bd.returns (hb hby d11_8) hr
  · show Q11 Z a1 a2 p3 p4 u_file_a1 u_line_a1 u_column_a1 u_source_a1 h0 n0 _ T5.heap _
    exact ⟨rfl, N5, K5, trivial⟩
theorem d13_0 : decode method_2_code 0 = .ok (.iload_n 0, 1) := by decide +kernel
theorem d13_1 : decode method_2_code 1 = .ok (.iconst 3, 1) := by decide +kernel
theorem d13_2 : decode method_2_code 2 = .ok (.iand, 1) := by decide +kernel
theorem d13_3 : decode method_2_code 3 = .ok (.istore_n 1, 1) := by decide +kernel
theorem d13_4 : decode method_2_code 4 = .ok (.iload_n 1, 1) := by decide +kernel
theorem d13_5 : decode method_2_code 5 = .ok (.ifCond .ne 7, 3) := by decide +kernel
theorem d13_8 : decode method_2_code 8 = .ok (.getstatic 7, 3) := by decide +kernel
theorem d13_11 : decode method_2_code 11 = .ok (.areturn, 1) := by decide +kernel
theorem d13_12 : decode method_2_code 12 = .ok (.iload_n 1, 1) := by decide +kernel
theorem d13_13 : decode method_2_code 13 = .ok (.iconst 1, 1) := by decide +kernel
theorem d13_14 : decode method_2_code 14 = .ok (.if_icmp .ne 7, 3) := by decide +kernel
theorem d13_17 : decode method_2_code 17 = .ok (.getstatic 13, 3) := by decide +kernel
theorem d13_20 : decode method_2_code 20 = .ok (.areturn, 1) := by decide +kernel
theorem d13_21 : decode method_2_code 21 = .ok (.iload_n 1, 1) := by decide +kernel
theorem d13_22 : decode method_2_code 22 = .ok (.iconst 2, 1) := by decide +kernel
theorem d13_23 : decode method_2_code 23 = .ok (.if_icmp .ne 7, 3) := by decide +kernel
theorem d13_26 : decode method_2_code 26 = .ok (.getstatic 16, 3) := by decide +kernel
theorem d13_29 : decode method_2_code 29 = .ok (.areturn, 1) := by decide +kernel
theorem d13_30 : decode method_2_code 30 = .ok (.getstatic 19, 3) := by decide +kernel
theorem d13_33 : decode method_2_code 33 = .ok (.areturn, 1) := by decide +kernel
theorem pn_13 : plainName "com/example/stubwright/stubwright/read/TokenExpansionPointPinLaw" = true := by first | (simp [plainName, overriddenIn]; done) | decide +kernel
theorem ef_13 (m : MethodId) (x0 : Int32) : entryFrame m #[(.int x0)] 2 = mkF m 0 #[.val (.int x0), .unset] [] := by first | (simp [entryFrame, mkF, argsToLocals, Value.category]; done) | rfl
set_option maxRecDepth 65536 in
set_option maxHeartbeats 40000000 in
theorem rm13_f (l : Launch) (Z : State) (a0 : Array Value) (hw : ∀ d ∈ tables_1, d.before a0 Z = true) (ws : List Jvm.Cond) (p1 : Int32) (w2 : Addr) (h0 : Heap) (n0 : Nat) (Z0 : n0 ≤ h0.size) (S_IDENTIFIER : Sta Z h0 "com/example/stubwright/stubwright/read/Token$Kind" "IDENTIFIER" "Lcom/example/stubwright/stubwright/read/Token$Kind;" (.ref w2)) (hc5 : (p1 &&& (3 : Int32)) = (0 : Int32)) :
    MetFree l (⟨"com/example/stubwright/stubwright/read/TokenExpansionPointPinLaw", "kindOf", "(I)Lcom/example/stubwright/stubwright/read/Token$Kind;"⟩ : MethodName) (head1 (Jvm.Cond.code (⟨"com/example/stubwright/stubwright/read/TokenExpansionPointPinLaw", "kindOf", "(I)Lcom/example/stubwright/stubwright/read/Token$Kind;"⟩ : MethodName) method_2_code 2 (some (.object "com/example/stubwright/stubwright/read/Token$Kind")) :: ws) ({ frames := 0, cells := 0, slots := 0, locals := 0 } : Room)) (fun a U => a = #[(.int p1)] ∧ Z.Warmed39 U.vm ∧ U.heap = h0) (fun _ _ _ _ _ => True) (fun _ U o U' => ∃ v L, o = .returned v ∧ QR Z (some (.ref w2)) h0 n0 v U'.heap L ∧ FrameEnd U o U' L ({ frames := 0, cells := 0, slots := 0, locals := 0 } : Room).cells ({ frames := 0, cells := 0, slots := 0, locals := 0 } : Room).slots) := by
  refine MetFree.of_bodySF (plainFor_of_name pn_13) hisR ?_
  intro p e s m args below meth c s₁ Bd hml0 hP hK
  obtain ⟨rfl, hZ, hh⟩ := hP
  have hx := Bd.exec
  have hby := Bd.bytes
  have hml : c.maxLocals = 2 := hml0
  have hown : s.vm.findClass "com/example/stubwright/stubwright/read/TokenExpansionPointPinLaw" = some m.cls := findClass_of_methodNamed Bd.named
  have hnm := (name_of_methodNamed Bd.named Bd.method).1
  have X0 : Stand p l e ({ frames := 0, cells := 0, slots := 0, locals := 0 } : Room) s m #[(.int p1)] below meth c s₁ [] 0 0 := Stand.of_body Bd
  have e0 : s₁.heap = h0 := by rw [← hh, Bd.state]; rfl
  have N0 := Fr.nil n0
  have pre0 : ∀ t, Steps p.tables e below (s₁.setTop (mkF m 0 #[.val (.int p1), .unset] [])) t → Steps p.tables e below (s₁.setTop (entryFrame m #[(.int p1)] 2)) t := fun t k => castTop (ef_13 m p1) k
  -- 3. LAWS
  obtain ⟨T3, X3, e3, st3⟩ := getS2 X0 hx hZ hown (host := "") (Or.inl (hw _ (List.mem_of_getElem? (i := 69) rfl))) Via.refl e0 S_IDENTIFIER (g := (mkF m 8 #[.val (.int p1), .val (.int (p1 &&& (3 : Int32)))] [])) rfl (hb hby d13_8)
  obtain ⟨fs, hr, hrun, hended, hW, hsame⟩ := X3.leave (v := some (.ref w2)) (fun h => by rw [Bd.returns] at h; cases h)
  refine ⟨_, _, pre0 _ ?_, hrun, hended, _, _, rfl, ?_, ⟨_, rfl⟩, hW, hsame.mono (by decide) (by decide)⟩
  -- 4. STEPS
  · show Steps p.tables e below (s₁.setTop (mkF m 0 #[.val (.int p1), .unset] [])) _
    refine XS.iloadN X0.here hx rfl (hb hby d13_0) rfl ?_
    show Steps p.tables e below (s₁.setTop (mkF m 1 #[.val (.int p1), .unset] [(.int p1)])) _
    refine XS.iconst X0.here hx rfl (hb hby d13_1) ?_
    show Steps p.tables e below (s₁.setTop (mkF m 2 #[.val (.int p1), .unset] [(.int (3 : Int32)), (.int p1)])) _
    refine XS.iand X0.here hx rfl (hb hby d13_2) rfl ?_
    show Steps p.tables e below (s₁.setTop (mkF m 3 #[.val (.int p1), .unset] [(.int (p1 &&& (3 : Int32)))])) _
    refine XS.istoreN X0.here hx rfl (hb hby d13_3) rfl (l' := #[.val (.int p1), .val (.int (p1 &&& (3 : Int32)))]) rfl ?_
    show Steps p.tables e below (s₁.setTop (mkF m 4 #[.val (.int p1), .val (.int (p1 &&& (3 : Int32)))] [])) _
    refine XS.iloadN X0.here hx rfl (hb hby d13_4) rfl ?_
    show Steps p.tables e below (s₁.setTop (mkF m 5 #[.val (.int p1), .val (.int (p1 &&& (3 : Int32)))] [(.int (p1 &&& (3 : Int32)))])) _
    refine XS.ifNo X0.here hx rfl (hb hby d13_5) rfl ((if0 _ _).trans (teq hc5).2) ?_
    show Steps p.tables e below (s₁.setTop (mkF m 8 #[.val (.int p1), .val (.int (p1 &&& (3 : Int32)))] [])) _
    refine st3 _ ?_
    show Steps p.tables e below (T3.setTop (mkF m 11 #[.val (.int p1), .val (.int (p1 &&& (3 : Int32)))] [(.ref w2)])) _
    jvm_step X3.here [X3.here.top, hx, (hb hby d13_11), X3.method', Bd.returns, Value.isRef, FieldType.isReference]
    first | (intro acts; rw [hr _ acts rfl rfl rfl]) | rw [hr _ _ rfl rfl rfl]
    exact Steps.refl _
  · show QR Z (some (.ref w2)) h0 n0 _ T3.heap _
    rw [e3]
    exact ⟨rfl, N0, rfl⟩
set_option maxRecDepth 65536 in
set_option maxHeartbeats 40000000 in
theorem rm13_tf (l : Launch) (Z : State) (a0 : Array Value) (hw : ∀ d ∈ tables_1, d.before a0 Z = true) (ws : List Jvm.Cond) (p1 : Int32) (w2 : Addr) (h0 : Heap) (n0 : Nat) (Z0 : n0 ≤ h0.size) (S_KEYWORD : Sta Z h0 "com/example/stubwright/stubwright/read/Token$Kind" "KEYWORD" "Lcom/example/stubwright/stubwright/read/Token$Kind;" (.ref w2)) (hc5 : ¬ ((p1 &&& (3 : Int32)) = (0 : Int32))) (hc14 : (p1 &&& (3 : Int32)) = (1 : Int32)) :
    MetFree l (⟨"com/example/stubwright/stubwright/read/TokenExpansionPointPinLaw", "kindOf", "(I)Lcom/example/stubwright/stubwright/read/Token$Kind;"⟩ : MethodName) (head1 (Jvm.Cond.code (⟨"com/example/stubwright/stubwright/read/TokenExpansionPointPinLaw", "kindOf", "(I)Lcom/example/stubwright/stubwright/read/Token$Kind;"⟩ : MethodName) method_2_code 2 (some (.object "com/example/stubwright/stubwright/read/Token$Kind")) :: ws) ({ frames := 0, cells := 0, slots := 0, locals := 0 } : Room)) (fun a U => a = #[(.int p1)] ∧ Z.Warmed39 U.vm ∧ U.heap = h0) (fun _ _ _ _ _ => True) (fun _ U o U' => ∃ v L, o = .returned v ∧ QR Z (some (.ref w2)) h0 n0 v U'.heap L ∧ FrameEnd U o U' L ({ frames := 0, cells := 0, slots := 0, locals := 0 } : Room).cells ({ frames := 0, cells := 0, slots := 0, locals := 0 } : Room).slots) := by
  refine MetFree.of_bodySF (plainFor_of_name pn_13) hisR ?_
  intro p e s m args below meth c s₁ Bd hml0 hP hK
  obtain ⟨rfl, hZ, hh⟩ := hP
  have hx := Bd.exec
  have hby := Bd.bytes
  have hml : c.maxLocals = 2 := hml0
  have hown : s.vm.findClass "com/example/stubwright/stubwright/read/TokenExpansionPointPinLaw" = some m.cls := findClass_of_methodNamed Bd.named
  have hnm := (name_of_methodNamed Bd.named Bd.method).1
  have X0 : Stand p l e ({ frames := 0, cells := 0, slots := 0, locals := 0 } : Room) s m #[(.int p1)] below meth c s₁ [] 0 0 := Stand.of_body Bd
  have e0 : s₁.heap = h0 := by rw [← hh, Bd.state]; rfl
  have N0 := Fr.nil n0
  have pre0 : ∀ t, Steps p.tables e below (s₁.setTop (mkF m 0 #[.val (.int p1), .unset] [])) t → Steps p.tables e below (s₁.setTop (entryFrame m #[(.int p1)] 2)) t := fun t k => castTop (ef_13 m p1) k
  -- 3. LAWS
  obtain ⟨T3, X3, e3, st3⟩ := getS2 X0 hx hZ hown (host := "") (Or.inl (hw _ (List.mem_of_getElem? (i := 109) rfl))) Via.refl e0 S_KEYWORD (g := (mkF m 17 #[.val (.int p1), .val (.int (p1 &&& (3 : Int32)))] [])) rfl (hb hby d13_17)
  obtain ⟨fs, hr, hrun, hended, hW, hsame⟩ := X3.leave (v := some (.ref w2)) (fun h => by rw [Bd.returns] at h; cases h)
  refine ⟨_, _, pre0 _ ?_, hrun, hended, _, _, rfl, ?_, ⟨_, rfl⟩, hW, hsame.mono (by decide) (by decide)⟩
  -- 4. STEPS
  · show Steps p.tables e below (s₁.setTop (mkF m 0 #[.val (.int p1), .unset] [])) _
    refine XS.iloadN X0.here hx rfl (hb hby d13_0) rfl ?_
    show Steps p.tables e below (s₁.setTop (mkF m 1 #[.val (.int p1), .unset] [(.int p1)])) _
    refine XS.iconst X0.here hx rfl (hb hby d13_1) ?_
    show Steps p.tables e below (s₁.setTop (mkF m 2 #[.val (.int p1), .unset] [(.int (3 : Int32)), (.int p1)])) _
    refine XS.iand X0.here hx rfl (hb hby d13_2) rfl ?_
    show Steps p.tables e below (s₁.setTop (mkF m 3 #[.val (.int p1), .unset] [(.int (p1 &&& (3 : Int32)))])) _
    refine XS.istoreN X0.here hx rfl (hb hby d13_3) rfl (l' := #[.val (.int p1), .val (.int (p1 &&& (3 : Int32)))]) rfl ?_
    show Steps p.tables e below (s₁.setTop (mkF m 4 #[.val (.int p1), .val (.int (p1 &&& (3 : Int32)))] [])) _
    refine XS.iloadN X0.here hx rfl (hb hby d13_4) rfl ?_
    show Steps p.tables e below (s₁.setTop (mkF m 5 #[.val (.int p1), .val (.int (p1 &&& (3 : Int32)))] [(.int (p1 &&& (3 : Int32)))])) _
    refine XS.ifYes X0.here hx rfl (pc0 := 5) (pc' := 12) rfl (hb hby d13_5) rfl ((if0 _ _).trans (feq hc5).2) (by decide) (by decide) ?_
    show Steps p.tables e below (s₁.setTop (mkF m 12 #[.val (.int p1), .val (.int (p1 &&& (3 : Int32)))] [])) _
    refine XS.iloadN X0.here hx rfl (hb hby d13_12) rfl ?_
    show Steps p.tables e below (s₁.setTop (mkF m 13 #[.val (.int p1), .val (.int (p1 &&& (3 : Int32)))] [(.int (p1 &&& (3 : Int32)))])) _
    refine XS.iconst X0.here hx rfl (hb hby d13_13) ?_
    show Steps p.tables e below (s₁.setTop (mkF m 14 #[.val (.int p1), .val (.int (p1 &&& (3 : Int32)))] [(.int (1 : Int32)), (.int (p1 &&& (3 : Int32)))])) _
    refine XS.icmpNo X0.here hx rfl (hb hby d13_14) rfl (teq hc14).2 ?_
    show Steps p.tables e below (s₁.setTop (mkF m 17 #[.val (.int p1), .val (.int (p1 &&& (3 : Int32)))] [])) _
    refine st3 _ ?_
    show Steps p.tables e below (T3.setTop (mkF m 20 #[.val (.int p1), .val (.int (p1 &&& (3 : Int32)))] [(.ref w2)])) _
    jvm_step X3.here [X3.here.top, hx, (hb hby d13_20), X3.method', Bd.returns, Value.isRef, FieldType.isReference]
    first | (intro acts; rw [hr _ acts rfl rfl rfl]) | rw [hr _ _ rfl rfl rfl]
    exact Steps.refl _
  · show QR Z (some (.ref w2)) h0 n0 _ T3.heap _
    rw [e3]
    exact ⟨rfl, N0, rfl⟩
set_option maxRecDepth 65536 in
set_option maxHeartbeats 40000000 in
theorem rm13_ttf (l : Launch) (Z : State) (a0 : Array Value) (hw : ∀ d ∈ tables_1, d.before a0 Z = true) (ws : List Jvm.Cond) (p1 : Int32) (w2 : Addr) (h0 : Heap) (n0 : Nat) (Z0 : n0 ≤ h0.size) (S_PUNCTUATOR : Sta Z h0 "com/example/stubwright/stubwright/read/Token$Kind" "PUNCTUATOR" "Lcom/example/stubwright/stubwright/read/Token$Kind;" (.ref w2)) (hc5 : ¬ ((p1 &&& (3 : Int32)) = (0 : Int32))) (hc14 : ¬ ((p1 &&& (3 : Int32)) = (1 : Int32))) (hc23 : (p1 &&& (3 : Int32)) = (2 : Int32)) :
    MetFree l (⟨"com/example/stubwright/stubwright/read/TokenExpansionPointPinLaw", "kindOf", "(I)Lcom/example/stubwright/stubwright/read/Token$Kind;"⟩ : MethodName) (head1 (Jvm.Cond.code (⟨"com/example/stubwright/stubwright/read/TokenExpansionPointPinLaw", "kindOf", "(I)Lcom/example/stubwright/stubwright/read/Token$Kind;"⟩ : MethodName) method_2_code 2 (some (.object "com/example/stubwright/stubwright/read/Token$Kind")) :: ws) ({ frames := 0, cells := 0, slots := 0, locals := 0 } : Room)) (fun a U => a = #[(.int p1)] ∧ Z.Warmed39 U.vm ∧ U.heap = h0) (fun _ _ _ _ _ => True) (fun _ U o U' => ∃ v L, o = .returned v ∧ QR Z (some (.ref w2)) h0 n0 v U'.heap L ∧ FrameEnd U o U' L ({ frames := 0, cells := 0, slots := 0, locals := 0 } : Room).cells ({ frames := 0, cells := 0, slots := 0, locals := 0 } : Room).slots) := by
  refine MetFree.of_bodySF (plainFor_of_name pn_13) hisR ?_
  intro p e s m args below meth c s₁ Bd hml0 hP hK
  obtain ⟨rfl, hZ, hh⟩ := hP
  have hx := Bd.exec
  have hby := Bd.bytes
  have hml : c.maxLocals = 2 := hml0
  have hown : s.vm.findClass "com/example/stubwright/stubwright/read/TokenExpansionPointPinLaw" = some m.cls := findClass_of_methodNamed Bd.named
  have hnm := (name_of_methodNamed Bd.named Bd.method).1
  have X0 : Stand p l e ({ frames := 0, cells := 0, slots := 0, locals := 0 } : Room) s m #[(.int p1)] below meth c s₁ [] 0 0 := Stand.of_body Bd
  have e0 : s₁.heap = h0 := by rw [← hh, Bd.state]; rfl
  have N0 := Fr.nil n0
  have pre0 : ∀ t, Steps p.tables e below (s₁.setTop (mkF m 0 #[.val (.int p1), .unset] [])) t → Steps p.tables e below (s₁.setTop (entryFrame m #[(.int p1)] 2)) t := fun t k => castTop (ef_13 m p1) k
  -- 3. LAWS
  obtain ⟨T3, X3, e3, st3⟩ := getS2 X0 hx hZ hown (host := "") (Or.inl (hw _ (List.mem_of_getElem? (i := 113) rfl))) Via.refl e0 S_PUNCTUATOR (g := (mkF m 26 #[.val (.int p1), .val (.int (p1 &&& (3 : Int32)))] [])) rfl (hb hby d13_26)
  obtain ⟨fs, hr, hrun, hended, hW, hsame⟩ := X3.leave (v := some (.ref w2)) (fun h => by rw [Bd.returns] at h; cases h)
  refine ⟨_, _, pre0 _ ?_, hrun, hended, _, _, rfl, ?_, ⟨_, rfl⟩, hW, hsame.mono (by decide) (by decide)⟩
  -- 4. STEPS
  · show Steps p.tables e below (s₁.setTop (mkF m 0 #[.val (.int p1), .unset] [])) _
    refine XS.iloadN X0.here hx rfl (hb hby d13_0) rfl ?_
    show Steps p.tables e below (s₁.setTop (mkF m 1 #[.val (.int p1), .unset] [(.int p1)])) _
    refine XS.iconst X0.here hx rfl (hb hby d13_1) ?_
    show Steps p.tables e below (s₁.setTop (mkF m 2 #[.val (.int p1), .unset] [(.int (3 : Int32)), (.int p1)])) _
    refine XS.iand X0.here hx rfl (hb hby d13_2) rfl ?_
    show Steps p.tables e below (s₁.setTop (mkF m 3 #[.val (.int p1), .unset] [(.int (p1 &&& (3 : Int32)))])) _
    refine XS.istoreN X0.here hx rfl (hb hby d13_3) rfl (l' := #[.val (.int p1), .val (.int (p1 &&& (3 : Int32)))]) rfl ?_
    show Steps p.tables e below (s₁.setTop (mkF m 4 #[.val (.int p1), .val (.int (p1 &&& (3 : Int32)))] [])) _
    refine XS.iloadN X0.here hx rfl (hb hby d13_4) rfl ?_
    show Steps p.tables e below (s₁.setTop (mkF m 5 #[.val (.int p1), .val (.int (p1 &&& (3 : Int32)))] [(.int (p1 &&& (3 : Int32)))])) _
    refine XS.ifYes X0.here hx rfl (pc0 := 5) (pc' := 12) rfl (hb hby d13_5) rfl ((if0 _ _).trans (feq hc5).2) (by decide) (by decide) ?_
    show Steps p.tables e below (s₁.setTop (mkF m 12 #[.val (.int p1), .val (.int (p1 &&& (3 : Int32)))] [])) _
    refine XS.iloadN X0.here hx rfl (hb hby d13_12) rfl ?_
    show Steps p.tables e below (s₁.setTop (mkF m 13 #[.val (.int p1), .val (.int (p1 &&& (3 : Int32)))] [(.int (p1 &&& (3 : Int32)))])) _
    refine XS.iconst X0.here hx rfl (hb hby d13_13) ?_
    show Steps p.tables e below (s₁.setTop (mkF m 14 #[.val (.int p1), .val (.int (p1 &&& (3 : Int32)))] [(.int (1 : Int32)), (.int (p1 &&& (3 : Int32)))])) _
    refine XS.icmpYes X0.here hx rfl (pc0 := 14) (pc' := 21) rfl (hb hby d13_14) rfl (feq hc14).2 (by decide) (by decide) ?_
    show Steps p.tables e below (s₁.setTop (mkF m 21 #[.val (.int p1), .val (.int (p1 &&& (3 : Int32)))] [])) _
    refine XS.iloadN X0.here hx rfl (hb hby d13_21) rfl ?_
    show Steps p.tables e below (s₁.setTop (mkF m 22 #[.val (.int p1), .val (.int (p1 &&& (3 : Int32)))] [(.int (p1 &&& (3 : Int32)))])) _
    refine XS.iconst X0.here hx rfl (hb hby d13_22) ?_
    show Steps p.tables e below (s₁.setTop (mkF m 23 #[.val (.int p1), .val (.int (p1 &&& (3 : Int32)))] [(.int (2 : Int32)), (.int (p1 &&& (3 : Int32)))])) _
    refine XS.icmpNo X0.here hx rfl (hb hby d13_23) rfl (teq hc23).2 ?_
    show Steps p.tables e below (s₁.setTop (mkF m 26 #[.val (.int p1), .val (.int (p1 &&& (3 : Int32)))] [])) _
    refine st3 _ ?_
    show Steps p.tables e below (T3.setTop (mkF m 29 #[.val (.int p1), .val (.int (p1 &&& (3 : Int32)))] [(.ref w2)])) _
    jvm_step X3.here [X3.here.top, hx, (hb hby d13_29), X3.method', Bd.returns, Value.isRef, FieldType.isReference]
    first | (intro acts; rw [hr _ acts rfl rfl rfl]) | rw [hr _ _ rfl rfl rfl]
    exact Steps.refl _
  · show QR Z (some (.ref w2)) h0 n0 _ T3.heap _
    rw [e3]
    exact ⟨rfl, N0, rfl⟩
set_option maxRecDepth 65536 in
set_option maxHeartbeats 40000000 in
theorem rm13_ttt (l : Launch) (Z : State) (a0 : Array Value) (hw : ∀ d ∈ tables_1, d.before a0 Z = true) (ws : List Jvm.Cond) (p1 : Int32) (w2 : Addr) (h0 : Heap) (n0 : Nat) (Z0 : n0 ≤ h0.size) (S_END : Sta Z h0 "com/example/stubwright/stubwright/read/Token$Kind" "END" "Lcom/example/stubwright/stubwright/read/Token$Kind;" (.ref w2)) (hc5 : ¬ ((p1 &&& (3 : Int32)) = (0 : Int32))) (hc14 : ¬ ((p1 &&& (3 : Int32)) = (1 : Int32))) (hc23 : ¬ ((p1 &&& (3 : Int32)) = (2 : Int32))) :
    MetFree l (⟨"com/example/stubwright/stubwright/read/TokenExpansionPointPinLaw", "kindOf", "(I)Lcom/example/stubwright/stubwright/read/Token$Kind;"⟩ : MethodName) (head1 (Jvm.Cond.code (⟨"com/example/stubwright/stubwright/read/TokenExpansionPointPinLaw", "kindOf", "(I)Lcom/example/stubwright/stubwright/read/Token$Kind;"⟩ : MethodName) method_2_code 2 (some (.object "com/example/stubwright/stubwright/read/Token$Kind")) :: ws) ({ frames := 0, cells := 0, slots := 0, locals := 0 } : Room)) (fun a U => a = #[(.int p1)] ∧ Z.Warmed39 U.vm ∧ U.heap = h0) (fun _ _ _ _ _ => True) (fun _ U o U' => ∃ v L, o = .returned v ∧ QR Z (some (.ref w2)) h0 n0 v U'.heap L ∧ FrameEnd U o U' L ({ frames := 0, cells := 0, slots := 0, locals := 0 } : Room).cells ({ frames := 0, cells := 0, slots := 0, locals := 0 } : Room).slots) := by
  refine MetFree.of_bodySF (plainFor_of_name pn_13) hisR ?_
  intro p e s m args below meth c s₁ Bd hml0 hP hK
  obtain ⟨rfl, hZ, hh⟩ := hP
  have hx := Bd.exec
  have hby := Bd.bytes
  have hml : c.maxLocals = 2 := hml0
  have hown : s.vm.findClass "com/example/stubwright/stubwright/read/TokenExpansionPointPinLaw" = some m.cls := findClass_of_methodNamed Bd.named
  have hnm := (name_of_methodNamed Bd.named Bd.method).1
  have X0 : Stand p l e ({ frames := 0, cells := 0, slots := 0, locals := 0 } : Room) s m #[(.int p1)] below meth c s₁ [] 0 0 := Stand.of_body Bd
  have e0 : s₁.heap = h0 := by rw [← hh, Bd.state]; rfl
  have N0 := Fr.nil n0
  have pre0 : ∀ t, Steps p.tables e below (s₁.setTop (mkF m 0 #[.val (.int p1), .unset] [])) t → Steps p.tables e below (s₁.setTop (entryFrame m #[(.int p1)] 2)) t := fun t k => castTop (ef_13 m p1) k
  -- 3. LAWS
  obtain ⟨T3, X3, e3, st3⟩ := getS2 X0 hx hZ hown (host := "") (Or.inl (hw _ (List.mem_of_getElem? (i := 111) rfl))) Via.refl e0 S_END (g := (mkF m 30 #[.val (.int p1), .val (.int (p1 &&& (3 : Int32)))] [])) rfl (hb hby d13_30)
  obtain ⟨fs, hr, hrun, hended, hW, hsame⟩ := X3.leave (v := some (.ref w2)) (fun h => by rw [Bd.returns] at h; cases h)
  refine ⟨_, _, pre0 _ ?_, hrun, hended, _, _, rfl, ?_, ⟨_, rfl⟩, hW, hsame.mono (by decide) (by decide)⟩
  -- 4. STEPS
  · show Steps p.tables e below (s₁.setTop (mkF m 0 #[.val (.int p1), .unset] [])) _
    refine XS.iloadN X0.here hx rfl (hb hby d13_0) rfl ?_
    show Steps p.tables e below (s₁.setTop (mkF m 1 #[.val (.int p1), .unset] [(.int p1)])) _
    refine XS.iconst X0.here hx rfl (hb hby d13_1) ?_
    show Steps p.tables e below (s₁.setTop (mkF m 2 #[.val (.int p1), .unset] [(.int (3 : Int32)), (.int p1)])) _
    refine XS.iand X0.here hx rfl (hb hby d13_2) rfl ?_
    show Steps p.tables e below (s₁.setTop (mkF m 3 #[.val (.int p1), .unset] [(.int (p1 &&& (3 : Int32)))])) _
    refine XS.istoreN X0.here hx rfl (hb hby d13_3) rfl (l' := #[.val (.int p1), .val (.int (p1 &&& (3 : Int32)))]) rfl ?_
    show Steps p.tables e below (s₁.setTop (mkF m 4 #[.val (.int p1), .val (.int (p1 &&& (3 : Int32)))] [])) _
    refine XS.iloadN X0.here hx rfl (hb hby d13_4) rfl ?_
    show Steps p.tables e below (s₁.setTop (mkF m 5 #[.val (.int p1), .val (.int (p1 &&& (3 : Int32)))] [(.int (p1 &&& (3 : Int32)))])) _
    refine XS.ifYes X0.here hx rfl (pc0 := 5) (pc' := 12) rfl (hb hby d13_5) rfl ((if0 _ _).trans (feq hc5).2) (by decide) (by decide) ?_
    show Steps p.tables e below (s₁.setTop (mkF m 12 #[.val (.int p1), .val (.int (p1 &&& (3 : Int32)))] [])) _
    refine XS.iloadN X0.here hx rfl (hb hby d13_12) rfl ?_
    show Steps p.tables e below (s₁.setTop (mkF m 13 #[.val (.int p1), .val (.int (p1 &&& (3 : Int32)))] [(.int (p1 &&& (3 : Int32)))])) _
    refine XS.iconst X0.here hx rfl (hb hby d13_13) ?_
    show Steps p.tables e below (s₁.setTop (mkF m 14 #[.val (.int p1), .val (.int (p1 &&& (3 : Int32)))] [(.int (1 : Int32)), (.int (p1 &&& (3 : Int32)))])) _
    refine XS.icmpYes X0.here hx rfl (pc0 := 14) (pc' := 21) rfl (hb hby d13_14) rfl (feq hc14).2 (by decide) (by decide) ?_
    show Steps p.tables e below (s₁.setTop (mkF m 21 #[.val (.int p1), .val (.int (p1 &&& (3 : Int32)))] [])) _
    refine XS.iloadN X0.here hx rfl (hb hby d13_21) rfl ?_
    show Steps p.tables e below (s₁.setTop (mkF m 22 #[.val (.int p1), .val (.int (p1 &&& (3 : Int32)))] [(.int (p1 &&& (3 : Int32)))])) _
    refine XS.iconst X0.here hx rfl (hb hby d13_22) ?_
    show Steps p.tables e below (s₁.setTop (mkF m 23 #[.val (.int p1), .val (.int (p1 &&& (3 : Int32)))] [(.int (2 : Int32)), (.int (p1 &&& (3 : Int32)))])) _
    refine XS.icmpYes X0.here hx rfl (pc0 := 23) (pc' := 30) rfl (hb hby d13_23) rfl (feq hc23).2 (by decide) (by decide) ?_
    show Steps p.tables e below (s₁.setTop (mkF m 30 #[.val (.int p1), .val (.int (p1 &&& (3 : Int32)))] [])) _
    refine st3 _ ?_
    show Steps p.tables e below (T3.setTop (mkF m 33 #[.val (.int p1), .val (.int (p1 &&& (3 : Int32)))] [(.ref w2)])) _
    jvm_step X3.here [X3.here.top, hx, (hb hby d13_33), X3.method', Bd.returns, Value.isRef, FieldType.isReference]
    first | (intro acts; rw [hr _ acts rfl rfl rfl]) | rw [hr _ _ rfl rfl rfl]
    exact Steps.refl _
  · show QR Z (some (.ref w2)) h0 n0 _ T3.heap _
    rw [e3]
    exact ⟨rfl, N0, rfl⟩

set_option maxRecDepth 65536 in
set_option maxHeartbeats 40000000 in
theorem rm13 (l : Launch) (Z : State) (a0 : Array Value) (hw : ∀ d ∈ tables_1, d.before a0 Z = true) (ws : List Jvm.Cond) (p1 : Int32) (w2 : Addr) (h0 : Heap) (n0 : Nat) (Z0 : n0 ≤ h0.size) (P : Sta Z h0 own_KC (own_kn p1) own_KD (.ref w2)) :
    MetFree l (⟨"com/example/stubwright/stubwright/read/TokenExpansionPointPinLaw", "kindOf", "(I)Lcom/example/stubwright/stubwright/read/Token$Kind;"⟩ : MethodName) (head1 (Jvm.Cond.code (⟨"com/example/stubwright/stubwright/read/TokenExpansionPointPinLaw", "kindOf", "(I)Lcom/example/stubwright/stubwright/read/Token$Kind;"⟩ : MethodName) method_2_code 2 (some (.object "com/example/stubwright/stubwright/read/Token$Kind")) :: ws) ({ frames := 0, cells := 0, slots := 0, locals := 0 } : Room)) (fun a U => a = #[(.int p1)] ∧ Z.Warmed39 U.vm ∧ U.heap = h0) (fun _ _ _ _ _ => True) (fun _ U o U' => ∃ v L, o = .returned v ∧ QR Z (some (.ref w2)) h0 n0 v U'.heap L ∧ FrameEnd U o U' L ({ frames := 0, cells := 0, slots := 0, locals := 0 } : Room).cells ({ frames := 0, cells := 0, slots := 0, locals := 0 } : Room).slots) := by
  by_cases hc5 : (p1 &&& (3 : Int32)) = (0 : Int32)
  · have q : own_kn p1 = "IDENTIFIER" := by simp only [own_kn, if_pos hc5]
    rw [q] at P
    exact rm13_f l Z a0 hw ws p1 w2 h0 n0 Z0 P hc5
  · by_cases hc14 : (p1 &&& (3 : Int32)) = (1 : Int32)
    · have q : own_kn p1 = "KEYWORD" := by simp only [own_kn, if_neg hc5, if_pos hc14]
      rw [q] at P
      exact rm13_tf l Z a0 hw ws p1 w2 h0 n0 Z0 P hc5 hc14
    · by_cases hc23 : (p1 &&& (3 : Int32)) = (2 : Int32)
      · have q : own_kn p1 = "PUNCTUATOR" := by simp only [own_kn, if_neg hc5, if_neg hc14, if_pos hc23]
        rw [q] at P
        exact rm13_ttf l Z a0 hw ws p1 w2 h0 n0 Z0 P hc5 hc14 hc23
      · have q : own_kn p1 = "END" := by simp only [own_kn, if_neg hc5, if_neg hc14, if_neg hc23]
        rw [q] at P
        exact rm13_ttt l Z a0 hw ws p1 w2 h0 n0 Z0 P hc5 hc14 hc23
theorem d15_0 : decode prog_80_method_3_code 0 = .ok (.aload_n 0, 1) := by decide +kernel
theorem d15_1 : decode prog_80_method_3_code 1 = .ok (.invokespecial 10, 3) := by decide +kernel
theorem d15_4 : decode prog_80_method_3_code 4 = .ok (.aload_n 0, 1) := by decide +kernel
theorem d15_5 : decode prog_80_method_3_code 5 = .ok (.aload_n 1, 1) := by decide +kernel
theorem d15_6 : decode prog_80_method_3_code 6 = .ok (.putfield 15, 3) := by decide +kernel
theorem d15_9 : decode prog_80_method_3_code 9 = .ok (.aload_n 0, 1) := by decide +kernel
theorem d15_10 : decode prog_80_method_3_code 10 = .ok (.aload_n 2, 1) := by decide +kernel
theorem d15_11 : decode prog_80_method_3_code 11 = .ok (.putfield 19, 3) := by decide +kernel
theorem d15_14 : decode prog_80_method_3_code 14 = .ok (.aload_n 0, 1) := by decide +kernel
theorem d15_15 : decode prog_80_method_3_code 15 = .ok (.aload_n 3, 1) := by decide +kernel
theorem d15_16 : decode prog_80_method_3_code 16 = .ok (.putfield 23, 3) := by decide +kernel
theorem d15_19 : decode prog_80_method_3_code 19 = .ok (.aload_n 0, 1) := by decide +kernel
theorem d15_20 : decode prog_80_method_3_code 20 = .ok (.aload 4, 2) := by decide +kernel
theorem d15_22 : decode prog_80_method_3_code 22 = .ok (.putfield 27, 3) := by decide +kernel
theorem d15_25 : decode prog_80_method_3_code 25 = .ok (.aload_n 0, 1) := by decide +kernel
theorem d15_26 : decode prog_80_method_3_code 26 = .ok (.iload 5, 2) := by decide +kernel
theorem d15_28 : decode prog_80_method_3_code 28 = .ok (.putfield 31, 3) := by decide +kernel
theorem d15_31 : decode prog_80_method_3_code 31 = .ok (.aload_n 0, 1) := by decide +kernel
theorem d15_32 : decode prog_80_method_3_code 32 = .ok (.iload 6, 2) := by decide +kernel
theorem d15_34 : decode prog_80_method_3_code 34 = .ok (.putfield 35, 3) := by decide +kernel
theorem d15_37 : decode prog_80_method_3_code 37 = .ok (.aload_n 0, 1) := by decide +kernel
theorem d15_38 : decode prog_80_method_3_code 38 = .ok (.aload 7, 2) := by decide +kernel
theorem d15_40 : decode prog_80_method_3_code 40 = .ok (.putfield 38, 3) := by decide +kernel
theorem d15_43 : decode prog_80_method_3_code 43 = .ok (.return_, 1) := by decide +kernel
theorem pn_15q : plainName "com/example/stubwright/stubwright/read/Token" = true := by first | (simp [plainName, overriddenIn]; done) | decide +kernel
theorem ef_15q (m : MethodId) (x0 : Addr) (x1 : Addr) (x2 : Addr) (x4 : Addr) (x5 : Int32) (x6 : Int32) (x7 : Addr) : entryFrame m #[(.ref x0), (.ref x1), (.ref x2), .null, (.ref x4), (.int x5), (.int x6), (.ref x7)] 8 = mkF m 0 #[.val (.ref x0), .val (.ref x1), .val (.ref x2), .val .null, .val (.ref x4), .val (.int x5), .val (.int x6), .val (.ref x7)] [] := by first | (simp [entryFrame, mkF, argsToLocals, Value.category]; done) | rfl
def Q15q (Z : State) (a1 : Addr) (a2 : Addr) (a3 : Addr) (a4 : Addr) (p5 : Int32) (p6 : Int32) (a7 : Addr) (u_kind_a1 : Value) (u_spelling_a1 : Value) (u_value_a1 : Value) (u_position_a1 : Value) (u_spaceBefore_a1 : Value) (u_painted_a1 : Value) (u_expansion_a1 : Value) (h0 : Heap) (n0 : Nat) (v : Option Value) (h : Heap) (L : List Loc) : Prop := v = none ∧ Fr n0 L ∧ Keep h0 h [a1] ∧ Exa Z h a1 "com/example/stubwright/stubwright/read/Token" ∧ Fld Z h a1 "com/example/stubwright/stubwright/read/Token" "kind" "Lcom/example/stubwright/stubwright/read/Token$Kind;" (.ref a2) ∧ Fld Z h a1 "com/example/stubwright/stubwright/read/Token" "spelling" "Ljava/lang/String;" (.ref a3) ∧ Fld Z h a1 "com/example/stubwright/stubwright/read/Token" "value" "Ljava/lang/Object;" .null ∧ Fld Z h a1 "com/example/stubwright/stubwright/read/Token" "position" "Lcom/example/stubwright/stubwright/model/Position;" (.ref a4) ∧ Fld Z h a1 "com/example/stubwright/stubwright/read/Token" "spaceBefore" "Z" (.int (nar .boolean p5)) ∧ Fld Z h a1 "com/example/stubwright/stubwright/read/Token" "painted" "Z" (.int (nar .boolean p6)) ∧ Fld Z h a1 "com/example/stubwright/stubwright/read/Token" "expansion" "Lcom/example/stubwright/stubwright/model/Position;" (.ref a7)
set_option maxRecDepth 65536 in
set_option maxHeartbeats 40000000 in
theorem rm15q (l : Launch) (Z : State) (a0 : Array Value) (hw : ∀ d ∈ tables_1, d.before a0 Z = true) (ws : List Jvm.Cond) (a1 : Addr) (a2 : Addr) (a3 : Addr) (a4 : Addr) (p5 : Int32) (p6 : Int32) (a7 : Addr) (u_kind_a1 : Value) (u_spelling_a1 : Value) (u_value_a1 : Value) (u_position_a1 : Value) (u_spaceBefore_a1 : Value) (u_painted_a1 : Value) (u_expansion_a1 : Value) (h0 : Heap) (n0 : Nat) (Z0 : n0 ≤ h0.size) (E_a1 : Exa Z h0 a1 "com/example/stubwright/stubwright/read/Token") (F_kind_a1 : Fld Z h0 a1 "com/example/stubwright/stubwright/read/Token" "kind" "Lcom/example/stubwright/stubwright/read/Token$Kind;" u_kind_a1) (g_a1 : n0 ≤ a1) (F_spelling_a1 : Fld Z h0 a1 "com/example/stubwright/stubwright/read/Token" "spelling" "Ljava/lang/String;" u_spelling_a1) (F_value_a1 : Fld Z h0 a1 "com/example/stubwright/stubwright/read/Token" "value" "Ljava/lang/Object;" u_value_a1) (F_position_a1 : Fld Z h0 a1 "com/example/stubwright/stubwright/read/Token" "position" "Lcom/example/stubwright/stubwright/model/Position;" u_position_a1) (F_spaceBefore_a1 : Fld Z h0 a1 "com/example/stubwright/stubwright/read/Token" "spaceBefore" "Z" u_spaceBefore_a1) (F_painted_a1 : Fld Z h0 a1 "com/example/stubwright/stubwright/read/Token" "painted" "Z" u_painted_a1) (F_expansion_a1 : Fld Z h0 a1 "com/example/stubwright/stubwright/read/Token" "expansion" "Lcom/example/stubwright/stubwright/model/Position;" u_expansion_a1) :
    MetFree l (⟨"com/example/stubwright/stubwright/read/Token", "<init>", "(Lcom/example/stubwright/stubwright/read/Token$Kind;Ljava/lang/String;Ljava/lang/Object;Lcom/example/stubwright/stubwright/model/Position;ZZLcom/example/stubwright/stubwright/model/Position;)V"⟩ : MethodName) (head1 (Jvm.Cond.code (⟨"com/example/stubwright/stubwright/read/Token", "<init>", "(Lcom/example/stubwright/stubwright/read/Token$Kind;Ljava/lang/String;Ljava/lang/Object;Lcom/example/stubwright/stubwright/model/Position;ZZLcom/example/stubwright/stubwright/model/Position;)V"⟩ : MethodName) prog_80_method_3_code 8 none :: ws) ({ frames := 1, cells := 0, slots := 0, locals := 12 } : Room)) (fun a U => a = #[(.ref a1), (.ref a2), (.ref a3), .null, (.ref a4), (.int p5), (.int p6), (.ref a7)] ∧ Z.Warmed39 U.vm ∧ U.heap = h0) (fun _ _ _ _ _ => True) (fun _ U o U' => ∃ v L, o = .returned v ∧ Q15q Z a1 a2 a3 a4 p5 p6 a7 u_kind_a1 u_spelling_a1 u_value_a1 u_position_a1 u_spaceBefore_a1 u_painted_a1 u_expansion_a1 h0 n0 v U'.heap L ∧ FrameEnd U o U' L ({ frames := 1, cells := 0, slots := 0, locals := 12 } : Room).cells ({ frames := 1, cells := 0, slots := 0, locals := 12 } : Room).slots) := by
  refine MetFree.of_bodySF (plainFor_of_name pn_15q) hisR ?_
  intro p e s m args below meth c s₁ Bd hml0 hP hK
  obtain ⟨rfl, hZ, hh⟩ := hP
  have hx := Bd.exec
  have hby := Bd.bytes
  have hml : c.maxLocals = 8 := hml0
  have hown : s.vm.findClass "com/example/stubwright/stubwright/read/Token" = some m.cls := findClass_of_methodNamed Bd.named
  have hnm := (name_of_methodNamed Bd.named Bd.method).1
  have X0 : Stand p l e ({ frames := 1, cells := 0, slots := 0, locals := 12 } : Room) s m #[(.ref a1), (.ref a2), (.ref a3), .null, (.ref a4), (.int p5), (.int p6), (.ref a7)] below meth c s₁ [] 0 0 := Stand.of_body Bd
  have e0 : s₁.heap = h0 := by rw [← hh, Bd.state]; rfl
  have N0 := Fr.nil n0
  have pre0 : ∀ t, Steps p.tables e below (s₁.setTop (mkF m 0 #[.val (.ref a1), .val (.ref a2), .val (.ref a3), .val .null, .val (.ref a4), .val (.int p5), .val (.int p6), .val (.ref a7)] [])) t → Steps p.tables e below (s₁.setTop (entryFrame m #[(.ref a1), (.ref a2), (.ref a3), .null, (.ref a4), (.int p5), (.int p6), (.ref a7)] 8)) t := fun t k => castTop (ef_15q m a1 a2 a3 a4 p5 p6 a7) k
  -- 3. LAWS
  obtain ⟨T8, X8, e8, st8⟩ := initO X0 hx hZ hown (hw _ (List.mem_of_getElem? (i := 78) rfl)) (hw _ (List.mem_of_getElem? (i := 20) rfl)) (hw _ (List.mem_of_getElem? (i := 21) rfl)) e0 (g := (mkF m 1 #[.val (.ref a1), .val (.ref a2), .val (.ref a3), .val .null, .val (.ref a4), .val (.int p5), .val (.int p6), .val (.ref a7)] [(.ref a1)])) rfl (by rw [hml]; rfl) rfl (hb hby d15_1) (by decide) (W := 0) (by show 2 * 0 + _ ≤ _; exact Nat.le_of_eq rfl) (by decide)
  obtain ⟨T9, h9, X9, e9, W9, st9⟩ := putF X8 hx hZ hown (host := "") (Or.inl (hw _ (List.mem_of_getElem? (i := 79) rfl))) Via.refl e8 F_kind_a1 E_a1 (Or.inr ⟨(hw _ (List.mem_of_getElem? (i := 80) rfl)), rfl, hnm⟩) (hw _ (List.mem_of_getElem? (i := 63) rfl)) (ty := (.object "com/example/stubwright/stubwright/read/Token$Kind")) (by decide) rfl rfl (g := (mkF m 6 #[.val (.ref a1), .val (.ref a2), .val (.ref a3), .val .null, .val (.ref a4), .val (.int p5), .val (.int p6), .val (.ref a7)] [(.ref a2), (.ref a1)])) rfl rfl (hb hby d15_6)
  have Fw9 := F_kind_a1.same W9      -- the field now holds (.ref a2)
  have K9 : Keep h0 h9 [a1] := (Keep.refl h0 [a1]).wr W9 (Or.inl (List.mem_of_getElem? (i := 0) rfl))
  have N9 := Fr.snoc X9 N0 g_a1
  obtain ⟨T10, h10, X10, e10, W10, st10⟩ := putF X9 hx hZ hown (host := "") (Or.inl (hw _ (List.mem_of_getElem? (i := 81) rfl))) Via.refl e9 (F_spelling_a1.other W9 (Or.inr (slot_ne (Or.inr (hw _ (List.mem_of_getElem? (i := 82) rfl))) (Or.inr (hw _ (List.mem_of_getElem? (i := 80) rfl))) (by decide) (t := (.object "java/lang/String")) (t' := (.object "com/example/stubwright/stubwright/read/Token$Kind")) (by decide) (by decide)))) (E_a1.wr W9) (Or.inr ⟨(hw _ (List.mem_of_getElem? (i := 82) rfl)), rfl, hnm⟩) (hw _ (List.mem_of_getElem? (i := 63) rfl)) (ty := (.object "java/lang/String")) (by decide) rfl rfl (g := (mkF m 11 #[.val (.ref a1), .val (.ref a2), .val (.ref a3), .val .null, .val (.ref a4), .val (.int p5), .val (.int p6), .val (.ref a7)] [(.ref a3), (.ref a1)])) rfl rfl (hb hby d15_11)
  have Fw10 := (F_spelling_a1.other W9 (Or.inr (slot_ne (Or.inr (hw _ (List.mem_of_getElem? (i := 82) rfl))) (Or.inr (hw _ (List.mem_of_getElem? (i := 80) rfl))) (by decide) (t := (.object "java/lang/String")) (t' := (.object "com/example/stubwright/stubwright/read/Token$Kind")) (by decide) (by decide)))).same W10      -- the field now holds (.ref a3)
  have K10 : Keep h0 h10 [a1] := K9.wr W10 (Or.inl (List.mem_of_getElem? (i := 0) rfl))
  have N10 := Fr.snoc X10 N9 g_a1
  obtain ⟨T11, h11, X11, e11, W11, st11⟩ := putF X10 hx hZ hown (host := "") (Or.inl (hw _ (List.mem_of_getElem? (i := 83) rfl))) Via.refl e10 ((F_value_a1.other W9 (Or.inr (slot_ne (Or.inr (hw _ (List.mem_of_getElem? (i := 84) rfl))) (Or.inr (hw _ (List.mem_of_getElem? (i := 80) rfl))) (by decide) (t := (.object "java/lang/Object")) (t' := (.object "com/example/stubwright/stubwright/read/Token$Kind")) (by decide) (by decide)))).other W10 (Or.inr (slot_ne (Or.inr (hw _ (List.mem_of_getElem? (i := 84) rfl))) (Or.inr (hw _ (List.mem_of_getElem? (i := 82) rfl))) (by decide) (t := (.object "java/lang/Object")) (t' := (.object "java/lang/String")) (by decide) (by decide)))) ((E_a1.wr W9).wr W10) (Or.inr ⟨(hw _ (List.mem_of_getElem? (i := 84) rfl)), rfl, hnm⟩) (hw _ (List.mem_of_getElem? (i := 63) rfl)) (ty := (.object "java/lang/Object")) (by decide) rfl rfl (g := (mkF m 16 #[.val (.ref a1), .val (.ref a2), .val (.ref a3), .val .null, .val (.ref a4), .val (.int p5), .val (.int p6), .val (.ref a7)] [.null, (.ref a1)])) rfl rfl (hb hby d15_16)
  have Fw11 := ((F_value_a1.other W9 (Or.inr (slot_ne (Or.inr (hw _ (List.mem_of_getElem? (i := 84) rfl))) (Or.inr (hw _ (List.mem_of_getElem? (i := 80) rfl))) (by decide) (t := (.object "java/lang/Object")) (t' := (.object "com/example/stubwright/stubwright/read/Token$Kind")) (by decide) (by decide)))).other W10 (Or.inr (slot_ne (Or.inr (hw _ (List.mem_of_getElem? (i := 84) rfl))) (Or.inr (hw _ (List.mem_of_getElem? (i := 82) rfl))) (by decide) (t := (.object "java/lang/Object")) (t' := (.object "java/lang/String")) (by decide) (by decide)))).same W11      -- the field now holds .null
  have K11 : Keep h0 h11 [a1] := K10.wr W11 (Or.inl (List.mem_of_getElem? (i := 0) rfl))
  have N11 := Fr.snoc X11 N10 g_a1
  obtain ⟨T12, h12, X12, e12, W12, st12⟩ := putF X11 hx hZ hown (host := "") (Or.inl (hw _ (List.mem_of_getElem? (i := 85) rfl))) Via.refl e11 (((F_position_a1.other W9 (Or.inr (slot_ne (Or.inr (hw _ (List.mem_of_getElem? (i := 86) rfl))) (Or.inr (hw _ (List.mem_of_getElem? (i := 80) rfl))) (by decide) (t := (.object "com/example/stubwright/stubwright/model/Position")) (t' := (.object "com/example/stubwright/stubwright/read/Token$Kind")) (by decide) (by decide)))).other W10 (Or.inr (slot_ne (Or.inr (hw _ (List.mem_of_getElem? (i := 86) rfl))) (Or.inr (hw _ (List.mem_of_getElem? (i := 82) rfl))) (by decide) (t := (.object "com/example/stubwright/stubwright/model/Position")) (t' := (.object "java/lang/String")) (by decide) (by decide)))).other W11 (Or.inr (slot_ne (Or.inr (hw _ (List.mem_of_getElem? (i := 86) rfl))) (Or.inr (hw _ (List.mem_of_getElem? (i := 84) rfl))) (by decide) (t := (.object "com/example/stubwright/stubwright/model/Position")) (t' := (.object "java/lang/Object")) (by decide) (by decide)))) (((E_a1.wr W9).wr W10).wr W11) (Or.inr ⟨(hw _ (List.mem_of_getElem? (i := 86) rfl)), rfl, hnm⟩) (hw _ (List.mem_of_getElem? (i := 63) rfl)) (ty := (.object "com/example/stubwright/stubwright/model/Position")) (by decide) rfl rfl (g := (mkF m 22 #[.val (.ref a1), .val (.ref a2), .val (.ref a3), .val .null, .val (.ref a4), .val (.int p5), .val (.int p6), .val (.ref a7)] [(.ref a4), (.ref a1)])) rfl rfl (hb hby d15_22)
  have Fw12 := (((F_position_a1.other W9 (Or.inr (slot_ne (Or.inr (hw _ (List.mem_of_getElem? (i := 86) rfl))) (Or.inr (hw _ (List.mem_of_getElem? (i := 80) rfl))) (by decide) (t := (.object "com/example/stubwright/stubwright/model/Position")) (t' := (.object "com/example/stubwright/stubwright/read/Token$Kind")) (by decide) (by decide)))).other W10 (Or.inr (slot_ne (Or.inr (hw _ (List.mem_of_getElem? (i := 86) rfl))) (Or.inr (hw _ (List.mem_of_getElem? (i := 82) rfl))) (by decide) (t := (.object "com/example/stubwright/stubwright/model/Position")) (t' := (.object "java/lang/String")) (by decide) (by decide)))).other W11 (Or.inr (slot_ne (Or.inr (hw _ (List.mem_of_getElem? (i := 86) rfl))) (Or.inr (hw _ (List.mem_of_getElem? (i := 84) rfl))) (by decide) (t := (.object "com/example/stubwright/stubwright/model/Position")) (t' := (.object "java/lang/Object")) (by decide) (by decide)))).same W12      -- the field now holds (.ref a4)
  have K12 : Keep h0 h12 [a1] := K11.wr W12 (Or.inl (List.mem_of_getElem? (i := 0) rfl))
  have N12 := Fr.snoc X12 N11 g_a1
  obtain ⟨T13, h13, X13, e13, W13, st13⟩ := putFN X12 hx hZ hown (hw _ (List.mem_of_getElem? (i := 87) rfl)) Via.refl e12 ((((F_spaceBefore_a1.other W9 (Or.inr (slot_ne (Or.inr (hw _ (List.mem_of_getElem? (i := 88) rfl))) (Or.inr (hw _ (List.mem_of_getElem? (i := 80) rfl))) (by decide) (t := .boolean) (t' := (.object "com/example/stubwright/stubwright/read/Token$Kind")) (by decide) (by decide)))).other W10 (Or.inr (slot_ne (Or.inr (hw _ (List.mem_of_getElem? (i := 88) rfl))) (Or.inr (hw _ (List.mem_of_getElem? (i := 82) rfl))) (by decide) (t := .boolean) (t' := (.object "java/lang/String")) (by decide) (by decide)))).other W11 (Or.inr (slot_ne (Or.inr (hw _ (List.mem_of_getElem? (i := 88) rfl))) (Or.inr (hw _ (List.mem_of_getElem? (i := 84) rfl))) (by decide) (t := .boolean) (t' := (.object "java/lang/Object")) (by decide) (by decide)))).other W12 (Or.inr (slot_ne (Or.inr (hw _ (List.mem_of_getElem? (i := 88) rfl))) (Or.inr (hw _ (List.mem_of_getElem? (i := 86) rfl))) (by decide) (t := .boolean) (t' := (.object "com/example/stubwright/stubwright/model/Position")) (by decide) (by decide)))) ((((E_a1.wr W9).wr W10).wr W11).wr W12) (Or.inr ⟨(hw _ (List.mem_of_getElem? (i := 88) rfl)), rfl, hnm⟩) (hw _ (List.mem_of_getElem? (i := 63) rfl)) (ty := .boolean) (v := .int p5) (v' := .int (nar .boolean p5)) (by decide) rfl (fits_nar_bool _) (g := (mkF m 28 #[.val (.ref a1), .val (.ref a2), .val (.ref a3), .val .null, .val (.ref a4), .val (.int p5), .val (.int p6), .val (.ref a7)] [(.int p5), (.ref a1)])) rfl rfl (hb hby d15_28)
  have Fw13 := ((((F_spaceBefore_a1.other W9 (Or.inr (slot_ne (Or.inr (hw _ (List.mem_of_getElem? (i := 88) rfl))) (Or.inr (hw _ (List.mem_of_getElem? (i := 80) rfl))) (by decide) (t := .boolean) (t' := (.object "com/example/stubwright/stubwright/read/Token$Kind")) (by decide) (by decide)))).other W10 (Or.inr (slot_ne (Or.inr (hw _ (List.mem_of_getElem? (i := 88) rfl))) (Or.inr (hw _ (List.mem_of_getElem? (i := 82) rfl))) (by decide) (t := .boolean) (t' := (.object "java/lang/String")) (by decide) (by decide)))).other W11 (Or.inr (slot_ne (Or.inr (hw _ (List.mem_of_getElem? (i := 88) rfl))) (Or.inr (hw _ (List.mem_of_getElem? (i := 84) rfl))) (by decide) (t := .boolean) (t' := (.object "java/lang/Object")) (by decide) (by decide)))).other W12 (Or.inr (slot_ne (Or.inr (hw _ (List.mem_of_getElem? (i := 88) rfl))) (Or.inr (hw _ (List.mem_of_getElem? (i := 86) rfl))) (by decide) (t := .boolean) (t' := (.object "com/example/stubwright/stubwright/model/Position")) (by decide) (by decide)))).same W13      -- the field now holds (.int p5)
  have K13 : Keep h0 h13 [a1] := K12.wr W13 (Or.inl (List.mem_of_getElem? (i := 0) rfl))
  have N13 := Fr.snoc X13 N12 g_a1
  obtain ⟨T14, h14, X14, e14, W14, st14⟩ := putFN X13 hx hZ hown (hw _ (List.mem_of_getElem? (i := 89) rfl)) Via.refl e13 (((((F_painted_a1.other W9 (Or.inr (slot_ne (Or.inr (hw _ (List.mem_of_getElem? (i := 90) rfl))) (Or.inr (hw _ (List.mem_of_getElem? (i := 80) rfl))) (by decide) (t := .boolean) (t' := (.object "com/example/stubwright/stubwright/read/Token$Kind")) (by decide) (by decide)))).other W10 (Or.inr (slot_ne (Or.inr (hw _ (List.mem_of_getElem? (i := 90) rfl))) (Or.inr (hw _ (List.mem_of_getElem? (i := 82) rfl))) (by decide) (t := .boolean) (t' := (.object "java/lang/String")) (by decide) (by decide)))).other W11 (Or.inr (slot_ne (Or.inr (hw _ (List.mem_of_getElem? (i := 90) rfl))) (Or.inr (hw _ (List.mem_of_getElem? (i := 84) rfl))) (by decide) (t := .boolean) (t' := (.object "java/lang/Object")) (by decide) (by decide)))).other W12 (Or.inr (slot_ne (Or.inr (hw _ (List.mem_of_getElem? (i := 90) rfl))) (Or.inr (hw _ (List.mem_of_getElem? (i := 86) rfl))) (by decide) (t := .boolean) (t' := (.object "com/example/stubwright/stubwright/model/Position")) (by decide) (by decide)))).other W13 (Or.inr (slot_ne (Or.inr (hw _ (List.mem_of_getElem? (i := 90) rfl))) (Or.inr (hw _ (List.mem_of_getElem? (i := 88) rfl))) (by decide) (t := .boolean) (t' := .boolean) (by decide) (by decide)))) (((((E_a1.wr W9).wr W10).wr W11).wr W12).wr W13) (Or.inr ⟨(hw _ (List.mem_of_getElem? (i := 90) rfl)), rfl, hnm⟩) (hw _ (List.mem_of_getElem? (i := 63) rfl)) (ty := .boolean) (v := .int p6) (v' := .int (nar .boolean p6)) (by decide) rfl (fits_nar_bool _) (g := (mkF m 34 #[.val (.ref a1), .val (.ref a2), .val (.ref a3), .val .null, .val (.ref a4), .val (.int p5), .val (.int p6), .val (.ref a7)] [(.int p6), (.ref a1)])) rfl rfl (hb hby d15_34)
  have Fw14 := (((((F_painted_a1.other W9 (Or.inr (slot_ne (Or.inr (hw _ (List.mem_of_getElem? (i := 90) rfl))) (Or.inr (hw _ (List.mem_of_getElem? (i := 80) rfl))) (by decide) (t := .boolean) (t' := (.object "com/example/stubwright/stubwright/read/Token$Kind")) (by decide) (by decide)))).other W10 (Or.inr (slot_ne (Or.inr (hw _ (List.mem_of_getElem? (i := 90) rfl))) (Or.inr (hw _ (List.mem_of_getElem? (i := 82) rfl))) (by decide) (t := .boolean) (t' := (.object "java/lang/String")) (by decide) (by decide)))).other W11 (Or.inr (slot_ne (Or.inr (hw _ (List.mem_of_getElem? (i := 90) rfl))) (Or.inr (hw _ (List.mem_of_getElem? (i := 84) rfl))) (by decide) (t := .boolean) (t' := (.object "java/lang/Object")) (by decide) (by decide)))).other W12 (Or.inr (slot_ne (Or.inr (hw _ (List.mem_of_getElem? (i := 90) rfl))) (Or.inr (hw _ (List.mem_of_getElem? (i := 86) rfl))) (by decide) (t := .boolean) (t' := (.object "com/example/stubwright/stubwright/model/Position")) (by decide) (by decide)))).other W13 (Or.inr (slot_ne (Or.inr (hw _ (List.mem_of_getElem? (i := 90) rfl))) (Or.inr (hw _ (List.mem_of_getElem? (i := 88) rfl))) (by decide) (t := .boolean) (t' := .boolean) (by decide) (by decide)))).same W14      -- the field now holds (.int p6)
  have K14 : Keep h0 h14 [a1] := K13.wr W14 (Or.inl (List.mem_of_getElem? (i := 0) rfl))
  have N14 := Fr.snoc X14 N13 g_a1
  obtain ⟨T15, h15, X15, e15, W15, st15⟩ := putF X14 hx hZ hown (host := "") (Or.inl (hw _ (List.mem_of_getElem? (i := 91) rfl))) Via.refl e14 ((((((F_expansion_a1.other W9 (Or.inr (slot_ne (Or.inr (hw _ (List.mem_of_getElem? (i := 92) rfl))) (Or.inr (hw _ (List.mem_of_getElem? (i := 80) rfl))) (by decide) (t := (.object "com/example/stubwright/stubwright/model/Position")) (t' := (.object "com/example/stubwright/stubwright/read/Token$Kind")) (by decide) (by decide)))).other W10 (Or.inr (slot_ne (Or.inr (hw _ (List.mem_of_getElem? (i := 92) rfl))) (Or.inr (hw _ (List.mem_of_getElem? (i := 82) rfl))) (by decide) (t := (.object "com/example/stubwright/stubwright/model/Position")) (t' := (.object "java/lang/String")) (by decide) (by decide)))).other W11 (Or.inr (slot_ne (Or.inr (hw _ (List.mem_of_getElem? (i := 92) rfl))) (Or.inr (hw _ (List.mem_of_getElem? (i := 84) rfl))) (by decide) (t := (.object "com/example/stubwright/stubwright/model/Position")) (t' := (.object "java/lang/Object")) (by decide) (by decide)))).other W12 (Or.inr (slot_ne (Or.inr (hw _ (List.mem_of_getElem? (i := 92) rfl))) (Or.inr (hw _ (List.mem_of_getElem? (i := 86) rfl))) (by decide) (t := (.object "com/example/stubwright/stubwright/model/Position")) (t' := (.object "com/example/stubwright/stubwright/model/Position")) (by decide) (by decide)))).other W13 (Or.inr (slot_ne (Or.inr (hw _ (List.mem_of_getElem? (i := 92) rfl))) (Or.inr (hw _ (List.mem_of_getElem? (i := 88) rfl))) (by decide) (t := (.object "com/example/stubwright/stubwright/model/Position")) (t' := .boolean) (by decide) (by decide)))).other W14 (Or.inr (slot_ne (Or.inr (hw _ (List.mem_of_getElem? (i := 92) rfl))) (Or.inr (hw _ (List.mem_of_getElem? (i := 90) rfl))) (by decide) (t := (.object "com/example/stubwright/stubwright/model/Position")) (t' := .boolean) (by decide) (by decide)))) ((((((E_a1.wr W9).wr W10).wr W11).wr W12).wr W13).wr W14) (Or.inr ⟨(hw _ (List.mem_of_getElem? (i := 92) rfl)), rfl, hnm⟩) (hw _ (List.mem_of_getElem? (i := 63) rfl)) (ty := (.object "com/example/stubwright/stubwright/model/Position")) (by decide) rfl rfl (g := (mkF m 40 #[.val (.ref a1), .val (.ref a2), .val (.ref a3), .val .null, .val (.ref a4), .val (.int p5), .val (.int p6), .val (.ref a7)] [(.ref a7), (.ref a1)])) rfl rfl (hb hby d15_40)
  have Fw15 := ((((((F_expansion_a1.other W9 (Or.inr (slot_ne (Or.inr (hw _ (List.mem_of_getElem? (i := 92) rfl))) (Or.inr (hw _ (List.mem_of_getElem? (i := 80) rfl))) (by decide) (t := (.object "com/example/stubwright/stubwright/model/Position")) (t' := (.object "com/example/stubwright/stubwright/read/Token$Kind")) (by decide) (by decide)))).other W10 (Or.inr (slot_ne (Or.inr (hw _ (List.mem_of_getElem? (i := 92) rfl))) (Or.inr (hw _ (List.mem_of_getElem? (i := 82) rfl))) (by decide) (t := (.object "com/example/stubwright/stubwright/model/Position")) (t' := (.object "java/lang/String")) (by decide) (by decide)))).other W11 (Or.inr (slot_ne (Or.inr (hw _ (List.mem_of_getElem? (i := 92) rfl))) (Or.inr (hw _ (List.mem_of_getElem? (i := 84) rfl))) (by decide) (t := (.object "com/example/stubwright/stubwright/model/Position")) (t' := (.object "java/lang/Object")) (by decide) (by decide)))).other W12 (Or.inr (slot_ne (Or.inr (hw _ (List.mem_of_getElem? (i := 92) rfl))) (Or.inr (hw _ (List.mem_of_getElem? (i := 86) rfl))) (by decide) (t := (.object "com/example/stubwright/stubwright/model/Position")) (t' := (.object "com/example/stubwright/stubwright/model/Position")) (by decide) (by decide)))).other W13 (Or.inr (slot_ne (Or.inr (hw _ (List.mem_of_getElem? (i := 92) rfl))) (Or.inr (hw _ (List.mem_of_getElem? (i := 88) rfl))) (by decide) (t := (.object "com/example/stubwright/stubwright/model/Position")) (t' := .boolean) (by decide) (by decide)))).other W14 (Or.inr (slot_ne (Or.inr (hw _ (List.mem_of_getElem? (i := 92) rfl))) (Or.inr (hw _ (List.mem_of_getElem? (i := 90) rfl))) (by decide) (t := (.object "com/example/stubwright/stubwright/model/Position")) (t' := .boolean) (by decide) (by decide)))).same W15      -- the field now holds (.ref a7)
  have K15 : Keep h0 h15 [a1] := K14.wr W15 (Or.inl (List.mem_of_getElem? (i := 0) rfl))
  have N15 := Fr.snoc X15 N14 g_a1
  obtain ⟨fs, hr, hrun, hended, hW, hsame⟩ := X15.leave (v := none) (fun _ => rfl)
  refine ⟨_, _, pre0 _ ?_, hrun, hended, _, _, rfl, ?_, ⟨_, rfl⟩, hW, hsame.mono (by decide) (by decide)⟩
  -- 4. STEPS
  · show Steps p.tables e below (s₁.setTop (mkF m 0 #[.val (.ref a1), .val (.ref a2), .val (.ref a3), .val .null, .val (.ref a4), .val (.int p5), .val (.int p6), .val (.ref a7)] [])) _
    refine XS.aloadN X0.here hx rfl (hb hby d15_0) rfl rfl ?_
    show Steps p.tables e below (s₁.setTop (mkF m 1 #[.val (.ref a1), .val (.ref a2), .val (.ref a3), .val .null, .val (.ref a4), .val (.int p5), .val (.int p6), .val (.ref a7)] [(.ref a1)])) _
    refine st8 _ ?_
    show Steps p.tables e below (T8.setTop (mkF m 4 #[.val (.ref a1), .val (.ref a2), .val (.ref a3), .val .null, .val (.ref a4), .val (.int p5), .val (.int p6), .val (.ref a7)] [])) _
    refine XS.aloadN X8.here hx rfl (hb hby d15_4) rfl rfl ?_
    show Steps p.tables e below (T8.setTop (mkF m 5 #[.val (.ref a1), .val (.ref a2), .val (.ref a3), .val .null, .val (.ref a4), .val (.int p5), .val (.int p6), .val (.ref a7)] [(.ref a1)])) _
    refine XS.aloadN X8.here hx rfl (hb hby d15_5) rfl rfl ?_
    show Steps p.tables e below (T8.setTop (mkF m 6 #[.val (.ref a1), .val (.ref a2), .val (.ref a3), .val .null, .val (.ref a4), .val (.int p5), .val (.int p6), .val (.ref a7)] [(.ref a2), (.ref a1)])) _
    refine st9 _ ?_
    show Steps p.tables e below (T9.setTop (mkF m 9 #[.val (.ref a1), .val (.ref a2), .val (.ref a3), .val .null, .val (.ref a4), .val (.int p5), .val (.int p6), .val (.ref a7)] [])) _
    refine XS.aloadN X9.here hx rfl (hb hby d15_9) rfl rfl ?_
    show Steps p.tables e below (T9.setTop (mkF m 10 #[.val (.ref a1), .val (.ref a2), .val (.ref a3), .val .null, .val (.ref a4), .val (.int p5), .val (.int p6), .val (.ref a7)] [(.ref a1)])) _
    refine XS.aloadN X9.here hx rfl (hb hby d15_10) rfl rfl ?_
    show Steps p.tables e below (T9.setTop (mkF m 11 #[.val (.ref a1), .val (.ref a2), .val (.ref a3), .val .null, .val (.ref a4), .val (.int p5), .val (.int p6), .val (.ref a7)] [(.ref a3), (.ref a1)])) _
    refine st10 _ ?_
    show Steps p.tables e below (T10.setTop (mkF m 14 #[.val (.ref a1), .val (.ref a2), .val (.ref a3), .val .null, .val (.ref a4), .val (.int p5), .val (.int p6), .val (.ref a7)] [])) _
    refine XS.aloadN X10.here hx rfl (hb hby d15_14) rfl rfl ?_
    show Steps p.tables e below (T10.setTop (mkF m 15 #[.val (.ref a1), .val (.ref a2), .val (.ref a3), .val .null, .val (.ref a4), .val (.int p5), .val (.int p6), .val (.ref a7)] [(.ref a1)])) _
    refine XS.aloadN X10.here hx rfl (hb hby d15_15) rfl rfl ?_
    show Steps p.tables e below (T10.setTop (mkF m 16 #[.val (.ref a1), .val (.ref a2), .val (.ref a3), .val .null, .val (.ref a4), .val (.int p5), .val (.int p6), .val (.ref a7)] [.null, (.ref a1)])) _
    refine st11 _ ?_
    show Steps p.tables e below (T11.setTop (mkF m 19 #[.val (.ref a1), .val (.ref a2), .val (.ref a3), .val .null, .val (.ref a4), .val (.int p5), .val (.int p6), .val (.ref a7)] [])) _
    refine XS.aloadN X11.here hx rfl (hb hby d15_19) rfl rfl ?_
    show Steps p.tables e below (T11.setTop (mkF m 20 #[.val (.ref a1), .val (.ref a2), .val (.ref a3), .val .null, .val (.ref a4), .val (.int p5), .val (.int p6), .val (.ref a7)] [(.ref a1)])) _
    refine XS.aload X11.here hx rfl (hb hby d15_20) rfl rfl ?_
    show Steps p.tables e below (T11.setTop (mkF m 22 #[.val (.ref a1), .val (.ref a2), .val (.ref a3), .val .null, .val (.ref a4), .val (.int p5), .val (.int p6), .val (.ref a7)] [(.ref a4), (.ref a1)])) _
    refine st12 _ ?_
    show Steps p.tables e below (T12.setTop (mkF m 25 #[.val (.ref a1), .val (.ref a2), .val (.ref a3), .val .null, .val (.ref a4), .val (.int p5), .val (.int p6), .val (.ref a7)] [])) _
    refine XS.aloadN X12.here hx rfl (hb hby d15_25) rfl rfl ?_
    show Steps p.tables e below (T12.setTop (mkF m 26 #[.val (.ref a1), .val (.ref a2), .val (.ref a3), .val .null, .val (.ref a4), .val (.int p5), .val (.int p6), .val (.ref a7)] [(.ref a1)])) _
    refine XS.iload X12.here hx rfl (hb hby d15_26) rfl ?_
    show Steps p.tables e below (T12.setTop (mkF m 28 #[.val (.ref a1), .val (.ref a2), .val (.ref a3), .val .null, .val (.ref a4), .val (.int p5), .val (.int p6), .val (.ref a7)] [(.int p5), (.ref a1)])) _
    refine st13 _ ?_
    show Steps p.tables e below (T13.setTop (mkF m 31 #[.val (.ref a1), .val (.ref a2), .val (.ref a3), .val .null, .val (.ref a4), .val (.int p5), .val (.int p6), .val (.ref a7)] [])) _
    refine XS.aloadN X13.here hx rfl (hb hby d15_31) rfl rfl ?_
    show Steps p.tables e below (T13.setTop (mkF m 32 #[.val (.ref a1), .val (.ref a2), .val (.ref a3), .val .null, .val (.ref a4), .val (.int p5), .val (.int p6), .val (.ref a7)] [(.ref a1)])) _
    refine XS.iload X13.here hx rfl (hb hby d15_32) rfl ?_
    show Steps p.tables e below (T13.setTop (mkF m 34 #[.val (.ref a1), .val (.ref a2), .val (.ref a3), .val .null, .val (.ref a4), .val (.int p5), .val (.int p6), .val (.ref a7)] [(.int p6), (.ref a1)])) _
    refine st14 _ ?_
    show Steps p.tables e below (T14.setTop (mkF m 37 #[.val (.ref a1), .val (.ref a2), .val (.ref a3), .val .null, .val (.ref a4), .val (.int p5), .val (.int p6), .val (.ref a7)] [])) _
    refine XS.aloadN X14.here hx rfl (hb hby d15_37) rfl rfl ?_
    show Steps p.tables e below (T14.setTop (mkF m 38 #[.val (.ref a1), .val (.ref a2), .val (.ref a3), .val .null, .val (.ref a4), .val (.int p5), .val (.int p6), .val (.ref a7)] [(.ref a1)])) _
    refine XS.aload X14.here hx rfl (hb hby d15_38) rfl rfl ?_
    show Steps p.tables e below (T14.setTop (mkF m 40 #[.val (.ref a1), .val (.ref a2), .val (.ref a3), .val .null, .val (.ref a4), .val (.int p5), .val (.int p6), .val (.ref a7)] [(.ref a7), (.ref a1)])) _
    refine st15 _ ?_
    show Steps p.tables e below (T15.setTop (mkF m 43 #[.val (.ref a1), .val (.ref a2), .val (.ref a3), .val .null, .val (.ref a4), .val (.int p5), .val (.int p6), .val (.ref a7)] [])) _
    exact X15.returnOut hx Bd.returns (hb hby d15_43) hr
  · show Q15q Z a1 a2 a3 a4 p5 p6 a7 u_kind_a1 u_spelling_a1 u_value_a1 u_position_a1 u_spaceBefore_a1 u_painted_a1 u_expansion_a1 h0 n0 _ T15.heap _
    rw [e15]
    exact ⟨rfl, N15, K15, (((((((E_a1.wr W9).wr W10).wr W11).wr W12).wr W13).wr W14).wr W15), ((((((Fw9.other W10 (Or.inr (slot_ne (Or.inr (hw _ (List.mem_of_getElem? (i := 80) rfl))) (Or.inr (hw _ (List.mem_of_getElem? (i := 82) rfl))) (by decide) (t := (.object "com/example/stubwright/stubwright/read/Token$Kind")) (t' := (.object "java/lang/String")) (by decide) (by decide)))).other W11 (Or.inr (slot_ne (Or.inr (hw _ (List.mem_of_getElem? (i := 80) rfl))) (Or.inr (hw _ (List.mem_of_getElem? (i := 84) rfl))) (by decide) (t := (.object "com/example/stubwright/stubwright/read/Token$Kind")) (t' := (.object "java/lang/Object")) (by decide) (by decide)))).other W12 (Or.inr (slot_ne (Or.inr (hw _ (List.mem_of_getElem? (i := 80) rfl))) (Or.inr (hw _ (List.mem_of_getElem? (i := 86) rfl))) (by decide) (t := (.object "com/example/stubwright/stubwright/read/Token$Kind")) (t' := (.object "com/example/stubwright/stubwright/model/Position")) (by decide) (by decide)))).other W13 (Or.inr (slot_ne (Or.inr (hw _ (List.mem_of_getElem? (i := 80) rfl))) (Or.inr (hw _ (List.mem_of_getElem? (i := 88) rfl))) (by decide) (t := (.object "com/example/stubwright/stubwright/read/Token$Kind")) (t' := .boolean) (by decide) (by decide)))).other W14 (Or.inr (slot_ne (Or.inr (hw _ (List.mem_of_getElem? (i := 80) rfl))) (Or.inr (hw _ (List.mem_of_getElem? (i := 90) rfl))) (by decide) (t := (.object "com/example/stubwright/stubwright/read/Token$Kind")) (t' := .boolean) (by decide) (by decide)))).other W15 (Or.inr (slot_ne (Or.inr (hw _ (List.mem_of_getElem? (i := 80) rfl))) (Or.inr (hw _ (List.mem_of_getElem? (i := 92) rfl))) (by decide) (t := (.object "com/example/stubwright/stubwright/read/Token$Kind")) (t' := (.object "com/example/stubwright/stubwright/model/Position")) (by decide) (by decide)))), (((((Fw10.other W11 (Or.inr (slot_ne (Or.inr (hw _ (List.mem_of_getElem? (i := 82) rfl))) (Or.inr (hw _ (List.mem_of_getElem? (i := 84) rfl))) (by decide) (t := (.object "java/lang/String")) (t' := (.object "java/lang/Object")) (by decide) (by decide)))).other W12 (Or.inr (slot_ne (Or.inr (hw _ (List.mem_of_getElem? (i := 82) rfl))) (Or.inr (hw _ (List.mem_of_getElem? (i := 86) rfl))) (by decide) (t := (.object "java/lang/String")) (t' := (.object "com/example/stubwright/stubwright/model/Position")) (by decide) (by decide)))).other W13 (Or.inr (slot_ne (Or.inr (hw _ (List.mem_of_getElem? (i := 82) rfl))) (Or.inr (hw _ (List.mem_of_getElem? (i := 88) rfl))) (by decide) (t := (.object "java/lang/String")) (t' := .boolean) (by decide) (by decide)))).other W14 (Or.inr (slot_ne (Or.inr (hw _ (List.mem_of_getElem? (i := 82) rfl))) (Or.inr (hw _ (List.mem_of_getElem? (i := 90) rfl))) (by decide) (t := (.object "java/lang/String")) (t' := .boolean) (by decide) (by decide)))).other W15 (Or.inr (slot_ne (Or.inr (hw _ (List.mem_of_getElem? (i := 82) rfl))) (Or.inr (hw _ (List.mem_of_getElem? (i := 92) rfl))) (by decide) (t := (.object "java/lang/String")) (t' := (.object "com/example/stubwright/stubwright/model/Position")) (by decide) (by decide)))), ((((Fw11.other W12 (Or.inr (slot_ne (Or.inr (hw _ (List.mem_of_getElem? (i := 84) rfl))) (Or.inr (hw _ (List.mem_of_getElem? (i := 86) rfl))) (by decide) (t := (.object "java/lang/Object")) (t' := (.object "com/example/stubwright/stubwright/model/Position")) (by decide) (by decide)))).other W13 (Or.inr (slot_ne (Or.inr (hw _ (List.mem_of_getElem? (i := 84) rfl))) (Or.inr (hw _ (List.mem_of_getElem? (i := 88) rfl))) (by decide) (t := (.object "java/lang/Object")) (t' := .boolean) (by decide) (by decide)))).other W14 (Or.inr (slot_ne (Or.inr (hw _ (List.mem_of_getElem? (i := 84) rfl))) (Or.inr (hw _ (List.mem_of_getElem? (i := 90) rfl))) (by decide) (t := (.object "java/lang/Object")) (t' := .boolean) (by decide) (by decide)))).other W15 (Or.inr (slot_ne (Or.inr (hw _ (List.mem_of_getElem? (i := 84) rfl))) (Or.inr (hw _ (List.mem_of_getElem? (i := 92) rfl))) (by decide) (t := (.object "java/lang/Object")) (t' := (.object "com/example/stubwright/stubwright/model/Position")) (by decide) (by decide)))), (((Fw12.other W13 (Or.inr (slot_ne (Or.inr (hw _ (List.mem_of_getElem? (i := 86) rfl))) (Or.inr (hw _ (List.mem_of_getElem? (i := 88) rfl))) (by decide) (t := (.object "com/example/stubwright/stubwright/model/Position")) (t' := .boolean) (by decide) (by decide)))).other W14 (Or.inr (slot_ne (Or.inr (hw _ (List.mem_of_getElem? (i := 86) rfl))) (Or.inr (hw _ (List.mem_of_getElem? (i := 90) rfl))) (by decide) (t := (.object "com/example/stubwright/stubwright/model/Position")) (t' := .boolean) (by decide) (by decide)))).other W15 (Or.inr (slot_ne (Or.inr (hw _ (List.mem_of_getElem? (i := 86) rfl))) (Or.inr (hw _ (List.mem_of_getElem? (i := 92) rfl))) (by decide) (t := (.object "com/example/stubwright/stubwright/model/Position")) (t' := (.object "com/example/stubwright/stubwright/model/Position")) (by decide) (by decide)))), ((Fw13.other W14 (Or.inr (slot_ne (Or.inr (hw _ (List.mem_of_getElem? (i := 88) rfl))) (Or.inr (hw _ (List.mem_of_getElem? (i := 90) rfl))) (by decide) (t := .boolean) (t' := .boolean) (by decide) (by decide)))).other W15 (Or.inr (slot_ne (Or.inr (hw _ (List.mem_of_getElem? (i := 88) rfl))) (Or.inr (hw _ (List.mem_of_getElem? (i := 92) rfl))) (by decide) (t := .boolean) (t' := (.object "com/example/stubwright/stubwright/model/Position")) (by decide) (by decide)))), (Fw14.other W15 (Or.inr (slot_ne (Or.inr (hw _ (List.mem_of_getElem? (i := 90) rfl))) (Or.inr (hw _ (List.mem_of_getElem? (i := 92) rfl))) (by decide) (t := .boolean) (t' := (.object "com/example/stubwright/stubwright/model/Position")) (by decide) (by decide)))), Fw15⟩
theorem pn_15n : plainName "com/example/stubwright/stubwright/read/Token" = true := by first | (simp [plainName, overriddenIn]; done) | decide +kernel
theorem ef_15n (m : MethodId) (x0 : Addr) (x1 : Addr) (x2 : Addr) (x4 : Addr) (x5 : Int32) (x6 : Int32) : entryFrame m #[(.ref x0), (.ref x1), (.ref x2), .null, (.ref x4), (.int x5), (.int x6), .null] 8 = mkF m 0 #[.val (.ref x0), .val (.ref x1), .val (.ref x2), .val .null, .val (.ref x4), .val (.int x5), .val (.int x6), .val .null] [] := by first | (simp [entryFrame, mkF, argsToLocals, Value.category]; done) | rfl
def Q15n (Z : State) (a1 : Addr) (a2 : Addr) (a3 : Addr) (a4 : Addr) (p5 : Int32) (p6 : Int32) (u_kind_a1 : Value) (u_spelling_a1 : Value) (u_value_a1 : Value) (u_position_a1 : Value) (u_spaceBefore_a1 : Value) (u_painted_a1 : Value) (u_expansion_a1 : Value) (h0 : Heap) (n0 : Nat) (v : Option Value) (h : Heap) (L : List Loc) : Prop := v = none ∧ Fr n0 L ∧ Keep h0 h [a1] ∧ Exa Z h a1 "com/example/stubwright/stubwright/read/Token" ∧ Fld Z h a1 "com/example/stubwright/stubwright/read/Token" "kind" "Lcom/example/stubwright/stubwright/read/Token$Kind;" (.ref a2) ∧ Fld Z h a1 "com/example/stubwright/stubwright/read/Token" "spelling" "Ljava/lang/String;" (.ref a3) ∧ Fld Z h a1 "com/example/stubwright/stubwright/read/Token" "value" "Ljava/lang/Object;" .null ∧ Fld Z h a1 "com/example/stubwright/stubwright/read/Token" "position" "Lcom/example/stubwright/stubwright/model/Position;" (.ref a4) ∧ Fld Z h a1 "com/example/stubwright/stubwright/read/Token" "spaceBefore" "Z" (.int (nar .boolean p5)) ∧ Fld Z h a1 "com/example/stubwright/stubwright/read/Token" "painted" "Z" (.int (nar .boolean p6)) ∧ Fld Z h a1 "com/example/stubwright/stubwright/read/Token" "expansion" "Lcom/example/stubwright/stubwright/model/Position;" .null
set_option maxRecDepth 65536 in
set_option maxHeartbeats 40000000 in
theorem rm15n (l : Launch) (Z : State) (a0 : Array Value) (hw : ∀ d ∈ tables_1, d.before a0 Z = true) (ws : List Jvm.Cond) (a1 : Addr) (a2 : Addr) (a3 : Addr) (a4 : Addr) (p5 : Int32) (p6 : Int32) (u_kind_a1 : Value) (u_spelling_a1 : Value) (u_value_a1 : Value) (u_position_a1 : Value) (u_spaceBefore_a1 : Value) (u_painted_a1 : Value) (u_expansion_a1 : Value) (h0 : Heap) (n0 : Nat) (Z0 : n0 ≤ h0.size) (E_a1 : Exa Z h0 a1 "com/example/stubwright/stubwright/read/Token") (F_kind_a1 : Fld Z h0 a1 "com/example/stubwright/stubwright/read/Token" "kind" "Lcom/example/stubwright/stubwright/read/Token$Kind;" u_kind_a1) (g_a1 : n0 ≤ a1) (F_spelling_a1 : Fld Z h0 a1 "com/example/stubwright/stubwright/read/Token" "spelling" "Ljava/lang/String;" u_spelling_a1) (F_value_a1 : Fld Z h0 a1 "com/example/stubwright/stubwright/read/Token" "value" "Ljava/lang/Object;" u_value_a1) (F_position_a1 : Fld Z h0 a1 "com/example/stubwright/stubwright/read/Token" "position" "Lcom/example/stubwright/stubwright/model/Position;" u_position_a1) (F_spaceBefore_a1 : Fld Z h0 a1 "com/example/stubwright/stubwright/read/Token" "spaceBefore" "Z" u_spaceBefore_a1) (F_painted_a1 : Fld Z h0 a1 "com/example/stubwright/stubwright/read/Token" "painted" "Z" u_painted_a1) (F_expansion_a1 : Fld Z h0 a1 "com/example/stubwright/stubwright/read/Token" "expansion" "Lcom/example/stubwright/stubwright/model/Position;" u_expansion_a1) :
    MetFree l (⟨"com/example/stubwright/stubwright/read/Token", "<init>", "(Lcom/example/stubwright/stubwright/read/Token$Kind;Ljava/lang/String;Ljava/lang/Object;Lcom/example/stubwright/stubwright/model/Position;ZZLcom/example/stubwright/stubwright/model/Position;)V"⟩ : MethodName) (head1 (Jvm.Cond.code (⟨"com/example/stubwright/stubwright/read/Token", "<init>", "(Lcom/example/stubwright/stubwright/read/Token$Kind;Ljava/lang/String;Ljava/lang/Object;Lcom/example/stubwright/stubwright/model/Position;ZZLcom/example/stubwright/stubwright/model/Position;)V"⟩ : MethodName) prog_80_method_3_code 8 none :: ws) ({ frames := 1, cells := 0, slots := 0, locals := 12 } : Room)) (fun a U => a = #[(.ref a1), (.ref a2), (.ref a3), .null, (.ref a4), (.int p5), (.int p6), .null] ∧ Z.Warmed39 U.vm ∧ U.heap = h0) (fun _ _ _ _ _ => True) (fun _ U o U' => ∃ v L, o = .returned v ∧ Q15n Z a1 a2 a3 a4 p5 p6 u_kind_a1 u_spelling_a1 u_value_a1 u_position_a1 u_spaceBefore_a1 u_painted_a1 u_expansion_a1 h0 n0 v U'.heap L ∧ FrameEnd U o U' L ({ frames := 1, cells := 0, slots := 0, locals := 12 } : Room).cells ({ frames := 1, cells := 0, slots := 0, locals := 12 } : Room).slots) := by
  refine MetFree.of_bodySF (plainFor_of_name pn_15n) hisR ?_
  intro p e s m args below meth c s₁ Bd hml0 hP hK
  obtain ⟨rfl, hZ, hh⟩ := hP
  have hx := Bd.exec
  have hby := Bd.bytes
  have hml : c.maxLocals = 8 := hml0
  have hown : s.vm.findClass "com/example/stubwright/stubwright/read/Token" = some m.cls := findClass_of_methodNamed Bd.named
  have hnm := (name_of_methodNamed Bd.named Bd.method).1
  have X0 : Stand p l e ({ frames := 1, cells := 0, slots := 0, locals := 12 } : Room) s m #[(.ref a1), (.ref a2), (.ref a3), .null, (.ref a4), (.int p5), (.int p6), .null] below meth c s₁ [] 0 0 := Stand.of_body Bd
  have e0 : s₁.heap = h0 := by rw [← hh, Bd.state]; rfl
  have N0 := Fr.nil n0
  have pre0 : ∀ t, Steps p.tables e below (s₁.setTop (mkF m 0 #[.val (.ref a1), .val (.ref a2), .val (.ref a3), .val .null, .val (.ref a4), .val (.int p5), .val (.int p6), .val .null] [])) t → Steps p.tables e below (s₁.setTop (entryFrame m #[(.ref a1), (.ref a2), (.ref a3), .null, (.ref a4), (.int p5), (.int p6), .null] 8)) t := fun t k => castTop (ef_15n m a1 a2 a3 a4 p5 p6) k
  -- 3. LAWS
  obtain ⟨T7, X7, e7, st7⟩ := initO X0 hx hZ hown (hw _ (List.mem_of_getElem? (i := 78) rfl)) (hw _ (List.mem_of_getElem? (i := 20) rfl)) (hw _ (List.mem_of_getElem? (i := 21) rfl)) e0 (g := (mkF m 1 #[.val (.ref a1), .val (.ref a2), .val (.ref a3), .val .null, .val (.ref a4), .val (.int p5), .val (.int p6), .val .null] [(.ref a1)])) rfl (by rw [hml]; rfl) rfl (hb hby d15_1) (by decide) (W := 0) (by show 2 * 0 + _ ≤ _; exact Nat.le_of_eq rfl) (by decide)
  obtain ⟨T8, h8, X8, e8, W8, st8⟩ := putF X7 hx hZ hown (host := "") (Or.inl (hw _ (List.mem_of_getElem? (i := 79) rfl))) Via.refl e7 F_kind_a1 E_a1 (Or.inr ⟨(hw _ (List.mem_of_getElem? (i := 80) rfl)), rfl, hnm⟩) (hw _ (List.mem_of_getElem? (i := 63) rfl)) (ty := (.object "com/example/stubwright/stubwright/read/Token$Kind")) (by decide) rfl rfl (g := (mkF m 6 #[.val (.ref a1), .val (.ref a2), .val (.ref a3), .val .null, .val (.ref a4), .val (.int p5), .val (.int p6), .val .null] [(.ref a2), (.ref a1)])) rfl rfl (hb hby d15_6)
  have Fw8 := F_kind_a1.same W8      -- the field now holds (.ref a2)
  have K8 : Keep h0 h8 [a1] := (Keep.refl h0 [a1]).wr W8 (Or.inl (List.mem_of_getElem? (i := 0) rfl))
  have N8 := Fr.snoc X8 N0 g_a1
  obtain ⟨T9, h9, X9, e9, W9, st9⟩ := putF X8 hx hZ hown (host := "") (Or.inl (hw _ (List.mem_of_getElem? (i := 81) rfl))) Via.refl e8 (F_spelling_a1.other W8 (Or.inr (slot_ne (Or.inr (hw _ (List.mem_of_getElem? (i := 82) rfl))) (Or.inr (hw _ (List.mem_of_getElem? (i := 80) rfl))) (by decide) (t := (.object "java/lang/String")) (t' := (.object "com/example/stubwright/stubwright/read/Token$Kind")) (by decide) (by decide)))) (E_a1.wr W8) (Or.inr ⟨(hw _ (List.mem_of_getElem? (i := 82) rfl)), rfl, hnm⟩) (hw _ (List.mem_of_getElem? (i := 63) rfl)) (ty := (.object "java/lang/String")) (by decide) rfl rfl (g := (mkF m 11 #[.val (.ref a1), .val (.ref a2), .val (.ref a3), .val .null, .val (.ref a4), .val (.int p5), .val (.int p6), .val .null] [(.ref a3), (.ref a1)])) rfl rfl (hb hby d15_11)
  have Fw9 := (F_spelling_a1.other W8 (Or.inr (slot_ne (Or.inr (hw _ (List.mem_of_getElem? (i := 82) rfl))) (Or.inr (hw _ (List.mem_of_getElem? (i := 80) rfl))) (by decide) (t := (.object "java/lang/String")) (t' := (.object "com/example/stubwright/stubwright/read/Token$Kind")) (by decide) (by decide)))).same W9      -- the field now holds (.ref a3)
  have K9 : Keep h0 h9 [a1] := K8.wr W9 (Or.inl (List.mem_of_getElem? (i := 0) rfl))
  have N9 := Fr.snoc X9 N8 g_a1
  obtain ⟨T10, h10, X10, e10, W10, st10⟩ := putF X9 hx hZ hown (host := "") (Or.inl (hw _ (List.mem_of_getElem? (i := 83) rfl))) Via.refl e9 ((F_value_a1.other W8 (Or.inr (slot_ne (Or.inr (hw _ (List.mem_of_getElem? (i := 84) rfl))) (Or.inr (hw _ (List.mem_of_getElem? (i := 80) rfl))) (by decide) (t := (.object "java/lang/Object")) (t' := (.object "com/example/stubwright/stubwright/read/Token$Kind")) (by decide) (by decide)))).other W9 (Or.inr (slot_ne (Or.inr (hw _ (List.mem_of_getElem? (i := 84) rfl))) (Or.inr (hw _ (List.mem_of_getElem? (i := 82) rfl))) (by decide) (t := (.object "java/lang/Object")) (t' := (.object "java/lang/String")) (by decide) (by decide)))) ((E_a1.wr W8).wr W9) (Or.inr ⟨(hw _ (List.mem_of_getElem? (i := 84) rfl)), rfl, hnm⟩) (hw _ (List.mem_of_getElem? (i := 63) rfl)) (ty := (.object "java/lang/Object")) (by decide) rfl rfl (g := (mkF m 16 #[.val (.ref a1), .val (.ref a2), .val (.ref a3), .val .null, .val (.ref a4), .val (.int p5), .val (.int p6), .val .null] [.null, (.ref a1)])) rfl rfl (hb hby d15_16)
  have Fw10 := ((F_value_a1.other W8 (Or.inr (slot_ne (Or.inr (hw _ (List.mem_of_getElem? (i := 84) rfl))) (Or.inr (hw _ (List.mem_of_getElem? (i := 80) rfl))) (by decide) (t := (.object "java/lang/Object")) (t' := (.object "com/example/stubwright/stubwright/read/Token$Kind")) (by decide) (by decide)))).other W9 (Or.inr (slot_ne (Or.inr (hw _ (List.mem_of_getElem? (i := 84) rfl))) (Or.inr (hw _ (List.mem_of_getElem? (i := 82) rfl))) (by decide) (t := (.object "java/lang/Object")) (t' := (.object "java/lang/String")) (by decide) (by decide)))).same W10      -- the field now holds .null
  have K10 : Keep h0 h10 [a1] := K9.wr W10 (Or.inl (List.mem_of_getElem? (i := 0) rfl))
  have N10 := Fr.snoc X10 N9 g_a1
  obtain ⟨T11, h11, X11, e11, W11, st11⟩ := putF X10 hx hZ hown (host := "") (Or.inl (hw _ (List.mem_of_getElem? (i := 85) rfl))) Via.refl e10 (((F_position_a1.other W8 (Or.inr (slot_ne (Or.inr (hw _ (List.mem_of_getElem? (i := 86) rfl))) (Or.inr (hw _ (List.mem_of_getElem? (i := 80) rfl))) (by decide) (t := (.object "com/example/stubwright/stubwright/model/Position")) (t' := (.object "com/example/stubwright/stubwright/read/Token$Kind")) (by decide) (by decide)))).other W9 (Or.inr (slot_ne (Or.inr (hw _ (List.mem_of_getElem? (i := 86) rfl))) (Or.inr (hw _ (List.mem_of_getElem? (i := 82) rfl))) (by decide) (t := (.object "com/example/stubwright/stubwright/model/Position")) (t' := (.object "java/lang/String")) (by decide) (by decide)))).other W10 (Or.inr (slot_ne (Or.inr (hw _ (List.mem_of_getElem? (i := 86) rfl))) (Or.inr (hw _ (List.mem_of_getElem? (i := 84) rfl))) (by decide) (t := (.object "com/example/stubwright/stubwright/model/Position")) (t' := (.object "java/lang/Object")) (by decide) (by decide)))) (((E_a1.wr W8).wr W9).wr W10) (Or.inr ⟨(hw _ (List.mem_of_getElem? (i := 86) rfl)), rfl, hnm⟩) (hw _ (List.mem_of_getElem? (i := 63) rfl)) (ty := (.object "com/example/stubwright/stubwright/model/Position")) (by decide) rfl rfl (g := (mkF m 22 #[.val (.ref a1), .val (.ref a2), .val (.ref a3), .val .null, .val (.ref a4), .val (.int p5), .val (.int p6), .val .null] [(.ref a4), (.ref a1)])) rfl rfl (hb hby d15_22)
  have Fw11 := (((F_position_a1.other W8 (Or.inr (slot_ne (Or.inr (hw _ (List.mem_of_getElem? (i := 86) rfl))) (Or.inr (hw _ (List.mem_of_getElem? (i := 80) rfl))) (by decide) (t := (.object "com/example/stubwright/stubwright/model/Position")) (t' := (.object "com/example/stubwright/stubwright/read/Token$Kind")) (by decide) (by decide)))).other W9 (Or.inr (slot_ne (Or.inr (hw _ (List.mem_of_getElem? (i := 86) rfl))) (Or.inr (hw _ (List.mem_of_getElem? (i := 82) rfl))) (by decide) (t := (.object "com/example/stubwright/stubwright/model/Position")) (t' := (.object "java/lang/String")) (by decide) (by decide)))).other W10 (Or.inr (slot_ne (Or.inr (hw _ (List.mem_of_getElem? (i := 86) rfl))) (Or.inr (hw _ (List.mem_of_getElem? (i := 84) rfl))) (by decide) (t := (.object "com/example/stubwright/stubwright/model/Position")) (t' := (.object "java/lang/Object")) (by decide) (by decide)))).same W11      -- the field now holds (.ref a4)
  have K11 : Keep h0 h11 [a1] := K10.wr W11 (Or.inl (List.mem_of_getElem? (i := 0) rfl))
  have N11 := Fr.snoc X11 N10 g_a1
  obtain ⟨T12, h12, X12, e12, W12, st12⟩ := putFN X11 hx hZ hown (hw _ (List.mem_of_getElem? (i := 87) rfl)) Via.refl e11 ((((F_spaceBefore_a1.other W8 (Or.inr (slot_ne (Or.inr (hw _ (List.mem_of_getElem? (i := 88) rfl))) (Or.inr (hw _ (List.mem_of_getElem? (i := 80) rfl))) (by decide) (t := .boolean) (t' := (.object "com/example/stubwright/stubwright/read/Token$Kind")) (by decide) (by decide)))).other W9 (Or.inr (slot_ne (Or.inr (hw _ (List.mem_of_getElem? (i := 88) rfl))) (Or.inr (hw _ (List.mem_of_getElem? (i := 82) rfl))) (by decide) (t := .boolean) (t' := (.object "java/lang/String")) (by decide) (by decide)))).other W10 (Or.inr (slot_ne (Or.inr (hw _ (List.mem_of_getElem? (i := 88) rfl))) (Or.inr (hw _ (List.mem_of_getElem? (i := 84) rfl))) (by decide) (t := .boolean) (t' := (.object "java/lang/Object")) (by decide) (by decide)))).other W11 (Or.inr (slot_ne (Or.inr (hw _ (List.mem_of_getElem? (i := 88) rfl))) (Or.inr (hw _ (List.mem_of_getElem? (i := 86) rfl))) (by decide) (t := .boolean) (t' := (.object "com/example/stubwright/stubwright/model/Position")) (by decide) (by decide)))) ((((E_a1.wr W8).wr W9).wr W10).wr W11) (Or.inr ⟨(hw _ (List.mem_of_getElem? (i := 88) rfl)), rfl, hnm⟩) (hw _ (List.mem_of_getElem? (i := 63) rfl)) (ty := .boolean) (v := .int p5) (v' := .int (nar .boolean p5)) (by decide) rfl (fits_nar_bool _) (g := (mkF m 28 #[.val (.ref a1), .val (.ref a2), .val (.ref a3), .val .null, .val (.ref a4), .val (.int p5), .val (.int p6), .val .null] [(.int p5), (.ref a1)])) rfl rfl (hb hby d15_28)
  have Fw12 := ((((F_spaceBefore_a1.other W8 (Or.inr (slot_ne (Or.inr (hw _ (List.mem_of_getElem? (i := 88) rfl))) (Or.inr (hw _ (List.mem_of_getElem? (i := 80) rfl))) (by decide) (t := .boolean) (t' := (.object "com/example/stubwright/stubwright/read/Token$Kind")) (by decide) (by decide)))).other W9 (Or.inr (slot_ne (Or.inr (hw _ (List.mem_of_getElem? (i := 88) rfl))) (Or.inr (hw _ (List.mem_of_getElem? (i := 82) rfl))) (by decide) (t := .boolean) (t' := (.object "java/lang/String")) (by decide) (by decide)))).other W10 (Or.inr (slot_ne (Or.inr (hw _ (List.mem_of_getElem? (i := 88) rfl))) (Or.inr (hw _ (List.mem_of_getElem? (i := 84) rfl))) (by decide) (t := .boolean) (t' := (.object "java/lang/Object")) (by decide) (by decide)))).other W11 (Or.inr (slot_ne (Or.inr (hw _ (List.mem_of_getElem? (i := 88) rfl))) (Or.inr (hw _ (List.mem_of_getElem? (i := 86) rfl))) (by decide) (t := .boolean) (t' := (.object "com/example/stubwright/stubwright/model/Position")) (by decide) (by decide)))).same W12      -- the field now holds (.int p5)
  have K12 : Keep h0 h12 [a1] := K11.wr W12 (Or.inl (List.mem_of_getElem? (i := 0) rfl))
  have N12 := Fr.snoc X12 N11 g_a1
  obtain ⟨T13, h13, X13, e13, W13, st13⟩ := putFN X12 hx hZ hown (hw _ (List.mem_of_getElem? (i := 89) rfl)) Via.refl e12 (((((F_painted_a1.other W8 (Or.inr (slot_ne (Or.inr (hw _ (List.mem_of_getElem? (i := 90) rfl))) (Or.inr (hw _ (List.mem_of_getElem? (i := 80) rfl))) (by decide) (t := .boolean) (t' := (.object "com/example/stubwright/stubwright/read/Token$Kind")) (by decide) (by decide)))).other W9 (Or.inr (slot_ne (Or.inr (hw _ (List.mem_of_getElem? (i := 90) rfl))) (Or.inr (hw _ (List.mem_of_getElem? (i := 82) rfl))) (by decide) (t := .boolean) (t' := (.object "java/lang/String")) (by decide) (by decide)))).other W10 (Or.inr (slot_ne (Or.inr (hw _ (List.mem_of_getElem? (i := 90) rfl))) (Or.inr (hw _ (List.mem_of_getElem? (i := 84) rfl))) (by decide) (t := .boolean) (t' := (.object "java/lang/Object")) (by decide) (by decide)))).other W11 (Or.inr (slot_ne (Or.inr (hw _ (List.mem_of_getElem? (i := 90) rfl))) (Or.inr (hw _ (List.mem_of_getElem? (i := 86) rfl))) (by decide) (t := .boolean) (t' := (.object "com/example/stubwright/stubwright/model/Position")) (by decide) (by decide)))).other W12 (Or.inr (slot_ne (Or.inr (hw _ (List.mem_of_getElem? (i := 90) rfl))) (Or.inr (hw _ (List.mem_of_getElem? (i := 88) rfl))) (by decide) (t := .boolean) (t' := .boolean) (by decide) (by decide)))) (((((E_a1.wr W8).wr W9).wr W10).wr W11).wr W12) (Or.inr ⟨(hw _ (List.mem_of_getElem? (i := 90) rfl)), rfl, hnm⟩) (hw _ (List.mem_of_getElem? (i := 63) rfl)) (ty := .boolean) (v := .int p6) (v' := .int (nar .boolean p6)) (by decide) rfl (fits_nar_bool _) (g := (mkF m 34 #[.val (.ref a1), .val (.ref a2), .val (.ref a3), .val .null, .val (.ref a4), .val (.int p5), .val (.int p6), .val .null] [(.int p6), (.ref a1)])) rfl rfl (hb hby d15_34)
  have Fw13 := (((((F_painted_a1.other W8 (Or.inr (slot_ne (Or.inr (hw _ (List.mem_of_getElem? (i := 90) rfl))) (Or.inr (hw _ (List.mem_of_getElem? (i := 80) rfl))) (by decide) (t := .boolean) (t' := (.object "com/example/stubwright/stubwright/read/Token$Kind")) (by decide) (by decide)))).other W9 (Or.inr (slot_ne (Or.inr (hw _ (List.mem_of_getElem? (i := 90) rfl))) (Or.inr (hw _ (List.mem_of_getElem? (i := 82) rfl))) (by decide) (t := .boolean) (t' := (.object "java/lang/String")) (by decide) (by decide)))).other W10 (Or.inr (slot_ne (Or.inr (hw _ (List.mem_of_getElem? (i := 90) rfl))) (Or.inr (hw _ (List.mem_of_getElem? (i := 84) rfl))) (by decide) (t := .boolean) (t' := (.object "java/lang/Object")) (by decide) (by decide)))).other W11 (Or.inr (slot_ne (Or.inr (hw _ (List.mem_of_getElem? (i := 90) rfl))) (Or.inr (hw _ (List.mem_of_getElem? (i := 86) rfl))) (by decide) (t := .boolean) (t' := (.object "com/example/stubwright/stubwright/model/Position")) (by decide) (by decide)))).other W12 (Or.inr (slot_ne (Or.inr (hw _ (List.mem_of_getElem? (i := 90) rfl))) (Or.inr (hw _ (List.mem_of_getElem? (i := 88) rfl))) (by decide) (t := .boolean) (t' := .boolean) (by decide) (by decide)))).same W13      -- the field now holds (.int p6)
  have K13 : Keep h0 h13 [a1] := K12.wr W13 (Or.inl (List.mem_of_getElem? (i := 0) rfl))
  have N13 := Fr.snoc X13 N12 g_a1
  obtain ⟨T14, h14, X14, e14, W14, st14⟩ := putF X13 hx hZ hown (host := "") (Or.inl (hw _ (List.mem_of_getElem? (i := 91) rfl))) Via.refl e13 ((((((F_expansion_a1.other W8 (Or.inr (slot_ne (Or.inr (hw _ (List.mem_of_getElem? (i := 92) rfl))) (Or.inr (hw _ (List.mem_of_getElem? (i := 80) rfl))) (by decide) (t := (.object "com/example/stubwright/stubwright/model/Position")) (t' := (.object "com/example/stubwright/stubwright/read/Token$Kind")) (by decide) (by decide)))).other W9 (Or.inr (slot_ne (Or.inr (hw _ (List.mem_of_getElem? (i := 92) rfl))) (Or.inr (hw _ (List.mem_of_getElem? (i := 82) rfl))) (by decide) (t := (.object "com/example/stubwright/stubwright/model/Position")) (t' := (.object "java/lang/String")) (by decide) (by decide)))).other W10 (Or.inr (slot_ne (Or.inr (hw _ (List.mem_of_getElem? (i := 92) rfl))) (Or.inr (hw _ (List.mem_of_getElem? (i := 84) rfl))) (by decide) (t := (.object "com/example/stubwright/stubwright/model/Position")) (t' := (.object "java/lang/Object")) (by decide) (by decide)))).other W11 (Or.inr (slot_ne (Or.inr (hw _ (List.mem_of_getElem? (i := 92) rfl))) (Or.inr (hw _ (List.mem_of_getElem? (i := 86) rfl))) (by decide) (t := (.object "com/example/stubwright/stubwright/model/Position")) (t' := (.object "com/example/stubwright/stubwright/model/Position")) (by decide) (by decide)))).other W12 (Or.inr (slot_ne (Or.inr (hw _ (List.mem_of_getElem? (i := 92) rfl))) (Or.inr (hw _ (List.mem_of_getElem? (i := 88) rfl))) (by decide) (t := (.object "com/example/stubwright/stubwright/model/Position")) (t' := .boolean) (by decide) (by decide)))).other W13 (Or.inr (slot_ne (Or.inr (hw _ (List.mem_of_getElem? (i := 92) rfl))) (Or.inr (hw _ (List.mem_of_getElem? (i := 90) rfl))) (by decide) (t := (.object "com/example/stubwright/stubwright/model/Position")) (t' := .boolean) (by decide) (by decide)))) ((((((E_a1.wr W8).wr W9).wr W10).wr W11).wr W12).wr W13) (Or.inr ⟨(hw _ (List.mem_of_getElem? (i := 92) rfl)), rfl, hnm⟩) (hw _ (List.mem_of_getElem? (i := 63) rfl)) (ty := (.object "com/example/stubwright/stubwright/model/Position")) (by decide) rfl rfl (g := (mkF m 40 #[.val (.ref a1), .val (.ref a2), .val (.ref a3), .val .null, .val (.ref a4), .val (.int p5), .val (.int p6), .val .null] [.null, (.ref a1)])) rfl rfl (hb hby d15_40)
  have Fw14 := ((((((F_expansion_a1.other W8 (Or.inr (slot_ne (Or.inr (hw _ (List.mem_of_getElem? (i := 92) rfl))) (Or.inr (hw _ (List.mem_of_getElem? (i := 80) rfl))) (by decide) (t := (.object "com/example/stubwright/stubwright/model/Position")) (t' := (.object "com/example/stubwright/stubwright/read/Token$Kind")) (by decide) (by decide)))).other W9 (Or.inr (slot_ne (Or.inr (hw _ (List.mem_of_getElem? (i := 92) rfl))) (Or.inr (hw _ (List.mem_of_getElem? (i := 82) rfl))) (by decide) (t := (.object "com/example/stubwright/stubwright/model/Position")) (t' := (.object "java/lang/String")) (by decide) (by decide)))).other W10 (Or.inr (slot_ne (Or.inr (hw _ (List.mem_of_getElem? (i := 92) rfl))) (Or.inr (hw _ (List.mem_of_getElem? (i := 84) rfl))) (by decide) (t := (.object "com/example/stubwright/stubwright/model/Position")) (t' := (.object "java/lang/Object")) (by decide) (by decide)))).other W11 (Or.inr (slot_ne (Or.inr (hw _ (List.mem_of_getElem? (i := 92) rfl))) (Or.inr (hw _ (List.mem_of_getElem? (i := 86) rfl))) (by decide) (t := (.object "com/example/stubwright/stubwright/model/Position")) (t' := (.object "com/example/stubwright/stubwright/model/Position")) (by decide) (by decide)))).other W12 (Or.inr (slot_ne (Or.inr (hw _ (List.mem_of_getElem? (i := 92) rfl))) (Or.inr (hw _ (List.mem_of_getElem? (i := 88) rfl))) (by decide) (t := (.object "com/example/stubwright/stubwright/model/Position")) (t' := .boolean) (by decide) (by decide)))).other W13 (Or.inr (slot_ne (Or.inr (hw _ (List.mem_of_getElem? (i := 92) rfl))) (Or.inr (hw _ (List.mem_of_getElem? (i := 90) rfl))) (by decide) (t := (.object "com/example/stubwright/stubwright/model/Position")) (t' := .boolean) (by decide) (by decide)))).same W14      -- the field now holds .null
  have K14 : Keep h0 h14 [a1] := K13.wr W14 (Or.inl (List.mem_of_getElem? (i := 0) rfl))
  have N14 := Fr.snoc X14 N13 g_a1
  obtain ⟨fs, hr, hrun, hended, hW, hsame⟩ := X14.leave (v := none) (fun _ => rfl)
  refine ⟨_, _, pre0 _ ?_, hrun, hended, _, _, rfl, ?_, ⟨_, rfl⟩, hW, hsame.mono (by decide) (by decide)⟩
  -- 4. STEPS
  · show Steps p.tables e below (s₁.setTop (mkF m 0 #[.val (.ref a1), .val (.ref a2), .val (.ref a3), .val .null, .val (.ref a4), .val (.int p5), .val (.int p6), .val .null] [])) _
    refine XS.aloadN X0.here hx rfl (hb hby d15_0) rfl rfl ?_
    show Steps p.tables e below (s₁.setTop (mkF m 1 #[.val (.ref a1), .val (.ref a2), .val (.ref a3), .val .null, .val (.ref a4), .val (.int p5), .val (.int p6), .val .null] [(.ref a1)])) _
    refine st7 _ ?_
    show Steps p.tables e below (T7.setTop (mkF m 4 #[.val (.ref a1), .val (.ref a2), .val (.ref a3), .val .null, .val (.ref a4), .val (.int p5), .val (.int p6), .val .null] [])) _
    refine XS.aloadN X7.here hx rfl (hb hby d15_4) rfl rfl ?_
    show Steps p.tables e below (T7.setTop (mkF m 5 #[.val (.ref a1), .val (.ref a2), .val (.ref a3), .val .null, .val (.ref a4), .val (.int p5), .val (.int p6), .val .null] [(.ref a1)])) _
    refine XS.aloadN X7.here hx rfl (hb hby d15_5) rfl rfl ?_
    show Steps p.tables e below (T7.setTop (mkF m 6 #[.val (.ref a1), .val (.ref a2), .val (.ref a3), .val .null, .val (.ref a4), .val (.int p5), .val (.int p6), .val .null] [(.ref a2), (.ref a1)])) _
    refine st8 _ ?_
    show Steps p.tables e below (T8.setTop (mkF m 9 #[.val (.ref a1), .val (.ref a2), .val (.ref a3), .val .null, .val (.ref a4), .val (.int p5), .val (.int p6), .val .null] [])) _
    refine XS.aloadN X8.here hx rfl (hb hby d15_9) rfl rfl ?_
    show Steps p.tables e below (T8.setTop (mkF m 10 #[.val (.ref a1), .val (.ref a2), .val (.ref a3), .val .null, .val (.ref a4), .val (.int p5), .val (.int p6), .val .null] [(.ref a1)])) _
    refine XS.aloadN X8.here hx rfl (hb hby d15_10) rfl rfl ?_
    show Steps p.tables e below (T8.setTop (mkF m 11 #[.val (.ref a1), .val (.ref a2), .val (.ref a3), .val .null, .val (.ref a4), .val (.int p5), .val (.int p6), .val .null] [(.ref a3), (.ref a1)])) _
    refine st9 _ ?_
    show Steps p.tables e below (T9.setTop (mkF m 14 #[.val (.ref a1), .val (.ref a2), .val (.ref a3), .val .null, .val (.ref a4), .val (.int p5), .val (.int p6), .val .null] [])) _
    refine XS.aloadN X9.here hx rfl (hb hby d15_14) rfl rfl ?_
    show Steps p.tables e below (T9.setTop (mkF m 15 #[.val (.ref a1), .val (.ref a2), .val (.ref a3), .val .null, .val (.ref a4), .val (.int p5), .val (.int p6), .val .null] [(.ref a1)])) _
    refine XS.aloadN X9.here hx rfl (hb hby d15_15) rfl rfl ?_
    show Steps p.tables e below (T9.setTop (mkF m 16 #[.val (.ref a1), .val (.ref a2), .val (.ref a3), .val .null, .val (.ref a4), .val (.int p5), .val (.int p6), .val .null] [.null, (.ref a1)])) _
    refine st10 _ ?_
    show Steps p.tables e below (T10.setTop (mkF m 19 #[.val (.ref a1), .val (.ref a2), .val (.ref a3), .val .null, .val (.ref a4), .val (.int p5), .val (.int p6), .val .null] [])) _
    refine XS.aloadN X10.here hx rfl (hb hby d15_19) rfl rfl ?_
    show Steps p.tables e below (T10.setTop (mkF m 20 #[.val (.ref a1), .val (.ref a2), .val (.ref a3), .val .null, .val (.ref a4), .val (.int p5), .val (.int p6), .val .null] [(.ref a1)])) _
    refine XS.aload X10.here hx rfl (hb hby d15_20) rfl rfl ?_
    show Steps p.tables e below (T10.setTop (mkF m 22 #[.val (.ref a1), .val (.ref a2), .val (.ref a3), .val .null, .val (.ref a4), .val (.int p5), .val (.int p6), .val .null] [(.ref a4), (.ref a1)])) _
    refine st11 _ ?_
    show Steps p.tables e below (T11.setTop (mkF m 25 #[.val (.ref a1), .val (.ref a2), .val (.ref a3), .val .null, .val (.ref a4), .val (.int p5), .val (.int p6), .val .null] [])) _
    refine XS.aloadN X11.here hx rfl (hb hby d15_25) rfl rfl ?_
    show Steps p.tables e below (T11.setTop (mkF m 26 #[.val (.ref a1), .val (.ref a2), .val (.ref a3), .val .null, .val (.ref a4), .val (.int p5), .val (.int p6), .val .null] [(.ref a1)])) _
    refine XS.iload X11.here hx rfl (hb hby d15_26) rfl ?_
    show Steps p.tables e below (T11.setTop (mkF m 28 #[.val (.ref a1), .val (.ref a2), .val (.ref a3), .val .null, .val (.ref a4), .val (.int p5), .val (.int p6), .val .null] [(.int p5), (.ref a1)])) _
    refine st12 _ ?_
    show Steps p.tables e below (T12.setTop (mkF m 31 #[.val (.ref a1), .val (.ref a2), .val (.ref a3), .val .null, .val (.ref a4), .val (.int p5), .val (.int p6), .val .null] [])) _
    refine XS.aloadN X12.here hx rfl (hb hby d15_31) rfl rfl ?_
    show Steps p.tables e below (T12.setTop (mkF m 32 #[.val (.ref a1), .val (.ref a2), .val (.ref a3), .val .null, .val (.ref a4), .val (.int p5), .val (.int p6), .val .null] [(.ref a1)])) _
    refine XS.iload X12.here hx rfl (hb hby d15_32) rfl ?_
    show Steps p.tables e below (T12.setTop (mkF m 34 #[.val (.ref a1), .val (.ref a2), .val (.ref a3), .val .null, .val (.ref a4), .val (.int p5), .val (.int p6), .val .null] [(.int p6), (.ref a1)])) _
    refine st13 _ ?_
    show Steps p.tables e below (T13.setTop (mkF m 37 #[.val (.ref a1), .val (.ref a2), .val (.ref a3), .val .null, .val (.ref a4), .val (.int p5), .val (.int p6), .val .null] [])) _
    refine XS.aloadN X13.here hx rfl (hb hby d15_37) rfl rfl ?_
    show Steps p.tables e below (T13.setTop (mkF m 38 #[.val (.ref a1), .val (.ref a2), .val (.ref a3), .val .null, .val (.ref a4), .val (.int p5), .val (.int p6), .val .null] [(.ref a1)])) _
    refine XS.aload X13.here hx rfl (hb hby d15_38) rfl rfl ?_
    show Steps p.tables e below (T13.setTop (mkF m 40 #[.val (.ref a1), .val (.ref a2), .val (.ref a3), .val .null, .val (.ref a4), .val (.int p5), .val (.int p6), .val .null] [.null, (.ref a1)])) _
    refine st14 _ ?_
    show Steps p.tables e below (T14.setTop (mkF m 43 #[.val (.ref a1), .val (.ref a2), .val (.ref a3), .val .null, .val (.ref a4), .val (.int p5), .val (.int p6), .val .null] [])) _
    exact X14.returnOut hx Bd.returns (hb hby d15_43) hr
  · show Q15n Z a1 a2 a3 a4 p5 p6 u_kind_a1 u_spelling_a1 u_value_a1 u_position_a1 u_spaceBefore_a1 u_painted_a1 u_expansion_a1 h0 n0 _ T14.heap _
    rw [e14]
    exact ⟨rfl, N14, K14, (((((((E_a1.wr W8).wr W9).wr W10).wr W11).wr W12).wr W13).wr W14), ((((((Fw8.other W9 (Or.inr (slot_ne (Or.inr (hw _ (List.mem_of_getElem? (i := 80) rfl))) (Or.inr (hw _ (List.mem_of_getElem? (i := 82) rfl))) (by decide) (t := (.object "com/example/stubwright/stubwright/read/Token$Kind")) (t' := (.object "java/lang/String")) (by decide) (by decide)))).other W10 (Or.inr (slot_ne (Or.inr (hw _ (List.mem_of_getElem? (i := 80) rfl))) (Or.inr (hw _ (List.mem_of_getElem? (i := 84) rfl))) (by decide) (t := (.object "com/example/stubwright/stubwright/read/Token$Kind")) (t' := (.object "java/lang/Object")) (by decide) (by decide)))).other W11 (Or.inr (slot_ne (Or.inr (hw _ (List.mem_of_getElem? (i := 80) rfl))) (Or.inr (hw _ (List.mem_of_getElem? (i := 86) rfl))) (by decide) (t := (.object "com/example/stubwright/stubwright/read/Token$Kind")) (t' := (.object "com/example/stubwright/stubwright/model/Position")) (by decide) (by decide)))).other W12 (Or.inr (slot_ne (Or.inr (hw _ (List.mem_of_getElem? (i := 80) rfl))) (Or.inr (hw _ (List.mem_of_getElem? (i := 88) rfl))) (by decide) (t := (.object "com/example/stubwright/stubwright/read/Token$Kind")) (t' := .boolean) (by decide) (by decide)))).other W13 (Or.inr (slot_ne (Or.inr (hw _ (List.mem_of_getElem? (i := 80) rfl))) (Or.inr (hw _ (List.mem_of_getElem? (i := 90) rfl))) (by decide) (t := (.object "com/example/stubwright/stubwright/read/Token$Kind")) (t' := .boolean) (by decide) (by decide)))).other W14 (Or.inr (slot_ne (Or.inr (hw _ (List.mem_of_getElem? (i := 80) rfl))) (Or.inr (hw _ (List.mem_of_getElem? (i := 92) rfl))) (by decide) (t := (.object "com/example/stubwright/stubwright/read/Token$Kind")) (t' := (.object "com/example/stubwright/stubwright/model/Position")) (by decide) (by decide)))), (((((Fw9.other W10 (Or.inr (slot_ne (Or.inr (hw _ (List.mem_of_getElem? (i := 82) rfl))) (Or.inr (hw _ (List.mem_of_getElem? (i := 84) rfl))) (by decide) (t := (.object "java/lang/String")) (t' := (.object "java/lang/Object")) (by decide) (by decide)))).other W11 (Or.inr (slot_ne (Or.inr (hw _ (List.mem_of_getElem? (i := 82) rfl))) (Or.inr (hw _ (List.mem_of_getElem? (i := 86) rfl))) (by decide) (t := (.object "java/lang/String")) (t' := (.object "com/example/stubwright/stubwright/model/Position")) (by decide) (by decide)))).other W12 (Or.inr (slot_ne (Or.inr (hw _ (List.mem_of_getElem? (i := 82) rfl))) (Or.inr (hw _ (List.mem_of_getElem? (i := 88) rfl))) (by decide) (t := (.object "java/lang/String")) (t' := .boolean) (by decide) (by decide)))).other W13 (Or.inr (slot_ne (Or.inr (hw _ (List.mem_of_getElem? (i := 82) rfl))) (Or.inr (hw _ (List.mem_of_getElem? (i := 90) rfl))) (by decide) (t := (.object "java/lang/String")) (t' := .boolean) (by decide) (by decide)))).other W14 (Or.inr (slot_ne (Or.inr (hw _ (List.mem_of_getElem? (i := 82) rfl))) (Or.inr (hw _ (List.mem_of_getElem? (i := 92) rfl))) (by decide) (t := (.object "java/lang/String")) (t' := (.object "com/example/stubwright/stubwright/model/Position")) (by decide) (by decide)))), ((((Fw10.other W11 (Or.inr (slot_ne (Or.inr (hw _ (List.mem_of_getElem? (i := 84) rfl))) (Or.inr (hw _ (List.mem_of_getElem? (i := 86) rfl))) (by decide) (t := (.object "java/lang/Object")) (t' := (.object "com/example/stubwright/stubwright/model/Position")) (by decide) (by decide)))).other W12 (Or.inr (slot_ne (Or.inr (hw _ (List.mem_of_getElem? (i := 84) rfl))) (Or.inr (hw _ (List.mem_of_getElem? (i := 88) rfl))) (by decide) (t := (.object "java/lang/Object")) (t' := .boolean) (by decide) (by decide)))).other W13 (Or.inr (slot_ne (Or.inr (hw _ (List.mem_of_getElem? (i := 84) rfl))) (Or.inr (hw _ (List.mem_of_getElem? (i := 90) rfl))) (by decide) (t := (.object "java/lang/Object")) (t' := .boolean) (by decide) (by decide)))).other W14 (Or.inr (slot_ne (Or.inr (hw _ (List.mem_of_getElem? (i := 84) rfl))) (Or.inr (hw _ (List.mem_of_getElem? (i := 92) rfl))) (by decide) (t := (.object "java/lang/Object")) (t' := (.object "com/example/stubwright/stubwright/model/Position")) (by decide) (by decide)))), (((Fw11.other W12 (Or.inr (slot_ne (Or.inr (hw _ (List.mem_of_getElem? (i := 86) rfl))) (Or.inr (hw _ (List.mem_of_getElem? (i := 88) rfl))) (by decide) (t := (.object "com/example/stubwright/stubwright/model/Position")) (t' := .boolean) (by decide) (by decide)))).other W13 (Or.inr (slot_ne (Or.inr (hw _ (List.mem_of_getElem? (i := 86) rfl))) (Or.inr (hw _ (List.mem_of_getElem? (i := 90) rfl))) (by decide) (t := (.object "com/example/stubwright/stubwright/model/Position")) (t' := .boolean) (by decide) (by decide)))).other W14 (Or.inr (slot_ne (Or.inr (hw _ (List.mem_of_getElem? (i := 86) rfl))) (Or.inr (hw _ (List.mem_of_getElem? (i := 92) rfl))) (by decide) (t := (.object "com/example/stubwright/stubwright/model/Position")) (t' := (.object "com/example/stubwright/stubwright/model/Position")) (by decide) (by decide)))), ((Fw12.other W13 (Or.inr (slot_ne (Or.inr (hw _ (List.mem_of_getElem? (i := 88) rfl))) (Or.inr (hw _ (List.mem_of_getElem? (i := 90) rfl))) (by decide) (t := .boolean) (t' := .boolean) (by decide) (by decide)))).other W14 (Or.inr (slot_ne (Or.inr (hw _ (List.mem_of_getElem? (i := 88) rfl))) (Or.inr (hw _ (List.mem_of_getElem? (i := 92) rfl))) (by decide) (t := .boolean) (t' := (.object "com/example/stubwright/stubwright/model/Position")) (by decide) (by decide)))), (Fw13.other W14 (Or.inr (slot_ne (Or.inr (hw _ (List.mem_of_getElem? (i := 90) rfl))) (Or.inr (hw _ (List.mem_of_getElem? (i := 92) rfl))) (by decide) (t := .boolean) (t' := (.object "com/example/stubwright/stubwright/model/Position")) (by decide) (by decide)))), Fw14⟩
theorem d14_0 : decode prog_80_method_2_code 0 = .ok (.aload_n 0, 1) := by decide +kernel
theorem d14_1 : decode prog_80_method_2_code 1 = .ok (.aload_n 1, 1) := by decide +kernel
theorem d14_2 : decode prog_80_method_2_code 2 = .ok (.aload_n 2, 1) := by decide +kernel
theorem d14_3 : decode prog_80_method_2_code 3 = .ok (.aload_n 3, 1) := by decide +kernel
theorem d14_4 : decode prog_80_method_2_code 4 = .ok (.aload 4, 2) := by decide +kernel
theorem d14_6 : decode prog_80_method_2_code 6 = .ok (.iload 5, 2) := by decide +kernel
theorem d14_8 : decode prog_80_method_2_code 8 = .ok (.iconst 0, 1) := by decide +kernel
theorem d14_9 : decode prog_80_method_2_code 9 = .ok (.aconst_null, 1) := by decide +kernel
theorem d14_10 : decode prog_80_method_2_code 10 = .ok (.invokespecial 7, 3) := by decide +kernel
theorem d14_13 : decode prog_80_method_2_code 13 = .ok (.return_, 1) := by decide +kernel
theorem pn_14 : plainName "com/example/stubwright/stubwright/read/Token" = true := by first | (simp [plainName, overriddenIn]; done) | decide +kernel
theorem pd_14_14 : parseMethodDescriptor "(Lcom/example/stubwright/stubwright/read/Token$Kind;Ljava/lang/String;Ljava/lang/Object;Lcom/example/stubwright/stubwright/model/Position;ZZLcom/example/stubwright/stubwright/model/Position;)V" = some ⟨[(.object "com/example/stubwright/stubwright/read/Token$Kind"), (.object "java/lang/String"), (.object "java/lang/Object"), (.object "com/example/stubwright/stubwright/model/Position"), .boolean, .boolean, (.object "com/example/stubwright/stubwright/model/Position")], none⟩ := by decide +kernel
theorem ef_14 (m : MethodId) (x0 : Addr) (x1 : Addr) (x2 : Addr) (x4 : Addr) (x5 : Int32) : entryFrame m #[(.ref x0), (.ref x1), (.ref x2), .null, (.ref x4), (.int x5)] 6 = mkF m 0 #[.val (.ref x0), .val (.ref x1), .val (.ref x2), .val .null, .val (.ref x4), .val (.int x5)] [] := by first | (simp [entryFrame, mkF, argsToLocals, Value.category]; done) | rfl
def Q14 (Z : State) (a1 : Addr) (a2 : Addr) (a3 : Addr) (a4 : Addr) (p5 : Int32) (u_kind_a1 : Value) (u_spelling_a1 : Value) (u_value_a1 : Value) (u_position_a1 : Value) (u_spaceBefore_a1 : Value) (u_painted_a1 : Value) (u_expansion_a1 : Value) (h0 : Heap) (n0 : Nat) (v : Option Value) (h : Heap) (L : List Loc) : Prop := v = none ∧ Fr n0 L ∧ Keep h0 h [a1] ∧ Exa Z h a1 "com/example/stubwright/stubwright/read/Token" ∧ Fld Z h a1 "com/example/stubwright/stubwright/read/Token" "kind" "Lcom/example/stubwright/stubwright/read/Token$Kind;" (.ref a2) ∧ Fld Z h a1 "com/example/stubwright/stubwright/read/Token" "spelling" "Ljava/lang/String;" (.ref a3) ∧ Fld Z h a1 "com/example/stubwright/stubwright/read/Token" "value" "Ljava/lang/Object;" .null ∧ Fld Z h a1 "com/example/stubwright/stubwright/read/Token" "position" "Lcom/example/stubwright/stubwright/model/Position;" (.ref a4) ∧ Fld Z h a1 "com/example/stubwright/stubwright/read/Token" "spaceBefore" "Z" (.int (nar .boolean p5)) ∧ Fld Z h a1 "com/example/stubwright/stubwright/read/Token" "painted" "Z" (.int (nar .boolean (0 : Int32))) ∧ Fld Z h a1 "com/example/stubwright/stubwright/read/Token" "expansion" "Lcom/example/stubwright/stubwright/model/Position;" .null
set_option maxRecDepth 65536 in
set_option maxHeartbeats 40000000 in
theorem rm14 (l : Launch) (Z : State) (a0 : Array Value) (hw : ∀ d ∈ tables_1, d.before a0 Z = true) (ws : List Jvm.Cond) (a1 : Addr) (a2 : Addr) (a3 : Addr) (a4 : Addr) (p5 : Int32) (u_kind_a1 : Value) (u_spelling_a1 : Value) (u_value_a1 : Value) (u_position_a1 : Value) (u_spaceBefore_a1 : Value) (u_painted_a1 : Value) (u_expansion_a1 : Value) (h0 : Heap) (n0 : Nat) (Z0 : n0 ≤ h0.size) (E_a1 : Exa Z h0 a1 "com/example/stubwright/stubwright/read/Token") (F_kind_a1 : Fld Z h0 a1 "com/example/stubwright/stubwright/read/Token" "kind" "Lcom/example/stubwright/stubwright/read/Token$Kind;" u_kind_a1) (g_a1 : n0 ≤ a1) (F_spelling_a1 : Fld Z h0 a1 "com/example/stubwright/stubwright/read/Token" "spelling" "Ljava/lang/String;" u_spelling_a1) (F_value_a1 : Fld Z h0 a1 "com/example/stubwright/stubwright/read/Token" "value" "Ljava/lang/Object;" u_value_a1) (F_position_a1 : Fld Z h0 a1 "com/example/stubwright/stubwright/read/Token" "position" "Lcom/example/stubwright/stubwright/model/Position;" u_position_a1) (F_spaceBefore_a1 : Fld Z h0 a1 "com/example/stubwright/stubwright/read/Token" "spaceBefore" "Z" u_spaceBefore_a1) (F_painted_a1 : Fld Z h0 a1 "com/example/stubwright/stubwright/read/Token" "painted" "Z" u_painted_a1) (F_expansion_a1 : Fld Z h0 a1 "com/example/stubwright/stubwright/read/Token" "expansion" "Lcom/example/stubwright/stubwright/model/Position;" u_expansion_a1) :
    MetFree l (⟨"com/example/stubwright/stubwright/read/Token", "<init>", "(Lcom/example/stubwright/stubwright/read/Token$Kind;Ljava/lang/String;Ljava/lang/Object;Lcom/example/stubwright/stubwright/model/Position;Z)V"⟩ : MethodName) (head1 (Jvm.Cond.code (⟨"com/example/stubwright/stubwright/read/Token", "<init>", "(Lcom/example/stubwright/stubwright/read/Token$Kind;Ljava/lang/String;Ljava/lang/Object;Lcom/example/stubwright/stubwright/model/Position;Z)V"⟩ : MethodName) prog_80_method_2_code 6 none :: ws) ({ frames := 2, cells := 0, slots := 0, locals := 31 } : Room)) (fun a U => a = #[(.ref a1), (.ref a2), (.ref a3), .null, (.ref a4), (.int p5)] ∧ Z.Warmed39 U.vm ∧ U.heap = h0) (fun _ _ _ _ _ => True) (fun _ U o U' => ∃ v L, o = .returned v ∧ Q14 Z a1 a2 a3 a4 p5 u_kind_a1 u_spelling_a1 u_value_a1 u_position_a1 u_spaceBefore_a1 u_painted_a1 u_expansion_a1 h0 n0 v U'.heap L ∧ FrameEnd U o U' L ({ frames := 2, cells := 0, slots := 0, locals := 31 } : Room).cells ({ frames := 2, cells := 0, slots := 0, locals := 31 } : Room).slots) := by
  refine MetFree.of_bodySF (plainFor_of_name pn_14) hisR ?_
  intro p e s m args below meth c s₁ Bd hml0 hP hK
  obtain ⟨rfl, hZ, hh⟩ := hP
  have hx := Bd.exec
  have hby := Bd.bytes
  have hml : c.maxLocals = 6 := hml0
  have hown : s.vm.findClass "com/example/stubwright/stubwright/read/Token" = some m.cls := findClass_of_methodNamed Bd.named
  have hnm := (name_of_methodNamed Bd.named Bd.method).1
  have X0 : Stand p l e ({ frames := 2, cells := 0, slots := 0, locals := 31 } : Room) s m #[(.ref a1), (.ref a2), (.ref a3), .null, (.ref a4), (.int p5)] below meth c s₁ [] 0 0 := Stand.of_body Bd
  have e0 : s₁.heap = h0 := by rw [← hh, Bd.state]; rfl
  have N0 := Fr.nil n0
  have pre0 : ∀ t, Steps p.tables e below (s₁.setTop (mkF m 0 #[.val (.ref a1), .val (.ref a2), .val (.ref a3), .val .null, .val (.ref a4), .val (.int p5)] [])) t → Steps p.tables e below (s₁.setTop (entryFrame m #[(.ref a1), (.ref a2), (.ref a3), .null, (.ref a4), (.int p5)] 6)) t := fun t k => castTop (ef_14 m a1 a2 a3 a4 p5) k
  -- 3. LAWS
  -- pc 10: the constructor of com/example/stubwright/stubwright/read/Token by its contract rm15
  obtain ⟨_, _, ⟨T6, L6, k6, n6⟩, -, X6, ⟨Lc6, hQ6, l6, y6, z6⟩, st6⟩ := X0.specialBack hx (y := (⟨"com/example/stubwright/stubwright/read/Token", "<init>", "(Lcom/example/stubwright/stubwright/read/Token$Kind;Ljava/lang/String;Ljava/lang/Object;Lcom/example/stubwright/stubwright/model/Position;ZZLcom/example/stubwright/stubwright/model/Position;)V"⟩ : MethodName)) rfl hown (mvT hZ (hw _ (List.mem_of_getElem? (i := 75) rfl))) (mvT hZ (hw _ (List.mem_of_getElem? (i := 76) rfl))) (mvT hZ (hw _ (List.mem_of_getElem? (i := 77) rfl))) (by decide) (backOf (W := 0) (rm15n l Z a0 hw [] a1 a2 a3 a4 p5 (0 : Int32) _ _ _ _ _ _ _ h0 n0 Z0 E_a1 F_kind_a1 g_a1 F_spelling_a1 F_value_a1 F_position_a1 F_spaceBefore_a1 F_painted_a1 F_expansion_a1) hZ (hw _ (List.mem_of_getElem? (i := 77) rfl)) (hw _ (List.mem_of_getElem? (i := 64) rfl)) (by decide) (by decide)) (g := (mkF m 10 #[.val (.ref a1), .val (.ref a2), .val (.ref a3), .val .null, .val (.ref a4), .val (.int p5)] [.null, (.int (0 : Int32)), (.int p5), (.ref a4), .null, (.ref a3), (.ref a2), (.ref a1)])) rfl (by rw [hml]; rfl) (Steps.refl _) (a := a1) (argsL := [(.ref a2), (.ref a3), .null, (.ref a4), (.int p5), (.int (0 : Int32)), .null]) (rest := []) (lenOf pd_14_14 rfl) rfl (by show 2 * 0 + _ ≤ _; exact Nat.le_of_eq rfl) (hb hby d14_10) (fun _ _ => ⟨rfl, e0, (by decide : 0 + 0 ≤ _), (by decide : 0 + 0 ≤ _)⟩)
  dsimp only [Pt.U, Pt.locs, Pt.cells, Pt.slots] at X6 l6 y6 z6 st6 hQ6
  subst l6 y6 z6
  obtain ⟨rfl, N6q, Kc6, Et6, Fkind6, Fspelling6, Fvalue6, Fposition6, FspaceBefore6, Fpainted6, Fexpansion6⟩ := hQ6
  -- Kc6 : Keep h0 T6.heap [a1]
  have N6 := Fr.app N0 N6q
  have K6 : Keep h0 T6.heap [a1] := (Keep.refl h0 [a1]).trans Kc6 (fun x_ hx_ => by rw [List.mem_singleton.mp hx_]; exact Or.inl (List.mem_of_getElem? (i := 0) rfl))
  obtain ⟨fs, hr, hrun, hended, hW, hsame⟩ := X6.leave (v := none) (fun _ => rfl)
  refine ⟨_, _, pre0 _ ?_, hrun, hended, _, _, rfl, ?_, ⟨_, rfl⟩, hW, hsame.mono (by decide) (by decide)⟩
  -- 4. STEPS
  · show Steps p.tables e below (s₁.setTop (mkF m 0 #[.val (.ref a1), .val (.ref a2), .val (.ref a3), .val .null, .val (.ref a4), .val (.int p5)] [])) _
    refine XS.aloadN X0.here hx rfl (hb hby d14_0) rfl rfl ?_
    show Steps p.tables e below (s₁.setTop (mkF m 1 #[.val (.ref a1), .val (.ref a2), .val (.ref a3), .val .null, .val (.ref a4), .val (.int p5)] [(.ref a1)])) _
    refine XS.aloadN X0.here hx rfl (hb hby d14_1) rfl rfl ?_
    show Steps p.tables e below (s₁.setTop (mkF m 2 #[.val (.ref a1), .val (.ref a2), .val (.ref a3), .val .null, .val (.ref a4), .val (.int p5)] [(.ref a2), (.ref a1)])) _
    refine XS.aloadN X0.here hx rfl (hb hby d14_2) rfl rfl ?_
    show Steps p.tables e below (s₁.setTop (mkF m 3 #[.val (.ref a1), .val (.ref a2), .val (.ref a3), .val .null, .val (.ref a4), .val (.int p5)] [(.ref a3), (.ref a2), (.ref a1)])) _
    refine XS.aloadN X0.here hx rfl (hb hby d14_3) rfl rfl ?_
    show Steps p.tables e below (s₁.setTop (mkF m 4 #[.val (.ref a1), .val (.ref a2), .val (.ref a3), .val .null, .val (.ref a4), .val (.int p5)] [.null, (.ref a3), (.ref a2), (.ref a1)])) _
    refine XS.aload X0.here hx rfl (hb hby d14_4) rfl rfl ?_
    show Steps p.tables e below (s₁.setTop (mkF m 6 #[.val (.ref a1), .val (.ref a2), .val (.ref a3), .val .null, .val (.ref a4), .val (.int p5)] [(.ref a4), .null, (.ref a3), (.ref a2), (.ref a1)])) _
    refine XS.iload X0.here hx rfl (hb hby d14_6) rfl ?_
    show Steps p.tables e below (s₁.setTop (mkF m 8 #[.val (.ref a1), .val (.ref a2), .val (.ref a3), .val .null, .val (.ref a4), .val (.int p5)] [(.int p5), (.ref a4), .null, (.ref a3), (.ref a2), (.ref a1)])) _
    refine XS.iconst X0.here hx rfl (hb hby d14_8) ?_
    show Steps p.tables e below (s₁.setTop (mkF m 9 #[.val (.ref a1), .val (.ref a2), .val (.ref a3), .val .null, .val (.ref a4), .val (.int p5)] [(.int (0 : Int32)), (.int p5), (.ref a4), .null, (.ref a3), (.ref a2), (.ref a1)])) _
    refine XS.aconstNull X0.here hx rfl (hb hby d14_9) ?_
    show Steps p.tables e below (s₁.setTop (mkF m 10 #[.val (.ref a1), .val (.ref a2), .val (.ref a3), .val .null, .val (.ref a4), .val (.int p5)] [.null, (.int (0 : Int32)), (.int p5), (.ref a4), .null, (.ref a3), (.ref a2), (.ref a1)])) _
    refine st6.trans ?_
    show Steps p.tables e below (T6.setTop (mkF m 13 #[.val (.ref a1), .val (.ref a2), .val (.ref a3), .val .null, .val (.ref a4), .val (.int p5)] [])) _
    exact X6.returnOut hx Bd.returns (hb hby d14_13) hr
  · show Q14 Z a1 a2 a3 a4 p5 u_kind_a1 u_spelling_a1 u_value_a1 u_position_a1 u_spaceBefore_a1 u_painted_a1 u_expansion_a1 h0 n0 _ T6.heap _
    exact ⟨rfl, N6, K6, Et6, Fkind6, Fspelling6, Fvalue6, Fposition6, FspaceBefore6, Fpainted6, Fexpansion6⟩
theorem d16_0 : decode prog_80_method_16_code 0 = .ok (.aload_n 0, 1) := by decide +kernel
theorem d16_1 : decode prog_80_method_16_code 1 = .ok (.getfield 38, 3) := by decide +kernel
theorem d16_4 : decode prog_80_method_16_code 4 = .ok (.ifnonnull 10, 3) := by decide +kernel
theorem d16_14 : decode prog_80_method_16_code 14 = .ok (.aload_n 0, 1) := by decide +kernel
theorem d16_15 : decode prog_80_method_16_code 15 = .ok (.getfield 38, 3) := by decide +kernel
theorem d16_18 : decode prog_80_method_16_code 18 = .ok (.areturn, 1) := by decide +kernel
theorem pn_16q : plainName "com/example/stubwright/stubwright/read/Token" = true := by first | (simp [plainName, overriddenIn]; done) | decide +kernel
theorem ef_16q (m : MethodId) (x0 : Addr) : entryFrame m #[(.ref x0)] 1 = mkF m 0 #[.val (.ref x0)] [] := by first | (simp [entryFrame, mkF, argsToLocals, Value.category]; done) | rfl
def Q16q (Z : State) (a1 : Addr) (w2 : Addr) (h0 : Heap) (n0 : Nat) (v : Option Value) (h : Heap) (L : List Loc) : Prop := v = some (.ref w2) ∧ Fr n0 L ∧ h = h0
set_option maxRecDepth 65536 in
set_option maxHeartbeats 40000000 in
theorem rm16q (l : Launch) (Z : State) (a0 : Array Value) (hw : ∀ d ∈ tables_1, d.before a0 Z = true) (ws : List Jvm.Cond) (a1 : Addr) (w2 : Addr) (h0 : Heap) (n0 : Nat) (Z0 : n0 ≤ h0.size) (F_expansion_a1 : Fld Z h0 a1 "com/example/stubwright/stubwright/read/Token" "expansion" "Lcom/example/stubwright/stubwright/model/Position;" (.ref w2)) :
    MetFree l (⟨"com/example/stubwright/stubwright/read/Token", "expansionPoint", "()Lcom/example/stubwright/stubwright/model/Position;"⟩ : MethodName) (head1 (Jvm.Cond.code (⟨"com/example/stubwright/stubwright/read/Token", "expansionPoint", "()Lcom/example/stubwright/stubwright/model/Position;"⟩ : MethodName) prog_80_method_16_code 1 (some (.object "com/example/stubwright/stubwright/model/Position")) :: ws) ({ frames := 0, cells := 0, slots := 0, locals := 0 } : Room)) (fun a U => a = #[(.ref a1)] ∧ Z.Warmed39 U.vm ∧ U.heap = h0) (fun _ _ _ _ _ => True) (fun _ U o U' => ∃ v L, o = .returned v ∧ Q16q Z a1 w2 h0 n0 v U'.heap L ∧ FrameEnd U o U' L ({ frames := 0, cells := 0, slots := 0, locals := 0 } : Room).cells ({ frames := 0, cells := 0, slots := 0, locals := 0 } : Room).slots) := by
  refine MetFree.of_bodySF (plainFor_of_name pn_16q) hisR ?_
  intro p e s m args below meth c s₁ Bd hml0 hP hK
  obtain ⟨rfl, hZ, hh⟩ := hP
  have hx := Bd.exec
  have hby := Bd.bytes
  have hml : c.maxLocals = 1 := hml0
  have hown : s.vm.findClass "com/example/stubwright/stubwright/read/Token" = some m.cls := findClass_of_methodNamed Bd.named
  have hnm := (name_of_methodNamed Bd.named Bd.method).1
  have X0 : Stand p l e ({ frames := 0, cells := 0, slots := 0, locals := 0 } : Room) s m #[(.ref a1)] below meth c s₁ [] 0 0 := Stand.of_body Bd
  have e0 : s₁.heap = h0 := by rw [← hh, Bd.state]; rfl
  have N0 := Fr.nil n0
  have pre0 : ∀ t, Steps p.tables e below (s₁.setTop (mkF m 0 #[.val (.ref a1)] [])) t → Steps p.tables e below (s₁.setTop (entryFrame m #[(.ref a1)] 1)) t := fun t k => castTop (ef_16q m a1) k
  -- 3. LAWS
  obtain ⟨T3, X3, e3, st3⟩ := getF X0 hx hZ hown (host := "") (Or.inl (hw _ (List.mem_of_getElem? (i := 91) rfl))) Via.refl e0 F_expansion_a1 (g := (mkF m 1 #[.val (.ref a1)] [(.ref a1)])) rfl rfl (hb hby d16_1)
  obtain ⟨T4, X4, e4, st4⟩ := getF X3 hx hZ hown (host := "") (Or.inl (hw _ (List.mem_of_getElem? (i := 91) rfl))) Via.refl e3 F_expansion_a1 (g := (mkF m 15 #[.val (.ref a1)] [(.ref a1)])) rfl rfl (hb hby d16_15)
  obtain ⟨fs, hr, hrun, hended, hW, hsame⟩ := X4.leave (v := some (.ref w2)) (fun h => by rw [Bd.returns] at h; cases h)
  refine ⟨_, _, pre0 _ ?_, hrun, hended, _, _, rfl, ?_, ⟨_, rfl⟩, hW, hsame.mono (by decide) (by decide)⟩
  -- 4. STEPS
  · show Steps p.tables e below (s₁.setTop (mkF m 0 #[.val (.ref a1)] [])) _
    refine XS.aloadN X0.here hx rfl (hb hby d16_0) rfl rfl ?_
    show Steps p.tables e below (s₁.setTop (mkF m 1 #[.val (.ref a1)] [(.ref a1)])) _
    refine st3 _ ?_
    show Steps p.tables e below (T3.setTop (mkF m 4 #[.val (.ref a1)] [(.ref w2)])) _
    refine XS.ifnonnullYes X3.here hx rfl (pc0 := 4) (pc' := 14) rfl (hb hby d16_4) rfl (by decide) (by decide) ?_
    show Steps p.tables e below (T3.setTop (mkF m 14 #[.val (.ref a1)] [])) _
    refine XS.aloadN X3.here hx rfl (hb hby d16_14) rfl rfl ?_
    show Steps p.tables e below (T3.setTop (mkF m 15 #[.val (.ref a1)] [(.ref a1)])) _
    refine st4 _ ?_
    show Steps p.tables e below (T4.setTop (mkF m 18 #[.val (.ref a1)] [(.ref w2)])) _
    jvm_step X4.here [X4.here.top, hx, (hb hby d16_18), X4.method', Bd.returns, Value.isRef, FieldType.isReference]
    first | (intro acts; rw [hr _ acts rfl rfl rfl]) | rw [hr _ _ rfl rfl rfl]
    exact Steps.refl _
  · show Q16q Z a1 w2 h0 n0 _ T4.heap _
    rw [e4]
    exact ⟨rfl, N0, rfl⟩
theorem d16_7 : decode prog_80_method_16_code 7 = .ok (.aload_n 0, 1) := by decide +kernel
theorem d16_8 : decode prog_80_method_16_code 8 = .ok (.getfield 27, 3) := by decide +kernel
theorem d16_11 : decode prog_80_method_16_code 11 = .ok (.goto 7, 3) := by decide +kernel
theorem pn_16n : plainName "com/example/stubwright/stubwright/read/Token" = true := by first | (simp [plainName, overriddenIn]; done) | decide +kernel
theorem ef_16n (m : MethodId) (x0 : Addr) : entryFrame m #[(.ref x0)] 1 = mkF m 0 #[.val (.ref x0)] [] := by first | (simp [entryFrame, mkF, argsToLocals, Value.category]; done) | rfl
def Q16n (Z : State) (a1 : Addr) (w3 : Addr) (h0 : Heap) (n0 : Nat) (v : Option Value) (h : Heap) (L : List Loc) : Prop := v = some (.ref w3) ∧ Fr n0 L ∧ h = h0
set_option maxRecDepth 65536 in
set_option maxHeartbeats 40000000 in
theorem rm16n (l : Launch) (Z : State) (a0 : Array Value) (hw : ∀ d ∈ tables_1, d.before a0 Z = true) (ws : List Jvm.Cond) (a1 : Addr) (w3 : Addr) (h0 : Heap) (n0 : Nat) (Z0 : n0 ≤ h0.size) (F_expansion_a1 : Fld Z h0 a1 "com/example/stubwright/stubwright/read/Token" "expansion" "Lcom/example/stubwright/stubwright/model/Position;" .null) (F_position_a1 : Fld Z h0 a1 "com/example/stubwright/stubwright/read/Token" "position" "Lcom/example/stubwright/stubwright/model/Position;" (.ref w3)) :
    MetFree l (⟨"com/example/stubwright/stubwright/read/Token", "expansionPoint", "()Lcom/example/stubwright/stubwright/model/Position;"⟩ : MethodName) (head1 (Jvm.Cond.code (⟨"com/example/stubwright/stubwright/read/Token", "expansionPoint", "()Lcom/example/stubwright/stubwright/model/Position;"⟩ : MethodName) prog_80_method_16_code 1 (some (.object "com/example/stubwright/stubwright/model/Position")) :: ws) ({ frames := 0, cells := 0, slots := 0, locals := 0 } : Room)) (fun a U => a = #[(.ref a1)] ∧ Z.Warmed39 U.vm ∧ U.heap = h0) (fun _ _ _ _ _ => True) (fun _ U o U' => ∃ v L, o = .returned v ∧ Q16n Z a1 w3 h0 n0 v U'.heap L ∧ FrameEnd U o U' L ({ frames := 0, cells := 0, slots := 0, locals := 0 } : Room).cells ({ frames := 0, cells := 0, slots := 0, locals := 0 } : Room).slots) := by
  refine MetFree.of_bodySF (plainFor_of_name pn_16n) hisR ?_
  intro p e s m args below meth c s₁ Bd hml0 hP hK
  obtain ⟨rfl, hZ, hh⟩ := hP
  have hx := Bd.exec
  have hby := Bd.bytes
  have hml : c.maxLocals = 1 := hml0
  have hown : s.vm.findClass "com/example/stubwright/stubwright/read/Token" = some m.cls := findClass_of_methodNamed Bd.named
  have hnm := (name_of_methodNamed Bd.named Bd.method).1
  have X0 : Stand p l e ({ frames := 0, cells := 0, slots := 0, locals := 0 } : Room) s m #[(.ref a1)] below meth c s₁ [] 0 0 := Stand.of_body Bd
  have e0 : s₁.heap = h0 := by rw [← hh, Bd.state]; rfl
  have N0 := Fr.nil n0
  have pre0 : ∀ t, Steps p.tables e below (s₁.setTop (mkF m 0 #[.val (.ref a1)] [])) t → Steps p.tables e below (s₁.setTop (entryFrame m #[(.ref a1)] 1)) t := fun t k => castTop (ef_16n m a1) k
  -- 3. LAWS
  obtain ⟨T2, X2, e2, st2⟩ := getF X0 hx hZ hown (host := "") (Or.inl (hw _ (List.mem_of_getElem? (i := 91) rfl))) Via.refl e0 F_expansion_a1 (g := (mkF m 1 #[.val (.ref a1)] [(.ref a1)])) rfl rfl (hb hby d16_1)
  obtain ⟨T4, X4, e4, st4⟩ := getF X2 hx hZ hown (host := "") (Or.inl (hw _ (List.mem_of_getElem? (i := 85) rfl))) Via.refl e2 F_position_a1 (g := (mkF m 8 #[.val (.ref a1)] [(.ref a1)])) rfl rfl (hb hby d16_8)
  obtain ⟨fs, hr, hrun, hended, hW, hsame⟩ := X4.leave (v := some (.ref w3)) (fun h => by rw [Bd.returns] at h; cases h)
  refine ⟨_, _, pre0 _ ?_, hrun, hended, _, _, rfl, ?_, ⟨_, rfl⟩, hW, hsame.mono (by decide) (by decide)⟩
  -- 4. STEPS
  · show Steps p.tables e below (s₁.setTop (mkF m 0 #[.val (.ref a1)] [])) _
    refine XS.aloadN X0.here hx rfl (hb hby d16_0) rfl rfl ?_
    show Steps p.tables e below (s₁.setTop (mkF m 1 #[.val (.ref a1)] [(.ref a1)])) _
    refine st2 _ ?_
    show Steps p.tables e below (T2.setTop (mkF m 4 #[.val (.ref a1)] [.null])) _
    refine XS.ifnonnullNo X2.here hx rfl (hb hby d16_4) rfl ?_
    show Steps p.tables e below (T2.setTop (mkF m 7 #[.val (.ref a1)] [])) _
    refine XS.aloadN X2.here hx rfl (hb hby d16_7) rfl rfl ?_
    show Steps p.tables e below (T2.setTop (mkF m 8 #[.val (.ref a1)] [(.ref a1)])) _
    refine st4 _ ?_
    show Steps p.tables e below (T4.setTop (mkF m 11 #[.val (.ref a1)] [(.ref w3)])) _
    refine XS.goto X4.here hx rfl (pc0 := 11) (pc' := 18) rfl (hb hby d16_11) (by decide) (by decide) ?_
    show Steps p.tables e below (T4.setTop (mkF m 18 #[.val (.ref a1)] [(.ref w3)])) _
    jvm_step X4.here [X4.here.top, hx, (hb hby d16_18), X4.method', Bd.returns, Value.isRef, FieldType.isReference]
    first | (intro acts; rw [hr _ acts rfl rfl rfl]) | rw [hr _ _ rfl rfl rfl]
    exact Steps.refl _
  · show Q16n Z a1 w3 h0 n0 _ T4.heap _
    rw [e4]
    exact ⟨rfl, N0, rfl⟩
theorem d17_0 : decode prog_80_method_15_code 0 = .ok (.new 2, 3) := by decide +kernel
theorem d17_3 : decode prog_80_method_15_code 3 = .ok (.dup, 1) := by decide +kernel
theorem d17_4 : decode prog_80_method_15_code 4 = .ok (.aload_n 0, 1) := by decide +kernel
theorem d17_5 : decode prog_80_method_15_code 5 = .ok (.getfield 15, 3) := by decide +kernel
theorem d17_8 : decode prog_80_method_15_code 8 = .ok (.aload_n 0, 1) := by decide +kernel
theorem d17_9 : decode prog_80_method_15_code 9 = .ok (.getfield 19, 3) := by decide +kernel
theorem d17_12 : decode prog_80_method_15_code 12 = .ok (.aload_n 0, 1) := by decide +kernel
theorem d17_13 : decode prog_80_method_15_code 13 = .ok (.getfield 23, 3) := by decide +kernel
theorem d17_16 : decode prog_80_method_15_code 16 = .ok (.aload_n 0, 1) := by decide +kernel
theorem d17_17 : decode prog_80_method_15_code 17 = .ok (.getfield 27, 3) := by decide +kernel
theorem d17_20 : decode prog_80_method_15_code 20 = .ok (.aload_n 0, 1) := by decide +kernel
theorem d17_21 : decode prog_80_method_15_code 21 = .ok (.getfield 31, 3) := by decide +kernel
theorem d17_24 : decode prog_80_method_15_code 24 = .ok (.aload_n 0, 1) := by decide +kernel
theorem d17_25 : decode prog_80_method_15_code 25 = .ok (.getfield 35, 3) := by decide +kernel
theorem d17_28 : decode prog_80_method_15_code 28 = .ok (.aload_n 1, 1) := by decide +kernel
theorem d17_29 : decode prog_80_method_15_code 29 = .ok (.invokespecial 7, 3) := by decide +kernel
theorem d17_32 : decode prog_80_method_15_code 32 = .ok (.areturn, 1) := by decide +kernel
theorem pn_17q : plainName "com/example/stubwright/stubwright/read/Token" = true := by first | (simp [plainName, overriddenIn]; done) | decide +kernel
theorem pd_17_14 : parseMethodDescriptor "(Lcom/example/stubwright/stubwright/read/Token$Kind;Ljava/lang/String;Ljava/lang/Object;Lcom/example/stubwright/stubwright/model/Position;ZZLcom/example/stubwright/stubwright/model/Position;)V" = some ⟨[(.object "com/example/stubwright/stubwright/read/Token$Kind"), (.object "java/lang/String"), (.object "java/lang/Object"), (.object "com/example/stubwright/stubwright/model/Position"), .boolean, .boolean, (.object "com/example/stubwright/stubwright/model/Position")], none⟩ := by decide +kernel
theorem ef_17q (m : MethodId) (x0 : Addr) (x1 : Addr) : entryFrame m #[(.ref x0), (.ref x1)] 2 = mkF m 0 #[.val (.ref x0), .val (.ref x1)] [] := by first | (simp [entryFrame, mkF, argsToLocals, Value.category]; done) | rfl
def Q17q (Z : State) (a1 : Addr) (a2 : Addr) (w4 : Addr) (w6 : Addr) (w9 : Addr) (w11 : Int32) (w13 : Int32) (h0 : Heap) (n0 : Nat) (v : Option Value) (h : Heap) (L : List Loc) : Prop := ∃ b, v = some (.ref b) ∧ Fr n0 L ∧ Keep h0 h [] ∧ h0.size ≤ b ∧ Exa Z h b "com/example/stubwright/stubwright/read/Token" ∧ Fld Z h b "com/example/stubwright/stubwright/read/Token" "kind" "Lcom/example/stubwright/stubwright/read/Token$Kind;" (.ref w4) ∧ Fld Z h b "com/example/stubwright/stubwright/read/Token" "spelling" "Ljava/lang/String;" (.ref w6) ∧ Fld Z h b "com/example/stubwright/stubwright/read/Token" "value" "Ljava/lang/Object;" .null ∧ Fld Z h b "com/example/stubwright/stubwright/read/Token" "position" "Lcom/example/stubwright/stubwright/model/Position;" (.ref w9) ∧ Fld Z h b "com/example/stubwright/stubwright/read/Token" "spaceBefore" "Z" (.int (nar .boolean w11)) ∧ Fld Z h b "com/example/stubwright/stubwright/read/Token" "painted" "Z" (.int (nar .boolean w13)) ∧ Fld Z h b "com/example/stubwright/stubwright/read/Token" "expansion" "Lcom/example/stubwright/stubwright/model/Position;" (.ref a2)
set_option maxRecDepth 65536 in
set_option maxHeartbeats 40000000 in
theorem rm17q (l : Launch) (Z : State) (a0 : Array Value) (hw : ∀ d ∈ tables_1, d.before a0 Z = true) (ws : List Jvm.Cond) (a1 : Addr) (a2 : Addr) (w4 : Addr) (w6 : Addr) (w9 : Addr) (w11 : Int32) (w13 : Int32) (h0 : Heap) (n0 : Nat) (Z0 : n0 ≤ h0.size) (F_kind_a1 : Fld Z h0 a1 "com/example/stubwright/stubwright/read/Token" "kind" "Lcom/example/stubwright/stubwright/read/Token$Kind;" (.ref w4)) (F_spelling_a1 : Fld Z h0 a1 "com/example/stubwright/stubwright/read/Token" "spelling" "Ljava/lang/String;" (.ref w6)) (F_value_a1 : Fld Z h0 a1 "com/example/stubwright/stubwright/read/Token" "value" "Ljava/lang/Object;" .null) (F_position_a1 : Fld Z h0 a1 "com/example/stubwright/stubwright/read/Token" "position" "Lcom/example/stubwright/stubwright/model/Position;" (.ref w9)) (F_spaceBefore_a1 : Fld Z h0 a1 "com/example/stubwright/stubwright/read/Token" "spaceBefore" "Z" (.int w11)) (F_painted_a1 : Fld Z h0 a1 "com/example/stubwright/stubwright/read/Token" "painted" "Z" (.int w13)) :
    MetFree l (⟨"com/example/stubwright/stubwright/read/Token", "expandedAt", "(Lcom/example/stubwright/stubwright/model/Position;)Lcom/example/stubwright/stubwright/read/Token;"⟩ : MethodName) (head1 (Jvm.Cond.code (⟨"com/example/stubwright/stubwright/read/Token", "expandedAt", "(Lcom/example/stubwright/stubwright/model/Position;)Lcom/example/stubwright/stubwright/read/Token;"⟩ : MethodName) prog_80_method_15_code 2 (some (.object "com/example/stubwright/stubwright/read/Token")) :: ws) ({ frames := 2, cells := 1, slots := 7, locals := 32 } : Room)) (fun a U => a = #[(.ref a1), (.ref a2)] ∧ Z.Warmed39 U.vm ∧ U.heap = h0) (fun _ _ _ _ _ => True) (fun _ U o U' => ∃ v L, o = .returned v ∧ Q17q Z a1 a2 w4 w6 w9 w11 w13 h0 n0 v U'.heap L ∧ FrameEnd U o U' L ({ frames := 2, cells := 1, slots := 7, locals := 32 } : Room).cells ({ frames := 2, cells := 1, slots := 7, locals := 32 } : Room).slots) := by
  refine MetFree.of_bodySF (plainFor_of_name pn_17q) hisR ?_
  intro p e s m args below meth c s₁ Bd hml0 hP hK
  obtain ⟨rfl, hZ, hh⟩ := hP
  have hx := Bd.exec
  have hby := Bd.bytes
  have hml : c.maxLocals = 2 := hml0
  have hown : s.vm.findClass "com/example/stubwright/stubwright/read/Token" = some m.cls := findClass_of_methodNamed Bd.named
  have hnm := (name_of_methodNamed Bd.named Bd.method).1
  have X0 : Stand p l e ({ frames := 2, cells := 1, slots := 7, locals := 32 } : Room) s m #[(.ref a1), (.ref a2)] below meth c s₁ [] 0 0 := Stand.of_body Bd
  have e0 : s₁.heap = h0 := by rw [← hh, Bd.state]; rfl
  have N0 := Fr.nil n0
  have pre0 : ∀ t, Steps p.tables e below (s₁.setTop (mkF m 0 #[.val (.ref a1), .val (.ref a2)] [])) t → Steps p.tables e below (s₁.setTop (entryFrame m #[(.ref a1), (.ref a2)] 2)) t := fun t k => castTop (ef_17q m a1 a2) k
  -- 3. LAWS
  obtain ⟨T3, h3, X3, e3, E3, A3, D3, -, st3⟩ := newO X0 hx hZ hown (hw _ (List.mem_of_getElem? (i := 103) rfl)) (hw _ (List.mem_of_getElem? (i := 63) rfl)) (hw _ (List.mem_of_getElem? (i := 64) rfl)) e0 (g := (mkF m 0 #[.val (.ref a1), .val (.ref a2)] [])) rfl (hb hby d17_0) (by decide) (by decide)
  obtain ⟨b3, g3⟩ : ∃ z, z = h0.size := ⟨_, rfl⟩      -- the fresh object's address
  rw [← g3] at A3 D3 st3      -- A3 : Exa Z h3 b3 "com/example/stubwright/stubwright/read/Token"; E3 : Ext h0 h3 (carries every older fact: .ext E3)
  have F_kind_b3 : Fld Z h3 b3 "com/example/stubwright/stubwright/read/Token" "kind" "Lcom/example/stubwright/stubwright/read/Token$Kind;" .null := D3 (Or.inr (hw _ (List.mem_of_getElem? (i := 80) rfl))) (ty := (.object "com/example/stubwright/stubwright/read/Token$Kind")) (by decide)
  have F_spelling_b3 : Fld Z h3 b3 "com/example/stubwright/stubwright/read/Token" "spelling" "Ljava/lang/String;" .null := D3 (Or.inr (hw _ (List.mem_of_getElem? (i := 82) rfl))) (ty := (.object "java/lang/String")) (by decide)
  have F_value_b3 : Fld Z h3 b3 "com/example/stubwright/stubwright/read/Token" "value" "Ljava/lang/Object;" .null := D3 (Or.inr (hw _ (List.mem_of_getElem? (i := 84) rfl))) (ty := (.object "java/lang/Object")) (by decide)
  have F_position_b3 : Fld Z h3 b3 "com/example/stubwright/stubwright/read/Token" "position" "Lcom/example/stubwright/stubwright/model/Position;" .null := D3 (Or.inr (hw _ (List.mem_of_getElem? (i := 86) rfl))) (ty := (.object "com/example/stubwright/stubwright/model/Position")) (by decide)
  have F_spaceBefore_b3 : Fld Z h3 b3 "com/example/stubwright/stubwright/read/Token" "spaceBefore" "Z" (.int (0 : Int32)) := D3 (Or.inr (hw _ (List.mem_of_getElem? (i := 88) rfl))) (ty := .boolean) (by decide)
  have F_painted_b3 : Fld Z h3 b3 "com/example/stubwright/stubwright/read/Token" "painted" "Z" (.int (0 : Int32)) := D3 (Or.inr (hw _ (List.mem_of_getElem? (i := 90) rfl))) (ty := .boolean) (by decide)
  have F_expansion_b3 : Fld Z h3 b3 "com/example/stubwright/stubwright/read/Token" "expansion" "Lcom/example/stubwright/stubwright/model/Position;" .null := D3 (Or.inr (hw _ (List.mem_of_getElem? (i := 92) rfl))) (ty := (.object "com/example/stubwright/stubwright/model/Position")) (by decide)
  have E_b3 := A3
  have g_b3 : n0 ≤ b3 := Nat.le_trans Z0 (Nat.le_of_eq g3.symm)
  have sz_b3 : h0.size ≤ b3 := (Nat.le_trans (Keep.refl h0 []).1 (Nat.le_of_eq g3.symm))
  have K3 : Keep h0 h3 [] := (Keep.refl h0 []).ext E3
  obtain ⟨T5, X5, e5, st5⟩ := getF X3 hx hZ hown (host := "") (Or.inl (hw _ (List.mem_of_getElem? (i := 79) rfl))) Via.refl e3 (F_kind_a1.ext E3) (g := (mkF m 5 #[.val (.ref a1), .val (.ref a2)] [(.ref a1), (.ref b3), (.ref b3)])) rfl rfl (hb hby d17_5)
  obtain ⟨T7, X7, e7, st7⟩ := getF X5 hx hZ hown (host := "") (Or.inl (hw _ (List.mem_of_getElem? (i := 81) rfl))) Via.refl e5 (F_spelling_a1.ext E3) (g := (mkF m 9 #[.val (.ref a1), .val (.ref a2)] [(.ref a1), (.ref w4), (.ref b3), (.ref b3)])) rfl rfl (hb hby d17_9)
  obtain ⟨T8, X8, e8, st8⟩ := getF X7 hx hZ hown (host := "") (Or.inl (hw _ (List.mem_of_getElem? (i := 83) rfl))) Via.refl e7 (F_value_a1.ext E3) (g := (mkF m 13 #[.val (.ref a1), .val (.ref a2)] [(.ref a1), (.ref w6), (.ref w4), (.ref b3), (.ref b3)])) rfl rfl (hb hby d17_13)
  obtain ⟨T10, X10, e10, st10⟩ := getF X8 hx hZ hown (host := "") (Or.inl (hw _ (List.mem_of_getElem? (i := 85) rfl))) Via.refl e8 (F_position_a1.ext E3) (g := (mkF m 17 #[.val (.ref a1), .val (.ref a2)] [(.ref a1), .null, (.ref w6), (.ref w4), (.ref b3), (.ref b3)])) rfl rfl (hb hby d17_17)
  obtain ⟨T12, X12, e12, st12⟩ := getF X10 hx hZ hown (host := "") (Or.inl (hw _ (List.mem_of_getElem? (i := 87) rfl))) Via.refl e10 (F_spaceBefore_a1.ext E3) (g := (mkF m 21 #[.val (.ref a1), .val (.ref a2)] [(.ref a1), (.ref w9), .null, (.ref w6), (.ref w4), (.ref b3), (.ref b3)])) rfl rfl (hb hby d17_21)
  obtain ⟨T14, X14, e14, st14⟩ := getF X12 hx hZ hown (host := "") (Or.inl (hw _ (List.mem_of_getElem? (i := 89) rfl))) Via.refl e12 (F_painted_a1.ext E3) (g := (mkF m 25 #[.val (.ref a1), .val (.ref a2)] [(.ref a1), (.int w11), (.ref w9), .null, (.ref w6), (.ref w4), (.ref b3), (.ref b3)])) rfl rfl (hb hby d17_25)
  -- pc 29: the constructor of com/example/stubwright/stubwright/read/Token by its contract rm15
  obtain ⟨_, _, ⟨T15, L15, k15, n15⟩, -, X15, ⟨Lc15, hQ15, l15, y15, z15⟩, st15⟩ := X14.specialBack hx (y := (⟨"com/example/stubwright/stubwright/read/Token", "<init>", "(Lcom/example/stubwright/stubwright/read/Token$Kind;Ljava/lang/String;Ljava/lang/Object;Lcom/example/stubwright/stubwright/model/Position;ZZLcom/example/stubwright/stubwright/model/Position;)V"⟩ : MethodName)) rfl hown (mvT hZ (hw _ (List.mem_of_getElem? (i := 75) rfl))) (mvT hZ (hw _ (List.mem_of_getElem? (i := 76) rfl))) (mvT hZ (hw _ (List.mem_of_getElem? (i := 77) rfl))) (by decide) (backOf (W := 1) (rm15q l Z a0 hw [] b3 w4 w6 w9 w11 w13 a2 _ _ _ _ _ _ _ h3 n0 (Nat.le_trans Z0 E3.1) E_b3 F_kind_b3 g_b3 F_spelling_b3 F_value_b3 F_position_b3 F_spaceBefore_b3 F_painted_b3 F_expansion_b3) hZ (hw _ (List.mem_of_getElem? (i := 77) rfl)) (hw _ (List.mem_of_getElem? (i := 64) rfl)) (by decide) (by decide)) (g := (mkF m 29 #[.val (.ref a1), .val (.ref a2)] [(.ref a2), (.int w13), (.int w11), (.ref w9), .null, (.ref w6), (.ref w4), (.ref b3), (.ref b3)])) rfl (by rw [hml]; rfl) (Steps.refl _) (a := b3) (argsL := [(.ref w4), (.ref w6), .null, (.ref w9), (.int w11), (.int w13), (.ref a2)]) (rest := [(.ref b3)]) (lenOf pd_17_14 rfl) rfl (by show 2 * 0 + _ ≤ _; exact Nat.le_of_eq rfl) (hb hby d17_29) (fun _ _ => ⟨rfl, e14, (by decide : 1 + 0 ≤ _), (by decide : 7 + 0 ≤ _)⟩)
  dsimp only [Pt.U, Pt.locs, Pt.cells, Pt.slots] at X15 l15 y15 z15 st15 hQ15
  subst l15 y15 z15
  obtain ⟨rfl, N15q, Kc15, Et15, Fkind15, Fspelling15, Fvalue15, Fposition15, FspaceBefore15, Fpainted15, Fexpansion15⟩ := hQ15
  -- Kc15 : Keep h3 T15.heap [b3]
  have N15 := Fr.app N0 N15q
  have K15 : Keep h0 T15.heap [] := K3.trans Kc15 (fun x_ hx_ => by rw [List.mem_singleton.mp hx_]; exact Or.inr sz_b3)
  obtain ⟨fs, hr, hrun, hended, hW, hsame⟩ := X15.leave (v := some (.ref b3)) (fun h => by rw [Bd.returns] at h; cases h)
  refine ⟨_, _, pre0 _ ?_, hrun, hended, _, _, rfl, ?_, ⟨_, rfl⟩, hW, hsame.mono (by decide) (by decide)⟩
  -- 4. STEPS
  · show Steps p.tables e below (s₁.setTop (mkF m 0 #[.val (.ref a1), .val (.ref a2)] [])) _
    refine st3 _ ?_
    show Steps p.tables e below (T3.setTop (mkF m 3 #[.val (.ref a1), .val (.ref a2)] [(.ref b3)])) _
    refine XS.dup X3.here hx rfl (hb hby d17_3) rfl rfl ?_
    show Steps p.tables e below (T3.setTop (mkF m 4 #[.val (.ref a1), .val (.ref a2)] [(.ref b3), (.ref b3)])) _
    refine XS.aloadN X3.here hx rfl (hb hby d17_4) rfl rfl ?_
    show Steps p.tables e below (T3.setTop (mkF m 5 #[.val (.ref a1), .val (.ref a2)] [(.ref a1), (.ref b3), (.ref b3)])) _
    refine st5 _ ?_
    show Steps p.tables e below (T5.setTop (mkF m 8 #[.val (.ref a1), .val (.ref a2)] [(.ref w4), (.ref b3), (.ref b3)])) _
    refine XS.aloadN X5.here hx rfl (hb hby d17_8) rfl rfl ?_
    show Steps p.tables e below (T5.setTop (mkF m 9 #[.val (.ref a1), .val (.ref a2)] [(.ref a1), (.ref w4), (.ref b3), (.ref b3)])) _
    refine st7 _ ?_
    show Steps p.tables e below (T7.setTop (mkF m 12 #[.val (.ref a1), .val (.ref a2)] [(.ref w6), (.ref w4), (.ref b3), (.ref b3)])) _
    refine XS.aloadN X7.here hx rfl (hb hby d17_12) rfl rfl ?_
    show Steps p.tables e below (T7.setTop (mkF m 13 #[.val (.ref a1), .val (.ref a2)] [(.ref a1), (.ref w6), (.ref w4), (.ref b3), (.ref b3)])) _
    refine st8 _ ?_
    show Steps p.tables e below (T8.setTop (mkF m 16 #[.val (.ref a1), .val (.ref a2)] [.null, (.ref w6), (.ref w4), (.ref b3), (.ref b3)])) _
    refine XS.aloadN X8.here hx rfl (hb hby d17_16) rfl rfl ?_
    show Steps p.tables e below (T8.setTop (mkF m 17 #[.val (.ref a1), .val (.ref a2)] [(.ref a1), .null, (.ref w6), (.ref w4), (.ref b3), (.ref b3)])) _
    refine st10 _ ?_
    show Steps p.tables e below (T10.setTop (mkF m 20 #[.val (.ref a1), .val (.ref a2)] [(.ref w9), .null, (.ref w6), (.ref w4), (.ref b3), (.ref b3)])) _
    refine XS.aloadN X10.here hx rfl (hb hby d17_20) rfl rfl ?_
    show Steps p.tables e below (T10.setTop (mkF m 21 #[.val (.ref a1), .val (.ref a2)] [(.ref a1), (.ref w9), .null, (.ref w6), (.ref w4), (.ref b3), (.ref b3)])) _
    refine st12 _ ?_
    show Steps p.tables e below (T12.setTop (mkF m 24 #[.val (.ref a1), .val (.ref a2)] [(.int w11), (.ref w9), .null, (.ref w6), (.ref w4), (.ref b3), (.ref b3)])) _
    refine XS.aloadN X12.here hx rfl (hb hby d17_24) rfl rfl ?_
    show Steps p.tables e below (T12.setTop (mkF m 25 #[.val (.ref a1), .val (.ref a2)] [(.ref a1), (.int w11), (.ref w9), .null, (.ref w6), (.ref w4), (.ref b3), (.ref b3)])) _
    refine st14 _ ?_
    show Steps p.tables e below (T14.setTop (mkF m 28 #[.val (.ref a1), .val (.ref a2)] [(.int w13), (.int w11), (.ref w9), .null, (.ref w6), (.ref w4), (.ref b3), (.ref b3)])) _
    refine XS.aloadN X14.here hx rfl (hb hby d17_28) rfl rfl ?_
    show Steps p.tables e below (T14.setTop (mkF m 29 #[.val (.ref a1), .val (.ref a2)] [(.ref a2), (.int w13), (.int w11), (.ref w9), .null, (.ref w6), (.ref w4), (.ref b3), (.ref b3)])) _
    refine st15.trans ?_
    show Steps p.tables e below (T15.setTop (mkF m 32 #[.val (.ref a1), .val (.ref a2)] [(.ref b3)])) _
    jvm_step X15.here [X15.here.top, hx, (hb hby d17_32), X15.method', Bd.returns, Value.isRef, FieldType.isReference]
    first | (intro acts; rw [hr _ acts rfl rfl rfl]) | rw [hr _ _ rfl rfl rfl]
    exact Steps.refl _
  · show Q17q Z a1 a2 w4 w6 w9 w11 w13 h0 n0 _ T15.heap _
    exact ⟨b3, rfl, N15, K15, sz_b3, Et15, Fkind15, Fspelling15, Fvalue15, Fposition15, FspaceBefore15, Fpainted15, Fexpansion15⟩
theorem pn_17n : plainName "com/example/stubwright/stubwright/read/Token" = true := by first | (simp [plainName, overriddenIn]; done) | decide +kernel
theorem ef_17n (m : MethodId) (x0 : Addr) : entryFrame m #[(.ref x0), .null] 2 = mkF m 0 #[.val (.ref x0), .val .null] [] := by first | (simp [entryFrame, mkF, argsToLocals, Value.category]; done) | rfl
def Q17n (Z : State) (a1 : Addr) (w3 : Addr) (w5 : Addr) (w8 : Addr) (w10 : Int32) (w12 : Int32) (h0 : Heap) (n0 : Nat) (v : Option Value) (h : Heap) (L : List Loc) : Prop := ∃ b, v = some (.ref b) ∧ Fr n0 L ∧ Keep h0 h [] ∧ h0.size ≤ b ∧ Exa Z h b "com/example/stubwright/stubwright/read/Token" ∧ Fld Z h b "com/example/stubwright/stubwright/read/Token" "kind" "Lcom/example/stubwright/stubwright/read/Token$Kind;" (.ref w3) ∧ Fld Z h b "com/example/stubwright/stubwright/read/Token" "spelling" "Ljava/lang/String;" (.ref w5) ∧ Fld Z h b "com/example/stubwright/stubwright/read/Token" "value" "Ljava/lang/Object;" .null ∧ Fld Z h b "com/example/stubwright/stubwright/read/Token" "position" "Lcom/example/stubwright/stubwright/model/Position;" (.ref w8) ∧ Fld Z h b "com/example/stubwright/stubwright/read/Token" "spaceBefore" "Z" (.int (nar .boolean w10)) ∧ Fld Z h b "com/example/stubwright/stubwright/read/Token" "painted" "Z" (.int (nar .boolean w12)) ∧ Fld Z h b "com/example/stubwright/stubwright/read/Token" "expansion" "Lcom/example/stubwright/stubwright/model/Position;" .null
set_option maxRecDepth 65536 in
set_option maxHeartbeats 40000000 in
theorem rm17n (l : Launch) (Z : State) (a0 : Array Value) (hw : ∀ d ∈ tables_1, d.before a0 Z = true) (ws : List Jvm.Cond) (a1 : Addr) (w3 : Addr) (w5 : Addr) (w8 : Addr) (w10 : Int32) (w12 : Int32) (h0 : Heap) (n0 : Nat) (Z0 : n0 ≤ h0.size) (F_kind_a1 : Fld Z h0 a1 "com/example/stubwright/stubwright/read/Token" "kind" "Lcom/example/stubwright/stubwright/read/Token$Kind;" (.ref w3)) (F_spelling_a1 : Fld Z h0 a1 "com/example/stubwright/stubwright/read/Token" "spelling" "Ljava/lang/String;" (.ref w5)) (F_value_a1 : Fld Z h0 a1 "com/example/stubwright/stubwright/read/Token" "value" "Ljava/lang/Object;" .null) (F_position_a1 : Fld Z h0 a1 "com/example/stubwright/stubwright/read/Token" "position" "Lcom/example/stubwright/stubwright/model/Position;" (.ref w8)) (F_spaceBefore_a1 : Fld Z h0 a1 "com/example/stubwright/stubwright/read/Token" "spaceBefore" "Z" (.int w10)) (F_painted_a1 : Fld Z h0 a1 "com/example/stubwright/stubwright/read/Token" "painted" "Z" (.int w12)) :
    MetFree l (⟨"com/example/stubwright/stubwright/read/Token", "expandedAt", "(Lcom/example/stubwright/stubwright/model/Position;)Lcom/example/stubwright/stubwright/read/Token;"⟩ : MethodName) (head1 (Jvm.Cond.code (⟨"com/example/stubwright/stubwright/read/Token", "expandedAt", "(Lcom/example/stubwright/stubwright/model/Position;)Lcom/example/stubwright/stubwright/read/Token;"⟩ : MethodName) prog_80_method_15_code 2 (some (.object "com/example/stubwright/stubwright/read/Token")) :: ws) ({ frames := 2, cells := 1, slots := 7, locals := 32 } : Room)) (fun a U => a = #[(.ref a1), .null] ∧ Z.Warmed39 U.vm ∧ U.heap = h0) (fun _ _ _ _ _ => True) (fun _ U o U' => ∃ v L, o = .returned v ∧ Q17n Z a1 w3 w5 w8 w10 w12 h0 n0 v U'.heap L ∧ FrameEnd U o U' L ({ frames := 2, cells := 1, slots := 7, locals := 32 } : Room).cells ({ frames := 2, cells := 1, slots := 7, locals := 32 } : Room).slots) := by
  refine MetFree.of_bodySF (plainFor_of_name pn_17n) hisR ?_
  intro p e s m args below meth c s₁ Bd hml0 hP hK
  obtain ⟨rfl, hZ, hh⟩ := hP
  have hx := Bd.exec
  have hby := Bd.bytes
  have hml : c.maxLocals = 2 := hml0
  have hown : s.vm.findClass "com/example/stubwright/stubwright/read/Token" = some m.cls := findClass_of_methodNamed Bd.named
  have hnm := (name_of_methodNamed Bd.named Bd.method).1
  have X0 : Stand p l e ({ frames := 2, cells := 1, slots := 7, locals := 32 } : Room) s m #[(.ref a1), .null] below meth c s₁ [] 0 0 := Stand.of_body Bd
  have e0 : s₁.heap = h0 := by rw [← hh, Bd.state]; rfl
  have N0 := Fr.nil n0
  have pre0 : ∀ t, Steps p.tables e below (s₁.setTop (mkF m 0 #[.val (.ref a1), .val .null] [])) t → Steps p.tables e below (s₁.setTop (entryFrame m #[(.ref a1), .null] 2)) t := fun t k => castTop (ef_17n m a1) k
  -- 3. LAWS
  obtain ⟨T2, h2, X2, e2, E2, A2, D2, -, st2⟩ := newO X0 hx hZ hown (hw _ (List.mem_of_getElem? (i := 103) rfl)) (hw _ (List.mem_of_getElem? (i := 63) rfl)) (hw _ (List.mem_of_getElem? (i := 64) rfl)) e0 (g := (mkF m 0 #[.val (.ref a1), .val .null] [])) rfl (hb hby d17_0) (by decide) (by decide)
  obtain ⟨b2, g2⟩ : ∃ z, z = h0.size := ⟨_, rfl⟩      -- the fresh object's address
  rw [← g2] at A2 D2 st2      -- A2 : Exa Z h2 b2 "com/example/stubwright/stubwright/read/Token"; E2 : Ext h0 h2 (carries every older fact: .ext E2)
  have F_kind_b2 : Fld Z h2 b2 "com/example/stubwright/stubwright/read/Token" "kind" "Lcom/example/stubwright/stubwright/read/Token$Kind;" .null := D2 (Or.inr (hw _ (List.mem_of_getElem? (i := 80) rfl))) (ty := (.object "com/example/stubwright/stubwright/read/Token$Kind")) (by decide)
  have F_spelling_b2 : Fld Z h2 b2 "com/example/stubwright/stubwright/read/Token" "spelling" "Ljava/lang/String;" .null := D2 (Or.inr (hw _ (List.mem_of_getElem? (i := 82) rfl))) (ty := (.object "java/lang/String")) (by decide)
  have F_value_b2 : Fld Z h2 b2 "com/example/stubwright/stubwright/read/Token" "value" "Ljava/lang/Object;" .null := D2 (Or.inr (hw _ (List.mem_of_getElem? (i := 84) rfl))) (ty := (.object "java/lang/Object")) (by decide)
  have F_position_b2 : Fld Z h2 b2 "com/example/stubwright/stubwright/read/Token" "position" "Lcom/example/stubwright/stubwright/model/Position;" .null := D2 (Or.inr (hw _ (List.mem_of_getElem? (i := 86) rfl))) (ty := (.object "com/example/stubwright/stubwright/model/Position")) (by decide)
  have F_spaceBefore_b2 : Fld Z h2 b2 "com/example/stubwright/stubwright/read/Token" "spaceBefore" "Z" (.int (0 : Int32)) := D2 (Or.inr (hw _ (List.mem_of_getElem? (i := 88) rfl))) (ty := .boolean) (by decide)
  have F_painted_b2 : Fld Z h2 b2 "com/example/stubwright/stubwright/read/Token" "painted" "Z" (.int (0 : Int32)) := D2 (Or.inr (hw _ (List.mem_of_getElem? (i := 90) rfl))) (ty := .boolean) (by decide)
  have F_expansion_b2 : Fld Z h2 b2 "com/example/stubwright/stubwright/read/Token" "expansion" "Lcom/example/stubwright/stubwright/model/Position;" .null := D2 (Or.inr (hw _ (List.mem_of_getElem? (i := 92) rfl))) (ty := (.object "com/example/stubwright/stubwright/model/Position")) (by decide)
  have E_b2 := A2
  have g_b2 : n0 ≤ b2 := Nat.le_trans Z0 (Nat.le_of_eq g2.symm)
  have sz_b2 : h0.size ≤ b2 := (Nat.le_trans (Keep.refl h0 []).1 (Nat.le_of_eq g2.symm))
  have K2 : Keep h0 h2 [] := (Keep.refl h0 []).ext E2
  obtain ⟨T4, X4, e4, st4⟩ := getF X2 hx hZ hown (host := "") (Or.inl (hw _ (List.mem_of_getElem? (i := 79) rfl))) Via.refl e2 (F_kind_a1.ext E2) (g := (mkF m 5 #[.val (.ref a1), .val .null] [(.ref a1), (.ref b2), (.ref b2)])) rfl rfl (hb hby d17_5)
  obtain ⟨T6, X6, e6, st6⟩ := getF X4 hx hZ hown (host := "") (Or.inl (hw _ (List.mem_of_getElem? (i := 81) rfl))) Via.refl e4 (F_spelling_a1.ext E2) (g := (mkF m 9 #[.val (.ref a1), .val .null] [(.ref a1), (.ref w3), (.ref b2), (.ref b2)])) rfl rfl (hb hby d17_9)
  obtain ⟨T7, X7, e7, st7⟩ := getF X6 hx hZ hown (host := "") (Or.inl (hw _ (List.mem_of_getElem? (i := 83) rfl))) Via.refl e6 (F_value_a1.ext E2) (g := (mkF m 13 #[.val (.ref a1), .val .null] [(.ref a1), (.ref w5), (.ref w3), (.ref b2), (.ref b2)])) rfl rfl (hb hby d17_13)
  obtain ⟨T9, X9, e9, st9⟩ := getF X7 hx hZ hown (host := "") (Or.inl (hw _ (List.mem_of_getElem? (i := 85) rfl))) Via.refl e7 (F_position_a1.ext E2) (g := (mkF m 17 #[.val (.ref a1), .val .null] [(.ref a1), .null, (.ref w5), (.ref w3), (.ref b2), (.ref b2)])) rfl rfl (hb hby d17_17)
  obtain ⟨T11, X11, e11, st11⟩ := getF X9 hx hZ hown (host := "") (Or.inl (hw _ (List.mem_of_getElem? (i := 87) rfl))) Via.refl e9 (F_spaceBefore_a1.ext E2) (g := (mkF m 21 #[.val (.ref a1), .val .null] [(.ref a1), (.ref w8), .null, (.ref w5), (.ref w3), (.ref b2), (.ref b2)])) rfl rfl (hb hby d17_21)
  obtain ⟨T13, X13, e13, st13⟩ := getF X11 hx hZ hown (host := "") (Or.inl (hw _ (List.mem_of_getElem? (i := 89) rfl))) Via.refl e11 (F_painted_a1.ext E2) (g := (mkF m 25 #[.val (.ref a1), .val .null] [(.ref a1), (.int w10), (.ref w8), .null, (.ref w5), (.ref w3), (.ref b2), (.ref b2)])) rfl rfl (hb hby d17_25)
  -- pc 29: the constructor of com/example/stubwright/stubwright/read/Token by its contract rm15
  obtain ⟨_, _, ⟨T14, L14, k14, n14⟩, -, X14, ⟨Lc14, hQ14, l14, y14, z14⟩, st14⟩ := X13.specialBack hx (y := (⟨"com/example/stubwright/stubwright/read/Token", "<init>", "(Lcom/example/stubwright/stubwright/read/Token$Kind;Ljava/lang/String;Ljava/lang/Object;Lcom/example/stubwright/stubwright/model/Position;ZZLcom/example/stubwright/stubwright/model/Position;)V"⟩ : MethodName)) rfl hown (mvT hZ (hw _ (List.mem_of_getElem? (i := 75) rfl))) (mvT hZ (hw _ (List.mem_of_getElem? (i := 76) rfl))) (mvT hZ (hw _ (List.mem_of_getElem? (i := 77) rfl))) (by decide) (backOf (W := 1) (rm15n l Z a0 hw [] b2 w3 w5 w8 w10 w12 _ _ _ _ _ _ _ h2 n0 (Nat.le_trans Z0 E2.1) E_b2 F_kind_b2 g_b2 F_spelling_b2 F_value_b2 F_position_b2 F_spaceBefore_b2 F_painted_b2 F_expansion_b2) hZ (hw _ (List.mem_of_getElem? (i := 77) rfl)) (hw _ (List.mem_of_getElem? (i := 64) rfl)) (by decide) (by decide)) (g := (mkF m 29 #[.val (.ref a1), .val .null] [.null, (.int w12), (.int w10), (.ref w8), .null, (.ref w5), (.ref w3), (.ref b2), (.ref b2)])) rfl (by rw [hml]; rfl) (Steps.refl _) (a := b2) (argsL := [(.ref w3), (.ref w5), .null, (.ref w8), (.int w10), (.int w12), .null]) (rest := [(.ref b2)]) (lenOf pd_17_14 rfl) rfl (by show 2 * 0 + _ ≤ _; exact Nat.le_of_eq rfl) (hb hby d17_29) (fun _ _ => ⟨rfl, e13, (by decide : 1 + 0 ≤ _), (by decide : 7 + 0 ≤ _)⟩)
  dsimp only [Pt.U, Pt.locs, Pt.cells, Pt.slots] at X14 l14 y14 z14 st14 hQ14
  subst l14 y14 z14
  obtain ⟨rfl, N14q, Kc14, Et14, Fkind14, Fspelling14, Fvalue14, Fposition14, FspaceBefore14, Fpainted14, Fexpansion14⟩ := hQ14
  -- Kc14 : Keep h2 T14.heap [b2]
  have N14 := Fr.app N0 N14q
  have K14 : Keep h0 T14.heap [] := K2.trans Kc14 (fun x_ hx_ => by rw [List.mem_singleton.mp hx_]; exact Or.inr sz_b2)
  obtain ⟨fs, hr, hrun, hended, hW, hsame⟩ := X14.leave (v := some (.ref b2)) (fun h => by rw [Bd.returns] at h; cases h)
  refine ⟨_, _, pre0 _ ?_, hrun, hended, _, _, rfl, ?_, ⟨_, rfl⟩, hW, hsame.mono (by decide) (by decide)⟩
  -- 4. STEPS
  · show Steps p.tables e below (s₁.setTop (mkF m 0 #[.val (.ref a1), .val .null] [])) _
    refine st2 _ ?_
    show Steps p.tables e below (T2.setTop (mkF m 3 #[.val (.ref a1), .val .null] [(.ref b2)])) _
    refine XS.dup X2.here hx rfl (hb hby d17_3) rfl rfl ?_
    show Steps p.tables e below (T2.setTop (mkF m 4 #[.val (.ref a1), .val .null] [(.ref b2), (.ref b2)])) _
    refine XS.aloadN X2.here hx rfl (hb hby d17_4) rfl rfl ?_
    show Steps p.tables e below (T2.setTop (mkF m 5 #[.val (.ref a1), .val .null] [(.ref a1), (.ref b2), (.ref b2)])) _
    refine st4 _ ?_
    show Steps p.tables e below (T4.setTop (mkF m 8 #[.val (.ref a1), .val .null] [(.ref w3), (.ref b2), (.ref b2)])) _
    refine XS.aloadN X4.here hx rfl (hb hby d17_8) rfl rfl ?_
    show Steps p.tables e below (T4.setTop (mkF m 9 #[.val (.ref a1), .val .null] [(.ref a1), (.ref w3), (.ref b2), (.ref b2)])) _
    refine st6 _ ?_
    show Steps p.tables e below (T6.setTop (mkF m 12 #[.val (.ref a1), .val .null] [(.ref w5), (.ref w3), (.ref b2), (.ref b2)])) _
    refine XS.aloadN X6.here hx rfl (hb hby d17_12) rfl rfl ?_
    show Steps p.tables e below (T6.setTop (mkF m 13 #[.val (.ref a1), .val .null] [(.ref a1), (.ref w5), (.ref w3), (.ref b2), (.ref b2)])) _
    refine st7 _ ?_
    show Steps p.tables e below (T7.setTop (mkF m 16 #[.val (.ref a1), .val .null] [.null, (.ref w5), (.ref w3), (.ref b2), (.ref b2)])) _
    refine XS.aloadN X7.here hx rfl (hb hby d17_16) rfl rfl ?_
    show Steps p.tables e below (T7.setTop (mkF m 17 #[.val (.ref a1), .val .null] [(.ref a1), .null, (.ref w5), (.ref w3), (.ref b2), (.ref b2)])) _
    refine st9 _ ?_
    show Steps p.tables e below (T9.setTop (mkF m 20 #[.val (.ref a1), .val .null] [(.ref w8), .null, (.ref w5), (.ref w3), (.ref b2), (.ref b2)])) _
    refine XS.aloadN X9.here hx rfl (hb hby d17_20) rfl rfl ?_
    show Steps p.tables e below (T9.setTop (mkF m 21 #[.val (.ref a1), .val .null] [(.ref a1), (.ref w8), .null, (.ref w5), (.ref w3), (.ref b2), (.ref b2)])) _
    refine st11 _ ?_
    show Steps p.tables e below (T11.setTop (mkF m 24 #[.val (.ref a1), .val .null] [(.int w10), (.ref w8), .null, (.ref w5), (.ref w3), (.ref b2), (.ref b2)])) _
    refine XS.aloadN X11.here hx rfl (hb hby d17_24) rfl rfl ?_
    show Steps p.tables e below (T11.setTop (mkF m 25 #[.val (.ref a1), .val .null] [(.ref a1), (.int w10), (.ref w8), .null, (.ref w5), (.ref w3), (.ref b2), (.ref b2)])) _
    refine st13 _ ?_
    show Steps p.tables e below (T13.setTop (mkF m 28 #[.val (.ref a1), .val .null] [(.int w12), (.int w10), (.ref w8), .null, (.ref w5), (.ref w3), (.ref b2), (.ref b2)])) _
    refine XS.aloadN X13.here hx rfl (hb hby d17_28) rfl rfl ?_
    show Steps p.tables e below (T13.setTop (mkF m 29 #[.val (.ref a1), .val .null] [.null, (.int w12), (.int w10), (.ref w8), .null, (.ref w5), (.ref w3), (.ref b2), (.ref b2)])) _
    refine st14.trans ?_
    show Steps p.tables e below (T14.setTop (mkF m 32 #[.val (.ref a1), .val .null] [(.ref b2)])) _
    jvm_step X14.here [X14.here.top, hx, (hb hby d17_32), X14.method', Bd.returns, Value.isRef, FieldType.isReference]
    first | (intro acts; rw [hr _ acts rfl rfl rfl]) | rw [hr _ _ rfl rfl rfl]
    exact Steps.refl _
  · show Q17n Z a1 w3 w5 w8 w10 w12 h0 n0 _ T14.heap _
    exact ⟨b2, rfl, N14, K14, sz_b2, Et14, Fkind14, Fspelling14, Fvalue14, Fposition14, FspaceBefore14, Fpainted14, Fexpansion14⟩
theorem d18_0 : decode prog_80_method_12_code 0 = .ok (.new 2, 3) := by decide +kernel
theorem d18_3 : decode prog_80_method_12_code 3 = .ok (.dup, 1) := by decide +kernel
theorem d18_4 : decode prog_80_method_12_code 4 = .ok (.aload_n 0, 1) := by decide +kernel
theorem d18_5 : decode prog_80_method_12_code 5 = .ok (.getfield 15, 3) := by decide +kernel
theorem d18_8 : decode prog_80_method_12_code 8 = .ok (.aload_n 0, 1) := by decide +kernel
theorem d18_9 : decode prog_80_method_12_code 9 = .ok (.getfield 19, 3) := by decide +kernel
theorem d18_12 : decode prog_80_method_12_code 12 = .ok (.aload_n 0, 1) := by decide +kernel
theorem d18_13 : decode prog_80_method_12_code 13 = .ok (.getfield 23, 3) := by decide +kernel
theorem d18_16 : decode prog_80_method_12_code 16 = .ok (.aload_n 1, 1) := by decide +kernel
theorem d18_17 : decode prog_80_method_12_code 17 = .ok (.aload_n 0, 1) := by decide +kernel
theorem d18_18 : decode prog_80_method_12_code 18 = .ok (.getfield 31, 3) := by decide +kernel
theorem d18_21 : decode prog_80_method_12_code 21 = .ok (.aload_n 0, 1) := by decide +kernel
theorem d18_22 : decode prog_80_method_12_code 22 = .ok (.getfield 35, 3) := by decide +kernel
theorem d18_25 : decode prog_80_method_12_code 25 = .ok (.aload_n 0, 1) := by decide +kernel
theorem d18_26 : decode prog_80_method_12_code 26 = .ok (.getfield 38, 3) := by decide +kernel
theorem d18_29 : decode prog_80_method_12_code 29 = .ok (.invokespecial 7, 3) := by decide +kernel
theorem d18_32 : decode prog_80_method_12_code 32 = .ok (.areturn, 1) := by decide +kernel
theorem pn_18q : plainName "com/example/stubwright/stubwright/read/Token" = true := by first | (simp [plainName, overriddenIn]; done) | decide +kernel
theorem pd_18_14 : parseMethodDescriptor "(Lcom/example/stubwright/stubwright/read/Token$Kind;Ljava/lang/String;Ljava/lang/Object;Lcom/example/stubwright/stubwright/model/Position;ZZLcom/example/stubwright/stubwright/model/Position;)V" = some ⟨[(.object "com/example/stubwright/stubwright/read/Token$Kind"), (.object "java/lang/String"), (.object "java/lang/Object"), (.object "com/example/stubwright/stubwright/model/Position"), .boolean, .boolean, (.object "com/example/stubwright/stubwright/model/Position")], none⟩ := by decide +kernel
theorem ef_18q (m : MethodId) (x0 : Addr) (x1 : Addr) : entryFrame m #[(.ref x0), (.ref x1)] 2 = mkF m 0 #[.val (.ref x0), .val (.ref x1)] [] := by first | (simp [entryFrame, mkF, argsToLocals, Value.category]; done) | rfl
def Q18q (Z : State) (a1 : Addr) (a2 : Addr) (w4 : Addr) (w6 : Addr) (w9 : Int32) (w11 : Int32) (w13 : Addr) (h0 : Heap) (n0 : Nat) (v : Option Value) (h : Heap) (L : List Loc) : Prop := ∃ b, v = some (.ref b) ∧ Fr n0 L ∧ Keep h0 h [] ∧ h0.size ≤ b ∧ Exa Z h b "com/example/stubwright/stubwright/read/Token" ∧ Fld Z h b "com/example/stubwright/stubwright/read/Token" "kind" "Lcom/example/stubwright/stubwright/read/Token$Kind;" (.ref w4) ∧ Fld Z h b "com/example/stubwright/stubwright/read/Token" "spelling" "Ljava/lang/String;" (.ref w6) ∧ Fld Z h b "com/example/stubwright/stubwright/read/Token" "value" "Ljava/lang/Object;" .null ∧ Fld Z h b "com/example/stubwright/stubwright/read/Token" "position" "Lcom/example/stubwright/stubwright/model/Position;" (.ref a2) ∧ Fld Z h b "com/example/stubwright/stubwright/read/Token" "spaceBefore" "Z" (.int (nar .boolean w9)) ∧ Fld Z h b "com/example/stubwright/stubwright/read/Token" "painted" "Z" (.int (nar .boolean w11)) ∧ Fld Z h b "com/example/stubwright/stubwright/read/Token" "expansion" "Lcom/example/stubwright/stubwright/model/Position;" (.ref w13)
set_option maxRecDepth 65536 in
set_option maxHeartbeats 40000000 in
theorem rm18q (l : Launch) (Z : State) (a0 : Array Value) (hw : ∀ d ∈ tables_1, d.before a0 Z = true) (ws : List Jvm.Cond) (a1 : Addr) (a2 : Addr) (w4 : Addr) (w6 : Addr) (w9 : Int32) (w11 : Int32) (w13 : Addr) (h0 : Heap) (n0 : Nat) (Z0 : n0 ≤ h0.size) (F_kind_a1 : Fld Z h0 a1 "com/example/stubwright/stubwright/read/Token" "kind" "Lcom/example/stubwright/stubwright/read/Token$Kind;" (.ref w4)) (F_spelling_a1 : Fld Z h0 a1 "com/example/stubwright/stubwright/read/Token" "spelling" "Ljava/lang/String;" (.ref w6)) (F_value_a1 : Fld Z h0 a1 "com/example/stubwright/stubwright/read/Token" "value" "Ljava/lang/Object;" .null) (F_spaceBefore_a1 : Fld Z h0 a1 "com/example/stubwright/stubwright/read/Token" "spaceBefore" "Z" (.int w9)) (F_painted_a1 : Fld Z h0 a1 "com/example/stubwright/stubwright/read/Token" "painted" "Z" (.int w11)) (F_expansion_a1 : Fld Z h0 a1 "com/example/stubwright/stubwright/read/Token" "expansion" "Lcom/example/stubwright/stubwright/model/Position;" (.ref w13)) :
    MetFree l (⟨"com/example/stubwright/stubwright/read/Token", "at", "(Lcom/example/stubwright/stubwright/model/Position;)Lcom/example/stubwright/stubwright/read/Token;"⟩ : MethodName) (head1 (Jvm.Cond.code (⟨"com/example/stubwright/stubwright/read/Token", "at", "(Lcom/example/stubwright/stubwright/model/Position;)Lcom/example/stubwright/stubwright/read/Token;"⟩ : MethodName) prog_80_method_12_code 2 (some (.object "com/example/stubwright/stubwright/read/Token")) :: ws) ({ frames := 2, cells := 1, slots := 7, locals := 32 } : Room)) (fun a U => a = #[(.ref a1), (.ref a2)] ∧ Z.Warmed39 U.vm ∧ U.heap = h0) (fun _ _ _ _ _ => True) (fun _ U o U' => ∃ v L, o = .returned v ∧ Q18q Z a1 a2 w4 w6 w9 w11 w13 h0 n0 v U'.heap L ∧ FrameEnd U o U' L ({ frames := 2, cells := 1, slots := 7, locals := 32 } : Room).cells ({ frames := 2, cells := 1, slots := 7, locals := 32 } : Room).slots) := by
  refine MetFree.of_bodySF (plainFor_of_name pn_18q) hisR ?_
  intro p e s m args below meth c s₁ Bd hml0 hP hK
  obtain ⟨rfl, hZ, hh⟩ := hP
  have hx := Bd.exec
  have hby := Bd.bytes
  have hml : c.maxLocals = 2 := hml0
  have hown : s.vm.findClass "com/example/stubwright/stubwright/read/Token" = some m.cls := findClass_of_methodNamed Bd.named
  have hnm := (name_of_methodNamed Bd.named Bd.method).1
  have X0 : Stand p l e ({ frames := 2, cells := 1, slots := 7, locals := 32 } : Room) s m #[(.ref a1), (.ref a2)] below meth c s₁ [] 0 0 := Stand.of_body Bd
  have e0 : s₁.heap = h0 := by rw [← hh, Bd.state]; rfl
  have N0 := Fr.nil n0
  have pre0 : ∀ t, Steps p.tables e below (s₁.setTop (mkF m 0 #[.val (.ref a1), .val (.ref a2)] [])) t → Steps p.tables e below (s₁.setTop (entryFrame m #[(.ref a1), (.ref a2)] 2)) t := fun t k => castTop (ef_18q m a1 a2) k
  -- 3. LAWS
  obtain ⟨T3, h3, X3, e3, E3, A3, D3, -, st3⟩ := newO X0 hx hZ hown (hw _ (List.mem_of_getElem? (i := 103) rfl)) (hw _ (List.mem_of_getElem? (i := 63) rfl)) (hw _ (List.mem_of_getElem? (i := 64) rfl)) e0 (g := (mkF m 0 #[.val (.ref a1), .val (.ref a2)] [])) rfl (hb hby d18_0) (by decide) (by decide)
  obtain ⟨b3, g3⟩ : ∃ z, z = h0.size := ⟨_, rfl⟩      -- the fresh object's address
  rw [← g3] at A3 D3 st3      -- A3 : Exa Z h3 b3 "com/example/stubwright/stubwright/read/Token"; E3 : Ext h0 h3 (carries every older fact: .ext E3)
  have F_kind_b3 : Fld Z h3 b3 "com/example/stubwright/stubwright/read/Token" "kind" "Lcom/example/stubwright/stubwright/read/Token$Kind;" .null := D3 (Or.inr (hw _ (List.mem_of_getElem? (i := 80) rfl))) (ty := (.object "com/example/stubwright/stubwright/read/Token$Kind")) (by decide)
  have F_spelling_b3 : Fld Z h3 b3 "com/example/stubwright/stubwright/read/Token" "spelling" "Ljava/lang/String;" .null := D3 (Or.inr (hw _ (List.mem_of_getElem? (i := 82) rfl))) (ty := (.object "java/lang/String")) (by decide)
  have F_value_b3 : Fld Z h3 b3 "com/example/stubwright/stubwright/read/Token" "value" "Ljava/lang/Object;" .null := D3 (Or.inr (hw _ (List.mem_of_getElem? (i := 84) rfl))) (ty := (.object "java/lang/Object")) (by decide)
  have F_position_b3 : Fld Z h3 b3 "com/example/stubwright/stubwright/read/Token" "position" "Lcom/example/stubwright/stubwright/model/Position;" .null := D3 (Or.inr (hw _ (List.mem_of_getElem? (i := 86) rfl))) (ty := (.object "com/example/stubwright/stubwright/model/Position")) (by decide)
  have F_spaceBefore_b3 : Fld Z h3 b3 "com/example/stubwright/stubwright/read/Token" "spaceBefore" "Z" (.int (0 : Int32)) := D3 (Or.inr (hw _ (List.mem_of_getElem? (i := 88) rfl))) (ty := .boolean) (by decide)
  have F_painted_b3 : Fld Z h3 b3 "com/example/stubwright/stubwright/read/Token" "painted" "Z" (.int (0 : Int32)) := D3 (Or.inr (hw _ (List.mem_of_getElem? (i := 90) rfl))) (ty := .boolean) (by decide)
  have F_expansion_b3 : Fld Z h3 b3 "com/example/stubwright/stubwright/read/Token" "expansion" "Lcom/example/stubwright/stubwright/model/Position;" .null := D3 (Or.inr (hw _ (List.mem_of_getElem? (i := 92) rfl))) (ty := (.object "com/example/stubwright/stubwright/model/Position")) (by decide)
  have E_b3 := A3
  have g_b3 : n0 ≤ b3 := Nat.le_trans Z0 (Nat.le_of_eq g3.symm)
  have sz_b3 : h0.size ≤ b3 := (Nat.le_trans (Keep.refl h0 []).1 (Nat.le_of_eq g3.symm))
  have K3 : Keep h0 h3 [] := (Keep.refl h0 []).ext E3
  obtain ⟨T5, X5, e5, st5⟩ := getF X3 hx hZ hown (host := "") (Or.inl (hw _ (List.mem_of_getElem? (i := 79) rfl))) Via.refl e3 (F_kind_a1.ext E3) (g := (mkF m 5 #[.val (.ref a1), .val (.ref a2)] [(.ref a1), (.ref b3), (.ref b3)])) rfl rfl (hb hby d18_5)
  obtain ⟨T7, X7, e7, st7⟩ := getF X5 hx hZ hown (host := "") (Or.inl (hw _ (List.mem_of_getElem? (i := 81) rfl))) Via.refl e5 (F_spelling_a1.ext E3) (g := (mkF m 9 #[.val (.ref a1), .val (.ref a2)] [(.ref a1), (.ref w4), (.ref b3), (.ref b3)])) rfl rfl (hb hby d18_9)
  obtain ⟨T8, X8, e8, st8⟩ := getF X7 hx hZ hown (host := "") (Or.inl (hw _ (List.mem_of_getElem? (i := 83) rfl))) Via.refl e7 (F_value_a1.ext E3) (g := (mkF m 13 #[.val (.ref a1), .val (.ref a2)] [(.ref a1), (.ref w6), (.ref w4), (.ref b3), (.ref b3)])) rfl rfl (hb hby d18_13)
  obtain ⟨T10, X10, e10, st10⟩ := getF X8 hx hZ hown (host := "") (Or.inl (hw _ (List.mem_of_getElem? (i := 87) rfl))) Via.refl e8 (F_spaceBefore_a1.ext E3) (g := (mkF m 18 #[.val (.ref a1), .val (.ref a2)] [(.ref a1), (.ref a2), .null, (.ref w6), (.ref w4), (.ref b3), (.ref b3)])) rfl rfl (hb hby d18_18)
  obtain ⟨T12, X12, e12, st12⟩ := getF X10 hx hZ hown (host := "") (Or.inl (hw _ (List.mem_of_getElem? (i := 89) rfl))) Via.refl e10 (F_painted_a1.ext E3) (g := (mkF m 22 #[.val (.ref a1), .val (.ref a2)] [(.ref a1), (.int w9), (.ref a2), .null, (.ref w6), (.ref w4), (.ref b3), (.ref b3)])) rfl rfl (hb hby d18_22)
  obtain ⟨T14, X14, e14, st14⟩ := getF X12 hx hZ hown (host := "") (Or.inl (hw _ (List.mem_of_getElem? (i := 91) rfl))) Via.refl e12 (F_expansion_a1.ext E3) (g := (mkF m 26 #[.val (.ref a1), .val (.ref a2)] [(.ref a1), (.int w11), (.int w9), (.ref a2), .null, (.ref w6), (.ref w4), (.ref b3), (.ref b3)])) rfl rfl (hb hby d18_26)
  -- pc 29: the constructor of com/example/stubwright/stubwright/read/Token by its contract rm15
  obtain ⟨_, _, ⟨T15, L15, k15, n15⟩, -, X15, ⟨Lc15, hQ15, l15, y15, z15⟩, st15⟩ := X14.specialBack hx (y := (⟨"com/example/stubwright/stubwright/read/Token", "<init>", "(Lcom/example/stubwright/stubwright/read/Token$Kind;Ljava/lang/String;Ljava/lang/Object;Lcom/example/stubwright/stubwright/model/Position;ZZLcom/example/stubwright/stubwright/model/Position;)V"⟩ : MethodName)) rfl hown (mvT hZ (hw _ (List.mem_of_getElem? (i := 75) rfl))) (mvT hZ (hw _ (List.mem_of_getElem? (i := 76) rfl))) (mvT hZ (hw _ (List.mem_of_getElem? (i := 77) rfl))) (by decide) (backOf (W := 1) (rm15q l Z a0 hw [] b3 w4 w6 a2 w9 w11 w13 _ _ _ _ _ _ _ h3 n0 (Nat.le_trans Z0 E3.1) E_b3 F_kind_b3 g_b3 F_spelling_b3 F_value_b3 F_position_b3 F_spaceBefore_b3 F_painted_b3 F_expansion_b3) hZ (hw _ (List.mem_of_getElem? (i := 77) rfl)) (hw _ (List.mem_of_getElem? (i := 64) rfl)) (by decide) (by decide)) (g := (mkF m 29 #[.val (.ref a1), .val (.ref a2)] [(.ref w13), (.int w11), (.int w9), (.ref a2), .null, (.ref w6), (.ref w4), (.ref b3), (.ref b3)])) rfl (by rw [hml]; rfl) (Steps.refl _) (a := b3) (argsL := [(.ref w4), (.ref w6), .null, (.ref a2), (.int w9), (.int w11), (.ref w13)]) (rest := [(.ref b3)]) (lenOf pd_18_14 rfl) rfl (by show 2 * 0 + _ ≤ _; exact Nat.le_of_eq rfl) (hb hby d18_29) (fun _ _ => ⟨rfl, e14, (by decide : 1 + 0 ≤ _), (by decide : 7 + 0 ≤ _)⟩)
  dsimp only [Pt.U, Pt.locs, Pt.cells, Pt.slots] at X15 l15 y15 z15 st15 hQ15
  subst l15 y15 z15
  obtain ⟨rfl, N15q, Kc15, Et15, Fkind15, Fspelling15, Fvalue15, Fposition15, FspaceBefore15, Fpainted15, Fexpansion15⟩ := hQ15
  -- Kc15 : Keep h3 T15.heap [b3]
  have N15 := Fr.app N0 N15q
  have K15 : Keep h0 T15.heap [] := K3.trans Kc15 (fun x_ hx_ => by rw [List.mem_singleton.mp hx_]; exact Or.inr sz_b3)
  obtain ⟨fs, hr, hrun, hended, hW, hsame⟩ := X15.leave (v := some (.ref b3)) (fun h => by rw [Bd.returns] at h; cases h)
  refine ⟨_, _, pre0 _ ?_, hrun, hended, _, _, rfl, ?_, ⟨_, rfl⟩, hW, hsame.mono (by decide) (by decide)⟩
  -- 4. STEPS
  · show Steps p.tables e below (s₁.setTop (mkF m 0 #[.val (.ref a1), .val (.ref a2)] [])) _
    refine st3 _ ?_
    show Steps p.tables e below (T3.setTop (mkF m 3 #[.val (.ref a1), .val (.ref a2)] [(.ref b3)])) _
    refine XS.dup X3.here hx rfl (hb hby d18_3) rfl rfl ?_
    show Steps p.tables e below (T3.setTop (mkF m 4 #[.val (.ref a1), .val (.ref a2)] [(.ref b3), (.ref b3)])) _
    refine XS.aloadN X3.here hx rfl (hb hby d18_4) rfl rfl ?_
    show Steps p.tables e below (T3.setTop (mkF m 5 #[.val (.ref a1), .val (.ref a2)] [(.ref a1), (.ref b3), (.ref b3)])) _
    refine st5 _ ?_
    show Steps p.tables e below (T5.setTop (mkF m 8 #[.val (.ref a1), .val (.ref a2)] [(.ref w4), (.ref b3), (.ref b3)])) _
    refine XS.aloadN X5.here hx rfl (hb hby d18_8) rfl rfl ?_
    show Steps p.tables e below (T5.setTop (mkF m 9 #[.val (.ref a1), .val (.ref a2)] [(.ref a1), (.ref w4), (.ref b3), (.ref b3)])) _
    refine st7 _ ?_
    show Steps p.tables e below (T7.setTop (mkF m 12 #[.val (.ref a1), .val (.ref a2)] [(.ref w6), (.ref w4), (.ref b3), (.ref b3)])) _
    refine XS.aloadN X7.here hx rfl (hb hby d18_12) rfl rfl ?_
    show Steps p.tables e below (T7.setTop (mkF m 13 #[.val (.ref a1), .val (.ref a2)] [(.ref a1), (.ref w6), (.ref w4), (.ref b3), (.ref b3)])) _
    refine st8 _ ?_
    show Steps p.tables e below (T8.setTop (mkF m 16 #[.val (.ref a1), .val (.ref a2)] [.null, (.ref w6), (.ref w4), (.ref b3), (.ref b3)])) _
    refine XS.aloadN X8.here hx rfl (hb hby d18_16) rfl rfl ?_
    show Steps p.tables e below (T8.setTop (mkF m 17 #[.val (.ref a1), .val (.ref a2)] [(.ref a2), .null, (.ref w6), (.ref w4), (.ref b3), (.ref b3)])) _
    refine XS.aloadN X8.here hx rfl (hb hby d18_17) rfl rfl ?_
    show Steps p.tables e below (T8.setTop (mkF m 18 #[.val (.ref a1), .val (.ref a2)] [(.ref a1), (.ref a2), .null, (.ref w6), (.ref w4), (.ref b3), (.ref b3)])) _
    refine st10 _ ?_
    show Steps p.tables e below (T10.setTop (mkF m 21 #[.val (.ref a1), .val (.ref a2)] [(.int w9), (.ref a2), .null, (.ref w6), (.ref w4), (.ref b3), (.ref b3)])) _
    refine XS.aloadN X10.here hx rfl (hb hby d18_21) rfl rfl ?_
    show Steps p.tables e below (T10.setTop (mkF m 22 #[.val (.ref a1), .val (.ref a2)] [(.ref a1), (.int w9), (.ref a2), .null, (.ref w6), (.ref w4), (.ref b3), (.ref b3)])) _
    refine st12 _ ?_
    show Steps p.tables e below (T12.setTop (mkF m 25 #[.val (.ref a1), .val (.ref a2)] [(.int w11), (.int w9), (.ref a2), .null, (.ref w6), (.ref w4), (.ref b3), (.ref b3)])) _
    refine XS.aloadN X12.here hx rfl (hb hby d18_25) rfl rfl ?_
    show Steps p.tables e below (T12.setTop (mkF m 26 #[.val (.ref a1), .val (.ref a2)] [(.ref a1), (.int w11), (.int w9), (.ref a2), .null, (.ref w6), (.ref w4), (.ref b3), (.ref b3)])) _
    refine st14 _ ?_
    show Steps p.tables e below (T14.setTop (mkF m 29 #[.val (.ref a1), .val (.ref a2)] [(.ref w13), (.int w11), (.int w9), (.ref a2), .null, (.ref w6), (.ref w4), (.ref b3), (.ref b3)])) _
    refine st15.trans ?_
    show Steps p.tables e below (T15.setTop (mkF m 32 #[.val (.ref a1), .val (.ref a2)] [(.ref b3)])) _
    jvm_step X15.here [X15.here.top, hx, (hb hby d18_32), X15.method', Bd.returns, Value.isRef, FieldType.isReference]
    first | (intro acts; rw [hr _ acts rfl rfl rfl]) | rw [hr _ _ rfl rfl rfl]
    exact Steps.refl _
  · show Q18q Z a1 a2 w4 w6 w9 w11 w13 h0 n0 _ T15.heap _
    exact ⟨b3, rfl, N15, K15, sz_b3, Et15, Fkind15, Fspelling15, Fvalue15, Fposition15, FspaceBefore15, Fpainted15, Fexpansion15⟩
theorem pn_18n : plainName "com/example/stubwright/stubwright/read/Token" = true := by first | (simp [plainName, overriddenIn]; done) | decide +kernel
theorem ef_18n (m : MethodId) (x0 : Addr) (x1 : Addr) : entryFrame m #[(.ref x0), (.ref x1)] 2 = mkF m 0 #[.val (.ref x0), .val (.ref x1)] [] := by first | (simp [entryFrame, mkF, argsToLocals, Value.category]; done) | rfl
def Q18n (Z : State) (a1 : Addr) (a2 : Addr) (w4 : Addr) (w6 : Addr) (w9 : Int32) (w11 : Int32) (h0 : Heap) (n0 : Nat) (v : Option Value) (h : Heap) (L : List Loc) : Prop := ∃ b, v = some (.ref b) ∧ Fr n0 L ∧ Keep h0 h [] ∧ h0.size ≤ b ∧ Exa Z h b "com/example/stubwright/stubwright/read/Token" ∧ Fld Z h b "com/example/stubwright/stubwright/read/Token" "kind" "Lcom/example/stubwright/stubwright/read/Token$Kind;" (.ref w4) ∧ Fld Z h b "com/example/stubwright/stubwright/read/Token" "spelling" "Ljava/lang/String;" (.ref w6) ∧ Fld Z h b "com/example/stubwright/stubwright/read/Token" "value" "Ljava/lang/Object;" .null ∧ Fld Z h b "com/example/stubwright/stubwright/read/Token" "position" "Lcom/example/stubwright/stubwright/model/Position;" (.ref a2) ∧ Fld Z h b "com/example/stubwright/stubwright/read/Token" "spaceBefore" "Z" (.int (nar .boolean w9)) ∧ Fld Z h b "com/example/stubwright/stubwright/read/Token" "painted" "Z" (.int (nar .boolean w11)) ∧ Fld Z h b "com/example/stubwright/stubwright/read/Token" "expansion" "Lcom/example/stubwright/stubwright/model/Position;" .null
set_option maxRecDepth 65536 in
set_option maxHeartbeats 40000000 in
theorem rm18n (l : Launch) (Z : State) (a0 : Array Value) (hw : ∀ d ∈ tables_1, d.before a0 Z = true) (ws : List Jvm.Cond) (a1 : Addr) (a2 : Addr) (w4 : Addr) (w6 : Addr) (w9 : Int32) (w11 : Int32) (h0 : Heap) (n0 : Nat) (Z0 : n0 ≤ h0.size) (F_kind_a1 : Fld Z h0 a1 "com/example/stubwright/stubwright/read/Token" "kind" "Lcom/example/stubwright/stubwright/read/Token$Kind;" (.ref w4)) (F_spelling_a1 : Fld Z h0 a1 "com/example/stubwright/stubwright/read/Token" "spelling" "Ljava/lang/String;" (.ref w6)) (F_value_a1 : Fld Z h0 a1 "com/example/stubwright/stubwright/read/Token" "value" "Ljava/lang/Object;" .null) (F_spaceBefore_a1 : Fld Z h0 a1 "com/example/stubwright/stubwright/read/Token" "spaceBefore" "Z" (.int w9)) (F_painted_a1 : Fld Z h0 a1 "com/example/stubwright/stubwright/read/Token" "painted" "Z" (.int w11)) (F_expansion_a1 : Fld Z h0 a1 "com/example/stubwright/stubwright/read/Token" "expansion" "Lcom/example/stubwright/stubwright/model/Position;" .null) :
    MetFree l (⟨"com/example/stubwright/stubwright/read/Token", "at", "(Lcom/example/stubwright/stubwright/model/Position;)Lcom/example/stubwright/stubwright/read/Token;"⟩ : MethodName) (head1 (Jvm.Cond.code (⟨"com/example/stubwright/stubwright/read/Token", "at", "(Lcom/example/stubwright/stubwright/model/Position;)Lcom/example/stubwright/stubwright/read/Token;"⟩ : MethodName) prog_80_method_12_code 2 (some (.object "com/example/stubwright/stubwright/read/Token")) :: ws) ({ frames := 2, cells := 1, slots := 7, locals := 32 } : Room)) (fun a U => a = #[(.ref a1), (.ref a2)] ∧ Z.Warmed39 U.vm ∧ U.heap = h0) (fun _ _ _ _ _ => True) (fun _ U o U' => ∃ v L, o = .returned v ∧ Q18n Z a1 a2 w4 w6 w9 w11 h0 n0 v U'.heap L ∧ FrameEnd U o U' L ({ frames := 2, cells := 1, slots := 7, locals := 32 } : Room).cells ({ frames := 2, cells := 1, slots := 7, locals := 32 } : Room).slots) := by
  refine MetFree.of_bodySF (plainFor_of_name pn_18n) hisR ?_
  intro p e s m args below meth c s₁ Bd hml0 hP hK
  obtain ⟨rfl, hZ, hh⟩ := hP
  have hx := Bd.exec
  have hby := Bd.bytes
  have hml : c.maxLocals = 2 := hml0
  have hown : s.vm.findClass "com/example/stubwright/stubwright/read/Token" = some m.cls := findClass_of_methodNamed Bd.named
  have hnm := (name_of_methodNamed Bd.named Bd.method).1
  have X0 : Stand p l e ({ frames := 2, cells := 1, slots := 7, locals := 32 } : Room) s m #[(.ref a1), (.ref a2)] below meth c s₁ [] 0 0 := Stand.of_body Bd
  have e0 : s₁.heap = h0 := by rw [← hh, Bd.state]; rfl
  have N0 := Fr.nil n0
  have pre0 : ∀ t, Steps p.tables e below (s₁.setTop (mkF m 0 #[.val (.ref a1), .val (.ref a2)] [])) t → Steps p.tables e below (s₁.setTop (entryFrame m #[(.ref a1), (.ref a2)] 2)) t := fun t k => castTop (ef_18n m a1 a2) k
  -- 3. LAWS
  obtain ⟨T3, h3, X3, e3, E3, A3, D3, -, st3⟩ := newO X0 hx hZ hown (hw _ (List.mem_of_getElem? (i := 103) rfl)) (hw _ (List.mem_of_getElem? (i := 63) rfl)) (hw _ (List.mem_of_getElem? (i := 64) rfl)) e0 (g := (mkF m 0 #[.val (.ref a1), .val (.ref a2)] [])) rfl (hb hby d18_0) (by decide) (by decide)
  obtain ⟨b3, g3⟩ : ∃ z, z = h0.size := ⟨_, rfl⟩      -- the fresh object's address
  rw [← g3] at A3 D3 st3      -- A3 : Exa Z h3 b3 "com/example/stubwright/stubwright/read/Token"; E3 : Ext h0 h3 (carries every older fact: .ext E3)
  have F_kind_b3 : Fld Z h3 b3 "com/example/stubwright/stubwright/read/Token" "kind" "Lcom/example/stubwright/stubwright/read/Token$Kind;" .null := D3 (Or.inr (hw _ (List.mem_of_getElem? (i := 80) rfl))) (ty := (.object "com/example/stubwright/stubwright/read/Token$Kind")) (by decide)
  have F_spelling_b3 : Fld Z h3 b3 "com/example/stubwright/stubwright/read/Token" "spelling" "Ljava/lang/String;" .null := D3 (Or.inr (hw _ (List.mem_of_getElem? (i := 82) rfl))) (ty := (.object "java/lang/String")) (by decide)
  have F_value_b3 : Fld Z h3 b3 "com/example/stubwright/stubwright/read/Token" "value" "Ljava/lang/Object;" .null := D3 (Or.inr (hw _ (List.mem_of_getElem? (i := 84) rfl))) (ty := (.object "java/lang/Object")) (by decide)
  have F_position_b3 : Fld Z h3 b3 "com/example/stubwright/stubwright/read/Token" "position" "Lcom/example/stubwright/stubwright/model/Position;" .null := D3 (Or.inr (hw _ (List.mem_of_getElem? (i := 86) rfl))) (ty := (.object "com/example/stubwright/stubwright/model/Position")) (by decide)
  have F_spaceBefore_b3 : Fld Z h3 b3 "com/example/stubwright/stubwright/read/Token" "spaceBefore" "Z" (.int (0 : Int32)) := D3 (Or.inr (hw _ (List.mem_of_getElem? (i := 88) rfl))) (ty := .boolean) (by decide)
  have F_painted_b3 : Fld Z h3 b3 "com/example/stubwright/stubwright/read/Token" "painted" "Z" (.int (0 : Int32)) := D3 (Or.inr (hw _ (List.mem_of_getElem? (i := 90) rfl))) (ty := .boolean) (by decide)
  have F_expansion_b3 : Fld Z h3 b3 "com/example/stubwright/stubwright/read/Token" "expansion" "Lcom/example/stubwright/stubwright/model/Position;" .null := D3 (Or.inr (hw _ (List.mem_of_getElem? (i := 92) rfl))) (ty := (.object "com/example/stubwright/stubwright/model/Position")) (by decide)
  have E_b3 := A3
  have g_b3 : n0 ≤ b3 := Nat.le_trans Z0 (Nat.le_of_eq g3.symm)
  have sz_b3 : h0.size ≤ b3 := (Nat.le_trans (Keep.refl h0 []).1 (Nat.le_of_eq g3.symm))
  have K3 : Keep h0 h3 [] := (Keep.refl h0 []).ext E3
  obtain ⟨T5, X5, e5, st5⟩ := getF X3 hx hZ hown (host := "") (Or.inl (hw _ (List.mem_of_getElem? (i := 79) rfl))) Via.refl e3 (F_kind_a1.ext E3) (g := (mkF m 5 #[.val (.ref a1), .val (.ref a2)] [(.ref a1), (.ref b3), (.ref b3)])) rfl rfl (hb hby d18_5)
  obtain ⟨T7, X7, e7, st7⟩ := getF X5 hx hZ hown (host := "") (Or.inl (hw _ (List.mem_of_getElem? (i := 81) rfl))) Via.refl e5 (F_spelling_a1.ext E3) (g := (mkF m 9 #[.val (.ref a1), .val (.ref a2)] [(.ref a1), (.ref w4), (.ref b3), (.ref b3)])) rfl rfl (hb hby d18_9)
  obtain ⟨T8, X8, e8, st8⟩ := getF X7 hx hZ hown (host := "") (Or.inl (hw _ (List.mem_of_getElem? (i := 83) rfl))) Via.refl e7 (F_value_a1.ext E3) (g := (mkF m 13 #[.val (.ref a1), .val (.ref a2)] [(.ref a1), (.ref w6), (.ref w4), (.ref b3), (.ref b3)])) rfl rfl (hb hby d18_13)
  obtain ⟨T10, X10, e10, st10⟩ := getF X8 hx hZ hown (host := "") (Or.inl (hw _ (List.mem_of_getElem? (i := 87) rfl))) Via.refl e8 (F_spaceBefore_a1.ext E3) (g := (mkF m 18 #[.val (.ref a1), .val (.ref a2)] [(.ref a1), (.ref a2), .null, (.ref w6), (.ref w4), (.ref b3), (.ref b3)])) rfl rfl (hb hby d18_18)
  obtain ⟨T12, X12, e12, st12⟩ := getF X10 hx hZ hown (host := "") (Or.inl (hw _ (List.mem_of_getElem? (i := 89) rfl))) Via.refl e10 (F_painted_a1.ext E3) (g := (mkF m 22 #[.val (.ref a1), .val (.ref a2)] [(.ref a1), (.int w9), (.ref a2), .null, (.ref w6), (.ref w4), (.ref b3), (.ref b3)])) rfl rfl (hb hby d18_22)
  obtain ⟨T13, X13, e13, st13⟩ := getF X12 hx hZ hown (host := "") (Or.inl (hw _ (List.mem_of_getElem? (i := 91) rfl))) Via.refl e12 (F_expansion_a1.ext E3) (g := (mkF m 26 #[.val (.ref a1), .val (.ref a2)] [(.ref a1), (.int w11), (.int w9), (.ref a2), .null, (.ref w6), (.ref w4), (.ref b3), (.ref b3)])) rfl rfl (hb hby d18_26)
  -- pc 29: the constructor of com/example/stubwright/stubwright/read/Token by its contract rm15
  obtain ⟨_, _, ⟨T14, L14, k14, n14⟩, -, X14, ⟨Lc14, hQ14, l14, y14, z14⟩, st14⟩ := X13.specialBack hx (y := (⟨"com/example/stubwright/stubwright/read/Token", "<init>", "(Lcom/example/stubwright/stubwright/read/Token$Kind;Ljava/lang/String;Ljava/lang/Object;Lcom/example/stubwright/stubwright/model/Position;ZZLcom/example/stubwright/stubwright/model/Position;)V"⟩ : MethodName)) rfl hown (mvT hZ (hw _ (List.mem_of_getElem? (i := 75) rfl))) (mvT hZ (hw _ (List.mem_of_getElem? (i := 76) rfl))) (mvT hZ (hw _ (List.mem_of_getElem? (i := 77) rfl))) (by decide) (backOf (W := 1) (rm15n l Z a0 hw [] b3 w4 w6 a2 w9 w11 _ _ _ _ _ _ _ h3 n0 (Nat.le_trans Z0 E3.1) E_b3 F_kind_b3 g_b3 F_spelling_b3 F_value_b3 F_position_b3 F_spaceBefore_b3 F_painted_b3 F_expansion_b3) hZ (hw _ (List.mem_of_getElem? (i := 77) rfl)) (hw _ (List.mem_of_getElem? (i := 64) rfl)) (by decide) (by decide)) (g := (mkF m 29 #[.val (.ref a1), .val (.ref a2)] [.null, (.int w11), (.int w9), (.ref a2), .null, (.ref w6), (.ref w4), (.ref b3), (.ref b3)])) rfl (by rw [hml]; rfl) (Steps.refl _) (a := b3) (argsL := [(.ref w4), (.ref w6), .null, (.ref a2), (.int w9), (.int w11), .null]) (rest := [(.ref b3)]) (lenOf pd_18_14 rfl) rfl (by show 2 * 0 + _ ≤ _; exact Nat.le_of_eq rfl) (hb hby d18_29) (fun _ _ => ⟨rfl, e13, (by decide : 1 + 0 ≤ _), (by decide : 7 + 0 ≤ _)⟩)
  dsimp only [Pt.U, Pt.locs, Pt.cells, Pt.slots] at X14 l14 y14 z14 st14 hQ14
  subst l14 y14 z14
  obtain ⟨rfl, N14q, Kc14, Et14, Fkind14, Fspelling14, Fvalue14, Fposition14, FspaceBefore14, Fpainted14, Fexpansion14⟩ := hQ14
  -- Kc14 : Keep h3 T14.heap [b3]
  have N14 := Fr.app N0 N14q
  have K14 : Keep h0 T14.heap [] := K3.trans Kc14 (fun x_ hx_ => by rw [List.mem_singleton.mp hx_]; exact Or.inr sz_b3)
  obtain ⟨fs, hr, hrun, hended, hW, hsame⟩ := X14.leave (v := some (.ref b3)) (fun h => by rw [Bd.returns] at h; cases h)
  refine ⟨_, _, pre0 _ ?_, hrun, hended, _, _, rfl, ?_, ⟨_, rfl⟩, hW, hsame.mono (by decide) (by decide)⟩
  -- 4. STEPS
  · show Steps p.tables e below (s₁.setTop (mkF m 0 #[.val (.ref a1), .val (.ref a2)] [])) _
    refine st3 _ ?_
    show Steps p.tables e below (T3.setTop (mkF m 3 #[.val (.ref a1), .val (.ref a2)] [(.ref b3)])) _
    refine XS.dup X3.here hx rfl (hb hby d18_3) rfl rfl ?_
    show Steps p.tables e below (T3.setTop (mkF m 4 #[.val (.ref a1), .val (.ref a2)] [(.ref b3), (.ref b3)])) _
    refine XS.aloadN X3.here hx rfl (hb hby d18_4) rfl rfl ?_
    show Steps p.tables e below (T3.setTop (mkF m 5 #[.val (.ref a1), .val (.ref a2)] [(.ref a1), (.ref b3), (.ref b3)])) _
    refine st5 _ ?_
    show Steps p.tables e below (T5.setTop (mkF m 8 #[.val (.ref a1), .val (.ref a2)] [(.ref w4), (.ref b3), (.ref b3)])) _
    refine XS.aloadN X5.here hx rfl (hb hby d18_8) rfl rfl ?_
    show Steps p.tables e below (T5.setTop (mkF m 9 #[.val (.ref a1), .val (.ref a2)] [(.ref a1), (.ref w4), (.ref b3), (.ref b3)])) _
    refine st7 _ ?_
    show Steps p.tables e below (T7.setTop (mkF m 12 #[.val (.ref a1), .val (.ref a2)] [(.ref w6), (.ref w4), (.ref b3), (.ref b3)])) _
    refine XS.aloadN X7.here hx rfl (hb hby d18_12) rfl rfl ?_
    show Steps p.tables e below (T7.setTop (mkF m 13 #[.val (.ref a1), .val (.ref a2)] [(.ref a1), (.ref w6), (.ref w4), (.ref b3), (.ref b3)])) _
    refine st8 _ ?_
    show Steps p.tables e below (T8.setTop (mkF m 16 #[.val (.ref a1), .val (.ref a2)] [.null, (.ref w6), (.ref w4), (.ref b3), (.ref b3)])) _
    refine XS.aloadN X8.here hx rfl (hb hby d18_16) rfl rfl ?_
    show Steps p.tables e below (T8.setTop (mkF m 17 #[.val (.ref a1), .val (.ref a2)] [(.ref a2), .null, (.ref w6), (.ref w4), (.ref b3), (.ref b3)])) _
    refine XS.aloadN X8.here hx rfl (hb hby d18_17) rfl rfl ?_
    show Steps p.tables e below (T8.setTop (mkF m 18 #[.val (.ref a1), .val (.ref a2)] [(.ref a1), (.ref a2), .null, (.ref w6), (.ref w4), (.ref b3), (.ref b3)])) _
    refine st10 _ ?_
    show Steps p.tables e below (T10.setTop (mkF m 21 #[.val (.ref a1), .val (.ref a2)] [(.int w9), (.ref a2), .null, (.ref w6), (.ref w4), (.ref b3), (.ref b3)])) _
    refine XS.aloadN X10.here hx rfl (hb hby d18_21) rfl rfl ?_
    show Steps p.tables e below (T10.setTop (mkF m 22 #[.val (.ref a1), .val (.ref a2)] [(.ref a1), (.int w9), (.ref a2), .null, (.ref w6), (.ref w4), (.ref b3), (.ref b3)])) _
    refine st12 _ ?_
    show Steps p.tables e below (T12.setTop (mkF m 25 #[.val (.ref a1), .val (.ref a2)] [(.int w11), (.int w9), (.ref a2), .null, (.ref w6), (.ref w4), (.ref b3), (.ref b3)])) _
    refine XS.aloadN X12.here hx rfl (hb hby d18_25) rfl rfl ?_
    show Steps p.tables e below (T12.setTop (mkF m 26 #[.val (.ref a1), .val (.ref a2)] [(.ref a1), (.int w11), (.int w9), (.ref a2), .null, (.ref w6), (.ref w4), (.ref b3), (.ref b3)])) _
    refine st13 _ ?_
    show Steps p.tables e below (T13.setTop (mkF m 29 #[.val (.ref a1), .val (.ref a2)] [.null, (.int w11), (.int w9), (.ref a2), .null, (.ref w6), (.ref w4), (.ref b3), (.ref b3)])) _
    refine st14.trans ?_
    show Steps p.tables e below (T14.setTop (mkF m 32 #[.val (.ref a1), .val (.ref a2)] [(.ref b3)])) _
    jvm_step X14.here [X14.here.top, hx, (hb hby d18_32), X14.method', Bd.returns, Value.isRef, FieldType.isReference]
    first | (intro acts; rw [hr _ acts rfl rfl rfl]) | rw [hr _ _ rfl rfl rfl]
    exact Steps.refl _
  · show Q18n Z a1 a2 w4 w6 w9 w11 h0 n0 _ T14.heap _
    exact ⟨b3, rfl, N14, K14, sz_b3, Et14, Fkind14, Fspelling14, Fvalue14, Fposition14, FspaceBefore14, Fpainted14, Fexpansion14⟩
theorem pn_0 : plainName "com/example/stubwright/stubwright/read/TokenExpansionPointPinLaw" = true := by first | (simp [plainName, overriddenIn]; done) | decide +kernel
theorem pd_0_0 : parseMethodDescriptor "(C)Ljava/lang/String;" = some ⟨[.char], some (.object "java/lang/String")⟩ := by decide +kernel
theorem pd_0_5 : parseMethodDescriptor "([C)V" = some ⟨[(.array .char)], none⟩ := by decide +kernel
theorem pd_0_10 : parseMethodDescriptor "(Ljava/lang/String;II)V" = some ⟨[(.object "java/lang/String"), .int, .int], none⟩ := by decide +kernel
theorem pd_0_12 : parseMethodDescriptor "(I)Lcom/example/stubwright/stubwright/read/Token$Kind;" = some ⟨[.int], some (.object "com/example/stubwright/stubwright/read/Token$Kind")⟩ := by decide +kernel
theorem pd_0_13 : parseMethodDescriptor "(Lcom/example/stubwright/stubwright/read/Token$Kind;Ljava/lang/String;Ljava/lang/Object;Lcom/example/stubwright/stubwright/model/Position;Z)V" = some ⟨[(.object "com/example/stubwright/stubwright/read/Token$Kind"), (.object "java/lang/String"), (.object "java/lang/Object"), (.object "com/example/stubwright/stubwright/model/Position"), .boolean], none⟩ := by decide +kernel
theorem pd_0_15 : parseMethodDescriptor "()Lcom/example/stubwright/stubwright/model/Position;" = some ⟨[], some (.object "com/example/stubwright/stubwright/model/Position")⟩ := by decide +kernel
theorem pd_0_16 : parseMethodDescriptor "(Lcom/example/stubwright/stubwright/model/Position;)Lcom/example/stubwright/stubwright/read/Token;" = some ⟨[(.object "com/example/stubwright/stubwright/model/Position")], some (.object "com/example/stubwright/stubwright/read/Token")⟩ := by decide +kernel
theorem ef_0 (m : MethodId) (x0 : Int32) (x1 : Int32) (x2 : Int32) (x3 : Int32) (x4 : Int32) (x5 : Int32) : entryFrame m #[(.int x0), (.int x1), (.int x2), (.int x3), (.int x4), (.int x5)] maxLocals = mkF m 0 #[.val (.int x0), .val (.int x1), .val (.int x2), .val (.int x3), .val (.int x4), .val (.int x5), .unset, .unset, .unset, .unset, .unset, .unset, .unset, .unset, .unset, .unset, .unset, .unset, .unset, .unset, .unset, .unset, .unset, .unset] [] := by first | (simp [entryFrame, mkF, argsToLocals, Value.category, maxLocals]; done) | rfl
set_option maxRecDepth 65536 in
set_option maxHeartbeats 40000000 in
theorem rm0_tq (l : Launch) (Z : State) (a0 : Array Value) (hw : ∀ d ∈ tables_1, d.before a0 Z = true) (ws : List Jvm.Cond) (p1 : Int32) (p2 : Int32) (p3 : Int32) (p4 : Int32) (p5 : Int32) (p6 : Int32) (w_cs : Int32) (wk : Addr) (h0 : Heap) (n0 : Nat) (Z0 : n0 ≤ h0.size) (S_COMPACT_STRINGS : Sta Z h0 "java/lang/String" "COMPACT_STRINGS" "Z" (.int w_cs)) (hcs : ¬ w_cs = 0) (S_kind : Sta Z h0 own_KC (own_kn p5) own_KD (.ref wk)) (hc114 : (((p5.toUInt32 >>> ((2 : Int32) &&& 31).toUInt32).toInt32) &&& (1 : Int32)) = (0 : Int32)) (hc130 : (((p5.toUInt32 >>> ((3 : Int32) &&& 31).toUInt32).toInt32) &&& (1 : Int32)) = (0 : Int32)) :
    MetFree l x (head1 (Jvm.Cond.code x code maxLocals ret :: ws) room_1) (fun a U => a = #[(.int p1), (.int p2), (.int p3), (.int p4), (.int p5), (.int p6)] ∧ Z.Warmed39 U.vm ∧ U.heap = h0) (fun _ _ _ _ _ => True) (fun _ U o U' => ∃ v L, o = .returned v ∧ Q0 Z h0 n0 v U'.heap L ∧ FrameEnd U o U' L room_1.cells room_1.slots) := by
  refine MetFree.of_bodySF (plainFor_of_name pn_0) hisR ?_
  intro p e s m args below meth c s₁ Bd hml0 hP hK
  obtain ⟨rfl, hZ, hh⟩ := hP
  have hx := Bd.exec
  have hby := Bd.bytes
  have hml : c.maxLocals = 24 := hml0
  have hown : s.vm.findClass "com/example/stubwright/stubwright/read/TokenExpansionPointPinLaw" = some m.cls := findClass_of_methodNamed Bd.named
  have hnm := (name_of_methodNamed Bd.named Bd.method).1
  have X0 : Stand p l e room_1 s m #[(.int p1), (.int p2), (.int p3), (.int p4), (.int p5), (.int p6)] below meth c s₁ [] 0 0 := Stand.of_body Bd
  have e0 : s₁.heap = h0 := by rw [← hh, Bd.state]; rfl
  have N0 := Fr.nil n0
  have pre0 : ∀ t, Steps p.tables e below (s₁.setTop (mkF m 0 #[.val (.int p1), .val (.int p2), .val (.int p3), .val (.int p4), .val (.int p5), .val (.int p6), .unset, .unset, .unset, .unset, .unset, .unset, .unset, .unset, .unset, .unset, .unset, .unset, .unset, .unset, .unset, .unset, .unset, .unset] [])) t → Steps p.tables e below (s₁.setTop (entryFrame m #[(.int p1), (.int p2), (.int p3), (.int p4), (.int p5), (.int p6)] maxLocals)) t := fun t k => castTop (ef_0 m p1 p2 p3 p4 p5 p6) k
  -- 3. LAWS
  have hc273 : ¬ ((1 : Int32) = (0 : Int32)) := by decide
  have hc278 : ¬ ((1 : Int32) = (0 : Int32)) := by decide
  have hc283 : ¬ ((1 : Int32) = (0 : Int32)) := by decide
  -- pc 7: java/lang/String.valueOf by its contract rm1
  obtain ⟨_, _, ⟨T7, L7, k7, n7⟩, -, X7, ⟨Lc7, hQ7, l7, y7, z7⟩, st7⟩ := Jvm.LawKit.callS X0 hx (y := (⟨"java/lang/String", "valueOf", "(C)Ljava/lang/String;"⟩ : MethodName)) hown (mvT hZ (hw _ (List.mem_of_getElem? (i := 0) rfl))) (mvT hZ (hw _ (List.mem_of_getElem? (i := 1) rfl))) (mvT hZ (hw _ (List.mem_of_getElem? (i := 2) rfl))) (mvT hZ (hw _ (List.mem_of_getElem? (i := 3) rfl))) (by decide) (backOf (W := 0) (rm1 l Z a0 hw [] ((p6 &&& (255 : Int32)).toUInt32.toUInt16.toUInt32.toInt32) w_cs h0 n0 Z0 (own_sta S_COMPACT_STRINGS (Keep.refl h0 [])) hcs (own_enc _)) hZ (hw _ (List.mem_of_getElem? (i := 3) rfl)) (hw _ (List.mem_of_getElem? (i := 2) rfl)) (by decide) (by decide)) (g := (mkF m 7 #[.val (.int p1), .val (.int p2), .val (.int p3), .val (.int p4), .val (.int p5), .val (.int p6), .unset, .unset, .unset, .unset, .unset, .unset, .unset, .unset, .unset, .unset, .unset, .unset, .unset, .unset, .unset, .unset, .unset, .unset] [(.int ((p6 &&& (255 : Int32)).toUInt32.toUInt16.toUInt32.toInt32))])) rfl (by rw [hml]; rfl) (argsL := [(.int ((p6 &&& (255 : Int32)).toUInt32.toUInt16.toUInt32.toInt32))]) (rest := []) (lenOf pd_0_0 rfl) rfl (by show 2 * 0 + _ ≤ _; exact Nat.le_of_eq rfl) (hb hby at_7) (fun _ _ => ⟨rfl, e0, (by decide : 0 + 2 ≤ _), (by decide : 0 + 5 ≤ _)⟩)
  dsimp only [Pt.U, Pt.locs, Pt.cells, Pt.slots] at X7 l7 y7 z7 st7 hQ7
  subst l7 y7 z7
  obtain ⟨r7, rfl, N7q, Kc7⟩ := hQ7
  -- Kc7 : Keep h0 T7.heap []
  have N7 := Fr.app N0 N7q
  have K7 : Keep h0 T7.heap [] := (Keep.refl h0 []).trans Kc7 (fun x_ hx_ => absurd hx_ (by simp))
  -- pc 22: java/lang/String.valueOf by its contract rm1
  obtain ⟨_, _, ⟨T8, L8, k8, n8⟩, -, X8, ⟨Lc8, hQ8, l8, y8, z8⟩, st8⟩ := Jvm.LawKit.callS X7 hx (y := (⟨"java/lang/String", "valueOf", "(C)Ljava/lang/String;"⟩ : MethodName)) hown (mvT hZ (hw _ (List.mem_of_getElem? (i := 0) rfl))) (mvT hZ (hw _ (List.mem_of_getElem? (i := 1) rfl))) (mvT hZ (hw _ (List.mem_of_getElem? (i := 2) rfl))) (mvT hZ (hw _ (List.mem_of_getElem? (i := 3) rfl))) (by decide) (backOf (W := 0) (rm1 l Z a0 hw [] ((((p6.toUInt32 >>> ((8 : Int32) &&& 31).toUInt32).toInt32) &&& (255 : Int32)).toUInt32.toUInt16.toUInt32.toInt32) w_cs T7.heap n0 (Nat.le_trans Z0 Kc7.1) (own_sta S_COMPACT_STRINGS K7) hcs (own_enc _)) hZ (hw _ (List.mem_of_getElem? (i := 3) rfl)) (hw _ (List.mem_of_getElem? (i := 2) rfl)) (by decide) (by decide)) (g := (mkF m 22 #[.val (.int p1), .val (.int p2), .val (.int p3), .val (.int p4), .val (.int p5), .val (.int p6), .val (.ref r7), .unset, .unset, .unset, .unset, .unset, .unset, .unset, .unset, .unset, .unset, .unset, .unset, .unset, .unset, .unset, .unset, .unset] [(.int ((((p6.toUInt32 >>> ((8 : Int32) &&& 31).toUInt32).toInt32) &&& (255 : Int32)).toUInt32.toUInt16.toUInt32.toInt32))])) rfl (by rw [hml]; rfl) (argsL := [(.int ((((p6.toUInt32 >>> ((8 : Int32) &&& 31).toUInt32).toInt32) &&& (255 : Int32)).toUInt32.toUInt16.toUInt32.toInt32))]) (rest := []) (lenOf pd_0_0 rfl) rfl (by show 2 * 0 + _ ≤ _; exact Nat.le_of_eq rfl) (hb hby at_22) (fun _ _ => ⟨rfl, rfl, (by decide : 2 + 2 ≤ _), (by decide : 5 + 5 ≤ _)⟩)
  dsimp only [Pt.U, Pt.locs, Pt.cells, Pt.slots] at X8 l8 y8 z8 st8 hQ8
  subst l8 y8 z8
  obtain ⟨r8, rfl, N8q, Kc8⟩ := hQ8
  -- Kc8 : Keep T7.heap T8.heap []
  have N8 := Fr.app N7 N8q
  have K8 : Keep h0 T8.heap [] := K7.trans Kc8 (fun x_ hx_ => absurd hx_ (by simp))
  obtain ⟨T9, h9, k9, X9, e9, E9, A9, st9⟩ := newP X8 hx hZ (hw _ (List.mem_of_getElem? (i := 26) rfl)) rfl (g := (mkF m 28 #[.val (.int p1), .val (.int p2), .val (.int p3), .val (.int p4), .val (.int p5), .val (.int p6), .val (.ref r7), .val (.ref r8), .unset, .unset, .unset, .unset, .unset, .unset, .unset, .unset, .unset, .unset, .unset, .unset, .unset, .unset, .unset, .unset] [(.int (2 : Int32))])) rfl (hb hby at_28) rfl (by decide) (cap := 2) (by decide) (by decide) (by decide) (by decide)
  obtain ⟨b9, g9⟩ : ∃ z, z = T8.heap.size := ⟨_, rfl⟩      -- the fresh array's address
  rw [← g9] at A9 st9
  have V_b9 : Arv Z h9 b9 k9 .char (2 : Int32) [(.int (0 : Int32)), (.int (0 : Int32))] (.int (0 : Int32)) := (Arv.new A9 (by decide)).pad (pad_rep [] (.int (0 : Int32)) 2)
  have g_b9 : n0 ≤ b9 := Nat.le_trans (Nat.le_trans (Nat.le_trans Z0 Kc7.1) Kc8.1) (Nat.le_of_eq g9.symm)
  have sz_b9 : h0.size ≤ b9 := (Nat.le_trans K8.1 (Nat.le_of_eq g9.symm))
  have K9 : Keep h0 h9 [] := K8.ext E9
  obtain ⟨cl_b9_42, Ar_b9, q_b9, S_b9, N_b9, H_b9, G_b9⟩ := V_b9      -- open the array's fact as it stands now (its cell, kind, length, elements)
  have hin42 : ¬ ((0 : Int32) < 0 ∨ cl_b9_42.slots.size ≤ ((0 : Int32)).toNatClampNeg) := inb_of S_b9 ⟨by decide, by decide⟩
  obtain ⟨T10, h10, X10, e10, W10, st10⟩ := stC X9 hx hZ e9 Ar_b9 (j := (0 : Int32)) hin42 (g := (mkF m 42 #[.val (.int p1), .val (.int p2), .val (.int p3), .val (.int p4), .val (.int p5), .val (.int p6), .val (.ref r7), .val (.ref r8), .unset, .unset, .unset, .unset, .unset, .unset, .unset, .unset, .unset, .unset, .unset, .unset, .unset, .unset, .unset, .unset] [(.int ((((p6.toUInt32 >>> ((16 : Int32) &&& 31).toUInt32).toInt32) &&& (255 : Int32)).toUInt32.toUInt16.toUInt32.toInt32)), (.int (0 : Int32)), (.ref b9), (.ref b9)])) rfl rfl (hb hby at_42)
  have V_b9_10 := Arv.set Ar_b9 q_b9 S_b9 N_b9 H_b9 G_b9 (fits_nar_char _) W10 0 rfl (Nat.le_of_ble_eq_true rfl)      -- the array as it stands now (the place must lie among its first values: Arv.pad with pad_rep lengthens them)
  have K10 : Keep h0 h10 [] := K9.wr W10 (Or.inr sz_b9)
  have N10 := Fr.snoc X10 N8 g_b9
  obtain ⟨cl_b9_55, Ar_b9, q_b9, S_b9, N_b9, H_b9, G_b9⟩ := V_b9_10      -- open the array's fact as it stands now (its cell, kind, length, elements)
  have hin55 : ¬ ((1 : Int32) < 0 ∨ cl_b9_55.slots.size ≤ ((1 : Int32)).toNatClampNeg) := inb_of S_b9 ⟨by decide, by decide⟩
  obtain ⟨T11, h11, X11, e11, W11, st11⟩ := stC X10 hx hZ e10 Ar_b9 (j := (1 : Int32)) hin55 (g := (mkF m 55 #[.val (.int p1), .val (.int p2), .val (.int p3), .val (.int p4), .val (.int p5), .val (.int p6), .val (.ref r7), .val (.ref r8), .unset, .unset, .unset, .unset, .unset, .unset, .unset, .unset, .unset, .unset, .unset, .unset, .unset, .unset, .unset, .unset] [(.int ((((p6.toUInt32 >>> ((24 : Int32) &&& 31).toUInt32).toInt32) &&& (255 : Int32)).toUInt32.toUInt16.toUInt32.toInt32)), (.int (1 : Int32)), (.ref b9), (.ref b9)])) rfl rfl (hb hby at_55)
  have V_b9_11 := Arv.set Ar_b9 q_b9 S_b9 N_b9 H_b9 G_b9 (fits_nar_char _) W11 1 rfl (Nat.le_of_ble_eq_true rfl)      -- the array as it stands now (the place must lie among its first values: Arv.pad with pad_rep lengthens them)
  have K11 : Keep h0 h11 [] := K10.wr W11 (Or.inr sz_b9)
  have N11 := Fr.snoc X11 N10 g_b9
  obtain ⟨T12, h12, X12, e12, E12, A12, D12, -, st12⟩ := newO X11 hx hZ hown (hw _ (List.mem_of_getElem? (i := 27) rfl)) (hw _ (List.mem_of_getElem? (i := 10) rfl)) (hw _ (List.mem_of_getElem? (i := 2) rfl)) e11 (g := (mkF m 58 #[.val (.int p1), .val (.int p2), .val (.int p3), .val (.int p4), .val (.int p5), .val (.int p6), .val (.ref r7), .val (.ref r8), .val (.ref b9), .unset, .unset, .unset, .unset, .unset, .unset, .unset, .unset, .unset, .unset, .unset, .unset, .unset, .unset, .unset] [])) rfl (hb hby at_58) (by decide) (by decide)
  obtain ⟨b12, g12⟩ : ∃ z, z = h11.size := ⟨_, rfl⟩      -- the fresh object's address
  rw [← g12] at A12 D12 st12      -- A12 : Exa Z h12 b12 "java/lang/String"; E12 : Ext h11 h12 (carries every older fact: .ext E12)
  have F_value_b12 : Fld Z h12 b12 "java/lang/String" "value" "[B" .null := D12 (Or.inr (hw _ (List.mem_of_getElem? (i := 23) rfl))) (ty := (.array .byte)) (by decide)
  have F_coder_b12 : Fld Z h12 b12 "java/lang/String" "coder" "B" (.int (0 : Int32)) := D12 (Or.inr (hw _ (List.mem_of_getElem? (i := 25) rfl))) (ty := .byte) (by decide)
  have E_b12 := A12
  have g_b12 : n0 ≤ b12 := Nat.le_trans (Nat.le_trans (Nat.le_trans (Nat.le_trans (Nat.le_trans (Nat.le_trans Z0 Kc7.1) Kc8.1) E9.1) (Keep.of_wr W10).1) (Keep.of_wr W11).1) (Nat.le_of_eq g12.symm)
  have sz_b12 : h0.size ≤ b12 := (Nat.le_trans K11.1 (Nat.le_of_eq g12.symm))
  have K12 : Keep h0 h12 [] := K11.ext E12
  -- pc 64: the constructor of java/lang/String by its contract rm6
  -- JDK: don't walk it: StrChars.Road.backV (pack/laws/STRINGS.README.md): its own row in place of the next one (the 'backOf (W ..)' becomes what that law's P asks)
  obtain ⟨_, _, ⟨T13, L13, k13, n13⟩, -, X13, ⟨Lc13, hQ13, l13, y13, z13⟩, st13⟩ := X12.specialBack hx (y := (⟨"java/lang/String", "<init>", "([C)V"⟩ : MethodName)) rfl hown (mvT hZ (hw _ (List.mem_of_getElem? (i := 28) rfl))) (mvT hZ (hw _ (List.mem_of_getElem? (i := 29) rfl))) (mvT hZ (hw _ (List.mem_of_getElem? (i := 30) rfl))) (by decide) (Jvm.Pilot.@@N@@.StrChars.Road.backV (W := 1) hZ (own_cw hw) (kI := 4) (hw _ (List.mem_of_getElem? (i := 10) rfl)) (cs := [(nar .char ((((p6.toUInt32 >>> ((16 : Int32) &&& 31).toUInt32).toInt32) &&& (255 : Int32)).toUInt32.toUInt16.toUInt32.toInt32)), (nar .char ((((p6.toUInt32 >>> ((24 : Int32) &&& 31).toUInt32).toInt32) &&& (255 : Int32)).toUInt32.toUInt16.toUInt32.toInt32))]) g_b12 (Nat.le_trans (Nat.le_trans (Nat.le_trans (Nat.le_trans (Nat.le_trans (Nat.le_trans Z0 Kc7.1) Kc8.1) E9.1) (Keep.of_wr W10).1) (Keep.of_wr W11).1) E12.1) E_b12 F_value_b12 F_coder_b12 (V_b9_11.ext E12) (own_sta S_COMPACT_STRINGS K12) hcs rfl rfl (by simp) (by simp) own_two rfl (by decide) (by decide)) (g := (mkF m 64 #[.val (.int p1), .val (.int p2), .val (.int p3), .val (.int p4), .val (.int p5), .val (.int p6), .val (.ref r7), .val (.ref r8), .val (.ref b9), .unset, .unset, .unset, .unset, .unset, .unset, .unset, .unset, .unset, .unset, .unset, .unset, .unset, .unset, .unset] [(.ref b9), (.ref b12), (.ref b12)])) rfl (by rw [hml]; rfl) (Steps.refl _) (a := b12) (argsL := [(.ref b9)]) (rest := [(.ref b12)]) (lenOf pd_0_5 rfl) rfl (by show 2 * 0 + _ ≤ _; exact Nat.le_of_eq rfl) (hb hby at_64) (fun _ _ => ⟨rfl, e12, (by decide : 6 + 1 ≤ _), (by decide : 16 + 2 ≤ _)⟩)
  dsimp only [Pt.U, Pt.locs, Pt.cells, Pt.slots, List.length_cons, List.length_nil] at X13 l13 y13 z13 st13 hQ13
  subst l13 y13 z13
  obtain ⟨rfl, N13q, Kc13, -⟩ := hQ13
  -- Kc13 : Keep h12 T13.heap [b12]
  have N13 := Fr.app N11 N13q
  have K13 : Keep h0 T13.heap [] := K12.trans Kc13 (fun x_ hx_ => by rw [List.mem_singleton.mp hx_]; exact Or.inr sz_b12)
  obtain ⟨T14, h14, X14, e14, E14, A14, D14, -, st14⟩ := newO X13 hx hZ hown (hw _ (List.mem_of_getElem? (i := 44) rfl)) (hw _ (List.mem_of_getElem? (i := 45) rfl)) (hw _ (List.mem_of_getElem? (i := 46) rfl)) rfl (g := (mkF m 69 #[.val (.int p1), .val (.int p2), .val (.int p3), .val (.int p4), .val (.int p5), .val (.int p6), .val (.ref r7), .val (.ref r8), .val (.ref b9), .val (.ref b12), .unset, .unset, .unset, .unset, .unset, .unset, .unset, .unset, .unset, .unset, .unset, .unset, .unset, .unset] [])) rfl (hb hby at_69) (by decide) (by decide)
  obtain ⟨b14, g14⟩ : ∃ z, z = T13.heap.size := ⟨_, rfl⟩      -- the fresh object's address
  rw [← g14] at A14 D14 st14      -- A14 : Exa Z h14 b14 "com/example/stubwright/stubwright/model/Position"; E14 : Ext T13.heap h14 (carries every older fact: .ext E14)
  have F_file_b14 : Fld Z h14 b14 "com/example/stubwright/stubwright/model/Position" "file" "Ljava/lang/String;" .null := D14 (Or.inr (hw _ (List.mem_of_getElem? (i := 55) rfl))) (ty := (.object "java/lang/String")) (by decide)
  have F_line_b14 : Fld Z h14 b14 "com/example/stubwright/stubwright/model/Position" "line" "I" (.int (0 : Int32)) := D14 (Or.inr (hw _ (List.mem_of_getElem? (i := 57) rfl))) (ty := .int) (by decide)
  have F_column_b14 : Fld Z h14 b14 "com/example/stubwright/stubwright/model/Position" "column" "I" (.int (0 : Int32)) := D14 (Or.inr (hw _ (List.mem_of_getElem? (i := 59) rfl))) (ty := .int) (by decide)
  have F_source_b14 : Fld Z h14 b14 "com/example/stubwright/stubwright/model/Position" "source" "Ljava/lang/String;" .null := D14 (Or.inr (hw _ (List.mem_of_getElem? (i := 61) rfl))) (ty := (.object "java/lang/String")) (by decide)
  have E_b14 := A14
  have g_b14 : n0 ≤ b14 := Nat.le_trans (Nat.le_trans (Nat.le_trans (Nat.le_trans (Nat.le_trans (Nat.le_trans (Nat.le_trans (Nat.le_trans Z0 Kc7.1) Kc8.1) E9.1) (Keep.of_wr W10).1) (Keep.of_wr W11).1) E12.1) Kc13.1) (Nat.le_of_eq g14.symm)
  have sz_b14 : h0.size ≤ b14 := (Nat.le_trans K13.1 (Nat.le_of_eq g14.symm))
  have K14 : Keep h0 h14 [] := K13.ext E14
  -- pc 77: the constructor of com/example/stubwright/stubwright/model/Position by its contract rm11
  obtain ⟨_, _, ⟨T15, L15, k15, n15⟩, -, X15, ⟨Lc15, hQ15, l15, y15, z15⟩, st15⟩ := X14.specialBack hx (y := (⟨"com/example/stubwright/stubwright/model/Position", "<init>", "(Ljava/lang/String;II)V"⟩ : MethodName)) rfl hown (mvT hZ (hw _ (List.mem_of_getElem? (i := 47) rfl))) (mvT hZ (hw _ (List.mem_of_getElem? (i := 48) rfl))) (mvT hZ (hw _ (List.mem_of_getElem? (i := 49) rfl))) (by decide) (backOf (W := 1) (rm11 l Z a0 hw [] b14 r7 p1 p2 _ _ _ _ h14 n0 (Nat.le_trans (Nat.le_trans (Nat.le_trans (Nat.le_trans (Nat.le_trans (Nat.le_trans (Nat.le_trans (Nat.le_trans Z0 Kc7.1) Kc8.1) E9.1) (Keep.of_wr W10).1) (Keep.of_wr W11).1) E12.1) Kc13.1) E14.1) E_b14 F_file_b14 g_b14 F_line_b14 F_column_b14 F_source_b14) hZ (hw _ (List.mem_of_getElem? (i := 49) rfl)) (hw _ (List.mem_of_getElem? (i := 46) rfl)) (by decide) (by decide)) (g := (mkF m 77 #[.val (.int p1), .val (.int p2), .val (.int p3), .val (.int p4), .val (.int p5), .val (.int p6), .val (.ref r7), .val (.ref r8), .val (.ref b9), .val (.ref b12), .unset, .unset, .unset, .unset, .unset, .unset, .unset, .unset, .unset, .unset, .unset, .unset, .unset, .unset] [(.int p2), (.int p1), (.ref r7), (.ref b14), (.ref b14)])) rfl (by rw [hml]; rfl) (Steps.refl _) (a := b14) (argsL := [(.ref r7), (.int p1), (.int p2)]) (rest := [(.ref b14)]) (lenOf pd_0_10 rfl) rfl (by show 2 * 0 + _ ≤ _; exact Nat.le_of_eq rfl) (hb hby at_77) (fun _ _ => ⟨rfl, e14, (by decide : 8 + 0 ≤ _), (by decide : 22 + 0 ≤ _)⟩)
  dsimp only [Pt.U, Pt.locs, Pt.cells, Pt.slots] at X15 l15 y15 z15 st15 hQ15
  subst l15 y15 z15
  obtain ⟨rfl, N15q, Kc15, -⟩ := hQ15
  -- Kc15 : Keep h14 T15.heap [b14]
  have N15 := Fr.app N13 N15q
  have K15 : Keep h0 T15.heap [] := K14.trans Kc15 (fun x_ hx_ => by rw [List.mem_singleton.mp hx_]; exact Or.inr sz_b14)
  obtain ⟨T16, h16, X16, e16, E16, A16, D16, -, st16⟩ := newO X15 hx hZ hown (hw _ (List.mem_of_getElem? (i := 44) rfl)) (hw _ (List.mem_of_getElem? (i := 45) rfl)) (hw _ (List.mem_of_getElem? (i := 46) rfl)) rfl (g := (mkF m 82 #[.val (.int p1), .val (.int p2), .val (.int p3), .val (.int p4), .val (.int p5), .val (.int p6), .val (.ref r7), .val (.ref r8), .val (.ref b9), .val (.ref b12), .val (.ref b14), .unset, .unset, .unset, .unset, .unset, .unset, .unset, .unset, .unset, .unset, .unset, .unset, .unset] [])) rfl (hb hby at_82) (by decide) (by decide)
  obtain ⟨b16, g16⟩ : ∃ z, z = T15.heap.size := ⟨_, rfl⟩      -- the fresh object's address
  rw [← g16] at A16 D16 st16      -- A16 : Exa Z h16 b16 "com/example/stubwright/stubwright/model/Position"; E16 : Ext T15.heap h16 (carries every older fact: .ext E16)
  have F_file_b16 : Fld Z h16 b16 "com/example/stubwright/stubwright/model/Position" "file" "Ljava/lang/String;" .null := D16 (Or.inr (hw _ (List.mem_of_getElem? (i := 55) rfl))) (ty := (.object "java/lang/String")) (by decide)
  have F_line_b16 : Fld Z h16 b16 "com/example/stubwright/stubwright/model/Position" "line" "I" (.int (0 : Int32)) := D16 (Or.inr (hw _ (List.mem_of_getElem? (i := 57) rfl))) (ty := .int) (by decide)
  have F_column_b16 : Fld Z h16 b16 "com/example/stubwright/stubwright/model/Position" "column" "I" (.int (0 : Int32)) := D16 (Or.inr (hw _ (List.mem_of_getElem? (i := 59) rfl))) (ty := .int) (by decide)
  have F_source_b16 : Fld Z h16 b16 "com/example/stubwright/stubwright/model/Position" "source" "Ljava/lang/String;" .null := D16 (Or.inr (hw _ (List.mem_of_getElem? (i := 61) rfl))) (ty := (.object "java/lang/String")) (by decide)
  have E_b16 := A16
  have g_b16 : n0 ≤ b16 := Nat.le_trans (Nat.le_trans (Nat.le_trans (Nat.le_trans (Nat.le_trans (Nat.le_trans (Nat.le_trans (Nat.le_trans (Nat.le_trans (Nat.le_trans Z0 Kc7.1) Kc8.1) E9.1) (Keep.of_wr W10).1) (Keep.of_wr W11).1) E12.1) Kc13.1) E14.1) Kc15.1) (Nat.le_of_eq g16.symm)
  have sz_b16 : h0.size ≤ b16 := (Nat.le_trans K15.1 (Nat.le_of_eq g16.symm))
  have K16 : Keep h0 h16 [] := K15.ext E16
  -- pc 90: the constructor of com/example/stubwright/stubwright/model/Position by its contract rm11
  obtain ⟨_, _, ⟨T17, L17, k17, n17⟩, -, X17, ⟨Lc17, hQ17, l17, y17, z17⟩, st17⟩ := X16.specialBack hx (y := (⟨"com/example/stubwright/stubwright/model/Position", "<init>", "(Ljava/lang/String;II)V"⟩ : MethodName)) rfl hown (mvT hZ (hw _ (List.mem_of_getElem? (i := 47) rfl))) (mvT hZ (hw _ (List.mem_of_getElem? (i := 48) rfl))) (mvT hZ (hw _ (List.mem_of_getElem? (i := 49) rfl))) (by decide) (backOf (W := 1) (rm11 l Z a0 hw [] b16 r8 p3 p4 _ _ _ _ h16 n0 (Nat.le_trans (Nat.le_trans (Nat.le_trans (Nat.le_trans (Nat.le_trans (Nat.le_trans (Nat.le_trans (Nat.le_trans (Nat.le_trans (Nat.le_trans Z0 Kc7.1) Kc8.1) E9.1) (Keep.of_wr W10).1) (Keep.of_wr W11).1) E12.1) Kc13.1) E14.1) Kc15.1) E16.1) E_b16 F_file_b16 g_b16 F_line_b16 F_column_b16 F_source_b16) hZ (hw _ (List.mem_of_getElem? (i := 49) rfl)) (hw _ (List.mem_of_getElem? (i := 46) rfl)) (by decide) (by decide)) (g := (mkF m 90 #[.val (.int p1), .val (.int p2), .val (.int p3), .val (.int p4), .val (.int p5), .val (.int p6), .val (.ref r7), .val (.ref r8), .val (.ref b9), .val (.ref b12), .val (.ref b14), .unset, .unset, .unset, .unset, .unset, .unset, .unset, .unset, .unset, .unset, .unset, .unset, .unset] [(.int p4), (.int p3), (.ref r8), (.ref b16), (.ref b16)])) rfl (by rw [hml]; rfl) (Steps.refl _) (a := b16) (argsL := [(.ref r8), (.int p3), (.int p4)]) (rest := [(.ref b16)]) (lenOf pd_0_10 rfl) rfl (by show 2 * 0 + _ ≤ _; exact Nat.le_of_eq rfl) (hb hby at_90) (fun _ _ => ⟨rfl, e16, (by decide : 9 + 0 ≤ _), (by decide : 26 + 0 ≤ _)⟩)
  dsimp only [Pt.U, Pt.locs, Pt.cells, Pt.slots] at X17 l17 y17 z17 st17 hQ17
  subst l17 y17 z17
  obtain ⟨rfl, N17q, Kc17, -⟩ := hQ17
  -- Kc17 : Keep h16 T17.heap [b16]
  have N17 := Fr.app N15 N17q
  have K17 : Keep h0 T17.heap [] := K16.trans Kc17 (fun x_ hx_ => by rw [List.mem_singleton.mp hx_]; exact Or.inr sz_b16)
  obtain ⟨T18, h18, X18, e18, E18, A18, D18, -, st18⟩ := newO X17 hx hZ hown (hw _ (List.mem_of_getElem? (i := 44) rfl)) (hw _ (List.mem_of_getElem? (i := 45) rfl)) (hw _ (List.mem_of_getElem? (i := 46) rfl)) rfl (g := (mkF m 95 #[.val (.int p1), .val (.int p2), .val (.int p3), .val (.int p4), .val (.int p5), .val (.int p6), .val (.ref r7), .val (.ref r8), .val (.ref b9), .val (.ref b12), .val (.ref b14), .val (.ref b16), .unset, .unset, .unset, .unset, .unset, .unset, .unset, .unset, .unset, .unset, .unset, .unset] [])) rfl (hb hby at_95) (by decide) (by decide)
  obtain ⟨b18, g18⟩ : ∃ z, z = T17.heap.size := ⟨_, rfl⟩      -- the fresh object's address
  rw [← g18] at A18 D18 st18      -- A18 : Exa Z h18 b18 "com/example/stubwright/stubwright/model/Position"; E18 : Ext T17.heap h18 (carries every older fact: .ext E18)
  have F_file_b18 : Fld Z h18 b18 "com/example/stubwright/stubwright/model/Position" "file" "Ljava/lang/String;" .null := D18 (Or.inr (hw _ (List.mem_of_getElem? (i := 55) rfl))) (ty := (.object "java/lang/String")) (by decide)
  have F_line_b18 : Fld Z h18 b18 "com/example/stubwright/stubwright/model/Position" "line" "I" (.int (0 : Int32)) := D18 (Or.inr (hw _ (List.mem_of_getElem? (i := 57) rfl))) (ty := .int) (by decide)
  have F_column_b18 : Fld Z h18 b18 "com/example/stubwright/stubwright/model/Position" "column" "I" (.int (0 : Int32)) := D18 (Or.inr (hw _ (List.mem_of_getElem? (i := 59) rfl))) (ty := .int) (by decide)
  have F_source_b18 : Fld Z h18 b18 "com/example/stubwright/stubwright/model/Position" "source" "Ljava/lang/String;" .null := D18 (Or.inr (hw _ (List.mem_of_getElem? (i := 61) rfl))) (ty := (.object "java/lang/String")) (by decide)
  have E_b18 := A18
  have g_b18 : n0 ≤ b18 := Nat.le_trans (Nat.le_trans (Nat.le_trans (Nat.le_trans (Nat.le_trans (Nat.le_trans (Nat.le_trans (Nat.le_trans (Nat.le_trans (Nat.le_trans (Nat.le_trans (Nat.le_trans Z0 Kc7.1) Kc8.1) E9.1) (Keep.of_wr W10).1) (Keep.of_wr W11).1) E12.1) Kc13.1) E14.1) Kc15.1) E16.1) Kc17.1) (Nat.le_of_eq g18.symm)
  have sz_b18 : h0.size ≤ b18 := (Nat.le_trans K17.1 (Nat.le_of_eq g18.symm))
  have K18 : Keep h0 h18 [] := K17.ext E18
  -- pc 103: the constructor of com/example/stubwright/stubwright/model/Position by its contract rm11
  obtain ⟨_, _, ⟨T19, L19, k19, n19⟩, -, X19, ⟨Lc19, hQ19, l19, y19, z19⟩, st19⟩ := X18.specialBack hx (y := (⟨"com/example/stubwright/stubwright/model/Position", "<init>", "(Ljava/lang/String;II)V"⟩ : MethodName)) rfl hown (mvT hZ (hw _ (List.mem_of_getElem? (i := 47) rfl))) (mvT hZ (hw _ (List.mem_of_getElem? (i := 48) rfl))) (mvT hZ (hw _ (List.mem_of_getElem? (i := 49) rfl))) (by decide) (backOf (W := 1) (rm11 l Z a0 hw [] b18 r7 p3 p2 _ _ _ _ h18 n0 (Nat.le_trans (Nat.le_trans (Nat.le_trans (Nat.le_trans (Nat.le_trans (Nat.le_trans (Nat.le_trans (Nat.le_trans (Nat.le_trans (Nat.le_trans (Nat.le_trans (Nat.le_trans Z0 Kc7.1) Kc8.1) E9.1) (Keep.of_wr W10).1) (Keep.of_wr W11).1) E12.1) Kc13.1) E14.1) Kc15.1) E16.1) Kc17.1) E18.1) E_b18 F_file_b18 g_b18 F_line_b18 F_column_b18 F_source_b18) hZ (hw _ (List.mem_of_getElem? (i := 49) rfl)) (hw _ (List.mem_of_getElem? (i := 46) rfl)) (by decide) (by decide)) (g := (mkF m 103 #[.val (.int p1), .val (.int p2), .val (.int p3), .val (.int p4), .val (.int p5), .val (.int p6), .val (.ref r7), .val (.ref r8), .val (.ref b9), .val (.ref b12), .val (.ref b14), .val (.ref b16), .unset, .unset, .unset, .unset, .unset, .unset, .unset, .unset, .unset, .unset, .unset, .unset] [(.int p2), (.int p3), (.ref r7), (.ref b18), (.ref b18)])) rfl (by rw [hml]; rfl) (Steps.refl _) (a := b18) (argsL := [(.ref r7), (.int p3), (.int p2)]) (rest := [(.ref b18)]) (lenOf pd_0_10 rfl) rfl (by show 2 * 0 + _ ≤ _; exact Nat.le_of_eq rfl) (hb hby at_103) (fun _ _ => ⟨rfl, e18, (by decide : 10 + 0 ≤ _), (by decide : 30 + 0 ≤ _)⟩)
  dsimp only [Pt.U, Pt.locs, Pt.cells, Pt.slots] at X19 l19 y19 z19 st19 hQ19
  subst l19 y19 z19
  obtain ⟨rfl, N19q, Kc19, -⟩ := hQ19
  -- Kc19 : Keep h18 T19.heap [b18]
  have N19 := Fr.app N17 N19q
  have K19 : Keep h0 T19.heap [] := K18.trans Kc19 (fun x_ hx_ => by rw [List.mem_singleton.mp hx_]; exact Or.inr sz_b18)
  obtain ⟨T20, h20, X20, e20, E20, A20, D20, -, st20⟩ := newO X19 hx hZ hown (hw _ (List.mem_of_getElem? (i := 62) rfl)) (hw _ (List.mem_of_getElem? (i := 63) rfl)) (hw _ (List.mem_of_getElem? (i := 64) rfl)) rfl (g := (mkF m 140 #[.val (.int p1), .val (.int p2), .val (.int p3), .val (.int p4), .val (.int p5), .val (.int p6), .val (.ref r7), .val (.ref r8), .val (.ref b9), .val (.ref b12), .val (.ref b14), .val (.ref b16), .val (.ref b18), .val (.int (0 : Int32)), .val (.int (0 : Int32)), .unset, .unset, .unset, .unset, .unset, .unset, .unset, .unset, .unset] [])) rfl (hb hby at_140) (by decide) (by decide)
  obtain ⟨b20, g20⟩ : ∃ z, z = T19.heap.size := ⟨_, rfl⟩      -- the fresh object's address
  rw [← g20] at A20 D20 st20      -- A20 : Exa Z h20 b20 "com/example/stubwright/stubwright/read/Token"; E20 : Ext T19.heap h20 (carries every older fact: .ext E20)
  have F_kind_b20 : Fld Z h20 b20 "com/example/stubwright/stubwright/read/Token" "kind" "Lcom/example/stubwright/stubwright/read/Token$Kind;" .null := D20 (Or.inr (hw _ (List.mem_of_getElem? (i := 80) rfl))) (ty := (.object "com/example/stubwright/stubwright/read/Token$Kind")) (by decide)
  have F_spelling_b20 : Fld Z h20 b20 "com/example/stubwright/stubwright/read/Token" "spelling" "Ljava/lang/String;" .null := D20 (Or.inr (hw _ (List.mem_of_getElem? (i := 82) rfl))) (ty := (.object "java/lang/String")) (by decide)
  have F_value_b20 : Fld Z h20 b20 "com/example/stubwright/stubwright/read/Token" "value" "Ljava/lang/Object;" .null := D20 (Or.inr (hw _ (List.mem_of_getElem? (i := 84) rfl))) (ty := (.object "java/lang/Object")) (by decide)
  have F_position_b20 : Fld Z h20 b20 "com/example/stubwright/stubwright/read/Token" "position" "Lcom/example/stubwright/stubwright/model/Position;" .null := D20 (Or.inr (hw _ (List.mem_of_getElem? (i := 86) rfl))) (ty := (.object "com/example/stubwright/stubwright/model/Position")) (by decide)
  have F_spaceBefore_b20 : Fld Z h20 b20 "com/example/stubwright/stubwright/read/Token" "spaceBefore" "Z" (.int (0 : Int32)) := D20 (Or.inr (hw _ (List.mem_of_getElem? (i := 88) rfl))) (ty := .boolean) (by decide)
  have F_painted_b20 : Fld Z h20 b20 "com/example/stubwright/stubwright/read/Token" "painted" "Z" (.int (0 : Int32)) := D20 (Or.inr (hw _ (List.mem_of_getElem? (i := 90) rfl))) (ty := .boolean) (by decide)
  have F_expansion_b20 : Fld Z h20 b20 "com/example/stubwright/stubwright/read/Token" "expansion" "Lcom/example/stubwright/stubwright/model/Position;" .null := D20 (Or.inr (hw _ (List.mem_of_getElem? (i := 92) rfl))) (ty := (.object "com/example/stubwright/stubwright/model/Position")) (by decide)
  have E_b20 := A20
  have g_b20 : n0 ≤ b20 := Nat.le_trans (Nat.le_trans (Nat.le_trans (Nat.le_trans (Nat.le_trans (Nat.le_trans (Nat.le_trans (Nat.le_trans (Nat.le_trans (Nat.le_trans (Nat.le_trans (Nat.le_trans (Nat.le_trans (Nat.le_trans Z0 Kc7.1) Kc8.1) E9.1) (Keep.of_wr W10).1) (Keep.of_wr W11).1) E12.1) Kc13.1) E14.1) Kc15.1) E16.1) Kc17.1) E18.1) Kc19.1) (Nat.le_of_eq g20.symm)
  have sz_b20 : h0.size ≤ b20 := (Nat.le_trans K19.1 (Nat.le_of_eq g20.symm))
  have K20 : Keep h0 h20 [] := K19.ext E20
  -- pc 146: com/example/stubwright/stubwright/read/TokenExpansionPointPinLaw.kindOf by its contract rm13
  obtain ⟨_, _, ⟨T21, L21, k21, n21⟩, -, X21, ⟨Lc21, hQ21, l21, y21, z21⟩, st21⟩ := Jvm.LawKit.callS X20 hx (y := (⟨"com/example/stubwright/stubwright/read/TokenExpansionPointPinLaw", "kindOf", "(I)Lcom/example/stubwright/stubwright/read/Token$Kind;"⟩ : MethodName)) hown (mvT hZ (hw _ (List.mem_of_getElem? (i := 65) rfl))) (mvT hZ (hw _ (List.mem_of_getElem? (i := 66) rfl))) (mvT hZ (hw _ (List.mem_of_getElem? (i := 67) rfl))) (mvT hZ (hw _ (List.mem_of_getElem? (i := 68) rfl))) (by decide) (backOf (W := 2) (rm13 l Z a0 hw [] p5 wk h20 n0 (Nat.le_trans (Nat.le_trans (Nat.le_trans (Nat.le_trans (Nat.le_trans (Nat.le_trans (Nat.le_trans (Nat.le_trans (Nat.le_trans (Nat.le_trans (Nat.le_trans (Nat.le_trans (Nat.le_trans (Nat.le_trans Z0 Kc7.1) Kc8.1) E9.1) (Keep.of_wr W10).1) (Keep.of_wr W11).1) E12.1) Kc13.1) E14.1) Kc15.1) E16.1) Kc17.1) E18.1) Kc19.1) E20.1) (own_sta S_kind K20)) hZ (hw _ (List.mem_of_getElem? (i := 68) rfl)) (hw _ (List.mem_of_getElem? (i := 67) rfl)) (by decide) (by decide)) (g := (mkF m 146 #[.val (.int p1), .val (.int p2), .val (.int p3), .val (.int p4), .val (.int p5), .val (.int p6), .val (.ref r7), .val (.ref r8), .val (.ref b9), .val (.ref b12), .val (.ref b14), .val (.ref b16), .val (.ref b18), .val (.int (0 : Int32)), .val (.int (0 : Int32)), .unset, .unset, .unset, .unset, .unset, .unset, .unset, .unset, .unset] [(.int p5), (.ref b20), (.ref b20)])) rfl (by rw [hml]; rfl) (argsL := [(.int p5)]) (rest := [(.ref b20), (.ref b20)]) (lenOf pd_0_12 rfl) rfl (by show 2 * 0 + _ ≤ _; exact Nat.le_of_eq rfl) (hb hby at_146) (fun _ _ => ⟨rfl, e20, (by decide : 11 + 0 ≤ _), (by decide : 37 + 0 ≤ _)⟩)
  dsimp only [Pt.U, Pt.locs, Pt.cells, Pt.slots] at X21 l21 y21 z21 st21 hQ21
  subst l21 y21 z21
  obtain ⟨rfl, N21q, hh21⟩ := hQ21
  have Kc21 : Keep h20 T21.heap [] := by rw [hh21]; exact Keep.refl _ _
  have N21 := Fr.app N19 N21q
  have K21 : Keep h0 T21.heap [] := K20.trans Kc21 (fun x_ hx_ => absurd hx_ (by simp))
  -- pc 156: the constructor of com/example/stubwright/stubwright/read/Token by its contract rm14
  obtain ⟨_, _, ⟨T22, L22, k22, n22⟩, -, X22, ⟨Lc22, hQ22, l22, y22, z22⟩, st22⟩ := X21.specialBack hx (y := (⟨"com/example/stubwright/stubwright/read/Token", "<init>", "(Lcom/example/stubwright/stubwright/read/Token$Kind;Ljava/lang/String;Ljava/lang/Object;Lcom/example/stubwright/stubwright/model/Position;Z)V"⟩ : MethodName)) rfl hown (mvT hZ (hw _ (List.mem_of_getElem? (i := 72) rfl))) (mvT hZ (hw _ (List.mem_of_getElem? (i := 73) rfl))) (mvT hZ (hw _ (List.mem_of_getElem? (i := 74) rfl))) (by decide) (backOf (W := 1) (rm14 l Z a0 hw [] b20 wk b12 b14 (0 : Int32) _ _ _ _ _ _ _ T21.heap n0 (Nat.le_trans (Nat.le_trans (Nat.le_trans (Nat.le_trans (Nat.le_trans (Nat.le_trans (Nat.le_trans (Nat.le_trans (Nat.le_trans (Nat.le_trans (Nat.le_trans (Nat.le_trans (Nat.le_trans (Nat.le_trans (Nat.le_trans Z0 Kc7.1) Kc8.1) E9.1) (Keep.of_wr W10).1) (Keep.of_wr W11).1) E12.1) Kc13.1) E14.1) Kc15.1) E16.1) Kc17.1) E18.1) Kc19.1) E20.1) Kc21.1) (E_b20.keep Kc21) (F_kind_b20.keep Kc21 (by simp)) g_b20 (F_spelling_b20.keep Kc21 (by simp)) (F_value_b20.keep Kc21 (by simp)) (F_position_b20.keep Kc21 (by simp)) (F_spaceBefore_b20.keep Kc21 (by simp)) (F_painted_b20.keep Kc21 (by simp)) (F_expansion_b20.keep Kc21 (by simp))) hZ (hw _ (List.mem_of_getElem? (i := 74) rfl)) (hw _ (List.mem_of_getElem? (i := 64) rfl)) (by decide) (by decide)) (g := (mkF m 156 #[.val (.int p1), .val (.int p2), .val (.int p3), .val (.int p4), .val (.int p5), .val (.int p6), .val (.ref r7), .val (.ref r8), .val (.ref b9), .val (.ref b12), .val (.ref b14), .val (.ref b16), .val (.ref b18), .val (.int (0 : Int32)), .val (.int (0 : Int32)), .unset, .unset, .unset, .unset, .unset, .unset, .unset, .unset, .unset] [(.int (0 : Int32)), (.ref b14), .null, (.ref b12), (.ref wk), (.ref b20), (.ref b20)])) rfl (by rw [hml]; rfl) (Steps.refl _) (a := b20) (argsL := [(.ref wk), (.ref b12), .null, (.ref b14), (.int (0 : Int32))]) (rest := [(.ref b20)]) (lenOf pd_0_13 rfl) rfl (by show 2 * 0 + _ ≤ _; exact Nat.le_of_eq rfl) (hb hby at_156) (fun _ _ => ⟨rfl, rfl, (by decide : 11 + 0 ≤ _), (by decide : 37 + 0 ≤ _)⟩)
  dsimp only [Pt.U, Pt.locs, Pt.cells, Pt.slots] at X22 l22 y22 z22 st22 hQ22
  subst l22 y22 z22
  obtain ⟨rfl, N22q, Kc22, Et22, Fkind22, Fspelling22, Fvalue22, Fposition22, FspaceBefore22, Fpainted22, Fexpansion22⟩ := hQ22
  -- Kc22 : Keep T21.heap T22.heap [b20]
  have N22 := Fr.app N21 N22q
  have K22 : Keep h0 T22.heap [] := K21.trans Kc22 (fun x_ hx_ => by rw [List.mem_singleton.mp hx_]; exact Or.inr sz_b20)
  -- pc 163: com/example/stubwright/stubwright/read/Token.expansionPoint by the contract of the body that the receiver's class selects, rm16
  obtain ⟨cq23, kq23, q23a, q23b, q23c⟩ := isOf hZ rfl Et22
  obtain ⟨_, _, ⟨T23, L23, k23, n23⟩, -, X23, ⟨Lc23, hQ23, l23, y23, z23⟩, st23⟩ := X22.virtualBack hx (y := (⟨"com/example/stubwright/stubwright/read/Token", "expansionPoint", "()Lcom/example/stubwright/stubwright/model/Position;"⟩ : MethodName)) (z := (⟨"com/example/stubwright/stubwright/read/Token", "expansionPoint", "()Lcom/example/stubwright/stubwright/model/Position;"⟩ : MethodName)) hown (mvT hZ (hw _ (List.mem_of_getElem? (i := 93) rfl))) (mvT hZ (hw _ (List.mem_of_getElem? (i := 94) rfl))) (notFace_of_selects (args := #[]) (mvT hZ (hw _ (List.mem_of_getElem? (i := 96) rfl)))) (mvT hZ (hw _ (List.mem_of_getElem? (i := 96) rfl))) (mvT hZ (hw _ (List.mem_of_getElem? (i := 95) rfl))) (by decide) (backOf (W := 0) (rm16n l Z a0 hw [] b20 b14 T22.heap n0 (Nat.le_trans (Nat.le_trans (Nat.le_trans (Nat.le_trans (Nat.le_trans (Nat.le_trans (Nat.le_trans (Nat.le_trans (Nat.le_trans (Nat.le_trans (Nat.le_trans (Nat.le_trans (Nat.le_trans (Nat.le_trans (Nat.le_trans (Nat.le_trans Z0 Kc7.1) Kc8.1) E9.1) (Keep.of_wr W10).1) (Keep.of_wr W11).1) E12.1) Kc13.1) E14.1) Kc15.1) E16.1) Kc17.1) E18.1) Kc19.1) E20.1) Kc21.1) Kc22.1) Fexpansion22 Fposition22) hZ (hw _ (List.mem_of_getElem? (i := 97) rfl)) (hw _ (List.mem_of_getElem? (i := 64) rfl)) (by decide) (by decide)) q23a q23c (g := (mkF m 163 #[.val (.int p1), .val (.int p2), .val (.int p3), .val (.int p4), .val (.int p5), .val (.int p6), .val (.ref r7), .val (.ref r8), .val (.ref b9), .val (.ref b12), .val (.ref b14), .val (.ref b16), .val (.ref b18), .val (.int (0 : Int32)), .val (.int (0 : Int32)), .val (.ref b20), .unset, .unset, .unset, .unset, .unset, .unset, .unset, .unset] [(.ref b20)])) rfl (by rw [hml]; rfl) (Steps.refl _) (argsL := []) (rest := []) (lenOf pd_0_15 rfl) rfl (by show 2 * 0 + _ ≤ _; exact Nat.le_of_eq rfl) (hb hby at_163) (fun _ _ => ⟨rfl, rfl, (by decide : 11 + 0 ≤ _), (by decide : 37 + 0 ≤ _)⟩)
  dsimp only [Pt.U, Pt.locs, Pt.cells, Pt.slots] at X23 l23 y23 z23 st23 hQ23
  subst l23 y23 z23
  obtain ⟨rfl, N23q, hh23⟩ := hQ23
  have Kc23 : Keep T22.heap T23.heap [] := by rw [hh23]; exact Keep.refl _ _
  have N23 := Fr.app N22 N23q
  have K23 : Keep h0 T23.heap [] := K22.trans Kc23 (fun x_ hx_ => absurd hx_ (by simp))
  -- pc 195: com/example/stubwright/stubwright/read/Token.expandedAt by the contract of the body that the receiver's class selects, rm17
  obtain ⟨cq24, kq24, q24a, q24b, q24c⟩ := isOf hZ rfl (Et22.keep Kc23)
  obtain ⟨_, _, ⟨T24, L24, k24, n24⟩, -, X24, ⟨Lc24, hQ24, l24, y24, z24⟩, st24⟩ := X23.virtualBack hx (y := (⟨"com/example/stubwright/stubwright/read/Token", "expandedAt", "(Lcom/example/stubwright/stubwright/model/Position;)Lcom/example/stubwright/stubwright/read/Token;"⟩ : MethodName)) (z := (⟨"com/example/stubwright/stubwright/read/Token", "expandedAt", "(Lcom/example/stubwright/stubwright/model/Position;)Lcom/example/stubwright/stubwright/read/Token;"⟩ : MethodName)) hown (mvT hZ (hw _ (List.mem_of_getElem? (i := 98) rfl))) (mvT hZ (hw _ (List.mem_of_getElem? (i := 99) rfl))) (notFace_of_selects (args := #[]) (mvT hZ (hw _ (List.mem_of_getElem? (i := 101) rfl)))) (mvT hZ (hw _ (List.mem_of_getElem? (i := 101) rfl))) (mvT hZ (hw _ (List.mem_of_getElem? (i := 100) rfl))) (by decide) (backOf (W := 0) (rm17q l Z a0 hw [] b20 b16 wk b12 b14 (nar .boolean (0 : Int32)) (nar .boolean (0 : Int32)) T23.heap n0 (Nat.le_trans (Nat.le_trans (Nat.le_trans (Nat.le_trans (Nat.le_trans (Nat.le_trans (Nat.le_trans (Nat.le_trans (Nat.le_trans (Nat.le_trans (Nat.le_trans (Nat.le_trans (Nat.le_trans (Nat.le_trans (Nat.le_trans (Nat.le_trans (Nat.le_trans Z0 Kc7.1) Kc8.1) E9.1) (Keep.of_wr W10).1) (Keep.of_wr W11).1) E12.1) Kc13.1) E14.1) Kc15.1) E16.1) Kc17.1) E18.1) Kc19.1) E20.1) Kc21.1) Kc22.1) Kc23.1) (Fkind22.keep Kc23 (by simp)) (Fspelling22.keep Kc23 (by simp)) (Fvalue22.keep Kc23 (by simp)) (Fposition22.keep Kc23 (by simp)) (FspaceBefore22.keep Kc23 (by simp)) (Fpainted22.keep Kc23 (by simp))) hZ (hw _ (List.mem_of_getElem? (i := 102) rfl)) (hw _ (List.mem_of_getElem? (i := 64) rfl)) (by decide) (by decide)) q24a q24c (g := (mkF m 195 #[.val (.int p1), .val (.int p2), .val (.int p3), .val (.int p4), .val (.int p5), .val (.int p6), .val (.ref r7), .val (.ref r8), .val (.ref b9), .val (.ref b12), .val (.ref b14), .val (.ref b16), .val (.ref b18), .val (.int (0 : Int32)), .val (.int (0 : Int32)), .val (.ref b20), .val (.int (1 : Int32)), .val (.ref b16), .unset, .unset, .unset, .unset, .unset, .unset] [(.ref b16), (.ref b20)])) rfl (by rw [hml]; rfl) (Steps.refl _) (argsL := [(.ref b16)]) (rest := []) (lenOf pd_0_16 rfl) rfl (by show 2 * 0 + _ ≤ _; exact Nat.le_of_eq rfl) (hb hby at_195) (fun _ _ => ⟨rfl, rfl, (by decide : 11 + 1 ≤ _), (by decide : 37 + 7 ≤ _)⟩)
  dsimp only [Pt.U, Pt.locs, Pt.cells, Pt.slots] at X24 l24 y24 z24 st24 hQ24
  subst l24 y24 z24
  obtain ⟨r24, rfl, N24q, Kc24, le24, Et24, Fkind24, Fspelling24, Fvalue24, Fposition24, FspaceBefore24, Fpainted24, Fexpansion24⟩ := hQ24
  -- Kc24 : Keep T23.heap T24.heap []
  have N24 := Fr.app N23 N24q
  have g_r24 : n0 ≤ r24 := Nat.le_trans (Nat.le_trans (Nat.le_trans (Nat.le_trans (Nat.le_trans (Nat.le_trans (Nat.le_trans (Nat.le_trans (Nat.le_trans (Nat.le_trans (Nat.le_trans (Nat.le_trans (Nat.le_trans (Nat.le_trans (Nat.le_trans (Nat.le_trans (Nat.le_trans (Nat.le_trans Z0 Kc7.1) Kc8.1) E9.1) (Keep.of_wr W10).1) (Keep.of_wr W11).1) E12.1) Kc13.1) E14.1) Kc15.1) E16.1) Kc17.1) E18.1) Kc19.1) E20.1) Kc21.1) Kc22.1) Kc23.1) le24
  have K24 : Keep h0 T24.heap [] := K23.trans Kc24 (fun x_ hx_ => absurd hx_ (by simp))
  -- pc 216: com/example/stubwright/stubwright/read/Token.expansionPoint by the contract of the body that the receiver's class selects, rm16
  obtain ⟨cq25, kq25, q25a, q25b, q25c⟩ := isOf hZ rfl Et24
  obtain ⟨_, _, ⟨T25, L25, k25, n25⟩, -, X25, ⟨Lc25, hQ25, l25, y25, z25⟩, st25⟩ := X24.virtualBack hx (y := (⟨"com/example/stubwright/stubwright/read/Token", "expansionPoint", "()Lcom/example/stubwright/stubwright/model/Position;"⟩ : MethodName)) (z := (⟨"com/example/stubwright/stubwright/read/Token", "expansionPoint", "()Lcom/example/stubwright/stubwright/model/Position;"⟩ : MethodName)) hown (mvT hZ (hw _ (List.mem_of_getElem? (i := 93) rfl))) (mvT hZ (hw _ (List.mem_of_getElem? (i := 94) rfl))) (notFace_of_selects (args := #[]) (mvT hZ (hw _ (List.mem_of_getElem? (i := 96) rfl)))) (mvT hZ (hw _ (List.mem_of_getElem? (i := 96) rfl))) (mvT hZ (hw _ (List.mem_of_getElem? (i := 95) rfl))) (by decide) (backOf (W := 0) (rm16q l Z a0 hw [] r24 b16 T24.heap n0 (Nat.le_trans (Nat.le_trans (Nat.le_trans (Nat.le_trans (Nat.le_trans (Nat.le_trans (Nat.le_trans (Nat.le_trans (Nat.le_trans (Nat.le_trans (Nat.le_trans (Nat.le_trans (Nat.le_trans (Nat.le_trans (Nat.le_trans (Nat.le_trans (Nat.le_trans (Nat.le_trans Z0 Kc7.1) Kc8.1) E9.1) (Keep.of_wr W10).1) (Keep.of_wr W11).1) E12.1) Kc13.1) E14.1) Kc15.1) E16.1) Kc17.1) E18.1) Kc19.1) E20.1) Kc21.1) Kc22.1) Kc23.1) Kc24.1) Fexpansion24) hZ (hw _ (List.mem_of_getElem? (i := 97) rfl)) (hw _ (List.mem_of_getElem? (i := 64) rfl)) (by decide) (by decide)) q25a q25c (g := (mkF m 216 #[.val (.int p1), .val (.int p2), .val (.int p3), .val (.int p4), .val (.int p5), .val (.int p6), .val (.ref r7), .val (.ref r8), .val (.ref b9), .val (.ref b12), .val (.ref b14), .val (.ref b16), .val (.ref b18), .val (.int (0 : Int32)), .val (.int (0 : Int32)), .val (.ref b20), .val (.int (1 : Int32)), .val (.ref b16), .val (.ref r24), .val (.ref b16), .unset, .unset, .unset, .unset] [(.ref r24)])) rfl (by rw [hml]; rfl) (Steps.refl _) (argsL := []) (rest := []) (lenOf pd_0_15 rfl) rfl (by show 2 * 0 + _ ≤ _; exact Nat.le_of_eq rfl) (hb hby at_216) (fun _ _ => ⟨rfl, rfl, (by decide : 12 + 0 ≤ _), (by decide : 44 + 0 ≤ _)⟩)
  dsimp only [Pt.U, Pt.locs, Pt.cells, Pt.slots] at X25 l25 y25 z25 st25 hQ25
  subst l25 y25 z25
  obtain ⟨rfl, N25q, hh25⟩ := hQ25
  have Kc25 : Keep T24.heap T25.heap [] := by rw [hh25]; exact Keep.refl _ _
  have N25 := Fr.app N24 N25q
  have K25 : Keep h0 T25.heap [] := K24.trans Kc25 (fun x_ hx_ => absurd hx_ (by simp))
  -- pc 235: com/example/stubwright/stubwright/read/Token.at by the contract of the body that the receiver's class selects, rm18
  obtain ⟨cq26, kq26, q26a, q26b, q26c⟩ := isOf hZ rfl (Et24.keep Kc25)
  obtain ⟨_, _, ⟨T26, L26, k26, n26⟩, -, X26, ⟨Lc26, hQ26, l26, y26, z26⟩, st26⟩ := X25.virtualBack hx (y := (⟨"com/example/stubwright/stubwright/read/Token", "at", "(Lcom/example/stubwright/stubwright/model/Position;)Lcom/example/stubwright/stubwright/read/Token;"⟩ : MethodName)) (z := (⟨"com/example/stubwright/stubwright/read/Token", "at", "(Lcom/example/stubwright/stubwright/model/Position;)Lcom/example/stubwright/stubwright/read/Token;"⟩ : MethodName)) hown (mvT hZ (hw _ (List.mem_of_getElem? (i := 104) rfl))) (mvT hZ (hw _ (List.mem_of_getElem? (i := 105) rfl))) (notFace_of_selects (args := #[]) (mvT hZ (hw _ (List.mem_of_getElem? (i := 107) rfl)))) (mvT hZ (hw _ (List.mem_of_getElem? (i := 107) rfl))) (mvT hZ (hw _ (List.mem_of_getElem? (i := 106) rfl))) (by decide) (backOf (W := 0) (rm18q l Z a0 hw [] r24 b18 wk b12 (nar .boolean (nar .boolean (0 : Int32))) (nar .boolean (nar .boolean (0 : Int32))) b16 T25.heap n0 (Nat.le_trans (Nat.le_trans (Nat.le_trans (Nat.le_trans (Nat.le_trans (Nat.le_trans (Nat.le_trans (Nat.le_trans (Nat.le_trans (Nat.le_trans (Nat.le_trans (Nat.le_trans (Nat.le_trans (Nat.le_trans (Nat.le_trans (Nat.le_trans (Nat.le_trans (Nat.le_trans (Nat.le_trans Z0 Kc7.1) Kc8.1) E9.1) (Keep.of_wr W10).1) (Keep.of_wr W11).1) E12.1) Kc13.1) E14.1) Kc15.1) E16.1) Kc17.1) E18.1) Kc19.1) E20.1) Kc21.1) Kc22.1) Kc23.1) Kc24.1) Kc25.1) (Fkind24.keep Kc25 (by simp)) (Fspelling24.keep Kc25 (by simp)) (Fvalue24.keep Kc25 (by simp)) (FspaceBefore24.keep Kc25 (by simp)) (Fpainted24.keep Kc25 (by simp)) (Fexpansion24.keep Kc25 (by simp))) hZ (hw _ (List.mem_of_getElem? (i := 108) rfl)) (hw _ (List.mem_of_getElem? (i := 64) rfl)) (by decide) (by decide)) q26a q26c (g := (mkF m 235 #[.val (.int p1), .val (.int p2), .val (.int p3), .val (.int p4), .val (.int p5), .val (.int p6), .val (.ref r7), .val (.ref r8), .val (.ref b9), .val (.ref b12), .val (.ref b14), .val (.ref b16), .val (.ref b18), .val (.int (0 : Int32)), .val (.int (0 : Int32)), .val (.ref b20), .val (.int (1 : Int32)), .val (.ref b16), .val (.ref r24), .val (.ref b16), .val (.int (1 : Int32)), .unset, .unset, .unset] [(.ref b18), (.ref r24)])) rfl (by rw [hml]; rfl) (Steps.refl _) (argsL := [(.ref b18)]) (rest := []) (lenOf pd_0_16 rfl) rfl (by show 2 * 0 + _ ≤ _; exact Nat.le_of_eq rfl) (hb hby at_235) (fun _ _ => ⟨rfl, rfl, (by decide : 12 + 1 ≤ _), (by decide : 44 + 7 ≤ _)⟩)
  dsimp only [Pt.U, Pt.locs, Pt.cells, Pt.slots] at X26 l26 y26 z26 st26 hQ26
  subst l26 y26 z26
  obtain ⟨r26, rfl, N26q, Kc26, le26, Et26, Fkind26, Fspelling26, Fvalue26, Fposition26, FspaceBefore26, Fpainted26, Fexpansion26⟩ := hQ26
  -- Kc26 : Keep T25.heap T26.heap []
  have N26 := Fr.app N25 N26q
  have g_r26 : n0 ≤ r26 := Nat.le_trans (Nat.le_trans (Nat.le_trans (Nat.le_trans (Nat.le_trans (Nat.le_trans (Nat.le_trans (Nat.le_trans (Nat.le_trans (Nat.le_trans (Nat.le_trans (Nat.le_trans (Nat.le_trans (Nat.le_trans (Nat.le_trans (Nat.le_trans (Nat.le_trans (Nat.le_trans (Nat.le_trans (Nat.le_trans Z0 Kc7.1) Kc8.1) E9.1) (Keep.of_wr W10).1) (Keep.of_wr W11).1) E12.1) Kc13.1) E14.1) Kc15.1) E16.1) Kc17.1) E18.1) Kc19.1) E20.1) Kc21.1) Kc22.1) Kc23.1) Kc24.1) Kc25.1) le26
  have K26 : Keep h0 T26.heap [] := K25.trans Kc26 (fun x_ hx_ => absurd hx_ (by simp))
  -- pc 256: com/example/stubwright/stubwright/read/Token.expansionPoint by the contract of the body that the receiver's class selects, rm16
  obtain ⟨cq27, kq27, q27a, q27b, q27c⟩ := isOf hZ rfl Et26
  obtain ⟨_, _, ⟨T27, L27, k27, n27⟩, -, X27, ⟨Lc27, hQ27, l27, y27, z27⟩, st27⟩ := X26.virtualBack hx (y := (⟨"com/example/stubwright/stubwright/read/Token", "expansionPoint", "()Lcom/example/stubwright/stubwright/model/Position;"⟩ : MethodName)) (z := (⟨"com/example/stubwright/stubwright/read/Token", "expansionPoint", "()Lcom/example/stubwright/stubwright/model/Position;"⟩ : MethodName)) hown (mvT hZ (hw _ (List.mem_of_getElem? (i := 93) rfl))) (mvT hZ (hw _ (List.mem_of_getElem? (i := 94) rfl))) (notFace_of_selects (args := #[]) (mvT hZ (hw _ (List.mem_of_getElem? (i := 96) rfl)))) (mvT hZ (hw _ (List.mem_of_getElem? (i := 96) rfl))) (mvT hZ (hw _ (List.mem_of_getElem? (i := 95) rfl))) (by decide) (backOf (W := 0) (rm16q l Z a0 hw [] r26 b16 T26.heap n0 (Nat.le_trans (Nat.le_trans (Nat.le_trans (Nat.le_trans (Nat.le_trans (Nat.le_trans (Nat.le_trans (Nat.le_trans (Nat.le_trans (Nat.le_trans (Nat.le_trans (Nat.le_trans (Nat.le_trans (Nat.le_trans (Nat.le_trans (Nat.le_trans (Nat.le_trans (Nat.le_trans (Nat.le_trans (Nat.le_trans Z0 Kc7.1) Kc8.1) E9.1) (Keep.of_wr W10).1) (Keep.of_wr W11).1) E12.1) Kc13.1) E14.1) Kc15.1) E16.1) Kc17.1) E18.1) Kc19.1) E20.1) Kc21.1) Kc22.1) Kc23.1) Kc24.1) Kc25.1) Kc26.1) Fexpansion26) hZ (hw _ (List.mem_of_getElem? (i := 97) rfl)) (hw _ (List.mem_of_getElem? (i := 64) rfl)) (by decide) (by decide)) q27a q27c (g := (mkF m 256 #[.val (.int p1), .val (.int p2), .val (.int p3), .val (.int p4), .val (.int p5), .val (.int p6), .val (.ref r7), .val (.ref r8), .val (.ref b9), .val (.ref b12), .val (.ref b14), .val (.ref b16), .val (.ref b18), .val (.int (0 : Int32)), .val (.int (0 : Int32)), .val (.ref b20), .val (.int (1 : Int32)), .val (.ref b16), .val (.ref r24), .val (.ref b16), .val (.int (1 : Int32)), .val (.ref r26), .val (.ref b16), .unset] [(.ref r26)])) rfl (by rw [hml]; rfl) (Steps.refl _) (argsL := []) (rest := []) (lenOf pd_0_15 rfl) rfl (by show 2 * 0 + _ ≤ _; exact Nat.le_of_eq rfl) (hb hby at_256) (fun _ _ => ⟨rfl, rfl, (by decide : 13 + 0 ≤ _), (by decide : 51 + 0 ≤ _)⟩)
  dsimp only [Pt.U, Pt.locs, Pt.cells, Pt.slots] at X27 l27 y27 z27 st27 hQ27
  subst l27 y27 z27
  obtain ⟨rfl, N27q, hh27⟩ := hQ27
  have Kc27 : Keep T26.heap T27.heap [] := by rw [hh27]; exact Keep.refl _ _
  have N27 := Fr.app N26 N27q
  have K27 : Keep h0 T27.heap [] := K26.trans Kc27 (fun x_ hx_ => absurd hx_ (by simp))
  obtain ⟨fs, hr, hrun, hended, hW, hsame⟩ := X27.leave (v := some (.int (1 : Int32))) (fun h => by rw [Bd.returns] at h; cases h)
  refine ⟨_, _, pre0 _ ?_, hrun, hended, _, _, rfl, ?_, ⟨_, rfl⟩, hW, hsame.mono (by decide) (by decide)⟩
  -- 4. STEPS
  · show Steps p.tables e below (s₁.setTop (mkF m 0 #[.val (.int p1), .val (.int p2), .val (.int p3), .val (.int p4), .val (.int p5), .val (.int p6), .unset, .unset, .unset, .unset, .unset, .unset, .unset, .unset, .unset, .unset, .unset, .unset, .unset, .unset, .unset, .unset, .unset, .unset] [])) _
    refine XS.iload X0.here hx rfl (hb hby at_0) rfl ?_
    show Steps p.tables e below (s₁.setTop (mkF m 2 #[.val (.int p1), .val (.int p2), .val (.int p3), .val (.int p4), .val (.int p5), .val (.int p6), .unset, .unset, .unset, .unset, .unset, .unset, .unset, .unset, .unset, .unset, .unset, .unset, .unset, .unset, .unset, .unset, .unset, .unset] [(.int p6)])) _
    refine XS.sipush X0.here hx rfl (hb hby at_2) ?_
    show Steps p.tables e below (s₁.setTop (mkF m 5 #[.val (.int p1), .val (.int p2), .val (.int p3), .val (.int p4), .val (.int p5), .val (.int p6), .unset, .unset, .unset, .unset, .unset, .unset, .unset, .unset, .unset, .unset, .unset, .unset, .unset, .unset, .unset, .unset, .unset, .unset] [(.int (255 : Int32)), (.int p6)])) _
    refine XS.iand X0.here hx rfl (hb hby at_5) rfl ?_
    show Steps p.tables e below (s₁.setTop (mkF m 6 #[.val (.int p1), .val (.int p2), .val (.int p3), .val (.int p4), .val (.int p5), .val (.int p6), .unset, .unset, .unset, .unset, .unset, .unset, .unset, .unset, .unset, .unset, .unset, .unset, .unset, .unset, .unset, .unset, .unset, .unset] [(.int (p6 &&& (255 : Int32)))])) _
    refine XS.i2c X0.here hx rfl (hb hby at_6) rfl ?_
    show Steps p.tables e below (s₁.setTop (mkF m 7 #[.val (.int p1), .val (.int p2), .val (.int p3), .val (.int p4), .val (.int p5), .val (.int p6), .unset, .unset, .unset, .unset, .unset, .unset, .unset, .unset, .unset, .unset, .unset, .unset, .unset, .unset, .unset, .unset, .unset, .unset] [(.int ((p6 &&& (255 : Int32)).toUInt32.toUInt16.toUInt32.toInt32))])) _
    refine st7 _ ?_
    show Steps p.tables e below (T7.setTop (mkF m 10 #[.val (.int p1), .val (.int p2), .val (.int p3), .val (.int p4), .val (.int p5), .val (.int p6), .unset, .unset, .unset, .unset, .unset, .unset, .unset, .unset, .unset, .unset, .unset, .unset, .unset, .unset, .unset, .unset, .unset, .unset] [(.ref r7)])) _
    refine XS.astore X7.here hx rfl (hb hby at_10) rfl rfl (l' := #[.val (.int p1), .val (.int p2), .val (.int p3), .val (.int p4), .val (.int p5), .val (.int p6), .val (.ref r7), .unset, .unset, .unset, .unset, .unset, .unset, .unset, .unset, .unset, .unset, .unset, .unset, .unset, .unset, .unset, .unset, .unset]) rfl ?_
    show Steps p.tables e below (T7.setTop (mkF m 12 #[.val (.int p1), .val (.int p2), .val (.int p3), .val (.int p4), .val (.int p5), .val (.int p6), .val (.ref r7), .unset, .unset, .unset, .unset, .unset, .unset, .unset, .unset, .unset, .unset, .unset, .unset, .unset, .unset, .unset, .unset, .unset] [])) _
    refine XS.iload X7.here hx rfl (hb hby at_12) rfl ?_
    show Steps p.tables e below (T7.setTop (mkF m 14 #[.val (.int p1), .val (.int p2), .val (.int p3), .val (.int p4), .val (.int p5), .val (.int p6), .val (.ref r7), .unset, .unset, .unset, .unset, .unset, .unset, .unset, .unset, .unset, .unset, .unset, .unset, .unset, .unset, .unset, .unset, .unset] [(.int p6)])) _
    refine XS.bipush X7.here hx rfl (hb hby at_14) ?_
    show Steps p.tables e below (T7.setTop (mkF m 16 #[.val (.int p1), .val (.int p2), .val (.int p3), .val (.int p4), .val (.int p5), .val (.int p6), .val (.ref r7), .unset, .unset, .unset, .unset, .unset, .unset, .unset, .unset, .unset, .unset, .unset, .unset, .unset, .unset, .unset, .unset, .unset] [(.int (8 : Int32)), (.int p6)])) _
    refine XS.iushr X7.here hx rfl (hb hby at_16) rfl ?_
    show Steps p.tables e below (T7.setTop (mkF m 17 #[.val (.int p1), .val (.int p2), .val (.int p3), .val (.int p4), .val (.int p5), .val (.int p6), .val (.ref r7), .unset, .unset, .unset, .unset, .unset, .unset, .unset, .unset, .unset, .unset, .unset, .unset, .unset, .unset, .unset, .unset, .unset] [(.int ((p6.toUInt32 >>> ((8 : Int32) &&& 31).toUInt32).toInt32))])) _
    refine XS.sipush X7.here hx rfl (hb hby at_17) ?_
    show Steps p.tables e below (T7.setTop (mkF m 20 #[.val (.int p1), .val (.int p2), .val (.int p3), .val (.int p4), .val (.int p5), .val (.int p6), .val (.ref r7), .unset, .unset, .unset, .unset, .unset, .unset, .unset, .unset, .unset, .unset, .unset, .unset, .unset, .unset, .unset, .unset, .unset] [(.int (255 : Int32)), (.int ((p6.toUInt32 >>> ((8 : Int32) &&& 31).toUInt32).toInt32))])) _
    refine XS.iand X7.here hx rfl (hb hby at_20) rfl ?_
    show Steps p.tables e below (T7.setTop (mkF m 21 #[.val (.int p1), .val (.int p2), .val (.int p3), .val (.int p4), .val (.int p5), .val (.int p6), .val (.ref r7), .unset, .unset, .unset, .unset, .unset, .unset, .unset, .unset, .unset, .unset, .unset, .unset, .unset, .unset, .unset, .unset, .unset] [(.int (((p6.toUInt32 >>> ((8 : Int32) &&& 31).toUInt32).toInt32) &&& (255 : Int32)))])) _
    refine XS.i2c X7.here hx rfl (hb hby at_21) rfl ?_
    show Steps p.tables e below (T7.setTop (mkF m 22 #[.val (.int p1), .val (.int p2), .val (.int p3), .val (.int p4), .val (.int p5), .val (.int p6), .val (.ref r7), .unset, .unset, .unset, .unset, .unset, .unset, .unset, .unset, .unset, .unset, .unset, .unset, .unset, .unset, .unset, .unset, .unset] [(.int ((((p6.toUInt32 >>> ((8 : Int32) &&& 31).toUInt32).toInt32) &&& (255 : Int32)).toUInt32.toUInt16.toUInt32.toInt32))])) _
    refine st8 _ ?_
    show Steps p.tables e below (T8.setTop (mkF m 25 #[.val (.int p1), .val (.int p2), .val (.int p3), .val (.int p4), .val (.int p5), .val (.int p6), .val (.ref r7), .unset, .unset, .unset, .unset, .unset, .unset, .unset, .unset, .unset, .unset, .unset, .unset, .unset, .unset, .unset, .unset, .unset] [(.ref r8)])) _
    refine XS.astore X8.here hx rfl (hb hby at_25) rfl rfl (l' := #[.val (.int p1), .val (.int p2), .val (.int p3), .val (.int p4), .val (.int p5), .val (.int p6), .val (.ref r7), .val (.ref r8), .unset, .unset, .unset, .unset, .unset, .unset, .unset, .unset, .unset, .unset, .unset, .unset, .unset, .unset, .unset, .unset]) rfl ?_
    show Steps p.tables e below (T8.setTop (mkF m 27 #[.val (.int p1), .val (.int p2), .val (.int p3), .val (.int p4), .val (.int p5), .val (.int p6), .val (.ref r7), .val (.ref r8), .unset, .unset, .unset, .unset, .unset, .unset, .unset, .unset, .unset, .unset, .unset, .unset, .unset, .unset, .unset, .unset] [])) _
    refine XS.iconst X8.here hx rfl (hb hby at_27) ?_
    show Steps p.tables e below (T8.setTop (mkF m 28 #[.val (.int p1), .val (.int p2), .val (.int p3), .val (.int p4), .val (.int p5), .val (.int p6), .val (.ref r7), .val (.ref r8), .unset, .unset, .unset, .unset, .unset, .unset, .unset, .unset, .unset, .unset, .unset, .unset, .unset, .unset, .unset, .unset] [(.int (2 : Int32))])) _
    refine st9 _ ?_
    show Steps p.tables e below (T9.setTop (mkF m 30 #[.val (.int p1), .val (.int p2), .val (.int p3), .val (.int p4), .val (.int p5), .val (.int p6), .val (.ref r7), .val (.ref r8), .unset, .unset, .unset, .unset, .unset, .unset, .unset, .unset, .unset, .unset, .unset, .unset, .unset, .unset, .unset, .unset] [(.ref b9)])) _
    refine XS.dup X9.here hx rfl (hb hby at_30) rfl rfl ?_
    show Steps p.tables e below (T9.setTop (mkF m 31 #[.val (.int p1), .val (.int p2), .val (.int p3), .val (.int p4), .val (.int p5), .val (.int p6), .val (.ref r7), .val (.ref r8), .unset, .unset, .unset, .unset, .unset, .unset, .unset, .unset, .unset, .unset, .unset, .unset, .unset, .unset, .unset, .unset] [(.ref b9), (.ref b9)])) _
    refine XS.iconst X9.here hx rfl (hb hby at_31) ?_
    show Steps p.tables e below (T9.setTop (mkF m 32 #[.val (.int p1), .val (.int p2), .val (.int p3), .val (.int p4), .val (.int p5), .val (.int p6), .val (.ref r7), .val (.ref r8), .unset, .unset, .unset, .unset, .unset, .unset, .unset, .unset, .unset, .unset, .unset, .unset, .unset, .unset, .unset, .unset] [(.int (0 : Int32)), (.ref b9), (.ref b9)])) _
    refine XS.iload X9.here hx rfl (hb hby at_32) rfl ?_
    show Steps p.tables e below (T9.setTop (mkF m 34 #[.val (.int p1), .val (.int p2), .val (.int p3), .val (.int p4), .val (.int p5), .val (.int p6), .val (.ref r7), .val (.ref r8), .unset, .unset, .unset, .unset, .unset, .unset, .unset, .unset, .unset, .unset, .unset, .unset, .unset, .unset, .unset, .unset] [(.int p6), (.int (0 : Int32)), (.ref b9), (.ref b9)])) _
    refine XS.bipush X9.here hx rfl (hb hby at_34) ?_
    show Steps p.tables e below (T9.setTop (mkF m 36 #[.val (.int p1), .val (.int p2), .val (.int p3), .val (.int p4), .val (.int p5), .val (.int p6), .val (.ref r7), .val (.ref r8), .unset, .unset, .unset, .unset, .unset, .unset, .unset, .unset, .unset, .unset, .unset, .unset, .unset, .unset, .unset, .unset] [(.int (16 : Int32)), (.int p6), (.int (0 : Int32)), (.ref b9), (.ref b9)])) _
    refine XS.iushr X9.here hx rfl (hb hby at_36) rfl ?_
    show Steps p.tables e below (T9.setTop (mkF m 37 #[.val (.int p1), .val (.int p2), .val (.int p3), .val (.int p4), .val (.int p5), .val (.int p6), .val (.ref r7), .val (.ref r8), .unset, .unset, .unset, .unset, .unset, .unset, .unset, .unset, .unset, .unset, .unset, .unset, .unset, .unset, .unset, .unset] [(.int ((p6.toUInt32 >>> ((16 : Int32) &&& 31).toUInt32).toInt32)), (.int (0 : Int32)), (.ref b9), (.ref b9)])) _
    refine XS.sipush X9.here hx rfl (hb hby at_37) ?_
    show Steps p.tables e below (T9.setTop (mkF m 40 #[.val (.int p1), .val (.int p2), .val (.int p3), .val (.int p4), .val (.int p5), .val (.int p6), .val (.ref r7), .val (.ref r8), .unset, .unset, .unset, .unset, .unset, .unset, .unset, .unset, .unset, .unset, .unset, .unset, .unset, .unset, .unset, .unset] [(.int (255 : Int32)), (.int ((p6.toUInt32 >>> ((16 : Int32) &&& 31).toUInt32).toInt32)), (.int (0 : Int32)), (.ref b9), (.ref b9)])) _
    refine XS.iand X9.here hx rfl (hb hby at_40) rfl ?_
    show Steps p.tables e below (T9.setTop (mkF m 41 #[.val (.int p1), .val (.int p2), .val (.int p3), .val (.int p4), .val (.int p5), .val (.int p6), .val (.ref r7), .val (.ref r8), .unset, .unset, .unset, .unset, .unset, .unset, .unset, .unset, .unset, .unset, .unset, .unset, .unset, .unset, .unset, .unset] [(.int (((p6.toUInt32 >>> ((16 : Int32) &&& 31).toUInt32).toInt32) &&& (255 : Int32))), (.int (0 : Int32)), (.ref b9), (.ref b9)])) _
    refine XS.i2c X9.here hx rfl (hb hby at_41) rfl ?_
    show Steps p.tables e below (T9.setTop (mkF m 42 #[.val (.int p1), .val (.int p2), .val (.int p3), .val (.int p4), .val (.int p5), .val (.int p6), .val (.ref r7), .val (.ref r8), .unset, .unset, .unset, .unset, .unset, .unset, .unset, .unset, .unset, .unset, .unset, .unset, .unset, .unset, .unset, .unset] [(.int ((((p6.toUInt32 >>> ((16 : Int32) &&& 31).toUInt32).toInt32) &&& (255 : Int32)).toUInt32.toUInt16.toUInt32.toInt32)), (.int (0 : Int32)), (.ref b9), (.ref b9)])) _
    refine st10 _ ?_
    show Steps p.tables e below (T10.setTop (mkF m 43 #[.val (.int p1), .val (.int p2), .val (.int p3), .val (.int p4), .val (.int p5), .val (.int p6), .val (.ref r7), .val (.ref r8), .unset, .unset, .unset, .unset, .unset, .unset, .unset, .unset, .unset, .unset, .unset, .unset, .unset, .unset, .unset, .unset] [(.ref b9)])) _
    refine XS.dup X10.here hx rfl (hb hby at_43) rfl rfl ?_
    show Steps p.tables e below (T10.setTop (mkF m 44 #[.val (.int p1), .val (.int p2), .val (.int p3), .val (.int p4), .val (.int p5), .val (.int p6), .val (.ref r7), .val (.ref r8), .unset, .unset, .unset, .unset, .unset, .unset, .unset, .unset, .unset, .unset, .unset, .unset, .unset, .unset, .unset, .unset] [(.ref b9), (.ref b9)])) _
    refine XS.iconst X10.here hx rfl (hb hby at_44) ?_
    show Steps p.tables e below (T10.setTop (mkF m 45 #[.val (.int p1), .val (.int p2), .val (.int p3), .val (.int p4), .val (.int p5), .val (.int p6), .val (.ref r7), .val (.ref r8), .unset, .unset, .unset, .unset, .unset, .unset, .unset, .unset, .unset, .unset, .unset, .unset, .unset, .unset, .unset, .unset] [(.int (1 : Int32)), (.ref b9), (.ref b9)])) _
    refine XS.iload X10.here hx rfl (hb hby at_45) rfl ?_
    show Steps p.tables e below (T10.setTop (mkF m 47 #[.val (.int p1), .val (.int p2), .val (.int p3), .val (.int p4), .val (.int p5), .val (.int p6), .val (.ref r7), .val (.ref r8), .unset, .unset, .unset, .unset, .unset, .unset, .unset, .unset, .unset, .unset, .unset, .unset, .unset, .unset, .unset, .unset] [(.int p6), (.int (1 : Int32)), (.ref b9), (.ref b9)])) _
    refine XS.bipush X10.here hx rfl (hb hby at_47) ?_
    show Steps p.tables e below (T10.setTop (mkF m 49 #[.val (.int p1), .val (.int p2), .val (.int p3), .val (.int p4), .val (.int p5), .val (.int p6), .val (.ref r7), .val (.ref r8), .unset, .unset, .unset, .unset, .unset, .unset, .unset, .unset, .unset, .unset, .unset, .unset, .unset, .unset, .unset, .unset] [(.int (24 : Int32)), (.int p6), (.int (1 : Int32)), (.ref b9), (.ref b9)])) _
    refine XS.iushr X10.here hx rfl (hb hby at_49) rfl ?_
    show Steps p.tables e below (T10.setTop (mkF m 50 #[.val (.int p1), .val (.int p2), .val (.int p3), .val (.int p4), .val (.int p5), .val (.int p6), .val (.ref r7), .val (.ref r8), .unset, .unset, .unset, .unset, .unset, .unset, .unset, .unset, .unset, .unset, .unset, .unset, .unset, .unset, .unset, .unset] [(.int ((p6.toUInt32 >>> ((24 : Int32) &&& 31).toUInt32).toInt32)), (.int (1 : Int32)), (.ref b9), (.ref b9)])) _
    refine XS.sipush X10.here hx rfl (hb hby at_50) ?_
    show Steps p.tables e below (T10.setTop (mkF m 53 #[.val (.int p1), .val (.int p2), .val (.int p3), .val (.int p4), .val (.int p5), .val (.int p6), .val (.ref r7), .val (.ref r8), .unset, .unset, .unset, .unset, .unset, .unset, .unset, .unset, .unset, .unset, .unset, .unset, .unset, .unset, .unset, .unset] [(.int (255 : Int32)), (.int ((p6.toUInt32 >>> ((24 : Int32) &&& 31).toUInt32).toInt32)), (.int (1 : Int32)), (.ref b9), (.ref b9)])) _
    refine XS.iand X10.here hx rfl (hb hby at_53) rfl ?_
    show Steps p.tables e below (T10.setTop (mkF m 54 #[.val (.int p1), .val (.int p2), .val (.int p3), .val (.int p4), .val (.int p5), .val (.int p6), .val (.ref r7), .val (.ref r8), .unset, .unset, .unset, .unset, .unset, .unset, .unset, .unset, .unset, .unset, .unset, .unset, .unset, .unset, .unset, .unset] [(.int (((p6.toUInt32 >>> ((24 : Int32) &&& 31).toUInt32).toInt32) &&& (255 : Int32))), (.int (1 : Int32)), (.ref b9), (.ref b9)])) _
    refine XS.i2c X10.here hx rfl (hb hby at_54) rfl ?_
    show Steps p.tables e below (T10.setTop (mkF m 55 #[.val (.int p1), .val (.int p2), .val (.int p3), .val (.int p4), .val (.int p5), .val (.int p6), .val (.ref r7), .val (.ref r8), .unset, .unset, .unset, .unset, .unset, .unset, .unset, .unset, .unset, .unset, .unset, .unset, .unset, .unset, .unset, .unset] [(.int ((((p6.toUInt32 >>> ((24 : Int32) &&& 31).toUInt32).toInt32) &&& (255 : Int32)).toUInt32.toUInt16.toUInt32.toInt32)), (.int (1 : Int32)), (.ref b9), (.ref b9)])) _
    refine st11 _ ?_
    show Steps p.tables e below (T11.setTop (mkF m 56 #[.val (.int p1), .val (.int p2), .val (.int p3), .val (.int p4), .val (.int p5), .val (.int p6), .val (.ref r7), .val (.ref r8), .unset, .unset, .unset, .unset, .unset, .unset, .unset, .unset, .unset, .unset, .unset, .unset, .unset, .unset, .unset, .unset] [(.ref b9)])) _
    refine XS.astore X11.here hx rfl (hb hby at_56) rfl rfl (l' := #[.val (.int p1), .val (.int p2), .val (.int p3), .val (.int p4), .val (.int p5), .val (.int p6), .val (.ref r7), .val (.ref r8), .val (.ref b9), .unset, .unset, .unset, .unset, .unset, .unset, .unset, .unset, .unset, .unset, .unset, .unset, .unset, .unset, .unset]) rfl ?_
    show Steps p.tables e below (T11.setTop (mkF m 58 #[.val (.int p1), .val (.int p2), .val (.int p3), .val (.int p4), .val (.int p5), .val (.int p6), .val (.ref r7), .val (.ref r8), .val (.ref b9), .unset, .unset, .unset, .unset, .unset, .unset, .unset, .unset, .unset, .unset, .unset, .unset, .unset, .unset, .unset] [])) _
    refine st12 _ ?_
    show Steps p.tables e below (T12.setTop (mkF m 61 #[.val (.int p1), .val (.int p2), .val (.int p3), .val (.int p4), .val (.int p5), .val (.int p6), .val (.ref r7), .val (.ref r8), .val (.ref b9), .unset, .unset, .unset, .unset, .unset, .unset, .unset, .unset, .unset, .unset, .unset, .unset, .unset, .unset, .unset] [(.ref b12)])) _
    refine XS.dup X12.here hx rfl (hb hby at_61) rfl rfl ?_
    show Steps p.tables e below (T12.setTop (mkF m 62 #[.val (.int p1), .val (.int p2), .val (.int p3), .val (.int p4), .val (.int p5), .val (.int p6), .val (.ref r7), .val (.ref r8), .val (.ref b9), .unset, .unset, .unset, .unset, .unset, .unset, .unset, .unset, .unset, .unset, .unset, .unset, .unset, .unset, .unset] [(.ref b12), (.ref b12)])) _
    refine XS.aload X12.here hx rfl (hb hby at_62) rfl rfl ?_
    show Steps p.tables e below (T12.setTop (mkF m 64 #[.val (.int p1), .val (.int p2), .val (.int p3), .val (.int p4), .val (.int p5), .val (.int p6), .val (.ref r7), .val (.ref r8), .val (.ref b9), .unset, .unset, .unset, .unset, .unset, .unset, .unset, .unset, .unset, .unset, .unset, .unset, .unset, .unset, .unset] [(.ref b9), (.ref b12), (.ref b12)])) _
    refine st13.trans ?_
    show Steps p.tables e below (T13.setTop (mkF m 67 #[.val (.int p1), .val (.int p2), .val (.int p3), .val (.int p4), .val (.int p5), .val (.int p6), .val (.ref r7), .val (.ref r8), .val (.ref b9), .unset, .unset, .unset, .unset, .unset, .unset, .unset, .unset, .unset, .unset, .unset, .unset, .unset, .unset, .unset] [(.ref b12)])) _
    refine XS.astore X13.here hx rfl (hb hby at_67) rfl rfl (l' := #[.val (.int p1), .val (.int p2), .val (.int p3), .val (.int p4), .val (.int p5), .val (.int p6), .val (.ref r7), .val (.ref r8), .val (.ref b9), .val (.ref b12), .unset, .unset, .unset, .unset, .unset, .unset, .unset, .unset, .unset, .unset, .unset, .unset, .unset, .unset]) rfl ?_
    show Steps p.tables e below (T13.setTop (mkF m 69 #[.val (.int p1), .val (.int p2), .val (.int p3), .val (.int p4), .val (.int p5), .val (.int p6), .val (.ref r7), .val (.ref r8), .val (.ref b9), .val (.ref b12), .unset, .unset, .unset, .unset, .unset, .unset, .unset, .unset, .unset, .unset, .unset, .unset, .unset, .unset] [])) _
    refine st14 _ ?_
    show Steps p.tables e below (T14.setTop (mkF m 72 #[.val (.int p1), .val (.int p2), .val (.int p3), .val (.int p4), .val (.int p5), .val (.int p6), .val (.ref r7), .val (.ref r8), .val (.ref b9), .val (.ref b12), .unset, .unset, .unset, .unset, .unset, .unset, .unset, .unset, .unset, .unset, .unset, .unset, .unset, .unset] [(.ref b14)])) _
    refine XS.dup X14.here hx rfl (hb hby at_72) rfl rfl ?_
    show Steps p.tables e below (T14.setTop (mkF m 73 #[.val (.int p1), .val (.int p2), .val (.int p3), .val (.int p4), .val (.int p5), .val (.int p6), .val (.ref r7), .val (.ref r8), .val (.ref b9), .val (.ref b12), .unset, .unset, .unset, .unset, .unset, .unset, .unset, .unset, .unset, .unset, .unset, .unset, .unset, .unset] [(.ref b14), (.ref b14)])) _
    refine XS.aload X14.here hx rfl (hb hby at_73) rfl rfl ?_
    show Steps p.tables e below (T14.setTop (mkF m 75 #[.val (.int p1), .val (.int p2), .val (.int p3), .val (.int p4), .val (.int p5), .val (.int p6), .val (.ref r7), .val (.ref r8), .val (.ref b9), .val (.ref b12), .unset, .unset, .unset, .unset, .unset, .unset, .unset, .unset, .unset, .unset, .unset, .unset, .unset, .unset] [(.ref r7), (.ref b14), (.ref b14)])) _
    refine XS.iloadN X14.here hx rfl (hb hby at_75) rfl ?_
    show Steps p.tables e below (T14.setTop (mkF m 76 #[.val (.int p1), .val (.int p2), .val (.int p3), .val (.int p4), .val (.int p5), .val (.int p6), .val (.ref r7), .val (.ref r8), .val (.ref b9), .val (.ref b12), .unset, .unset, .unset, .unset, .unset, .unset, .unset, .unset, .unset, .unset, .unset, .unset, .unset, .unset] [(.int p1), (.ref r7), (.ref b14), (.ref b14)])) _
    refine XS.iloadN X14.here hx rfl (hb hby at_76) rfl ?_
    show Steps p.tables e below (T14.setTop (mkF m 77 #[.val (.int p1), .val (.int p2), .val (.int p3), .val (.int p4), .val (.int p5), .val (.int p6), .val (.ref r7), .val (.ref r8), .val (.ref b9), .val (.ref b12), .unset, .unset, .unset, .unset, .unset, .unset, .unset, .unset, .unset, .unset, .unset, .unset, .unset, .unset] [(.int p2), (.int p1), (.ref r7), (.ref b14), (.ref b14)])) _
    refine st15.trans ?_
    show Steps p.tables e below (T15.setTop (mkF m 80 #[.val (.int p1), .val (.int p2), .val (.int p3), .val (.int p4), .val (.int p5), .val (.int p6), .val (.ref r7), .val (.ref r8), .val (.ref b9), .val (.ref b12), .unset, .unset, .unset, .unset, .unset, .unset, .unset, .unset, .unset, .unset, .unset, .unset, .unset, .unset] [(.ref b14)])) _
    refine XS.astore X15.here hx rfl (hb hby at_80) rfl rfl (l' := #[.val (.int p1), .val (.int p2), .val (.int p3), .val (.int p4), .val (.int p5), .val (.int p6), .val (.ref r7), .val (.ref r8), .val (.ref b9), .val (.ref b12), .val (.ref b14), .unset, .unset, .unset, .unset, .unset, .unset, .unset, .unset, .unset, .unset, .unset, .unset, .unset]) rfl ?_
    show Steps p.tables e below (T15.setTop (mkF m 82 #[.val (.int p1), .val (.int p2), .val (.int p3), .val (.int p4), .val (.int p5), .val (.int p6), .val (.ref r7), .val (.ref r8), .val (.ref b9), .val (.ref b12), .val (.ref b14), .unset, .unset, .unset, .unset, .unset, .unset, .unset, .unset, .unset, .unset, .unset, .unset, .unset] [])) _
    refine st16 _ ?_
    show Steps p.tables e below (T16.setTop (mkF m 85 #[.val (.int p1), .val (.int p2), .val (.int p3), .val (.int p4), .val (.int p5), .val (.int p6), .val (.ref r7), .val (.ref r8), .val (.ref b9), .val (.ref b12), .val (.ref b14), .unset, .unset, .unset, .unset, .unset, .unset, .unset, .unset, .unset, .unset, .unset, .unset, .unset] [(.ref b16)])) _
    refine XS.dup X16.here hx rfl (hb hby at_85) rfl rfl ?_
    show Steps p.tables e below (T16.setTop (mkF m 86 #[.val (.int p1), .val (.int p2), .val (.int p3), .val (.int p4), .val (.int p5), .val (.int p6), .val (.ref r7), .val (.ref r8), .val (.ref b9), .val (.ref b12), .val (.ref b14), .unset, .unset, .unset, .unset, .unset, .unset, .unset, .unset, .unset, .unset, .unset, .unset, .unset] [(.ref b16), (.ref b16)])) _
    refine XS.aload X16.here hx rfl (hb hby at_86) rfl rfl ?_
    show Steps p.tables e below (T16.setTop (mkF m 88 #[.val (.int p1), .val (.int p2), .val (.int p3), .val (.int p4), .val (.int p5), .val (.int p6), .val (.ref r7), .val (.ref r8), .val (.ref b9), .val (.ref b12), .val (.ref b14), .unset, .unset, .unset, .unset, .unset, .unset, .unset, .unset, .unset, .unset, .unset, .unset, .unset] [(.ref r8), (.ref b16), (.ref b16)])) _
    refine XS.iloadN X16.here hx rfl (hb hby at_88) rfl ?_
    show Steps p.tables e below (T16.setTop (mkF m 89 #[.val (.int p1), .val (.int p2), .val (.int p3), .val (.int p4), .val (.int p5), .val (.int p6), .val (.ref r7), .val (.ref r8), .val (.ref b9), .val (.ref b12), .val (.ref b14), .unset, .unset, .unset, .unset, .unset, .unset, .unset, .unset, .unset, .unset, .unset, .unset, .unset] [(.int p3), (.ref r8), (.ref b16), (.ref b16)])) _
    refine XS.iloadN X16.here hx rfl (hb hby at_89) rfl ?_
    show Steps p.tables e below (T16.setTop (mkF m 90 #[.val (.int p1), .val (.int p2), .val (.int p3), .val (.int p4), .val (.int p5), .val (.int p6), .val (.ref r7), .val (.ref r8), .val (.ref b9), .val (.ref b12), .val (.ref b14), .unset, .unset, .unset, .unset, .unset, .unset, .unset, .unset, .unset, .unset, .unset, .unset, .unset] [(.int p4), (.int p3), (.ref r8), (.ref b16), (.ref b16)])) _
    refine st17.trans ?_
    show Steps p.tables e below (T17.setTop (mkF m 93 #[.val (.int p1), .val (.int p2), .val (.int p3), .val (.int p4), .val (.int p5), .val (.int p6), .val (.ref r7), .val (.ref r8), .val (.ref b9), .val (.ref b12), .val (.ref b14), .unset, .unset, .unset, .unset, .unset, .unset, .unset, .unset, .unset, .unset, .unset, .unset, .unset] [(.ref b16)])) _
    refine XS.astore X17.here hx rfl (hb hby at_93) rfl rfl (l' := #[.val (.int p1), .val (.int p2), .val (.int p3), .val (.int p4), .val (.int p5), .val (.int p6), .val (.ref r7), .val (.ref r8), .val (.ref b9), .val (.ref b12), .val (.ref b14), .val (.ref b16), .unset, .unset, .unset, .unset, .unset, .unset, .unset, .unset, .unset, .unset, .unset, .unset]) rfl ?_
    show Steps p.tables e below (T17.setTop (mkF m 95 #[.val (.int p1), .val (.int p2), .val (.int p3), .val (.int p4), .val (.int p5), .val (.int p6), .val (.ref r7), .val (.ref r8), .val (.ref b9), .val (.ref b12), .val (.ref b14), .val (.ref b16), .unset, .unset, .unset, .unset, .unset, .unset, .unset, .unset, .unset, .unset, .unset, .unset] [])) _
    refine st18 _ ?_
    show Steps p.tables e below (T18.setTop (mkF m 98 #[.val (.int p1), .val (.int p2), .val (.int p3), .val (.int p4), .val (.int p5), .val (.int p6), .val (.ref r7), .val (.ref r8), .val (.ref b9), .val (.ref b12), .val (.ref b14), .val (.ref b16), .unset, .unset, .unset, .unset, .unset, .unset, .unset, .unset, .unset, .unset, .unset, .unset] [(.ref b18)])) _
    refine XS.dup X18.here hx rfl (hb hby at_98) rfl rfl ?_
    show Steps p.tables e below (T18.setTop (mkF m 99 #[.val (.int p1), .val (.int p2), .val (.int p3), .val (.int p4), .val (.int p5), .val (.int p6), .val (.ref r7), .val (.ref r8), .val (.ref b9), .val (.ref b12), .val (.ref b14), .val (.ref b16), .unset, .unset, .unset, .unset, .unset, .unset, .unset, .unset, .unset, .unset, .unset, .unset] [(.ref b18), (.ref b18)])) _
    refine XS.aload X18.here hx rfl (hb hby at_99) rfl rfl ?_
    show Steps p.tables e below (T18.setTop (mkF m 101 #[.val (.int p1), .val (.int p2), .val (.int p3), .val (.int p4), .val (.int p5), .val (.int p6), .val (.ref r7), .val (.ref r8), .val (.ref b9), .val (.ref b12), .val (.ref b14), .val (.ref b16), .unset, .unset, .unset, .unset, .unset, .unset, .unset, .unset, .unset, .unset, .unset, .unset] [(.ref r7), (.ref b18), (.ref b18)])) _
    refine XS.iloadN X18.here hx rfl (hb hby at_101) rfl ?_
    show Steps p.tables e below (T18.setTop (mkF m 102 #[.val (.int p1), .val (.int p2), .val (.int p3), .val (.int p4), .val (.int p5), .val (.int p6), .val (.ref r7), .val (.ref r8), .val (.ref b9), .val (.ref b12), .val (.ref b14), .val (.ref b16), .unset, .unset, .unset, .unset, .unset, .unset, .unset, .unset, .unset, .unset, .unset, .unset] [(.int p3), (.ref r7), (.ref b18), (.ref b18)])) _
    refine XS.iloadN X18.here hx rfl (hb hby at_102) rfl ?_
    show Steps p.tables e below (T18.setTop (mkF m 103 #[.val (.int p1), .val (.int p2), .val (.int p3), .val (.int p4), .val (.int p5), .val (.int p6), .val (.ref r7), .val (.ref r8), .val (.ref b9), .val (.ref b12), .val (.ref b14), .val (.ref b16), .unset, .unset, .unset, .unset, .unset, .unset, .unset, .unset, .unset, .unset, .unset, .unset] [(.int p2), (.int p3), (.ref r7), (.ref b18), (.ref b18)])) _
    refine st19.trans ?_
    show Steps p.tables e below (T19.setTop (mkF m 106 #[.val (.int p1), .val (.int p2), .val (.int p3), .val (.int p4), .val (.int p5), .val (.int p6), .val (.ref r7), .val (.ref r8), .val (.ref b9), .val (.ref b12), .val (.ref b14), .val (.ref b16), .unset, .unset, .unset, .unset, .unset, .unset, .unset, .unset, .unset, .unset, .unset, .unset] [(.ref b18)])) _
    refine XS.astore X19.here hx rfl (hb hby at_106) rfl rfl (l' := #[.val (.int p1), .val (.int p2), .val (.int p3), .val (.int p4), .val (.int p5), .val (.int p6), .val (.ref r7), .val (.ref r8), .val (.ref b9), .val (.ref b12), .val (.ref b14), .val (.ref b16), .val (.ref b18), .unset, .unset, .unset, .unset, .unset, .unset, .unset, .unset, .unset, .unset, .unset]) rfl ?_
    show Steps p.tables e below (T19.setTop (mkF m 108 #[.val (.int p1), .val (.int p2), .val (.int p3), .val (.int p4), .val (.int p5), .val (.int p6), .val (.ref r7), .val (.ref r8), .val (.ref b9), .val (.ref b12), .val (.ref b14), .val (.ref b16), .val (.ref b18), .unset, .unset, .unset, .unset, .unset, .unset, .unset, .unset, .unset, .unset, .unset] [])) _
    refine XS.iload X19.here hx rfl (hb hby at_108) rfl ?_
    show Steps p.tables e below (T19.setTop (mkF m 110 #[.val (.int p1), .val (.int p2), .val (.int p3), .val (.int p4), .val (.int p5), .val (.int p6), .val (.ref r7), .val (.ref r8), .val (.ref b9), .val (.ref b12), .val (.ref b14), .val (.ref b16), .val (.ref b18), .unset, .unset, .unset, .unset, .unset, .unset, .unset, .unset, .unset, .unset, .unset] [(.int p5)])) _
    refine XS.iconst X19.here hx rfl (hb hby at_110) ?_
    show Steps p.tables e below (T19.setTop (mkF m 111 #[.val (.int p1), .val (.int p2), .val (.int p3), .val (.int p4), .val (.int p5), .val (.int p6), .val (.ref r7), .val (.ref r8), .val (.ref b9), .val (.ref b12), .val (.ref b14), .val (.ref b16), .val (.ref b18), .unset, .unset, .unset, .unset, .unset, .unset, .unset, .unset, .unset, .unset, .unset] [(.int (2 : Int32)), (.int p5)])) _
    refine XS.iushr X19.here hx rfl (hb hby at_111) rfl ?_
    show Steps p.tables e below (T19.setTop (mkF m 112 #[.val (.int p1), .val (.int p2), .val (.int p3), .val (.int p4), .val (.int p5), .val (.int p6), .val (.ref r7), .val (.ref r8), .val (.ref b9), .val (.ref b12), .val (.ref b14), .val (.ref b16), .val (.ref b18), .unset, .unset, .unset, .unset, .unset, .unset, .unset, .unset, .unset, .unset, .unset] [(.int ((p5.toUInt32 >>> ((2 : Int32) &&& 31).toUInt32).toInt32))])) _
    refine XS.iconst X19.here hx rfl (hb hby at_112) ?_
    show Steps p.tables e below (T19.setTop (mkF m 113 #[.val (.int p1), .val (.int p2), .val (.int p3), .val (.int p4), .val (.int p5), .val (.int p6), .val (.ref r7), .val (.ref r8), .val (.ref b9), .val (.ref b12), .val (.ref b14), .val (.ref b16), .val (.ref b18), .unset, .unset, .unset, .unset, .unset, .unset, .unset, .unset, .unset, .unset, .unset] [(.int (1 : Int32)), (.int ((p5.toUInt32 >>> ((2 : Int32) &&& 31).toUInt32).toInt32))])) _
    refine XS.iand X19.here hx rfl (hb hby at_113) rfl ?_
    show Steps p.tables e below (T19.setTop (mkF m 114 #[.val (.int p1), .val (.int p2), .val (.int p3), .val (.int p4), .val (.int p5), .val (.int p6), .val (.ref r7), .val (.ref r8), .val (.ref b9), .val (.ref b12), .val (.ref b14), .val (.ref b16), .val (.ref b18), .unset, .unset, .unset, .unset, .unset, .unset, .unset, .unset, .unset, .unset, .unset] [(.int (((p5.toUInt32 >>> ((2 : Int32) &&& 31).toUInt32).toInt32) &&& (1 : Int32)))])) _
    refine XS.ifYes X19.here hx rfl (pc0 := 114) (pc' := 121) rfl (hb hby at_114) rfl ((if0 _ _).trans (teq hc114).1) (by decide) (by decide) ?_
    show Steps p.tables e below (T19.setTop (mkF m 121 #[.val (.int p1), .val (.int p2), .val (.int p3), .val (.int p4), .val (.int p5), .val (.int p6), .val (.ref r7), .val (.ref r8), .val (.ref b9), .val (.ref b12), .val (.ref b14), .val (.ref b16), .val (.ref b18), .unset, .unset, .unset, .unset, .unset, .unset, .unset, .unset, .unset, .unset, .unset] [])) _
    refine XS.iconst X19.here hx rfl (hb hby at_121) ?_
    show Steps p.tables e below (T19.setTop (mkF m 122 #[.val (.int p1), .val (.int p2), .val (.int p3), .val (.int p4), .val (.int p5), .val (.int p6), .val (.ref r7), .val (.ref r8), .val (.ref b9), .val (.ref b12), .val (.ref b14), .val (.ref b16), .val (.ref b18), .unset, .unset, .unset, .unset, .unset, .unset, .unset, .unset, .unset, .unset, .unset] [(.int (0 : Int32))])) _
    refine XS.istore X19.here hx rfl (hb hby at_122) rfl (l' := #[.val (.int p1), .val (.int p2), .val (.int p3), .val (.int p4), .val (.int p5), .val (.int p6), .val (.ref r7), .val (.ref r8), .val (.ref b9), .val (.ref b12), .val (.ref b14), .val (.ref b16), .val (.ref b18), .val (.int (0 : Int32)), .unset, .unset, .unset, .unset, .unset, .unset, .unset, .unset, .unset, .unset]) rfl ?_
    show Steps p.tables e below (T19.setTop (mkF m 124 #[.val (.int p1), .val (.int p2), .val (.int p3), .val (.int p4), .val (.int p5), .val (.int p6), .val (.ref r7), .val (.ref r8), .val (.ref b9), .val (.ref b12), .val (.ref b14), .val (.ref b16), .val (.ref b18), .val (.int (0 : Int32)), .unset, .unset, .unset, .unset, .unset, .unset, .unset, .unset, .unset, .unset] [])) _
    refine XS.iload X19.here hx rfl (hb hby at_124) rfl ?_
    show Steps p.tables e below (T19.setTop (mkF m 126 #[.val (.int p1), .val (.int p2), .val (.int p3), .val (.int p4), .val (.int p5), .val (.int p6), .val (.ref r7), .val (.ref r8), .val (.ref b9), .val (.ref b12), .val (.ref b14), .val (.ref b16), .val (.ref b18), .val (.int (0 : Int32)), .unset, .unset, .unset, .unset, .unset, .unset, .unset, .unset, .unset, .unset] [(.int p5)])) _
    refine XS.iconst X19.here hx rfl (hb hby at_126) ?_
    show Steps p.tables e below (T19.setTop (mkF m 127 #[.val (.int p1), .val (.int p2), .val (.int p3), .val (.int p4), .val (.int p5), .val (.int p6), .val (.ref r7), .val (.ref r8), .val (.ref b9), .val (.ref b12), .val (.ref b14), .val (.ref b16), .val (.ref b18), .val (.int (0 : Int32)), .unset, .unset, .unset, .unset, .unset, .unset, .unset, .unset, .unset, .unset] [(.int (3 : Int32)), (.int p5)])) _
    refine XS.iushr X19.here hx rfl (hb hby at_127) rfl ?_
    show Steps p.tables e below (T19.setTop (mkF m 128 #[.val (.int p1), .val (.int p2), .val (.int p3), .val (.int p4), .val (.int p5), .val (.int p6), .val (.ref r7), .val (.ref r8), .val (.ref b9), .val (.ref b12), .val (.ref b14), .val (.ref b16), .val (.ref b18), .val (.int (0 : Int32)), .unset, .unset, .unset, .unset, .unset, .unset, .unset, .unset, .unset, .unset] [(.int ((p5.toUInt32 >>> ((3 : Int32) &&& 31).toUInt32).toInt32))])) _
    refine XS.iconst X19.here hx rfl (hb hby at_128) ?_
    show Steps p.tables e below (T19.setTop (mkF m 129 #[.val (.int p1), .val (.int p2), .val (.int p3), .val (.int p4), .val (.int p5), .val (.int p6), .val (.ref r7), .val (.ref r8), .val (.ref b9), .val (.ref b12), .val (.ref b14), .val (.ref b16), .val (.ref b18), .val (.int (0 : Int32)), .unset, .unset, .unset, .unset, .unset, .unset, .unset, .unset, .unset, .unset] [(.int (1 : Int32)), (.int ((p5.toUInt32 >>> ((3 : Int32) &&& 31).toUInt32).toInt32))])) _
    refine XS.iand X19.here hx rfl (hb hby at_129) rfl ?_
    show Steps p.tables e below (T19.setTop (mkF m 130 #[.val (.int p1), .val (.int p2), .val (.int p3), .val (.int p4), .val (.int p5), .val (.int p6), .val (.ref r7), .val (.ref r8), .val (.ref b9), .val (.ref b12), .val (.ref b14), .val (.ref b16), .val (.ref b18), .val (.int (0 : Int32)), .unset, .unset, .unset, .unset, .unset, .unset, .unset, .unset, .unset, .unset] [(.int (((p5.toUInt32 >>> ((3 : Int32) &&& 31).toUInt32).toInt32) &&& (1 : Int32)))])) _
    refine XS.ifYes X19.here hx rfl (pc0 := 130) (pc' := 137) rfl (hb hby at_130) rfl ((if0 _ _).trans (teq hc130).1) (by decide) (by decide) ?_
    show Steps p.tables e below (T19.setTop (mkF m 137 #[.val (.int p1), .val (.int p2), .val (.int p3), .val (.int p4), .val (.int p5), .val (.int p6), .val (.ref r7), .val (.ref r8), .val (.ref b9), .val (.ref b12), .val (.ref b14), .val (.ref b16), .val (.ref b18), .val (.int (0 : Int32)), .unset, .unset, .unset, .unset, .unset, .unset, .unset, .unset, .unset, .unset] [])) _
    refine XS.iconst X19.here hx rfl (hb hby at_137) ?_
    show Steps p.tables e below (T19.setTop (mkF m 138 #[.val (.int p1), .val (.int p2), .val (.int p3), .val (.int p4), .val (.int p5), .val (.int p6), .val (.ref r7), .val (.ref r8), .val (.ref b9), .val (.ref b12), .val (.ref b14), .val (.ref b16), .val (.ref b18), .val (.int (0 : Int32)), .unset, .unset, .unset, .unset, .unset, .unset, .unset, .unset, .unset, .unset] [(.int (0 : Int32))])) _
    refine XS.istore X19.here hx rfl (hb hby at_138) rfl (l' := #[.val (.int p1), .val (.int p2), .val (.int p3), .val (.int p4), .val (.int p5), .val (.int p6), .val (.ref r7), .val (.ref r8), .val (.ref b9), .val (.ref b12), .val (.ref b14), .val (.ref b16), .val (.ref b18), .val (.int (0 : Int32)), .val (.int (0 : Int32)), .unset, .unset, .unset, .unset, .unset, .unset, .unset, .unset, .unset]) rfl ?_
    show Steps p.tables e below (T19.setTop (mkF m 140 #[.val (.int p1), .val (.int p2), .val (.int p3), .val (.int p4), .val (.int p5), .val (.int p6), .val (.ref r7), .val (.ref r8), .val (.ref b9), .val (.ref b12), .val (.ref b14), .val (.ref b16), .val (.ref b18), .val (.int (0 : Int32)), .val (.int (0 : Int32)), .unset, .unset, .unset, .unset, .unset, .unset, .unset, .unset, .unset] [])) _
    refine st20 _ ?_
    show Steps p.tables e below (T20.setTop (mkF m 143 #[.val (.int p1), .val (.int p2), .val (.int p3), .val (.int p4), .val (.int p5), .val (.int p6), .val (.ref r7), .val (.ref r8), .val (.ref b9), .val (.ref b12), .val (.ref b14), .val (.ref b16), .val (.ref b18), .val (.int (0 : Int32)), .val (.int (0 : Int32)), .unset, .unset, .unset, .unset, .unset, .unset, .unset, .unset, .unset] [(.ref b20)])) _
    refine XS.dup X20.here hx rfl (hb hby at_143) rfl rfl ?_
    show Steps p.tables e below (T20.setTop (mkF m 144 #[.val (.int p1), .val (.int p2), .val (.int p3), .val (.int p4), .val (.int p5), .val (.int p6), .val (.ref r7), .val (.ref r8), .val (.ref b9), .val (.ref b12), .val (.ref b14), .val (.ref b16), .val (.ref b18), .val (.int (0 : Int32)), .val (.int (0 : Int32)), .unset, .unset, .unset, .unset, .unset, .unset, .unset, .unset, .unset] [(.ref b20), (.ref b20)])) _
    refine XS.iload X20.here hx rfl (hb hby at_144) rfl ?_
    show Steps p.tables e below (T20.setTop (mkF m 146 #[.val (.int p1), .val (.int p2), .val (.int p3), .val (.int p4), .val (.int p5), .val (.int p6), .val (.ref r7), .val (.ref r8), .val (.ref b9), .val (.ref b12), .val (.ref b14), .val (.ref b16), .val (.ref b18), .val (.int (0 : Int32)), .val (.int (0 : Int32)), .unset, .unset, .unset, .unset, .unset, .unset, .unset, .unset, .unset] [(.int p5), (.ref b20), (.ref b20)])) _
    refine st21 _ ?_
    show Steps p.tables e below (T21.setTop (mkF m 149 #[.val (.int p1), .val (.int p2), .val (.int p3), .val (.int p4), .val (.int p5), .val (.int p6), .val (.ref r7), .val (.ref r8), .val (.ref b9), .val (.ref b12), .val (.ref b14), .val (.ref b16), .val (.ref b18), .val (.int (0 : Int32)), .val (.int (0 : Int32)), .unset, .unset, .unset, .unset, .unset, .unset, .unset, .unset, .unset] [(.ref wk), (.ref b20), (.ref b20)])) _
    refine XS.aload X21.here hx rfl (hb hby at_149) rfl rfl ?_
    show Steps p.tables e below (T21.setTop (mkF m 151 #[.val (.int p1), .val (.int p2), .val (.int p3), .val (.int p4), .val (.int p5), .val (.int p6), .val (.ref r7), .val (.ref r8), .val (.ref b9), .val (.ref b12), .val (.ref b14), .val (.ref b16), .val (.ref b18), .val (.int (0 : Int32)), .val (.int (0 : Int32)), .unset, .unset, .unset, .unset, .unset, .unset, .unset, .unset, .unset] [(.ref b12), (.ref wk), (.ref b20), (.ref b20)])) _
    refine XS.aconstNull X21.here hx rfl (hb hby at_151) ?_
    show Steps p.tables e below (T21.setTop (mkF m 152 #[.val (.int p1), .val (.int p2), .val (.int p3), .val (.int p4), .val (.int p5), .val (.int p6), .val (.ref r7), .val (.ref r8), .val (.ref b9), .val (.ref b12), .val (.ref b14), .val (.ref b16), .val (.ref b18), .val (.int (0 : Int32)), .val (.int (0 : Int32)), .unset, .unset, .unset, .unset, .unset, .unset, .unset, .unset, .unset] [.null, (.ref b12), (.ref wk), (.ref b20), (.ref b20)])) _
    refine XS.aload X21.here hx rfl (hb hby at_152) rfl rfl ?_
    show Steps p.tables e below (T21.setTop (mkF m 154 #[.val (.int p1), .val (.int p2), .val (.int p3), .val (.int p4), .val (.int p5), .val (.int p6), .val (.ref r7), .val (.ref r8), .val (.ref b9), .val (.ref b12), .val (.ref b14), .val (.ref b16), .val (.ref b18), .val (.int (0 : Int32)), .val (.int (0 : Int32)), .unset, .unset, .unset, .unset, .unset, .unset, .unset, .unset, .unset] [(.ref b14), .null, (.ref b12), (.ref wk), (.ref b20), (.ref b20)])) _
    refine XS.iload X21.here hx rfl (hb hby at_154) rfl ?_
    show Steps p.tables e below (T21.setTop (mkF m 156 #[.val (.int p1), .val (.int p2), .val (.int p3), .val (.int p4), .val (.int p5), .val (.int p6), .val (.ref r7), .val (.ref r8), .val (.ref b9), .val (.ref b12), .val (.ref b14), .val (.ref b16), .val (.ref b18), .val (.int (0 : Int32)), .val (.int (0 : Int32)), .unset, .unset, .unset, .unset, .unset, .unset, .unset, .unset, .unset] [(.int (0 : Int32)), (.ref b14), .null, (.ref b12), (.ref wk), (.ref b20), (.ref b20)])) _
    refine st22.trans ?_
    show Steps p.tables e below (T22.setTop (mkF m 159 #[.val (.int p1), .val (.int p2), .val (.int p3), .val (.int p4), .val (.int p5), .val (.int p6), .val (.ref r7), .val (.ref r8), .val (.ref b9), .val (.ref b12), .val (.ref b14), .val (.ref b16), .val (.ref b18), .val (.int (0 : Int32)), .val (.int (0 : Int32)), .unset, .unset, .unset, .unset, .unset, .unset, .unset, .unset, .unset] [(.ref b20)])) _
    refine XS.astore X22.here hx rfl (hb hby at_159) rfl rfl (l' := #[.val (.int p1), .val (.int p2), .val (.int p3), .val (.int p4), .val (.int p5), .val (.int p6), .val (.ref r7), .val (.ref r8), .val (.ref b9), .val (.ref b12), .val (.ref b14), .val (.ref b16), .val (.ref b18), .val (.int (0 : Int32)), .val (.int (0 : Int32)), .val (.ref b20), .unset, .unset, .unset, .unset, .unset, .unset, .unset, .unset]) rfl ?_
    show Steps p.tables e below (T22.setTop (mkF m 161 #[.val (.int p1), .val (.int p2), .val (.int p3), .val (.int p4), .val (.int p5), .val (.int p6), .val (.ref r7), .val (.ref r8), .val (.ref b9), .val (.ref b12), .val (.ref b14), .val (.ref b16), .val (.ref b18), .val (.int (0 : Int32)), .val (.int (0 : Int32)), .val (.ref b20), .unset, .unset, .unset, .unset, .unset, .unset, .unset, .unset] [])) _
    refine XS.aload X22.here hx rfl (hb hby at_161) rfl rfl ?_
    show Steps p.tables e below (T22.setTop (mkF m 163 #[.val (.int p1), .val (.int p2), .val (.int p3), .val (.int p4), .val (.int p5), .val (.int p6), .val (.ref r7), .val (.ref r8), .val (.ref b9), .val (.ref b12), .val (.ref b14), .val (.ref b16), .val (.ref b18), .val (.int (0 : Int32)), .val (.int (0 : Int32)), .val (.ref b20), .unset, .unset, .unset, .unset, .unset, .unset, .unset, .unset] [(.ref b20)])) _
    refine st23.trans ?_
    show Steps p.tables e below (T23.setTop (mkF m 166 #[.val (.int p1), .val (.int p2), .val (.int p3), .val (.int p4), .val (.int p5), .val (.int p6), .val (.ref r7), .val (.ref r8), .val (.ref b9), .val (.ref b12), .val (.ref b14), .val (.ref b16), .val (.ref b18), .val (.int (0 : Int32)), .val (.int (0 : Int32)), .val (.ref b20), .unset, .unset, .unset, .unset, .unset, .unset, .unset, .unset] [(.ref b14)])) _
    refine XS.aload X23.here hx rfl (hb hby at_166) rfl rfl ?_
    show Steps p.tables e below (T23.setTop (mkF m 168 #[.val (.int p1), .val (.int p2), .val (.int p3), .val (.int p4), .val (.int p5), .val (.int p6), .val (.ref r7), .val (.ref r8), .val (.ref b9), .val (.ref b12), .val (.ref b14), .val (.ref b16), .val (.ref b18), .val (.int (0 : Int32)), .val (.int (0 : Int32)), .val (.ref b20), .unset, .unset, .unset, .unset, .unset, .unset, .unset, .unset] [(.ref b14), (.ref b14)])) _
    refine Jvm.RoadKit.acmp (g := (mkF m 168 #[.val (.int p1), .val (.int p2), .val (.int p3), .val (.int p4), .val (.int p5), .val (.int p6), .val (.ref r7), .val (.ref r8), .val (.ref b9), .val (.ref b12), .val (.ref b14), .val (.ref b16), .val (.ref b18), .val (.int (0 : Int32)), .val (.int (0 : Int32)), .val (.ref b20), .unset, .unset, .unset, .unset, .unset, .unset, .unset, .unset] [(.ref b14), (.ref b14)])) X23 hx rfl rfl rfl (pc0 := 168) (pc' := 171) (same := true) rfl (hb hby at_168) rfl (decide_eq_true rfl) (by decide) (by decide) ?_
    show Steps p.tables e below (T23.setTop (mkF m 171 #[.val (.int p1), .val (.int p2), .val (.int p3), .val (.int p4), .val (.int p5), .val (.int p6), .val (.ref r7), .val (.ref r8), .val (.ref b9), .val (.ref b12), .val (.ref b14), .val (.ref b16), .val (.ref b18), .val (.int (0 : Int32)), .val (.int (0 : Int32)), .val (.ref b20), .unset, .unset, .unset, .unset, .unset, .unset, .unset, .unset] [])) _
    refine XS.iconst X23.here hx rfl (hb hby at_171) ?_
    show Steps p.tables e below (T23.setTop (mkF m 172 #[.val (.int p1), .val (.int p2), .val (.int p3), .val (.int p4), .val (.int p5), .val (.int p6), .val (.ref r7), .val (.ref r8), .val (.ref b9), .val (.ref b12), .val (.ref b14), .val (.ref b16), .val (.ref b18), .val (.int (0 : Int32)), .val (.int (0 : Int32)), .val (.ref b20), .unset, .unset, .unset, .unset, .unset, .unset, .unset, .unset] [(.int (1 : Int32))])) _
    refine XS.goto X23.here hx rfl (pc0 := 172) (pc' := 176) rfl (hb hby at_172) (by decide) (by decide) ?_
    show Steps p.tables e below (T23.setTop (mkF m 176 #[.val (.int p1), .val (.int p2), .val (.int p3), .val (.int p4), .val (.int p5), .val (.int p6), .val (.ref r7), .val (.ref r8), .val (.ref b9), .val (.ref b12), .val (.ref b14), .val (.ref b16), .val (.ref b18), .val (.int (0 : Int32)), .val (.int (0 : Int32)), .val (.ref b20), .unset, .unset, .unset, .unset, .unset, .unset, .unset, .unset] [(.int (1 : Int32))])) _
    refine XS.istore X23.here hx rfl (hb hby at_176) rfl (l' := #[.val (.int p1), .val (.int p2), .val (.int p3), .val (.int p4), .val (.int p5), .val (.int p6), .val (.ref r7), .val (.ref r8), .val (.ref b9), .val (.ref b12), .val (.ref b14), .val (.ref b16), .val (.ref b18), .val (.int (0 : Int32)), .val (.int (0 : Int32)), .val (.ref b20), .val (.int (1 : Int32)), .unset, .unset, .unset, .unset, .unset, .unset, .unset]) rfl ?_
    show Steps p.tables e below (T23.setTop (mkF m 178 #[.val (.int p1), .val (.int p2), .val (.int p3), .val (.int p4), .val (.int p5), .val (.int p6), .val (.ref r7), .val (.ref r8), .val (.ref b9), .val (.ref b12), .val (.ref b14), .val (.ref b16), .val (.ref b18), .val (.int (0 : Int32)), .val (.int (0 : Int32)), .val (.ref b20), .val (.int (1 : Int32)), .unset, .unset, .unset, .unset, .unset, .unset, .unset] [])) _
    refine XS.iload X23.here hx rfl (hb hby at_178) rfl ?_
    show Steps p.tables e below (T23.setTop (mkF m 180 #[.val (.int p1), .val (.int p2), .val (.int p3), .val (.int p4), .val (.int p5), .val (.int p6), .val (.ref r7), .val (.ref r8), .val (.ref b9), .val (.ref b12), .val (.ref b14), .val (.ref b16), .val (.ref b18), .val (.int (0 : Int32)), .val (.int (0 : Int32)), .val (.ref b20), .val (.int (1 : Int32)), .unset, .unset, .unset, .unset, .unset, .unset, .unset] [(.int (0 : Int32))])) _
    refine XS.ifYes X23.here hx rfl (pc0 := 180) (pc' := 187) rfl (hb hby at_180) rfl ((if0 _ _).trans (teq (rfl : (0 : Int32) = (0 : Int32))).1) (by decide) (by decide) ?_
    show Steps p.tables e below (T23.setTop (mkF m 187 #[.val (.int p1), .val (.int p2), .val (.int p3), .val (.int p4), .val (.int p5), .val (.int p6), .val (.ref r7), .val (.ref r8), .val (.ref b9), .val (.ref b12), .val (.ref b14), .val (.ref b16), .val (.ref b18), .val (.int (0 : Int32)), .val (.int (0 : Int32)), .val (.ref b20), .val (.int (1 : Int32)), .unset, .unset, .unset, .unset, .unset, .unset, .unset] [])) _
    refine XS.aload X23.here hx rfl (hb hby at_187) rfl rfl ?_
    show Steps p.tables e below (T23.setTop (mkF m 189 #[.val (.int p1), .val (.int p2), .val (.int p3), .val (.int p4), .val (.int p5), .val (.int p6), .val (.ref r7), .val (.ref r8), .val (.ref b9), .val (.ref b12), .val (.ref b14), .val (.ref b16), .val (.ref b18), .val (.int (0 : Int32)), .val (.int (0 : Int32)), .val (.ref b20), .val (.int (1 : Int32)), .unset, .unset, .unset, .unset, .unset, .unset, .unset] [(.ref b16)])) _
    refine XS.astore X23.here hx rfl (hb hby at_189) rfl rfl (l' := #[.val (.int p1), .val (.int p2), .val (.int p3), .val (.int p4), .val (.int p5), .val (.int p6), .val (.ref r7), .val (.ref r8), .val (.ref b9), .val (.ref b12), .val (.ref b14), .val (.ref b16), .val (.ref b18), .val (.int (0 : Int32)), .val (.int (0 : Int32)), .val (.ref b20), .val (.int (1 : Int32)), .val (.ref b16), .unset, .unset, .unset, .unset, .unset, .unset]) rfl ?_
    show Steps p.tables e below (T23.setTop (mkF m 191 #[.val (.int p1), .val (.int p2), .val (.int p3), .val (.int p4), .val (.int p5), .val (.int p6), .val (.ref r7), .val (.ref r8), .val (.ref b9), .val (.ref b12), .val (.ref b14), .val (.ref b16), .val (.ref b18), .val (.int (0 : Int32)), .val (.int (0 : Int32)), .val (.ref b20), .val (.int (1 : Int32)), .val (.ref b16), .unset, .unset, .unset, .unset, .unset, .unset] [])) _
    refine XS.aload X23.here hx rfl (hb hby at_191) rfl rfl ?_
    show Steps p.tables e below (T23.setTop (mkF m 193 #[.val (.int p1), .val (.int p2), .val (.int p3), .val (.int p4), .val (.int p5), .val (.int p6), .val (.ref r7), .val (.ref r8), .val (.ref b9), .val (.ref b12), .val (.ref b14), .val (.ref b16), .val (.ref b18), .val (.int (0 : Int32)), .val (.int (0 : Int32)), .val (.ref b20), .val (.int (1 : Int32)), .val (.ref b16), .unset, .unset, .unset, .unset, .unset, .unset] [(.ref b20)])) _
    refine XS.aload X23.here hx rfl (hb hby at_193) rfl rfl ?_
    show Steps p.tables e below (T23.setTop (mkF m 195 #[.val (.int p1), .val (.int p2), .val (.int p3), .val (.int p4), .val (.int p5), .val (.int p6), .val (.ref r7), .val (.ref r8), .val (.ref b9), .val (.ref b12), .val (.ref b14), .val (.ref b16), .val (.ref b18), .val (.int (0 : Int32)), .val (.int (0 : Int32)), .val (.ref b20), .val (.int (1 : Int32)), .val (.ref b16), .unset, .unset, .unset, .unset, .unset, .unset] [(.ref b16), (.ref b20)])) _
    refine st24.trans ?_
    show Steps p.tables e below (T24.setTop (mkF m 198 #[.val (.int p1), .val (.int p2), .val (.int p3), .val (.int p4), .val (.int p5), .val (.int p6), .val (.ref r7), .val (.ref r8), .val (.ref b9), .val (.ref b12), .val (.ref b14), .val (.ref b16), .val (.ref b18), .val (.int (0 : Int32)), .val (.int (0 : Int32)), .val (.ref b20), .val (.int (1 : Int32)), .val (.ref b16), .unset, .unset, .unset, .unset, .unset, .unset] [(.ref r24)])) _
    refine XS.astore X24.here hx rfl (hb hby at_198) rfl rfl (l' := #[.val (.int p1), .val (.int p2), .val (.int p3), .val (.int p4), .val (.int p5), .val (.int p6), .val (.ref r7), .val (.ref r8), .val (.ref b9), .val (.ref b12), .val (.ref b14), .val (.ref b16), .val (.ref b18), .val (.int (0 : Int32)), .val (.int (0 : Int32)), .val (.ref b20), .val (.int (1 : Int32)), .val (.ref b16), .val (.ref r24), .unset, .unset, .unset, .unset, .unset]) rfl ?_
    show Steps p.tables e below (T24.setTop (mkF m 200 #[.val (.int p1), .val (.int p2), .val (.int p3), .val (.int p4), .val (.int p5), .val (.int p6), .val (.ref r7), .val (.ref r8), .val (.ref b9), .val (.ref b12), .val (.ref b14), .val (.ref b16), .val (.ref b18), .val (.int (0 : Int32)), .val (.int (0 : Int32)), .val (.ref b20), .val (.int (1 : Int32)), .val (.ref b16), .val (.ref r24), .unset, .unset, .unset, .unset, .unset] [])) _
    refine XS.iload X24.here hx rfl (hb hby at_200) rfl ?_
    show Steps p.tables e below (T24.setTop (mkF m 202 #[.val (.int p1), .val (.int p2), .val (.int p3), .val (.int p4), .val (.int p5), .val (.int p6), .val (.ref r7), .val (.ref r8), .val (.ref b9), .val (.ref b12), .val (.ref b14), .val (.ref b16), .val (.ref b18), .val (.int (0 : Int32)), .val (.int (0 : Int32)), .val (.ref b20), .val (.int (1 : Int32)), .val (.ref b16), .val (.ref r24), .unset, .unset, .unset, .unset, .unset] [(.int (0 : Int32))])) _
    refine XS.ifYes X24.here hx rfl (pc0 := 202) (pc' := 210) rfl (hb hby at_202) rfl ((if0 _ _).trans (teq (rfl : (0 : Int32) = (0 : Int32))).1) (by decide) (by decide) ?_
    show Steps p.tables e below (T24.setTop (mkF m 210 #[.val (.int p1), .val (.int p2), .val (.int p3), .val (.int p4), .val (.int p5), .val (.int p6), .val (.ref r7), .val (.ref r8), .val (.ref b9), .val (.ref b12), .val (.ref b14), .val (.ref b16), .val (.ref b18), .val (.int (0 : Int32)), .val (.int (0 : Int32)), .val (.ref b20), .val (.int (1 : Int32)), .val (.ref b16), .val (.ref r24), .unset, .unset, .unset, .unset, .unset] [])) _
    refine XS.aload X24.here hx rfl (hb hby at_210) rfl rfl ?_
    show Steps p.tables e below (T24.setTop (mkF m 212 #[.val (.int p1), .val (.int p2), .val (.int p3), .val (.int p4), .val (.int p5), .val (.int p6), .val (.ref r7), .val (.ref r8), .val (.ref b9), .val (.ref b12), .val (.ref b14), .val (.ref b16), .val (.ref b18), .val (.int (0 : Int32)), .val (.int (0 : Int32)), .val (.ref b20), .val (.int (1 : Int32)), .val (.ref b16), .val (.ref r24), .unset, .unset, .unset, .unset, .unset] [(.ref b16)])) _
    refine XS.astore X24.here hx rfl (hb hby at_212) rfl rfl (l' := #[.val (.int p1), .val (.int p2), .val (.int p3), .val (.int p4), .val (.int p5), .val (.int p6), .val (.ref r7), .val (.ref r8), .val (.ref b9), .val (.ref b12), .val (.ref b14), .val (.ref b16), .val (.ref b18), .val (.int (0 : Int32)), .val (.int (0 : Int32)), .val (.ref b20), .val (.int (1 : Int32)), .val (.ref b16), .val (.ref r24), .val (.ref b16), .unset, .unset, .unset, .unset]) rfl ?_
    show Steps p.tables e below (T24.setTop (mkF m 214 #[.val (.int p1), .val (.int p2), .val (.int p3), .val (.int p4), .val (.int p5), .val (.int p6), .val (.ref r7), .val (.ref r8), .val (.ref b9), .val (.ref b12), .val (.ref b14), .val (.ref b16), .val (.ref b18), .val (.int (0 : Int32)), .val (.int (0 : Int32)), .val (.ref b20), .val (.int (1 : Int32)), .val (.ref b16), .val (.ref r24), .val (.ref b16), .unset, .unset, .unset, .unset] [])) _
    refine XS.aload X24.here hx rfl (hb hby at_214) rfl rfl ?_
    show Steps p.tables e below (T24.setTop (mkF m 216 #[.val (.int p1), .val (.int p2), .val (.int p3), .val (.int p4), .val (.int p5), .val (.int p6), .val (.ref r7), .val (.ref r8), .val (.ref b9), .val (.ref b12), .val (.ref b14), .val (.ref b16), .val (.ref b18), .val (.int (0 : Int32)), .val (.int (0 : Int32)), .val (.ref b20), .val (.int (1 : Int32)), .val (.ref b16), .val (.ref r24), .val (.ref b16), .unset, .unset, .unset, .unset] [(.ref r24)])) _
    refine st25.trans ?_
    show Steps p.tables e below (T25.setTop (mkF m 219 #[.val (.int p1), .val (.int p2), .val (.int p3), .val (.int p4), .val (.int p5), .val (.int p6), .val (.ref r7), .val (.ref r8), .val (.ref b9), .val (.ref b12), .val (.ref b14), .val (.ref b16), .val (.ref b18), .val (.int (0 : Int32)), .val (.int (0 : Int32)), .val (.ref b20), .val (.int (1 : Int32)), .val (.ref b16), .val (.ref r24), .val (.ref b16), .unset, .unset, .unset, .unset] [(.ref b16)])) _
    refine XS.aload X25.here hx rfl (hb hby at_219) rfl rfl ?_
    show Steps p.tables e below (T25.setTop (mkF m 221 #[.val (.int p1), .val (.int p2), .val (.int p3), .val (.int p4), .val (.int p5), .val (.int p6), .val (.ref r7), .val (.ref r8), .val (.ref b9), .val (.ref b12), .val (.ref b14), .val (.ref b16), .val (.ref b18), .val (.int (0 : Int32)), .val (.int (0 : Int32)), .val (.ref b20), .val (.int (1 : Int32)), .val (.ref b16), .val (.ref r24), .val (.ref b16), .unset, .unset, .unset, .unset] [(.ref b16), (.ref b16)])) _
    refine Jvm.RoadKit.acmp (g := (mkF m 221 #[.val (.int p1), .val (.int p2), .val (.int p3), .val (.int p4), .val (.int p5), .val (.int p6), .val (.ref r7), .val (.ref r8), .val (.ref b9), .val (.ref b12), .val (.ref b14), .val (.ref b16), .val (.ref b18), .val (.int (0 : Int32)), .val (.int (0 : Int32)), .val (.ref b20), .val (.int (1 : Int32)), .val (.ref b16), .val (.ref r24), .val (.ref b16), .unset, .unset, .unset, .unset] [(.ref b16), (.ref b16)])) X25 hx rfl rfl rfl (pc0 := 221) (pc' := 224) (same := true) rfl (hb hby at_221) rfl (decide_eq_true rfl) (by decide) (by decide) ?_
    show Steps p.tables e below (T25.setTop (mkF m 224 #[.val (.int p1), .val (.int p2), .val (.int p3), .val (.int p4), .val (.int p5), .val (.int p6), .val (.ref r7), .val (.ref r8), .val (.ref b9), .val (.ref b12), .val (.ref b14), .val (.ref b16), .val (.ref b18), .val (.int (0 : Int32)), .val (.int (0 : Int32)), .val (.ref b20), .val (.int (1 : Int32)), .val (.ref b16), .val (.ref r24), .val (.ref b16), .unset, .unset, .unset, .unset] [])) _
    refine XS.iconst X25.here hx rfl (hb hby at_224) ?_
    show Steps p.tables e below (T25.setTop (mkF m 225 #[.val (.int p1), .val (.int p2), .val (.int p3), .val (.int p4), .val (.int p5), .val (.int p6), .val (.ref r7), .val (.ref r8), .val (.ref b9), .val (.ref b12), .val (.ref b14), .val (.ref b16), .val (.ref b18), .val (.int (0 : Int32)), .val (.int (0 : Int32)), .val (.ref b20), .val (.int (1 : Int32)), .val (.ref b16), .val (.ref r24), .val (.ref b16), .unset, .unset, .unset, .unset] [(.int (1 : Int32))])) _
    refine XS.goto X25.here hx rfl (pc0 := 225) (pc' := 229) rfl (hb hby at_225) (by decide) (by decide) ?_
    show Steps p.tables e below (T25.setTop (mkF m 229 #[.val (.int p1), .val (.int p2), .val (.int p3), .val (.int p4), .val (.int p5), .val (.int p6), .val (.ref r7), .val (.ref r8), .val (.ref b9), .val (.ref b12), .val (.ref b14), .val (.ref b16), .val (.ref b18), .val (.int (0 : Int32)), .val (.int (0 : Int32)), .val (.ref b20), .val (.int (1 : Int32)), .val (.ref b16), .val (.ref r24), .val (.ref b16), .unset, .unset, .unset, .unset] [(.int (1 : Int32))])) _
    refine XS.istore X25.here hx rfl (hb hby at_229) rfl (l' := #[.val (.int p1), .val (.int p2), .val (.int p3), .val (.int p4), .val (.int p5), .val (.int p6), .val (.ref r7), .val (.ref r8), .val (.ref b9), .val (.ref b12), .val (.ref b14), .val (.ref b16), .val (.ref b18), .val (.int (0 : Int32)), .val (.int (0 : Int32)), .val (.ref b20), .val (.int (1 : Int32)), .val (.ref b16), .val (.ref r24), .val (.ref b16), .val (.int (1 : Int32)), .unset, .unset, .unset]) rfl ?_
    show Steps p.tables e below (T25.setTop (mkF m 231 #[.val (.int p1), .val (.int p2), .val (.int p3), .val (.int p4), .val (.int p5), .val (.int p6), .val (.ref r7), .val (.ref r8), .val (.ref b9), .val (.ref b12), .val (.ref b14), .val (.ref b16), .val (.ref b18), .val (.int (0 : Int32)), .val (.int (0 : Int32)), .val (.ref b20), .val (.int (1 : Int32)), .val (.ref b16), .val (.ref r24), .val (.ref b16), .val (.int (1 : Int32)), .unset, .unset, .unset] [])) _
    refine XS.aload X25.here hx rfl (hb hby at_231) rfl rfl ?_
    show Steps p.tables e below (T25.setTop (mkF m 233 #[.val (.int p1), .val (.int p2), .val (.int p3), .val (.int p4), .val (.int p5), .val (.int p6), .val (.ref r7), .val (.ref r8), .val (.ref b9), .val (.ref b12), .val (.ref b14), .val (.ref b16), .val (.ref b18), .val (.int (0 : Int32)), .val (.int (0 : Int32)), .val (.ref b20), .val (.int (1 : Int32)), .val (.ref b16), .val (.ref r24), .val (.ref b16), .val (.int (1 : Int32)), .unset, .unset, .unset] [(.ref r24)])) _
    refine XS.aload X25.here hx rfl (hb hby at_233) rfl rfl ?_
    show Steps p.tables e below (T25.setTop (mkF m 235 #[.val (.int p1), .val (.int p2), .val (.int p3), .val (.int p4), .val (.int p5), .val (.int p6), .val (.ref r7), .val (.ref r8), .val (.ref b9), .val (.ref b12), .val (.ref b14), .val (.ref b16), .val (.ref b18), .val (.int (0 : Int32)), .val (.int (0 : Int32)), .val (.ref b20), .val (.int (1 : Int32)), .val (.ref b16), .val (.ref r24), .val (.ref b16), .val (.int (1 : Int32)), .unset, .unset, .unset] [(.ref b18), (.ref r24)])) _
    refine st26.trans ?_
    show Steps p.tables e below (T26.setTop (mkF m 238 #[.val (.int p1), .val (.int p2), .val (.int p3), .val (.int p4), .val (.int p5), .val (.int p6), .val (.ref r7), .val (.ref r8), .val (.ref b9), .val (.ref b12), .val (.ref b14), .val (.ref b16), .val (.ref b18), .val (.int (0 : Int32)), .val (.int (0 : Int32)), .val (.ref b20), .val (.int (1 : Int32)), .val (.ref b16), .val (.ref r24), .val (.ref b16), .val (.int (1 : Int32)), .unset, .unset, .unset] [(.ref r26)])) _
    refine XS.astore X26.here hx rfl (hb hby at_238) rfl rfl (l' := #[.val (.int p1), .val (.int p2), .val (.int p3), .val (.int p4), .val (.int p5), .val (.int p6), .val (.ref r7), .val (.ref r8), .val (.ref b9), .val (.ref b12), .val (.ref b14), .val (.ref b16), .val (.ref b18), .val (.int (0 : Int32)), .val (.int (0 : Int32)), .val (.ref b20), .val (.int (1 : Int32)), .val (.ref b16), .val (.ref r24), .val (.ref b16), .val (.int (1 : Int32)), .val (.ref r26), .unset, .unset]) rfl ?_
    show Steps p.tables e below (T26.setTop (mkF m 240 #[.val (.int p1), .val (.int p2), .val (.int p3), .val (.int p4), .val (.int p5), .val (.int p6), .val (.ref r7), .val (.ref r8), .val (.ref b9), .val (.ref b12), .val (.ref b14), .val (.ref b16), .val (.ref b18), .val (.int (0 : Int32)), .val (.int (0 : Int32)), .val (.ref b20), .val (.int (1 : Int32)), .val (.ref b16), .val (.ref r24), .val (.ref b16), .val (.int (1 : Int32)), .val (.ref r26), .unset, .unset] [])) _
    refine XS.iload X26.here hx rfl (hb hby at_240) rfl ?_
    show Steps p.tables e below (T26.setTop (mkF m 242 #[.val (.int p1), .val (.int p2), .val (.int p3), .val (.int p4), .val (.int p5), .val (.int p6), .val (.ref r7), .val (.ref r8), .val (.ref b9), .val (.ref b12), .val (.ref b14), .val (.ref b16), .val (.ref b18), .val (.int (0 : Int32)), .val (.int (0 : Int32)), .val (.ref b20), .val (.int (1 : Int32)), .val (.ref b16), .val (.ref r24), .val (.ref b16), .val (.int (1 : Int32)), .val (.ref r26), .unset, .unset] [(.int (0 : Int32))])) _
    refine XS.ifYes X26.here hx rfl (pc0 := 242) (pc' := 250) rfl (hb hby at_242) rfl ((if0 _ _).trans (teq (rfl : (0 : Int32) = (0 : Int32))).1) (by decide) (by decide) ?_
    show Steps p.tables e below (T26.setTop (mkF m 250 #[.val (.int p1), .val (.int p2), .val (.int p3), .val (.int p4), .val (.int p5), .val (.int p6), .val (.ref r7), .val (.ref r8), .val (.ref b9), .val (.ref b12), .val (.ref b14), .val (.ref b16), .val (.ref b18), .val (.int (0 : Int32)), .val (.int (0 : Int32)), .val (.ref b20), .val (.int (1 : Int32)), .val (.ref b16), .val (.ref r24), .val (.ref b16), .val (.int (1 : Int32)), .val (.ref r26), .unset, .unset] [])) _
    refine XS.aload X26.here hx rfl (hb hby at_250) rfl rfl ?_
    show Steps p.tables e below (T26.setTop (mkF m 252 #[.val (.int p1), .val (.int p2), .val (.int p3), .val (.int p4), .val (.int p5), .val (.int p6), .val (.ref r7), .val (.ref r8), .val (.ref b9), .val (.ref b12), .val (.ref b14), .val (.ref b16), .val (.ref b18), .val (.int (0 : Int32)), .val (.int (0 : Int32)), .val (.ref b20), .val (.int (1 : Int32)), .val (.ref b16), .val (.ref r24), .val (.ref b16), .val (.int (1 : Int32)), .val (.ref r26), .unset, .unset] [(.ref b16)])) _
    refine XS.astore X26.here hx rfl (hb hby at_252) rfl rfl (l' := #[.val (.int p1), .val (.int p2), .val (.int p3), .val (.int p4), .val (.int p5), .val (.int p6), .val (.ref r7), .val (.ref r8), .val (.ref b9), .val (.ref b12), .val (.ref b14), .val (.ref b16), .val (.ref b18), .val (.int (0 : Int32)), .val (.int (0 : Int32)), .val (.ref b20), .val (.int (1 : Int32)), .val (.ref b16), .val (.ref r24), .val (.ref b16), .val (.int (1 : Int32)), .val (.ref r26), .val (.ref b16), .unset]) rfl ?_
    show Steps p.tables e below (T26.setTop (mkF m 254 #[.val (.int p1), .val (.int p2), .val (.int p3), .val (.int p4), .val (.int p5), .val (.int p6), .val (.ref r7), .val (.ref r8), .val (.ref b9), .val (.ref b12), .val (.ref b14), .val (.ref b16), .val (.ref b18), .val (.int (0 : Int32)), .val (.int (0 : Int32)), .val (.ref b20), .val (.int (1 : Int32)), .val (.ref b16), .val (.ref r24), .val (.ref b16), .val (.int (1 : Int32)), .val (.ref r26), .val (.ref b16), .unset] [])) _
    refine XS.aload X26.here hx rfl (hb hby at_254) rfl rfl ?_
    show Steps p.tables e below (T26.setTop (mkF m 256 #[.val (.int p1), .val (.int p2), .val (.int p3), .val (.int p4), .val (.int p5), .val (.int p6), .val (.ref r7), .val (.ref r8), .val (.ref b9), .val (.ref b12), .val (.ref b14), .val (.ref b16), .val (.ref b18), .val (.int (0 : Int32)), .val (.int (0 : Int32)), .val (.ref b20), .val (.int (1 : Int32)), .val (.ref b16), .val (.ref r24), .val (.ref b16), .val (.int (1 : Int32)), .val (.ref r26), .val (.ref b16), .unset] [(.ref r26)])) _
    refine st27.trans ?_
    show Steps p.tables e below (T27.setTop (mkF m 259 #[.val (.int p1), .val (.int p2), .val (.int p3), .val (.int p4), .val (.int p5), .val (.int p6), .val (.ref r7), .val (.ref r8), .val (.ref b9), .val (.ref b12), .val (.ref b14), .val (.ref b16), .val (.ref b18), .val (.int (0 : Int32)), .val (.int (0 : Int32)), .val (.ref b20), .val (.int (1 : Int32)), .val (.ref b16), .val (.ref r24), .val (.ref b16), .val (.int (1 : Int32)), .val (.ref r26), .val (.ref b16), .unset] [(.ref b16)])) _
    refine XS.aload X27.here hx rfl (hb hby at_259) rfl rfl ?_
    show Steps p.tables e below (T27.setTop (mkF m 261 #[.val (.int p1), .val (.int p2), .val (.int p3), .val (.int p4), .val (.int p5), .val (.int p6), .val (.ref r7), .val (.ref r8), .val (.ref b9), .val (.ref b12), .val (.ref b14), .val (.ref b16), .val (.ref b18), .val (.int (0 : Int32)), .val (.int (0 : Int32)), .val (.ref b20), .val (.int (1 : Int32)), .val (.ref b16), .val (.ref r24), .val (.ref b16), .val (.int (1 : Int32)), .val (.ref r26), .val (.ref b16), .unset] [(.ref b16), (.ref b16)])) _
    refine Jvm.RoadKit.acmp (g := (mkF m 261 #[.val (.int p1), .val (.int p2), .val (.int p3), .val (.int p4), .val (.int p5), .val (.int p6), .val (.ref r7), .val (.ref r8), .val (.ref b9), .val (.ref b12), .val (.ref b14), .val (.ref b16), .val (.ref b18), .val (.int (0 : Int32)), .val (.int (0 : Int32)), .val (.ref b20), .val (.int (1 : Int32)), .val (.ref b16), .val (.ref r24), .val (.ref b16), .val (.int (1 : Int32)), .val (.ref r26), .val (.ref b16), .unset] [(.ref b16), (.ref b16)])) X27 hx rfl rfl rfl (pc0 := 261) (pc' := 264) (same := true) rfl (hb hby at_261) rfl (decide_eq_true rfl) (by decide) (by decide) ?_
    show Steps p.tables e below (T27.setTop (mkF m 264 #[.val (.int p1), .val (.int p2), .val (.int p3), .val (.int p4), .val (.int p5), .val (.int p6), .val (.ref r7), .val (.ref r8), .val (.ref b9), .val (.ref b12), .val (.ref b14), .val (.ref b16), .val (.ref b18), .val (.int (0 : Int32)), .val (.int (0 : Int32)), .val (.ref b20), .val (.int (1 : Int32)), .val (.ref b16), .val (.ref r24), .val (.ref b16), .val (.int (1 : Int32)), .val (.ref r26), .val (.ref b16), .unset] [])) _
    refine XS.iconst X27.here hx rfl (hb hby at_264) ?_
    show Steps p.tables e below (T27.setTop (mkF m 265 #[.val (.int p1), .val (.int p2), .val (.int p3), .val (.int p4), .val (.int p5), .val (.int p6), .val (.ref r7), .val (.ref r8), .val (.ref b9), .val (.ref b12), .val (.ref b14), .val (.ref b16), .val (.ref b18), .val (.int (0 : Int32)), .val (.int (0 : Int32)), .val (.ref b20), .val (.int (1 : Int32)), .val (.ref b16), .val (.ref r24), .val (.ref b16), .val (.int (1 : Int32)), .val (.ref r26), .val (.ref b16), .unset] [(.int (1 : Int32))])) _
    refine XS.goto X27.here hx rfl (pc0 := 265) (pc' := 269) rfl (hb hby at_265) (by decide) (by decide) ?_
    show Steps p.tables e below (T27.setTop (mkF m 269 #[.val (.int p1), .val (.int p2), .val (.int p3), .val (.int p4), .val (.int p5), .val (.int p6), .val (.ref r7), .val (.ref r8), .val (.ref b9), .val (.ref b12), .val (.ref b14), .val (.ref b16), .val (.ref b18), .val (.int (0 : Int32)), .val (.int (0 : Int32)), .val (.ref b20), .val (.int (1 : Int32)), .val (.ref b16), .val (.ref r24), .val (.ref b16), .val (.int (1 : Int32)), .val (.ref r26), .val (.ref b16), .unset] [(.int (1 : Int32))])) _
    refine XS.istore X27.here hx rfl (hb hby at_269) rfl (l' := #[.val (.int p1), .val (.int p2), .val (.int p3), .val (.int p4), .val (.int p5), .val (.int p6), .val (.ref r7), .val (.ref r8), .val (.ref b9), .val (.ref b12), .val (.ref b14), .val (.ref b16), .val (.ref b18), .val (.int (0 : Int32)), .val (.int (0 : Int32)), .val (.ref b20), .val (.int (1 : Int32)), .val (.ref b16), .val (.ref r24), .val (.ref b16), .val (.int (1 : Int32)), .val (.ref r26), .val (.ref b16), .val (.int (1 : Int32))]) rfl ?_
    show Steps p.tables e below (T27.setTop (mkF m 271 #[.val (.int p1), .val (.int p2), .val (.int p3), .val (.int p4), .val (.int p5), .val (.int p6), .val (.ref r7), .val (.ref r8), .val (.ref b9), .val (.ref b12), .val (.ref b14), .val (.ref b16), .val (.ref b18), .val (.int (0 : Int32)), .val (.int (0 : Int32)), .val (.ref b20), .val (.int (1 : Int32)), .val (.ref b16), .val (.ref r24), .val (.ref b16), .val (.int (1 : Int32)), .val (.ref r26), .val (.ref b16), .val (.int (1 : Int32))] [])) _
    refine XS.iload X27.here hx rfl (hb hby at_271) rfl ?_
    show Steps p.tables e below (T27.setTop (mkF m 273 #[.val (.int p1), .val (.int p2), .val (.int p3), .val (.int p4), .val (.int p5), .val (.int p6), .val (.ref r7), .val (.ref r8), .val (.ref b9), .val (.ref b12), .val (.ref b14), .val (.ref b16), .val (.ref b18), .val (.int (0 : Int32)), .val (.int (0 : Int32)), .val (.ref b20), .val (.int (1 : Int32)), .val (.ref b16), .val (.ref r24), .val (.ref b16), .val (.int (1 : Int32)), .val (.ref r26), .val (.ref b16), .val (.int (1 : Int32))] [(.int (1 : Int32))])) _
    refine XS.ifNo X27.here hx rfl (hb hby at_273) rfl ((if0 _ _).trans (feq hc273).1) ?_
    show Steps p.tables e below (T27.setTop (mkF m 276 #[.val (.int p1), .val (.int p2), .val (.int p3), .val (.int p4), .val (.int p5), .val (.int p6), .val (.ref r7), .val (.ref r8), .val (.ref b9), .val (.ref b12), .val (.ref b14), .val (.ref b16), .val (.ref b18), .val (.int (0 : Int32)), .val (.int (0 : Int32)), .val (.ref b20), .val (.int (1 : Int32)), .val (.ref b16), .val (.ref r24), .val (.ref b16), .val (.int (1 : Int32)), .val (.ref r26), .val (.ref b16), .val (.int (1 : Int32))] [])) _
    refine XS.iload X27.here hx rfl (hb hby at_276) rfl ?_
    show Steps p.tables e below (T27.setTop (mkF m 278 #[.val (.int p1), .val (.int p2), .val (.int p3), .val (.int p4), .val (.int p5), .val (.int p6), .val (.ref r7), .val (.ref r8), .val (.ref b9), .val (.ref b12), .val (.ref b14), .val (.ref b16), .val (.ref b18), .val (.int (0 : Int32)), .val (.int (0 : Int32)), .val (.ref b20), .val (.int (1 : Int32)), .val (.ref b16), .val (.ref r24), .val (.ref b16), .val (.int (1 : Int32)), .val (.ref r26), .val (.ref b16), .val (.int (1 : Int32))] [(.int (1 : Int32))])) _
    refine XS.ifNo X27.here hx rfl (hb hby at_278) rfl ((if0 _ _).trans (feq hc278).1) ?_
    show Steps p.tables e below (T27.setTop (mkF m 281 #[.val (.int p1), .val (.int p2), .val (.int p3), .val (.int p4), .val (.int p5), .val (.int p6), .val (.ref r7), .val (.ref r8), .val (.ref b9), .val (.ref b12), .val (.ref b14), .val (.ref b16), .val (.ref b18), .val (.int (0 : Int32)), .val (.int (0 : Int32)), .val (.ref b20), .val (.int (1 : Int32)), .val (.ref b16), .val (.ref r24), .val (.ref b16), .val (.int (1 : Int32)), .val (.ref r26), .val (.ref b16), .val (.int (1 : Int32))] [])) _
    refine XS.iload X27.here hx rfl (hb hby at_281) rfl ?_
    show Steps p.tables e below (T27.setTop (mkF m 283 #[.val (.int p1), .val (.int p2), .val (.int p3), .val (.int p4), .val (.int p5), .val (.int p6), .val (.ref r7), .val (.ref r8), .val (.ref b9), .val (.ref b12), .val (.ref b14), .val (.ref b16), .val (.ref b18), .val (.int (0 : Int32)), .val (.int (0 : Int32)), .val (.ref b20), .val (.int (1 : Int32)), .val (.ref b16), .val (.ref r24), .val (.ref b16), .val (.int (1 : Int32)), .val (.ref r26), .val (.ref b16), .val (.int (1 : Int32))] [(.int (1 : Int32))])) _
    refine XS.ifNo X27.here hx rfl (hb hby at_283) rfl ((if0 _ _).trans (feq hc283).1) ?_
    show Steps p.tables e below (T27.setTop (mkF m 286 #[.val (.int p1), .val (.int p2), .val (.int p3), .val (.int p4), .val (.int p5), .val (.int p6), .val (.ref r7), .val (.ref r8), .val (.ref b9), .val (.ref b12), .val (.ref b14), .val (.ref b16), .val (.ref b18), .val (.int (0 : Int32)), .val (.int (0 : Int32)), .val (.ref b20), .val (.int (1 : Int32)), .val (.ref b16), .val (.ref r24), .val (.ref b16), .val (.int (1 : Int32)), .val (.ref r26), .val (.ref b16), .val (.int (1 : Int32))] [])) _
    refine XS.iconst X27.here hx rfl (hb hby at_286) ?_
    show Steps p.tables e below (T27.setTop (mkF m 287 #[.val (.int p1), .val (.int p2), .val (.int p3), .val (.int p4), .val (.int p5), .val (.int p6), .val (.ref r7), .val (.ref r8), .val (.ref b9), .val (.ref b12), .val (.ref b14), .val (.ref b16), .val (.ref b18), .val (.int (0 : Int32)), .val (.int (0 : Int32)), .val (.ref b20), .val (.int (1 : Int32)), .val (.ref b16), .val (.ref r24), .val (.ref b16), .val (.int (1 : Int32)), .val (.ref r26), .val (.ref b16), .val (.int (1 : Int32))] [(.int (1 : Int32))])) _
    refine XS.goto X27.here hx rfl (pc0 := 287) (pc' := 291) rfl (hb hby at_287) (by decide) (by decide) ?_
    show Steps p.tables e below (T27.setTop (mkF m 291 #[.val (.int p1), .val (.int p2), .val (.int p3), .val (.int p4), .val (.int p5), .val (.int p6), .val (.ref r7), .val (.ref r8), .val (.ref b9), .val (.ref b12), .val (.ref b14), .val (.ref b16), .val (.ref b18), .val (.int (0 : Int32)), .val (.int (0 : Int32)), .val (.ref b20), .val (.int (1 : Int32)), .val (.ref b16), .val (.ref r24), .val (.ref b16), .val (.int (1 : Int32)), .val (.ref r26), .val (.ref b16), .val (.int (1 : Int32))] [(.int (1 : Int32))])) _
    exact retN X27 hx (t := .boolean) Bd.returns (by simp) (hb hby at_291) hr
  · show Q0 Z h0 n0 _ T27.heap _
    exact ⟨rfl, N27⟩
set_option maxRecDepth 65536 in
set_option maxHeartbeats 40000000 in
theorem rm0_tn (l : Launch) (Z : State) (a0 : Array Value) (hw : ∀ d ∈ tables_1, d.before a0 Z = true) (ws : List Jvm.Cond) (p1 : Int32) (p2 : Int32) (p3 : Int32) (p4 : Int32) (p5 : Int32) (p6 : Int32) (w_cs : Int32) (wk : Addr) (h0 : Heap) (n0 : Nat) (Z0 : n0 ≤ h0.size) (S_COMPACT_STRINGS : Sta Z h0 "java/lang/String" "COMPACT_STRINGS" "Z" (.int w_cs)) (hcs : ¬ w_cs = 0) (S_kind : Sta Z h0 own_KC (own_kn p5) own_KD (.ref wk)) (hc114 : (((p5.toUInt32 >>> ((2 : Int32) &&& 31).toUInt32).toInt32) &&& (1 : Int32)) = (0 : Int32)) (hc130 : ¬ ((((p5.toUInt32 >>> ((3 : Int32) &&& 31).toUInt32).toInt32) &&& (1 : Int32)) = (0 : Int32))) :
    MetFree l x (head1 (Jvm.Cond.code x code maxLocals ret :: ws) room_1) (fun a U => a = #[(.int p1), (.int p2), (.int p3), (.int p4), (.int p5), (.int p6)] ∧ Z.Warmed39 U.vm ∧ U.heap = h0) (fun _ _ _ _ _ => True) (fun _ U o U' => ∃ v L, o = .returned v ∧ Q0 Z h0 n0 v U'.heap L ∧ FrameEnd U o U' L room_1.cells room_1.slots) := by
  refine MetFree.of_bodySF (plainFor_of_name pn_0) hisR ?_
  intro p e s m args below meth c s₁ Bd hml0 hP hK
  obtain ⟨rfl, hZ, hh⟩ := hP
  have hx := Bd.exec
  have hby := Bd.bytes
  have hml : c.maxLocals = 24 := hml0
  have hown : s.vm.findClass "com/example/stubwright/stubwright/read/TokenExpansionPointPinLaw" = some m.cls := findClass_of_methodNamed Bd.named
  have hnm := (name_of_methodNamed Bd.named Bd.method).1
  have X0 : Stand p l e room_1 s m #[(.int p1), (.int p2), (.int p3), (.int p4), (.int p5), (.int p6)] below meth c s₁ [] 0 0 := Stand.of_body Bd
  have e0 : s₁.heap = h0 := by rw [← hh, Bd.state]; rfl
  have N0 := Fr.nil n0
  have pre0 : ∀ t, Steps p.tables e below (s₁.setTop (mkF m 0 #[.val (.int p1), .val (.int p2), .val (.int p3), .val (.int p4), .val (.int p5), .val (.int p6), .unset, .unset, .unset, .unset, .unset, .unset, .unset, .unset, .unset, .unset, .unset, .unset, .unset, .unset, .unset, .unset, .unset, .unset] [])) t → Steps p.tables e below (s₁.setTop (entryFrame m #[(.int p1), (.int p2), (.int p3), (.int p4), (.int p5), (.int p6)] maxLocals)) t := fun t k => castTop (ef_0 m p1 p2 p3 p4 p5 p6) k
  -- 3. LAWS
  have hc180 : ¬ ((1 : Int32) = (0 : Int32)) := by decide
  have hc202 : ¬ ((1 : Int32) = (0 : Int32)) := by decide
  have hc242 : ¬ ((1 : Int32) = (0 : Int32)) := by decide
  have hc273 : ¬ ((1 : Int32) = (0 : Int32)) := by decide
  have hc278 : ¬ ((1 : Int32) = (0 : Int32)) := by decide
  have hc283 : ¬ ((1 : Int32) = (0 : Int32)) := by decide
  -- pc 7: java/lang/String.valueOf by its contract rm1
  obtain ⟨_, _, ⟨T7, L7, k7, n7⟩, -, X7, ⟨Lc7, hQ7, l7, y7, z7⟩, st7⟩ := Jvm.LawKit.callS X0 hx (y := (⟨"java/lang/String", "valueOf", "(C)Ljava/lang/String;"⟩ : MethodName)) hown (mvT hZ (hw _ (List.mem_of_getElem? (i := 0) rfl))) (mvT hZ (hw _ (List.mem_of_getElem? (i := 1) rfl))) (mvT hZ (hw _ (List.mem_of_getElem? (i := 2) rfl))) (mvT hZ (hw _ (List.mem_of_getElem? (i := 3) rfl))) (by decide) (backOf (W := 0) (rm1 l Z a0 hw [] ((p6 &&& (255 : Int32)).toUInt32.toUInt16.toUInt32.toInt32) w_cs h0 n0 Z0 (own_sta S_COMPACT_STRINGS (Keep.refl h0 [])) hcs (own_enc _)) hZ (hw _ (List.mem_of_getElem? (i := 3) rfl)) (hw _ (List.mem_of_getElem? (i := 2) rfl)) (by decide) (by decide)) (g := (mkF m 7 #[.val (.int p1), .val (.int p2), .val (.int p3), .val (.int p4), .val (.int p5), .val (.int p6), .unset, .unset, .unset, .unset, .unset, .unset, .unset, .unset, .unset, .unset, .unset, .unset, .unset, .unset, .unset, .unset, .unset, .unset] [(.int ((p6 &&& (255 : Int32)).toUInt32.toUInt16.toUInt32.toInt32))])) rfl (by rw [hml]; rfl) (argsL := [(.int ((p6 &&& (255 : Int32)).toUInt32.toUInt16.toUInt32.toInt32))]) (rest := []) (lenOf pd_0_0 rfl) rfl (by show 2 * 0 + _ ≤ _; exact Nat.le_of_eq rfl) (hb hby at_7) (fun _ _ => ⟨rfl, e0, (by decide : 0 + 2 ≤ _), (by decide : 0 + 5 ≤ _)⟩)
  dsimp only [Pt.U, Pt.locs, Pt.cells, Pt.slots] at X7 l7 y7 z7 st7 hQ7
  subst l7 y7 z7
  obtain ⟨r7, rfl, N7q, Kc7⟩ := hQ7
  -- Kc7 : Keep h0 T7.heap []
  have N7 := Fr.app N0 N7q
  have K7 : Keep h0 T7.heap [] := (Keep.refl h0 []).trans Kc7 (fun x_ hx_ => absurd hx_ (by simp))
  -- pc 22: java/lang/String.valueOf by its contract rm1
  obtain ⟨_, _, ⟨T8, L8, k8, n8⟩, -, X8, ⟨Lc8, hQ8, l8, y8, z8⟩, st8⟩ := Jvm.LawKit.callS X7 hx (y := (⟨"java/lang/String", "valueOf", "(C)Ljava/lang/String;"⟩ : MethodName)) hown (mvT hZ (hw _ (List.mem_of_getElem? (i := 0) rfl))) (mvT hZ (hw _ (List.mem_of_getElem? (i := 1) rfl))) (mvT hZ (hw _ (List.mem_of_getElem? (i := 2) rfl))) (mvT hZ (hw _ (List.mem_of_getElem? (i := 3) rfl))) (by decide) (backOf (W := 0) (rm1 l Z a0 hw [] ((((p6.toUInt32 >>> ((8 : Int32) &&& 31).toUInt32).toInt32) &&& (255 : Int32)).toUInt32.toUInt16.toUInt32.toInt32) w_cs T7.heap n0 (Nat.le_trans Z0 Kc7.1) (own_sta S_COMPACT_STRINGS K7) hcs (own_enc _)) hZ (hw _ (List.mem_of_getElem? (i := 3) rfl)) (hw _ (List.mem_of_getElem? (i := 2) rfl)) (by decide) (by decide)) (g := (mkF m 22 #[.val (.int p1), .val (.int p2), .val (.int p3), .val (.int p4), .val (.int p5), .val (.int p6), .val (.ref r7), .unset, .unset, .unset, .unset, .unset, .unset, .unset, .unset, .unset, .unset, .unset, .unset, .unset, .unset, .unset, .unset, .unset] [(.int ((((p6.toUInt32 >>> ((8 : Int32) &&& 31).toUInt32).toInt32) &&& (255 : Int32)).toUInt32.toUInt16.toUInt32.toInt32))])) rfl (by rw [hml]; rfl) (argsL := [(.int ((((p6.toUInt32 >>> ((8 : Int32) &&& 31).toUInt32).toInt32) &&& (255 : Int32)).toUInt32.toUInt16.toUInt32.toInt32))]) (rest := []) (lenOf pd_0_0 rfl) rfl (by show 2 * 0 + _ ≤ _; exact Nat.le_of_eq rfl) (hb hby at_22) (fun _ _ => ⟨rfl, rfl, (by decide : 2 + 2 ≤ _), (by decide : 5 + 5 ≤ _)⟩)
  dsimp only [Pt.U, Pt.locs, Pt.cells, Pt.slots] at X8 l8 y8 z8 st8 hQ8
  subst l8 y8 z8
  obtain ⟨r8, rfl, N8q, Kc8⟩ := hQ8
  -- Kc8 : Keep T7.heap T8.heap []
  have N8 := Fr.app N7 N8q
  have K8 : Keep h0 T8.heap [] := K7.trans Kc8 (fun x_ hx_ => absurd hx_ (by simp))
  obtain ⟨T9, h9, k9, X9, e9, E9, A9, st9⟩ := newP X8 hx hZ (hw _ (List.mem_of_getElem? (i := 26) rfl)) rfl (g := (mkF m 28 #[.val (.int p1), .val (.int p2), .val (.int p3), .val (.int p4), .val (.int p5), .val (.int p6), .val (.ref r7), .val (.ref r8), .unset, .unset, .unset, .unset, .unset, .unset, .unset, .unset, .unset, .unset, .unset, .unset, .unset, .unset, .unset, .unset] [(.int (2 : Int32))])) rfl (hb hby at_28) rfl (by decide) (cap := 2) (by decide) (by decide) (by decide) (by decide)
  obtain ⟨b9, g9⟩ : ∃ z, z = T8.heap.size := ⟨_, rfl⟩      -- the fresh array's address
  rw [← g9] at A9 st9
  have V_b9 : Arv Z h9 b9 k9 .char (2 : Int32) [(.int (0 : Int32)), (.int (0 : Int32))] (.int (0 : Int32)) := (Arv.new A9 (by decide)).pad (pad_rep [] (.int (0 : Int32)) 2)
  have g_b9 : n0 ≤ b9 := Nat.le_trans (Nat.le_trans (Nat.le_trans Z0 Kc7.1) Kc8.1) (Nat.le_of_eq g9.symm)
  have sz_b9 : h0.size ≤ b9 := (Nat.le_trans K8.1 (Nat.le_of_eq g9.symm))
  have K9 : Keep h0 h9 [] := K8.ext E9
  obtain ⟨cl_b9_42, Ar_b9, q_b9, S_b9, N_b9, H_b9, G_b9⟩ := V_b9      -- open the array's fact as it stands now (its cell, kind, length, elements)
  have hin42 : ¬ ((0 : Int32) < 0 ∨ cl_b9_42.slots.size ≤ ((0 : Int32)).toNatClampNeg) := inb_of S_b9 ⟨by decide, by decide⟩
  obtain ⟨T10, h10, X10, e10, W10, st10⟩ := stC X9 hx hZ e9 Ar_b9 (j := (0 : Int32)) hin42 (g := (mkF m 42 #[.val (.int p1), .val (.int p2), .val (.int p3), .val (.int p4), .val (.int p5), .val (.int p6), .val (.ref r7), .val (.ref r8), .unset, .unset, .unset, .unset, .unset, .unset, .unset, .unset, .unset, .unset, .unset, .unset, .unset, .unset, .unset, .unset] [(.int ((((p6.toUInt32 >>> ((16 : Int32) &&& 31).toUInt32).toInt32) &&& (255 : Int32)).toUInt32.toUInt16.toUInt32.toInt32)), (.int (0 : Int32)), (.ref b9), (.ref b9)])) rfl rfl (hb hby at_42)
  have V_b9_10 := Arv.set Ar_b9 q_b9 S_b9 N_b9 H_b9 G_b9 (fits_nar_char _) W10 0 rfl (Nat.le_of_ble_eq_true rfl)      -- the array as it stands now (the place must lie among its first values: Arv.pad with pad_rep lengthens them)
  have K10 : Keep h0 h10 [] := K9.wr W10 (Or.inr sz_b9)
  have N10 := Fr.snoc X10 N8 g_b9
  obtain ⟨cl_b9_55, Ar_b9, q_b9, S_b9, N_b9, H_b9, G_b9⟩ := V_b9_10      -- open the array's fact as it stands now (its cell, kind, length, elements)
  have hin55 : ¬ ((1 : Int32) < 0 ∨ cl_b9_55.slots.size ≤ ((1 : Int32)).toNatClampNeg) := inb_of S_b9 ⟨by decide, by decide⟩
  obtain ⟨T11, h11, X11, e11, W11, st11⟩ := stC X10 hx hZ e10 Ar_b9 (j := (1 : Int32)) hin55 (g := (mkF m 55 #[.val (.int p1), .val (.int p2), .val (.int p3), .val (.int p4), .val (.int p5), .val (.int p6), .val (.ref r7), .val (.ref r8), .unset, .unset, .unset, .unset, .unset, .unset, .unset, .unset, .unset, .unset, .unset, .unset, .unset, .unset, .unset, .unset] [(.int ((((p6.toUInt32 >>> ((24 : Int32) &&& 31).toUInt32).toInt32) &&& (255 : Int32)).toUInt32.toUInt16.toUInt32.toInt32)), (.int (1 : Int32)), (.ref b9), (.ref b9)])) rfl rfl (hb hby at_55)
  have V_b9_11 := Arv.set Ar_b9 q_b9 S_b9 N_b9 H_b9 G_b9 (fits_nar_char _) W11 1 rfl (Nat.le_of_ble_eq_true rfl)      -- the array as it stands now (the place must lie among its first values: Arv.pad with pad_rep lengthens them)
  have K11 : Keep h0 h11 [] := K10.wr W11 (Or.inr sz_b9)
  have N11 := Fr.snoc X11 N10 g_b9
  obtain ⟨T12, h12, X12, e12, E12, A12, D12, -, st12⟩ := newO X11 hx hZ hown (hw _ (List.mem_of_getElem? (i := 27) rfl)) (hw _ (List.mem_of_getElem? (i := 10) rfl)) (hw _ (List.mem_of_getElem? (i := 2) rfl)) e11 (g := (mkF m 58 #[.val (.int p1), .val (.int p2), .val (.int p3), .val (.int p4), .val (.int p5), .val (.int p6), .val (.ref r7), .val (.ref r8), .val (.ref b9), .unset, .unset, .unset, .unset, .unset, .unset, .unset, .unset, .unset, .unset, .unset, .unset, .unset, .unset, .unset] [])) rfl (hb hby at_58) (by decide) (by decide)
  obtain ⟨b12, g12⟩ : ∃ z, z = h11.size := ⟨_, rfl⟩      -- the fresh object's address
  rw [← g12] at A12 D12 st12      -- A12 : Exa Z h12 b12 "java/lang/String"; E12 : Ext h11 h12 (carries every older fact: .ext E12)
  have F_value_b12 : Fld Z h12 b12 "java/lang/String" "value" "[B" .null := D12 (Or.inr (hw _ (List.mem_of_getElem? (i := 23) rfl))) (ty := (.array .byte)) (by decide)
  have F_coder_b12 : Fld Z h12 b12 "java/lang/String" "coder" "B" (.int (0 : Int32)) := D12 (Or.inr (hw _ (List.mem_of_getElem? (i := 25) rfl))) (ty := .byte) (by decide)
  have E_b12 := A12
  have g_b12 : n0 ≤ b12 := Nat.le_trans (Nat.le_trans (Nat.le_trans (Nat.le_trans (Nat.le_trans (Nat.le_trans Z0 Kc7.1) Kc8.1) E9.1) (Keep.of_wr W10).1) (Keep.of_wr W11).1) (Nat.le_of_eq g12.symm)
  have sz_b12 : h0.size ≤ b12 := (Nat.le_trans K11.1 (Nat.le_of_eq g12.symm))
  have K12 : Keep h0 h12 [] := K11.ext E12
  -- pc 64: the constructor of java/lang/String by its contract rm6
  -- JDK: don't walk it: StrChars.Road.backV (pack/laws/STRINGS.README.md): its own row in place of the next one (the 'backOf (W ..)' becomes what that law's P asks)
  obtain ⟨_, _, ⟨T13, L13, k13, n13⟩, -, X13, ⟨Lc13, hQ13, l13, y13, z13⟩, st13⟩ := X12.specialBack hx (y := (⟨"java/lang/String", "<init>", "([C)V"⟩ : MethodName)) rfl hown (mvT hZ (hw _ (List.mem_of_getElem? (i := 28) rfl))) (mvT hZ (hw _ (List.mem_of_getElem? (i := 29) rfl))) (mvT hZ (hw _ (List.mem_of_getElem? (i := 30) rfl))) (by decide) (Jvm.Pilot.@@N@@.StrChars.Road.backV (W := 1) hZ (own_cw hw) (kI := 4) (hw _ (List.mem_of_getElem? (i := 10) rfl)) (cs := [(nar .char ((((p6.toUInt32 >>> ((16 : Int32) &&& 31).toUInt32).toInt32) &&& (255 : Int32)).toUInt32.toUInt16.toUInt32.toInt32)), (nar .char ((((p6.toUInt32 >>> ((24 : Int32) &&& 31).toUInt32).toInt32) &&& (255 : Int32)).toUInt32.toUInt16.toUInt32.toInt32))]) g_b12 (Nat.le_trans (Nat.le_trans (Nat.le_trans (Nat.le_trans (Nat.le_trans (Nat.le_trans Z0 Kc7.1) Kc8.1) E9.1) (Keep.of_wr W10).1) (Keep.of_wr W11).1) E12.1) E_b12 F_value_b12 F_coder_b12 (V_b9_11.ext E12) (own_sta S_COMPACT_STRINGS K12) hcs rfl rfl (by simp) (by simp) own_two rfl (by decide) (by decide)) (g := (mkF m 64 #[.val (.int p1), .val (.int p2), .val (.int p3), .val (.int p4), .val (.int p5), .val (.int p6), .val (.ref r7), .val (.ref r8), .val (.ref b9), .unset, .unset, .unset, .unset, .unset, .unset, .unset, .unset, .unset, .unset, .unset, .unset, .unset, .unset, .unset] [(.ref b9), (.ref b12), (.ref b12)])) rfl (by rw [hml]; rfl) (Steps.refl _) (a := b12) (argsL := [(.ref b9)]) (rest := [(.ref b12)]) (lenOf pd_0_5 rfl) rfl (by show 2 * 0 + _ ≤ _; exact Nat.le_of_eq rfl) (hb hby at_64) (fun _ _ => ⟨rfl, e12, (by decide : 6 + 1 ≤ _), (by decide : 16 + 2 ≤ _)⟩)
  dsimp only [Pt.U, Pt.locs, Pt.cells, Pt.slots, List.length_cons, List.length_nil] at X13 l13 y13 z13 st13 hQ13
  subst l13 y13 z13
  obtain ⟨rfl, N13q, Kc13, -⟩ := hQ13
  -- Kc13 : Keep h12 T13.heap [b12]
  have N13 := Fr.app N11 N13q
  have K13 : Keep h0 T13.heap [] := K12.trans Kc13 (fun x_ hx_ => by rw [List.mem_singleton.mp hx_]; exact Or.inr sz_b12)
  obtain ⟨T14, h14, X14, e14, E14, A14, D14, -, st14⟩ := newO X13 hx hZ hown (hw _ (List.mem_of_getElem? (i := 44) rfl)) (hw _ (List.mem_of_getElem? (i := 45) rfl)) (hw _ (List.mem_of_getElem? (i := 46) rfl)) rfl (g := (mkF m 69 #[.val (.int p1), .val (.int p2), .val (.int p3), .val (.int p4), .val (.int p5), .val (.int p6), .val (.ref r7), .val (.ref r8), .val (.ref b9), .val (.ref b12), .unset, .unset, .unset, .unset, .unset, .unset, .unset, .unset, .unset, .unset, .unset, .unset, .unset, .unset] [])) rfl (hb hby at_69) (by decide) (by decide)
  obtain ⟨b14, g14⟩ : ∃ z, z = T13.heap.size := ⟨_, rfl⟩      -- the fresh object's address
  rw [← g14] at A14 D14 st14      -- A14 : Exa Z h14 b14 "com/example/stubwright/stubwright/model/Position"; E14 : Ext T13.heap h14 (carries every older fact: .ext E14)
  have F_file_b14 : Fld Z h14 b14 "com/example/stubwright/stubwright/model/Position" "file" "Ljava/lang/String;" .null := D14 (Or.inr (hw _ (List.mem_of_getElem? (i := 55) rfl))) (ty := (.object "java/lang/String")) (by decide)
  have F_line_b14 : Fld Z h14 b14 "com/example/stubwright/stubwright/model/Position" "line" "I" (.int (0 : Int32)) := D14 (Or.inr (hw _ (List.mem_of_getElem? (i := 57) rfl))) (ty := .int) (by decide)
  have F_column_b14 : Fld Z h14 b14 "com/example/stubwright/stubwright/model/Position" "column" "I" (.int (0 : Int32)) := D14 (Or.inr (hw _ (List.mem_of_getElem? (i := 59) rfl))) (ty := .int) (by decide)
  have F_source_b14 : Fld Z h14 b14 "com/example/stubwright/stubwright/model/Position" "source" "Ljava/lang/String;" .null := D14 (Or.inr (hw _ (List.mem_of_getElem? (i := 61) rfl))) (ty := (.object "java/lang/String")) (by decide)
  have E_b14 := A14
  have g_b14 : n0 ≤ b14 := Nat.le_trans (Nat.le_trans (Nat.le_trans (Nat.le_trans (Nat.le_trans (Nat.le_trans (Nat.le_trans (Nat.le_trans Z0 Kc7.1) Kc8.1) E9.1) (Keep.of_wr W10).1) (Keep.of_wr W11).1) E12.1) Kc13.1) (Nat.le_of_eq g14.symm)
  have sz_b14 : h0.size ≤ b14 := (Nat.le_trans K13.1 (Nat.le_of_eq g14.symm))
  have K14 : Keep h0 h14 [] := K13.ext E14
  -- pc 77: the constructor of com/example/stubwright/stubwright/model/Position by its contract rm11
  obtain ⟨_, _, ⟨T15, L15, k15, n15⟩, -, X15, ⟨Lc15, hQ15, l15, y15, z15⟩, st15⟩ := X14.specialBack hx (y := (⟨"com/example/stubwright/stubwright/model/Position", "<init>", "(Ljava/lang/String;II)V"⟩ : MethodName)) rfl hown (mvT hZ (hw _ (List.mem_of_getElem? (i := 47) rfl))) (mvT hZ (hw _ (List.mem_of_getElem? (i := 48) rfl))) (mvT hZ (hw _ (List.mem_of_getElem? (i := 49) rfl))) (by decide) (backOf (W := 1) (rm11 l Z a0 hw [] b14 r7 p1 p2 _ _ _ _ h14 n0 (Nat.le_trans (Nat.le_trans (Nat.le_trans (Nat.le_trans (Nat.le_trans (Nat.le_trans (Nat.le_trans (Nat.le_trans Z0 Kc7.1) Kc8.1) E9.1) (Keep.of_wr W10).1) (Keep.of_wr W11).1) E12.1) Kc13.1) E14.1) E_b14 F_file_b14 g_b14 F_line_b14 F_column_b14 F_source_b14) hZ (hw _ (List.mem_of_getElem? (i := 49) rfl)) (hw _ (List.mem_of_getElem? (i := 46) rfl)) (by decide) (by decide)) (g := (mkF m 77 #[.val (.int p1), .val (.int p2), .val (.int p3), .val (.int p4), .val (.int p5), .val (.int p6), .val (.ref r7), .val (.ref r8), .val (.ref b9), .val (.ref b12), .unset, .unset, .unset, .unset, .unset, .unset, .unset, .unset, .unset, .unset, .unset, .unset, .unset, .unset] [(.int p2), (.int p1), (.ref r7), (.ref b14), (.ref b14)])) rfl (by rw [hml]; rfl) (Steps.refl _) (a := b14) (argsL := [(.ref r7), (.int p1), (.int p2)]) (rest := [(.ref b14)]) (lenOf pd_0_10 rfl) rfl (by show 2 * 0 + _ ≤ _; exact Nat.le_of_eq rfl) (hb hby at_77) (fun _ _ => ⟨rfl, e14, (by decide : 8 + 0 ≤ _), (by decide : 22 + 0 ≤ _)⟩)
  dsimp only [Pt.U, Pt.locs, Pt.cells, Pt.slots] at X15 l15 y15 z15 st15 hQ15
  subst l15 y15 z15
  obtain ⟨rfl, N15q, Kc15, -⟩ := hQ15
  -- Kc15 : Keep h14 T15.heap [b14]
  have N15 := Fr.app N13 N15q
  have K15 : Keep h0 T15.heap [] := K14.trans Kc15 (fun x_ hx_ => by rw [List.mem_singleton.mp hx_]; exact Or.inr sz_b14)
  obtain ⟨T16, h16, X16, e16, E16, A16, D16, -, st16⟩ := newO X15 hx hZ hown (hw _ (List.mem_of_getElem? (i := 44) rfl)) (hw _ (List.mem_of_getElem? (i := 45) rfl)) (hw _ (List.mem_of_getElem? (i := 46) rfl)) rfl (g := (mkF m 82 #[.val (.int p1), .val (.int p2), .val (.int p3), .val (.int p4), .val (.int p5), .val (.int p6), .val (.ref r7), .val (.ref r8), .val (.ref b9), .val (.ref b12), .val (.ref b14), .unset, .unset, .unset, .unset, .unset, .unset, .unset, .unset, .unset, .unset, .unset, .unset, .unset] [])) rfl (hb hby at_82) (by decide) (by decide)
  obtain ⟨b16, g16⟩ : ∃ z, z = T15.heap.size := ⟨_, rfl⟩      -- the fresh object's address
  rw [← g16] at A16 D16 st16      -- A16 : Exa Z h16 b16 "com/example/stubwright/stubwright/model/Position"; E16 : Ext T15.heap h16 (carries every older fact: .ext E16)
  have F_file_b16 : Fld Z h16 b16 "com/example/stubwright/stubwright/model/Position" "file" "Ljava/lang/String;" .null := D16 (Or.inr (hw _ (List.mem_of_getElem? (i := 55) rfl))) (ty := (.object "java/lang/String")) (by decide)
  have F_line_b16 : Fld Z h16 b16 "com/example/stubwright/stubwright/model/Position" "line" "I" (.int (0 : Int32)) := D16 (Or.inr (hw _ (List.mem_of_getElem? (i := 57) rfl))) (ty := .int) (by decide)
  have F_column_b16 : Fld Z h16 b16 "com/example/stubwright/stubwright/model/Position" "column" "I" (.int (0 : Int32)) := D16 (Or.inr (hw _ (List.mem_of_getElem? (i := 59) rfl))) (ty := .int) (by decide)
  have F_source_b16 : Fld Z h16 b16 "com/example/stubwright/stubwright/model/Position" "source" "Ljava/lang/String;" .null := D16 (Or.inr (hw _ (List.mem_of_getElem? (i := 61) rfl))) (ty := (.object "java/lang/String")) (by decide)
  have E_b16 := A16
  have g_b16 : n0 ≤ b16 := Nat.le_trans (Nat.le_trans (Nat.le_trans (Nat.le_trans (Nat.le_trans (Nat.le_trans (Nat.le_trans (Nat.le_trans (Nat.le_trans (Nat.le_trans Z0 Kc7.1) Kc8.1) E9.1) (Keep.of_wr W10).1) (Keep.of_wr W11).1) E12.1) Kc13.1) E14.1) Kc15.1) (Nat.le_of_eq g16.symm)
  have sz_b16 : h0.size ≤ b16 := (Nat.le_trans K15.1 (Nat.le_of_eq g16.symm))
  have K16 : Keep h0 h16 [] := K15.ext E16
  -- pc 90: the constructor of com/example/stubwright/stubwright/model/Position by its contract rm11
  obtain ⟨_, _, ⟨T17, L17, k17, n17⟩, -, X17, ⟨Lc17, hQ17, l17, y17, z17⟩, st17⟩ := X16.specialBack hx (y := (⟨"com/example/stubwright/stubwright/model/Position", "<init>", "(Ljava/lang/String;II)V"⟩ : MethodName)) rfl hown (mvT hZ (hw _ (List.mem_of_getElem? (i := 47) rfl))) (mvT hZ (hw _ (List.mem_of_getElem? (i := 48) rfl))) (mvT hZ (hw _ (List.mem_of_getElem? (i := 49) rfl))) (by decide) (backOf (W := 1) (rm11 l Z a0 hw [] b16 r8 p3 p4 _ _ _ _ h16 n0 (Nat.le_trans (Nat.le_trans (Nat.le_trans (Nat.le_trans (Nat.le_trans (Nat.le_trans (Nat.le_trans (Nat.le_trans (Nat.le_trans (Nat.le_trans Z0 Kc7.1) Kc8.1) E9.1) (Keep.of_wr W10).1) (Keep.of_wr W11).1) E12.1) Kc13.1) E14.1) Kc15.1) E16.1) E_b16 F_file_b16 g_b16 F_line_b16 F_column_b16 F_source_b16) hZ (hw _ (List.mem_of_getElem? (i := 49) rfl)) (hw _ (List.mem_of_getElem? (i := 46) rfl)) (by decide) (by decide)) (g := (mkF m 90 #[.val (.int p1), .val (.int p2), .val (.int p3), .val (.int p4), .val (.int p5), .val (.int p6), .val (.ref r7), .val (.ref r8), .val (.ref b9), .val (.ref b12), .val (.ref b14), .unset, .unset, .unset, .unset, .unset, .unset, .unset, .unset, .unset, .unset, .unset, .unset, .unset] [(.int p4), (.int p3), (.ref r8), (.ref b16), (.ref b16)])) rfl (by rw [hml]; rfl) (Steps.refl _) (a := b16) (argsL := [(.ref r8), (.int p3), (.int p4)]) (rest := [(.ref b16)]) (lenOf pd_0_10 rfl) rfl (by show 2 * 0 + _ ≤ _; exact Nat.le_of_eq rfl) (hb hby at_90) (fun _ _ => ⟨rfl, e16, (by decide : 9 + 0 ≤ _), (by decide : 26 + 0 ≤ _)⟩)
  dsimp only [Pt.U, Pt.locs, Pt.cells, Pt.slots] at X17 l17 y17 z17 st17 hQ17
  subst l17 y17 z17
  obtain ⟨rfl, N17q, Kc17, -⟩ := hQ17
  -- Kc17 : Keep h16 T17.heap [b16]
  have N17 := Fr.app N15 N17q
  have K17 : Keep h0 T17.heap [] := K16.trans Kc17 (fun x_ hx_ => by rw [List.mem_singleton.mp hx_]; exact Or.inr sz_b16)
  obtain ⟨T18, h18, X18, e18, E18, A18, D18, -, st18⟩ := newO X17 hx hZ hown (hw _ (List.mem_of_getElem? (i := 44) rfl)) (hw _ (List.mem_of_getElem? (i := 45) rfl)) (hw _ (List.mem_of_getElem? (i := 46) rfl)) rfl (g := (mkF m 95 #[.val (.int p1), .val (.int p2), .val (.int p3), .val (.int p4), .val (.int p5), .val (.int p6), .val (.ref r7), .val (.ref r8), .val (.ref b9), .val (.ref b12), .val (.ref b14), .val (.ref b16), .unset, .unset, .unset, .unset, .unset, .unset, .unset, .unset, .unset, .unset, .unset, .unset] [])) rfl (hb hby at_95) (by decide) (by decide)
  obtain ⟨b18, g18⟩ : ∃ z, z = T17.heap.size := ⟨_, rfl⟩      -- the fresh object's address
  rw [← g18] at A18 D18 st18      -- A18 : Exa Z h18 b18 "com/example/stubwright/stubwright/model/Position"; E18 : Ext T17.heap h18 (carries every older fact: .ext E18)
  have F_file_b18 : Fld Z h18 b18 "com/example/stubwright/stubwright/model/Position" "file" "Ljava/lang/String;" .null := D18 (Or.inr (hw _ (List.mem_of_getElem? (i := 55) rfl))) (ty := (.object "java/lang/String")) (by decide)
  have F_line_b18 : Fld Z h18 b18 "com/example/stubwright/stubwright/model/Position" "line" "I" (.int (0 : Int32)) := D18 (Or.inr (hw _ (List.mem_of_getElem? (i := 57) rfl))) (ty := .int) (by decide)
  have F_column_b18 : Fld Z h18 b18 "com/example/stubwright/stubwright/model/Position" "column" "I" (.int (0 : Int32)) := D18 (Or.inr (hw _ (List.mem_of_getElem? (i := 59) rfl))) (ty := .int) (by decide)
  have F_source_b18 : Fld Z h18 b18 "com/example/stubwright/stubwright/model/Position" "source" "Ljava/lang/String;" .null := D18 (Or.inr (hw _ (List.mem_of_getElem? (i := 61) rfl))) (ty := (.object "java/lang/String")) (by decide)
  have E_b18 := A18
  have g_b18 : n0 ≤ b18 := Nat.le_trans (Nat.le_trans (Nat.le_trans (Nat.le_trans (Nat.le_trans (Nat.le_trans (Nat.le_trans (Nat.le_trans (Nat.le_trans (Nat.le_trans (Nat.le_trans (Nat.le_trans Z0 Kc7.1) Kc8.1) E9.1) (Keep.of_wr W10).1) (Keep.of_wr W11).1) E12.1) Kc13.1) E14.1) Kc15.1) E16.1) Kc17.1) (Nat.le_of_eq g18.symm)
  have sz_b18 : h0.size ≤ b18 := (Nat.le_trans K17.1 (Nat.le_of_eq g18.symm))
  have K18 : Keep h0 h18 [] := K17.ext E18
  -- pc 103: the constructor of com/example/stubwright/stubwright/model/Position by its contract rm11
  obtain ⟨_, _, ⟨T19, L19, k19, n19⟩, -, X19, ⟨Lc19, hQ19, l19, y19, z19⟩, st19⟩ := X18.specialBack hx (y := (⟨"com/example/stubwright/stubwright/model/Position", "<init>", "(Ljava/lang/String;II)V"⟩ : MethodName)) rfl hown (mvT hZ (hw _ (List.mem_of_getElem? (i := 47) rfl))) (mvT hZ (hw _ (List.mem_of_getElem? (i := 48) rfl))) (mvT hZ (hw _ (List.mem_of_getElem? (i := 49) rfl))) (by decide) (backOf (W := 1) (rm11 l Z a0 hw [] b18 r7 p3 p2 _ _ _ _ h18 n0 (Nat.le_trans (Nat.le_trans (Nat.le_trans (Nat.le_trans (Nat.le_trans (Nat.le_trans (Nat.le_trans (Nat.le_trans (Nat.le_trans (Nat.le_trans (Nat.le_trans (Nat.le_trans Z0 Kc7.1) Kc8.1) E9.1) (Keep.of_wr W10).1) (Keep.of_wr W11).1) E12.1) Kc13.1) E14.1) Kc15.1) E16.1) Kc17.1) E18.1) E_b18 F_file_b18 g_b18 F_line_b18 F_column_b18 F_source_b18) hZ (hw _ (List.mem_of_getElem? (i := 49) rfl)) (hw _ (List.mem_of_getElem? (i := 46) rfl)) (by decide) (by decide)) (g := (mkF m 103 #[.val (.int p1), .val (.int p2), .val (.int p3), .val (.int p4), .val (.int p5), .val (.int p6), .val (.ref r7), .val (.ref r8), .val (.ref b9), .val (.ref b12), .val (.ref b14), .val (.ref b16), .unset, .unset, .unset, .unset, .unset, .unset, .unset, .unset, .unset, .unset, .unset, .unset] [(.int p2), (.int p3), (.ref r7), (.ref b18), (.ref b18)])) rfl (by rw [hml]; rfl) (Steps.refl _) (a := b18) (argsL := [(.ref r7), (.int p3), (.int p2)]) (rest := [(.ref b18)]) (lenOf pd_0_10 rfl) rfl (by show 2 * 0 + _ ≤ _; exact Nat.le_of_eq rfl) (hb hby at_103) (fun _ _ => ⟨rfl, e18, (by decide : 10 + 0 ≤ _), (by decide : 30 + 0 ≤ _)⟩)
  dsimp only [Pt.U, Pt.locs, Pt.cells, Pt.slots] at X19 l19 y19 z19 st19 hQ19
  subst l19 y19 z19
  obtain ⟨rfl, N19q, Kc19, -⟩ := hQ19
  -- Kc19 : Keep h18 T19.heap [b18]
  have N19 := Fr.app N17 N19q
  have K19 : Keep h0 T19.heap [] := K18.trans Kc19 (fun x_ hx_ => by rw [List.mem_singleton.mp hx_]; exact Or.inr sz_b18)
  obtain ⟨T20, h20, X20, e20, E20, A20, D20, -, st20⟩ := newO X19 hx hZ hown (hw _ (List.mem_of_getElem? (i := 62) rfl)) (hw _ (List.mem_of_getElem? (i := 63) rfl)) (hw _ (List.mem_of_getElem? (i := 64) rfl)) rfl (g := (mkF m 140 #[.val (.int p1), .val (.int p2), .val (.int p3), .val (.int p4), .val (.int p5), .val (.int p6), .val (.ref r7), .val (.ref r8), .val (.ref b9), .val (.ref b12), .val (.ref b14), .val (.ref b16), .val (.ref b18), .val (.int (0 : Int32)), .val (.int (1 : Int32)), .unset, .unset, .unset, .unset, .unset, .unset, .unset, .unset, .unset] [])) rfl (hb hby at_140) (by decide) (by decide)
  obtain ⟨b20, g20⟩ : ∃ z, z = T19.heap.size := ⟨_, rfl⟩      -- the fresh object's address
  rw [← g20] at A20 D20 st20      -- A20 : Exa Z h20 b20 "com/example/stubwright/stubwright/read/Token"; E20 : Ext T19.heap h20 (carries every older fact: .ext E20)
  have F_kind_b20 : Fld Z h20 b20 "com/example/stubwright/stubwright/read/Token" "kind" "Lcom/example/stubwright/stubwright/read/Token$Kind;" .null := D20 (Or.inr (hw _ (List.mem_of_getElem? (i := 80) rfl))) (ty := (.object "com/example/stubwright/stubwright/read/Token$Kind")) (by decide)
  have F_spelling_b20 : Fld Z h20 b20 "com/example/stubwright/stubwright/read/Token" "spelling" "Ljava/lang/String;" .null := D20 (Or.inr (hw _ (List.mem_of_getElem? (i := 82) rfl))) (ty := (.object "java/lang/String")) (by decide)
  have F_value_b20 : Fld Z h20 b20 "com/example/stubwright/stubwright/read/Token" "value" "Ljava/lang/Object;" .null := D20 (Or.inr (hw _ (List.mem_of_getElem? (i := 84) rfl))) (ty := (.object "java/lang/Object")) (by decide)
  have F_position_b20 : Fld Z h20 b20 "com/example/stubwright/stubwright/read/Token" "position" "Lcom/example/stubwright/stubwright/model/Position;" .null := D20 (Or.inr (hw _ (List.mem_of_getElem? (i := 86) rfl))) (ty := (.object "com/example/stubwright/stubwright/model/Position")) (by decide)
  have F_spaceBefore_b20 : Fld Z h20 b20 "com/example/stubwright/stubwright/read/Token" "spaceBefore" "Z" (.int (0 : Int32)) := D20 (Or.inr (hw _ (List.mem_of_getElem? (i := 88) rfl))) (ty := .boolean) (by decide)
  have F_painted_b20 : Fld Z h20 b20 "com/example/stubwright/stubwright/read/Token" "painted" "Z" (.int (0 : Int32)) := D20 (Or.inr (hw _ (List.mem_of_getElem? (i := 90) rfl))) (ty := .boolean) (by decide)
  have F_expansion_b20 : Fld Z h20 b20 "com/example/stubwright/stubwright/read/Token" "expansion" "Lcom/example/stubwright/stubwright/model/Position;" .null := D20 (Or.inr (hw _ (List.mem_of_getElem? (i := 92) rfl))) (ty := (.object "com/example/stubwright/stubwright/model/Position")) (by decide)
  have E_b20 := A20
  have g_b20 : n0 ≤ b20 := Nat.le_trans (Nat.le_trans (Nat.le_trans (Nat.le_trans (Nat.le_trans (Nat.le_trans (Nat.le_trans (Nat.le_trans (Nat.le_trans (Nat.le_trans (Nat.le_trans (Nat.le_trans (Nat.le_trans (Nat.le_trans Z0 Kc7.1) Kc8.1) E9.1) (Keep.of_wr W10).1) (Keep.of_wr W11).1) E12.1) Kc13.1) E14.1) Kc15.1) E16.1) Kc17.1) E18.1) Kc19.1) (Nat.le_of_eq g20.symm)
  have sz_b20 : h0.size ≤ b20 := (Nat.le_trans K19.1 (Nat.le_of_eq g20.symm))
  have K20 : Keep h0 h20 [] := K19.ext E20
  -- pc 146: com/example/stubwright/stubwright/read/TokenExpansionPointPinLaw.kindOf by its contract rm13
  obtain ⟨_, _, ⟨T21, L21, k21, n21⟩, -, X21, ⟨Lc21, hQ21, l21, y21, z21⟩, st21⟩ := Jvm.LawKit.callS X20 hx (y := (⟨"com/example/stubwright/stubwright/read/TokenExpansionPointPinLaw", "kindOf", "(I)Lcom/example/stubwright/stubwright/read/Token$Kind;"⟩ : MethodName)) hown (mvT hZ (hw _ (List.mem_of_getElem? (i := 65) rfl))) (mvT hZ (hw _ (List.mem_of_getElem? (i := 66) rfl))) (mvT hZ (hw _ (List.mem_of_getElem? (i := 67) rfl))) (mvT hZ (hw _ (List.mem_of_getElem? (i := 68) rfl))) (by decide) (backOf (W := 2) (rm13 l Z a0 hw [] p5 wk h20 n0 (Nat.le_trans (Nat.le_trans (Nat.le_trans (Nat.le_trans (Nat.le_trans (Nat.le_trans (Nat.le_trans (Nat.le_trans (Nat.le_trans (Nat.le_trans (Nat.le_trans (Nat.le_trans (Nat.le_trans (Nat.le_trans Z0 Kc7.1) Kc8.1) E9.1) (Keep.of_wr W10).1) (Keep.of_wr W11).1) E12.1) Kc13.1) E14.1) Kc15.1) E16.1) Kc17.1) E18.1) Kc19.1) E20.1) (own_sta S_kind K20)) hZ (hw _ (List.mem_of_getElem? (i := 68) rfl)) (hw _ (List.mem_of_getElem? (i := 67) rfl)) (by decide) (by decide)) (g := (mkF m 146 #[.val (.int p1), .val (.int p2), .val (.int p3), .val (.int p4), .val (.int p5), .val (.int p6), .val (.ref r7), .val (.ref r8), .val (.ref b9), .val (.ref b12), .val (.ref b14), .val (.ref b16), .val (.ref b18), .val (.int (0 : Int32)), .val (.int (1 : Int32)), .unset, .unset, .unset, .unset, .unset, .unset, .unset, .unset, .unset] [(.int p5), (.ref b20), (.ref b20)])) rfl (by rw [hml]; rfl) (argsL := [(.int p5)]) (rest := [(.ref b20), (.ref b20)]) (lenOf pd_0_12 rfl) rfl (by show 2 * 0 + _ ≤ _; exact Nat.le_of_eq rfl) (hb hby at_146) (fun _ _ => ⟨rfl, e20, (by decide : 11 + 0 ≤ _), (by decide : 37 + 0 ≤ _)⟩)
  dsimp only [Pt.U, Pt.locs, Pt.cells, Pt.slots] at X21 l21 y21 z21 st21 hQ21
  subst l21 y21 z21
  obtain ⟨rfl, N21q, hh21⟩ := hQ21
  have Kc21 : Keep h20 T21.heap [] := by rw [hh21]; exact Keep.refl _ _
  have N21 := Fr.app N19 N21q
  have K21 : Keep h0 T21.heap [] := K20.trans Kc21 (fun x_ hx_ => absurd hx_ (by simp))
  -- pc 156: the constructor of com/example/stubwright/stubwright/read/Token by its contract rm14
  obtain ⟨_, _, ⟨T22, L22, k22, n22⟩, -, X22, ⟨Lc22, hQ22, l22, y22, z22⟩, st22⟩ := X21.specialBack hx (y := (⟨"com/example/stubwright/stubwright/read/Token", "<init>", "(Lcom/example/stubwright/stubwright/read/Token$Kind;Ljava/lang/String;Ljava/lang/Object;Lcom/example/stubwright/stubwright/model/Position;Z)V"⟩ : MethodName)) rfl hown (mvT hZ (hw _ (List.mem_of_getElem? (i := 72) rfl))) (mvT hZ (hw _ (List.mem_of_getElem? (i := 73) rfl))) (mvT hZ (hw _ (List.mem_of_getElem? (i := 74) rfl))) (by decide) (backOf (W := 1) (rm14 l Z a0 hw [] b20 wk b12 b14 (0 : Int32) _ _ _ _ _ _ _ T21.heap n0 (Nat.le_trans (Nat.le_trans (Nat.le_trans (Nat.le_trans (Nat.le_trans (Nat.le_trans (Nat.le_trans (Nat.le_trans (Nat.le_trans (Nat.le_trans (Nat.le_trans (Nat.le_trans (Nat.le_trans (Nat.le_trans (Nat.le_trans Z0 Kc7.1) Kc8.1) E9.1) (Keep.of_wr W10).1) (Keep.of_wr W11).1) E12.1) Kc13.1) E14.1) Kc15.1) E16.1) Kc17.1) E18.1) Kc19.1) E20.1) Kc21.1) (E_b20.keep Kc21) (F_kind_b20.keep Kc21 (by simp)) g_b20 (F_spelling_b20.keep Kc21 (by simp)) (F_value_b20.keep Kc21 (by simp)) (F_position_b20.keep Kc21 (by simp)) (F_spaceBefore_b20.keep Kc21 (by simp)) (F_painted_b20.keep Kc21 (by simp)) (F_expansion_b20.keep Kc21 (by simp))) hZ (hw _ (List.mem_of_getElem? (i := 74) rfl)) (hw _ (List.mem_of_getElem? (i := 64) rfl)) (by decide) (by decide)) (g := (mkF m 156 #[.val (.int p1), .val (.int p2), .val (.int p3), .val (.int p4), .val (.int p5), .val (.int p6), .val (.ref r7), .val (.ref r8), .val (.ref b9), .val (.ref b12), .val (.ref b14), .val (.ref b16), .val (.ref b18), .val (.int (0 : Int32)), .val (.int (1 : Int32)), .unset, .unset, .unset, .unset, .unset, .unset, .unset, .unset, .unset] [(.int (0 : Int32)), (.ref b14), .null, (.ref b12), (.ref wk), (.ref b20), (.ref b20)])) rfl (by rw [hml]; rfl) (Steps.refl _) (a := b20) (argsL := [(.ref wk), (.ref b12), .null, (.ref b14), (.int (0 : Int32))]) (rest := [(.ref b20)]) (lenOf pd_0_13 rfl) rfl (by show 2 * 0 + _ ≤ _; exact Nat.le_of_eq rfl) (hb hby at_156) (fun _ _ => ⟨rfl, rfl, (by decide : 11 + 0 ≤ _), (by decide : 37 + 0 ≤ _)⟩)
  dsimp only [Pt.U, Pt.locs, Pt.cells, Pt.slots] at X22 l22 y22 z22 st22 hQ22
  subst l22 y22 z22
  obtain ⟨rfl, N22q, Kc22, Et22, Fkind22, Fspelling22, Fvalue22, Fposition22, FspaceBefore22, Fpainted22, Fexpansion22⟩ := hQ22
  -- Kc22 : Keep T21.heap T22.heap [b20]
  have N22 := Fr.app N21 N22q
  have K22 : Keep h0 T22.heap [] := K21.trans Kc22 (fun x_ hx_ => by rw [List.mem_singleton.mp hx_]; exact Or.inr sz_b20)
  -- pc 163: com/example/stubwright/stubwright/read/Token.expansionPoint by the contract of the body that the receiver's class selects, rm16
  obtain ⟨cq23, kq23, q23a, q23b, q23c⟩ := isOf hZ rfl Et22
  obtain ⟨_, _, ⟨T23, L23, k23, n23⟩, -, X23, ⟨Lc23, hQ23, l23, y23, z23⟩, st23⟩ := X22.virtualBack hx (y := (⟨"com/example/stubwright/stubwright/read/Token", "expansionPoint", "()Lcom/example/stubwright/stubwright/model/Position;"⟩ : MethodName)) (z := (⟨"com/example/stubwright/stubwright/read/Token", "expansionPoint", "()Lcom/example/stubwright/stubwright/model/Position;"⟩ : MethodName)) hown (mvT hZ (hw _ (List.mem_of_getElem? (i := 93) rfl))) (mvT hZ (hw _ (List.mem_of_getElem? (i := 94) rfl))) (notFace_of_selects (args := #[]) (mvT hZ (hw _ (List.mem_of_getElem? (i := 96) rfl)))) (mvT hZ (hw _ (List.mem_of_getElem? (i := 96) rfl))) (mvT hZ (hw _ (List.mem_of_getElem? (i := 95) rfl))) (by decide) (backOf (W := 0) (rm16n l Z a0 hw [] b20 b14 T22.heap n0 (Nat.le_trans (Nat.le_trans (Nat.le_trans (Nat.le_trans (Nat.le_trans (Nat.le_trans (Nat.le_trans (Nat.le_trans (Nat.le_trans (Nat.le_trans (Nat.le_trans (Nat.le_trans (Nat.le_trans (Nat.le_trans (Nat.le_trans (Nat.le_trans Z0 Kc7.1) Kc8.1) E9.1) (Keep.of_wr W10).1) (Keep.of_wr W11).1) E12.1) Kc13.1) E14.1) Kc15.1) E16.1) Kc17.1) E18.1) Kc19.1) E20.1) Kc21.1) Kc22.1) Fexpansion22 Fposition22) hZ (hw _ (List.mem_of_getElem? (i := 97) rfl)) (hw _ (List.mem_of_getElem? (i := 64) rfl)) (by decide) (by decide)) q23a q23c (g := (mkF m 163 #[.val (.int p1), .val (.int p2), .val (.int p3), .val (.int p4), .val (.int p5), .val (.int p6), .val (.ref r7), .val (.ref r8), .val (.ref b9), .val (.ref b12), .val (.ref b14), .val (.ref b16), .val (.ref b18), .val (.int (0 : Int32)), .val (.int (1 : Int32)), .val (.ref b20), .unset, .unset, .unset, .unset, .unset, .unset, .unset, .unset] [(.ref b20)])) rfl (by rw [hml]; rfl) (Steps.refl _) (argsL := []) (rest := []) (lenOf pd_0_15 rfl) rfl (by show 2 * 0 + _ ≤ _; exact Nat.le_of_eq rfl) (hb hby at_163) (fun _ _ => ⟨rfl, rfl, (by decide : 11 + 0 ≤ _), (by decide : 37 + 0 ≤ _)⟩)
  dsimp only [Pt.U, Pt.locs, Pt.cells, Pt.slots] at X23 l23 y23 z23 st23 hQ23
  subst l23 y23 z23
  obtain ⟨rfl, N23q, hh23⟩ := hQ23
  have Kc23 : Keep T22.heap T23.heap [] := by rw [hh23]; exact Keep.refl _ _
  have N23 := Fr.app N22 N23q
  have K23 : Keep h0 T23.heap [] := K22.trans Kc23 (fun x_ hx_ => absurd hx_ (by simp))
  -- pc 195: com/example/stubwright/stubwright/read/Token.expandedAt by the contract of the body that the receiver's class selects, rm17
  obtain ⟨cq24, kq24, q24a, q24b, q24c⟩ := isOf hZ rfl (Et22.keep Kc23)
  obtain ⟨_, _, ⟨T24, L24, k24, n24⟩, -, X24, ⟨Lc24, hQ24, l24, y24, z24⟩, st24⟩ := X23.virtualBack hx (y := (⟨"com/example/stubwright/stubwright/read/Token", "expandedAt", "(Lcom/example/stubwright/stubwright/model/Position;)Lcom/example/stubwright/stubwright/read/Token;"⟩ : MethodName)) (z := (⟨"com/example/stubwright/stubwright/read/Token", "expandedAt", "(Lcom/example/stubwright/stubwright/model/Position;)Lcom/example/stubwright/stubwright/read/Token;"⟩ : MethodName)) hown (mvT hZ (hw _ (List.mem_of_getElem? (i := 98) rfl))) (mvT hZ (hw _ (List.mem_of_getElem? (i := 99) rfl))) (notFace_of_selects (args := #[]) (mvT hZ (hw _ (List.mem_of_getElem? (i := 101) rfl)))) (mvT hZ (hw _ (List.mem_of_getElem? (i := 101) rfl))) (mvT hZ (hw _ (List.mem_of_getElem? (i := 100) rfl))) (by decide) (backOf (W := 0) (rm17n l Z a0 hw [] b20 wk b12 b14 (nar .boolean (0 : Int32)) (nar .boolean (0 : Int32)) T23.heap n0 (Nat.le_trans (Nat.le_trans (Nat.le_trans (Nat.le_trans (Nat.le_trans (Nat.le_trans (Nat.le_trans (Nat.le_trans (Nat.le_trans (Nat.le_trans (Nat.le_trans (Nat.le_trans (Nat.le_trans (Nat.le_trans (Nat.le_trans (Nat.le_trans (Nat.le_trans Z0 Kc7.1) Kc8.1) E9.1) (Keep.of_wr W10).1) (Keep.of_wr W11).1) E12.1) Kc13.1) E14.1) Kc15.1) E16.1) Kc17.1) E18.1) Kc19.1) E20.1) Kc21.1) Kc22.1) Kc23.1) (Fkind22.keep Kc23 (by simp)) (Fspelling22.keep Kc23 (by simp)) (Fvalue22.keep Kc23 (by simp)) (Fposition22.keep Kc23 (by simp)) (FspaceBefore22.keep Kc23 (by simp)) (Fpainted22.keep Kc23 (by simp))) hZ (hw _ (List.mem_of_getElem? (i := 102) rfl)) (hw _ (List.mem_of_getElem? (i := 64) rfl)) (by decide) (by decide)) q24a q24c (g := (mkF m 195 #[.val (.int p1), .val (.int p2), .val (.int p3), .val (.int p4), .val (.int p5), .val (.int p6), .val (.ref r7), .val (.ref r8), .val (.ref b9), .val (.ref b12), .val (.ref b14), .val (.ref b16), .val (.ref b18), .val (.int (0 : Int32)), .val (.int (1 : Int32)), .val (.ref b20), .val (.int (1 : Int32)), .val .null, .unset, .unset, .unset, .unset, .unset, .unset] [.null, (.ref b20)])) rfl (by rw [hml]; rfl) (Steps.refl _) (argsL := [.null]) (rest := []) (lenOf pd_0_16 rfl) rfl (by show 2 * 0 + _ ≤ _; exact Nat.le_of_eq rfl) (hb hby at_195) (fun _ _ => ⟨rfl, rfl, (by decide : 11 + 1 ≤ _), (by decide : 37 + 7 ≤ _)⟩)
  dsimp only [Pt.U, Pt.locs, Pt.cells, Pt.slots] at X24 l24 y24 z24 st24 hQ24
  subst l24 y24 z24
  obtain ⟨r24, rfl, N24q, Kc24, le24, Et24, Fkind24, Fspelling24, Fvalue24, Fposition24, FspaceBefore24, Fpainted24, Fexpansion24⟩ := hQ24
  -- Kc24 : Keep T23.heap T24.heap []
  have N24 := Fr.app N23 N24q
  have g_r24 : n0 ≤ r24 := Nat.le_trans (Nat.le_trans (Nat.le_trans (Nat.le_trans (Nat.le_trans (Nat.le_trans (Nat.le_trans (Nat.le_trans (Nat.le_trans (Nat.le_trans (Nat.le_trans (Nat.le_trans (Nat.le_trans (Nat.le_trans (Nat.le_trans (Nat.le_trans (Nat.le_trans (Nat.le_trans Z0 Kc7.1) Kc8.1) E9.1) (Keep.of_wr W10).1) (Keep.of_wr W11).1) E12.1) Kc13.1) E14.1) Kc15.1) E16.1) Kc17.1) E18.1) Kc19.1) E20.1) Kc21.1) Kc22.1) Kc23.1) le24
  have K24 : Keep h0 T24.heap [] := K23.trans Kc24 (fun x_ hx_ => absurd hx_ (by simp))
  -- pc 216: com/example/stubwright/stubwright/read/Token.expansionPoint by the contract of the body that the receiver's class selects, rm16
  obtain ⟨cq25, kq25, q25a, q25b, q25c⟩ := isOf hZ rfl Et24
  obtain ⟨_, _, ⟨T25, L25, k25, n25⟩, -, X25, ⟨Lc25, hQ25, l25, y25, z25⟩, st25⟩ := X24.virtualBack hx (y := (⟨"com/example/stubwright/stubwright/read/Token", "expansionPoint", "()Lcom/example/stubwright/stubwright/model/Position;"⟩ : MethodName)) (z := (⟨"com/example/stubwright/stubwright/read/Token", "expansionPoint", "()Lcom/example/stubwright/stubwright/model/Position;"⟩ : MethodName)) hown (mvT hZ (hw _ (List.mem_of_getElem? (i := 93) rfl))) (mvT hZ (hw _ (List.mem_of_getElem? (i := 94) rfl))) (notFace_of_selects (args := #[]) (mvT hZ (hw _ (List.mem_of_getElem? (i := 96) rfl)))) (mvT hZ (hw _ (List.mem_of_getElem? (i := 96) rfl))) (mvT hZ (hw _ (List.mem_of_getElem? (i := 95) rfl))) (by decide) (backOf (W := 0) (rm16n l Z a0 hw [] r24 b14 T24.heap n0 (Nat.le_trans (Nat.le_trans (Nat.le_trans (Nat.le_trans (Nat.le_trans (Nat.le_trans (Nat.le_trans (Nat.le_trans (Nat.le_trans (Nat.le_trans (Nat.le_trans (Nat.le_trans (Nat.le_trans (Nat.le_trans (Nat.le_trans (Nat.le_trans (Nat.le_trans (Nat.le_trans Z0 Kc7.1) Kc8.1) E9.1) (Keep.of_wr W10).1) (Keep.of_wr W11).1) E12.1) Kc13.1) E14.1) Kc15.1) E16.1) Kc17.1) E18.1) Kc19.1) E20.1) Kc21.1) Kc22.1) Kc23.1) Kc24.1) Fexpansion24 Fposition24) hZ (hw _ (List.mem_of_getElem? (i := 97) rfl)) (hw _ (List.mem_of_getElem? (i := 64) rfl)) (by decide) (by decide)) q25a q25c (g := (mkF m 216 #[.val (.int p1), .val (.int p2), .val (.int p3), .val (.int p4), .val (.int p5), .val (.int p6), .val (.ref r7), .val (.ref r8), .val (.ref b9), .val (.ref b12), .val (.ref b14), .val (.ref b16), .val (.ref b18), .val (.int (0 : Int32)), .val (.int (1 : Int32)), .val (.ref b20), .val (.int (1 : Int32)), .val .null, .val (.ref r24), .val (.ref b14), .unset, .unset, .unset, .unset] [(.ref r24)])) rfl (by rw [hml]; rfl) (Steps.refl _) (argsL := []) (rest := []) (lenOf pd_0_15 rfl) rfl (by show 2 * 0 + _ ≤ _; exact Nat.le_of_eq rfl) (hb hby at_216) (fun _ _ => ⟨rfl, rfl, (by decide : 12 + 0 ≤ _), (by decide : 44 + 0 ≤ _)⟩)
  dsimp only [Pt.U, Pt.locs, Pt.cells, Pt.slots] at X25 l25 y25 z25 st25 hQ25
  subst l25 y25 z25
  obtain ⟨rfl, N25q, hh25⟩ := hQ25
  have Kc25 : Keep T24.heap T25.heap [] := by rw [hh25]; exact Keep.refl _ _
  have N25 := Fr.app N24 N25q
  have K25 : Keep h0 T25.heap [] := K24.trans Kc25 (fun x_ hx_ => absurd hx_ (by simp))
  -- pc 235: com/example/stubwright/stubwright/read/Token.at by the contract of the body that the receiver's class selects, rm18
  obtain ⟨cq26, kq26, q26a, q26b, q26c⟩ := isOf hZ rfl (Et24.keep Kc25)
  obtain ⟨_, _, ⟨T26, L26, k26, n26⟩, -, X26, ⟨Lc26, hQ26, l26, y26, z26⟩, st26⟩ := X25.virtualBack hx (y := (⟨"com/example/stubwright/stubwright/read/Token", "at", "(Lcom/example/stubwright/stubwright/model/Position;)Lcom/example/stubwright/stubwright/read/Token;"⟩ : MethodName)) (z := (⟨"com/example/stubwright/stubwright/read/Token", "at", "(Lcom/example/stubwright/stubwright/model/Position;)Lcom/example/stubwright/stubwright/read/Token;"⟩ : MethodName)) hown (mvT hZ (hw _ (List.mem_of_getElem? (i := 104) rfl))) (mvT hZ (hw _ (List.mem_of_getElem? (i := 105) rfl))) (notFace_of_selects (args := #[]) (mvT hZ (hw _ (List.mem_of_getElem? (i := 107) rfl)))) (mvT hZ (hw _ (List.mem_of_getElem? (i := 107) rfl))) (mvT hZ (hw _ (List.mem_of_getElem? (i := 106) rfl))) (by decide) (backOf (W := 0) (rm18n l Z a0 hw [] r24 b18 wk b12 (nar .boolean (nar .boolean (0 : Int32))) (nar .boolean (nar .boolean (0 : Int32))) T25.heap n0 (Nat.le_trans (Nat.le_trans (Nat.le_trans (Nat.le_trans (Nat.le_trans (Nat.le_trans (Nat.le_trans (Nat.le_trans (Nat.le_trans (Nat.le_trans (Nat.le_trans (Nat.le_trans (Nat.le_trans (Nat.le_trans (Nat.le_trans (Nat.le_trans (Nat.le_trans (Nat.le_trans (Nat.le_trans Z0 Kc7.1) Kc8.1) E9.1) (Keep.of_wr W10).1) (Keep.of_wr W11).1) E12.1) Kc13.1) E14.1) Kc15.1) E16.1) Kc17.1) E18.1) Kc19.1) E20.1) Kc21.1) Kc22.1) Kc23.1) Kc24.1) Kc25.1) (Fkind24.keep Kc25 (by simp)) (Fspelling24.keep Kc25 (by simp)) (Fvalue24.keep Kc25 (by simp)) (FspaceBefore24.keep Kc25 (by simp)) (Fpainted24.keep Kc25 (by simp)) (Fexpansion24.keep Kc25 (by simp))) hZ (hw _ (List.mem_of_getElem? (i := 108) rfl)) (hw _ (List.mem_of_getElem? (i := 64) rfl)) (by decide) (by decide)) q26a q26c (g := (mkF m 235 #[.val (.int p1), .val (.int p2), .val (.int p3), .val (.int p4), .val (.int p5), .val (.int p6), .val (.ref r7), .val (.ref r8), .val (.ref b9), .val (.ref b12), .val (.ref b14), .val (.ref b16), .val (.ref b18), .val (.int (0 : Int32)), .val (.int (1 : Int32)), .val (.ref b20), .val (.int (1 : Int32)), .val .null, .val (.ref r24), .val (.ref b14), .val (.int (1 : Int32)), .unset, .unset, .unset] [(.ref b18), (.ref r24)])) rfl (by rw [hml]; rfl) (Steps.refl _) (argsL := [(.ref b18)]) (rest := []) (lenOf pd_0_16 rfl) rfl (by show 2 * 0 + _ ≤ _; exact Nat.le_of_eq rfl) (hb hby at_235) (fun _ _ => ⟨rfl, rfl, (by decide : 12 + 1 ≤ _), (by decide : 44 + 7 ≤ _)⟩)
  dsimp only [Pt.U, Pt.locs, Pt.cells, Pt.slots] at X26 l26 y26 z26 st26 hQ26
  subst l26 y26 z26
  obtain ⟨r26, rfl, N26q, Kc26, le26, Et26, Fkind26, Fspelling26, Fvalue26, Fposition26, FspaceBefore26, Fpainted26, Fexpansion26⟩ := hQ26
  -- Kc26 : Keep T25.heap T26.heap []
  have N26 := Fr.app N25 N26q
  have g_r26 : n0 ≤ r26 := Nat.le_trans (Nat.le_trans (Nat.le_trans (Nat.le_trans (Nat.le_trans (Nat.le_trans (Nat.le_trans (Nat.le_trans (Nat.le_trans (Nat.le_trans (Nat.le_trans (Nat.le_trans (Nat.le_trans (Nat.le_trans (Nat.le_trans (Nat.le_trans (Nat.le_trans (Nat.le_trans (Nat.le_trans (Nat.le_trans Z0 Kc7.1) Kc8.1) E9.1) (Keep.of_wr W10).1) (Keep.of_wr W11).1) E12.1) Kc13.1) E14.1) Kc15.1) E16.1) Kc17.1) E18.1) Kc19.1) E20.1) Kc21.1) Kc22.1) Kc23.1) Kc24.1) Kc25.1) le26
  have K26 : Keep h0 T26.heap [] := K25.trans Kc26 (fun x_ hx_ => absurd hx_ (by simp))
  -- pc 256: com/example/stubwright/stubwright/read/Token.expansionPoint by the contract of the body that the receiver's class selects, rm16
  obtain ⟨cq27, kq27, q27a, q27b, q27c⟩ := isOf hZ rfl Et26
  obtain ⟨_, _, ⟨T27, L27, k27, n27⟩, -, X27, ⟨Lc27, hQ27, l27, y27, z27⟩, st27⟩ := X26.virtualBack hx (y := (⟨"com/example/stubwright/stubwright/read/Token", "expansionPoint", "()Lcom/example/stubwright/stubwright/model/Position;"⟩ : MethodName)) (z := (⟨"com/example/stubwright/stubwright/read/Token", "expansionPoint", "()Lcom/example/stubwright/stubwright/model/Position;"⟩ : MethodName)) hown (mvT hZ (hw _ (List.mem_of_getElem? (i := 93) rfl))) (mvT hZ (hw _ (List.mem_of_getElem? (i := 94) rfl))) (notFace_of_selects (args := #[]) (mvT hZ (hw _ (List.mem_of_getElem? (i := 96) rfl)))) (mvT hZ (hw _ (List.mem_of_getElem? (i := 96) rfl))) (mvT hZ (hw _ (List.mem_of_getElem? (i := 95) rfl))) (by decide) (backOf (W := 0) (rm16n l Z a0 hw [] r26 b18 T26.heap n0 (Nat.le_trans (Nat.le_trans (Nat.le_trans (Nat.le_trans (Nat.le_trans (Nat.le_trans (Nat.le_trans (Nat.le_trans (Nat.le_trans (Nat.le_trans (Nat.le_trans (Nat.le_trans (Nat.le_trans (Nat.le_trans (Nat.le_trans (Nat.le_trans (Nat.le_trans (Nat.le_trans (Nat.le_trans (Nat.le_trans Z0 Kc7.1) Kc8.1) E9.1) (Keep.of_wr W10).1) (Keep.of_wr W11).1) E12.1) Kc13.1) E14.1) Kc15.1) E16.1) Kc17.1) E18.1) Kc19.1) E20.1) Kc21.1) Kc22.1) Kc23.1) Kc24.1) Kc25.1) Kc26.1) Fexpansion26 Fposition26) hZ (hw _ (List.mem_of_getElem? (i := 97) rfl)) (hw _ (List.mem_of_getElem? (i := 64) rfl)) (by decide) (by decide)) q27a q27c (g := (mkF m 256 #[.val (.int p1), .val (.int p2), .val (.int p3), .val (.int p4), .val (.int p5), .val (.int p6), .val (.ref r7), .val (.ref r8), .val (.ref b9), .val (.ref b12), .val (.ref b14), .val (.ref b16), .val (.ref b18), .val (.int (0 : Int32)), .val (.int (1 : Int32)), .val (.ref b20), .val (.int (1 : Int32)), .val .null, .val (.ref r24), .val (.ref b14), .val (.int (1 : Int32)), .val (.ref r26), .val (.ref b18), .unset] [(.ref r26)])) rfl (by rw [hml]; rfl) (Steps.refl _) (argsL := []) (rest := []) (lenOf pd_0_15 rfl) rfl (by show 2 * 0 + _ ≤ _; exact Nat.le_of_eq rfl) (hb hby at_256) (fun _ _ => ⟨rfl, rfl, (by decide : 13 + 0 ≤ _), (by decide : 51 + 0 ≤ _)⟩)
  dsimp only [Pt.U, Pt.locs, Pt.cells, Pt.slots] at X27 l27 y27 z27 st27 hQ27
  subst l27 y27 z27
  obtain ⟨rfl, N27q, hh27⟩ := hQ27
  have Kc27 : Keep T26.heap T27.heap [] := by rw [hh27]; exact Keep.refl _ _
  have N27 := Fr.app N26 N27q
  have K27 : Keep h0 T27.heap [] := K26.trans Kc27 (fun x_ hx_ => absurd hx_ (by simp))
  obtain ⟨fs, hr, hrun, hended, hW, hsame⟩ := X27.leave (v := some (.int (1 : Int32))) (fun h => by rw [Bd.returns] at h; cases h)
  refine ⟨_, _, pre0 _ ?_, hrun, hended, _, _, rfl, ?_, ⟨_, rfl⟩, hW, hsame.mono (by decide) (by decide)⟩
  -- 4. STEPS
  · show Steps p.tables e below (s₁.setTop (mkF m 0 #[.val (.int p1), .val (.int p2), .val (.int p3), .val (.int p4), .val (.int p5), .val (.int p6), .unset, .unset, .unset, .unset, .unset, .unset, .unset, .unset, .unset, .unset, .unset, .unset, .unset, .unset, .unset, .unset, .unset, .unset] [])) _
    refine XS.iload X0.here hx rfl (hb hby at_0) rfl ?_
    show Steps p.tables e below (s₁.setTop (mkF m 2 #[.val (.int p1), .val (.int p2), .val (.int p3), .val (.int p4), .val (.int p5), .val (.int p6), .unset, .unset, .unset, .unset, .unset, .unset, .unset, .unset, .unset, .unset, .unset, .unset, .unset, .unset, .unset, .unset, .unset, .unset] [(.int p6)])) _
    refine XS.sipush X0.here hx rfl (hb hby at_2) ?_
    show Steps p.tables e below (s₁.setTop (mkF m 5 #[.val (.int p1), .val (.int p2), .val (.int p3), .val (.int p4), .val (.int p5), .val (.int p6), .unset, .unset, .unset, .unset, .unset, .unset, .unset, .unset, .unset, .unset, .unset, .unset, .unset, .unset, .unset, .unset, .unset, .unset] [(.int (255 : Int32)), (.int p6)])) _
    refine XS.iand X0.here hx rfl (hb hby at_5) rfl ?_
    show Steps p.tables e below (s₁.setTop (mkF m 6 #[.val (.int p1), .val (.int p2), .val (.int p3), .val (.int p4), .val (.int p5), .val (.int p6), .unset, .unset, .unset, .unset, .unset, .unset, .unset, .unset, .unset, .unset, .unset, .unset, .unset, .unset, .unset, .unset, .unset, .unset] [(.int (p6 &&& (255 : Int32)))])) _
    refine XS.i2c X0.here hx rfl (hb hby at_6) rfl ?_
    show Steps p.tables e below (s₁.setTop (mkF m 7 #[.val (.int p1), .val (.int p2), .val (.int p3), .val (.int p4), .val (.int p5), .val (.int p6), .unset, .unset, .unset, .unset, .unset, .unset, .unset, .unset, .unset, .unset, .unset, .unset, .unset, .unset, .unset, .unset, .unset, .unset] [(.int ((p6 &&& (255 : Int32)).toUInt32.toUInt16.toUInt32.toInt32))])) _
    refine st7 _ ?_
    show Steps p.tables e below (T7.setTop (mkF m 10 #[.val (.int p1), .val (.int p2), .val (.int p3), .val (.int p4), .val (.int p5), .val (.int p6), .unset, .unset, .unset, .unset, .unset, .unset, .unset, .unset, .unset, .unset, .unset, .unset, .unset, .unset, .unset, .unset, .unset, .unset] [(.ref r7)])) _
    refine XS.astore X7.here hx rfl (hb hby at_10) rfl rfl (l' := #[.val (.int p1), .val (.int p2), .val (.int p3), .val (.int p4), .val (.int p5), .val (.int p6), .val (.ref r7), .unset, .unset, .unset, .unset, .unset, .unset, .unset, .unset, .unset, .unset, .unset, .unset, .unset, .unset, .unset, .unset, .unset]) rfl ?_
    show Steps p.tables e below (T7.setTop (mkF m 12 #[.val (.int p1), .val (.int p2), .val (.int p3), .val (.int p4), .val (.int p5), .val (.int p6), .val (.ref r7), .unset, .unset, .unset, .unset, .unset, .unset, .unset, .unset, .unset, .unset, .unset, .unset, .unset, .unset, .unset, .unset, .unset] [])) _
    refine XS.iload X7.here hx rfl (hb hby at_12) rfl ?_
    show Steps p.tables e below (T7.setTop (mkF m 14 #[.val (.int p1), .val (.int p2), .val (.int p3), .val (.int p4), .val (.int p5), .val (.int p6), .val (.ref r7), .unset, .unset, .unset, .unset, .unset, .unset, .unset, .unset, .unset, .unset, .unset, .unset, .unset, .unset, .unset, .unset, .unset] [(.int p6)])) _
    refine XS.bipush X7.here hx rfl (hb hby at_14) ?_
    show Steps p.tables e below (T7.setTop (mkF m 16 #[.val (.int p1), .val (.int p2), .val (.int p3), .val (.int p4), .val (.int p5), .val (.int p6), .val (.ref r7), .unset, .unset, .unset, .unset, .unset, .unset, .unset, .unset, .unset, .unset, .unset, .unset, .unset, .unset, .unset, .unset, .unset] [(.int (8 : Int32)), (.int p6)])) _
    refine XS.iushr X7.here hx rfl (hb hby at_16) rfl ?_
    show Steps p.tables e below (T7.setTop (mkF m 17 #[.val (.int p1), .val (.int p2), .val (.int p3), .val (.int p4), .val (.int p5), .val (.int p6), .val (.ref r7), .unset, .unset, .unset, .unset, .unset, .unset, .unset, .unset, .unset, .unset, .unset, .unset, .unset, .unset, .unset, .unset, .unset] [(.int ((p6.toUInt32 >>> ((8 : Int32) &&& 31).toUInt32).toInt32))])) _
    refine XS.sipush X7.here hx rfl (hb hby at_17) ?_
    show Steps p.tables e below (T7.setTop (mkF m 20 #[.val (.int p1), .val (.int p2), .val (.int p3), .val (.int p4), .val (.int p5), .val (.int p6), .val (.ref r7), .unset, .unset, .unset, .unset, .unset, .unset, .unset, .unset, .unset, .unset, .unset, .unset, .unset, .unset, .unset, .unset, .unset] [(.int (255 : Int32)), (.int ((p6.toUInt32 >>> ((8 : Int32) &&& 31).toUInt32).toInt32))])) _
    refine XS.iand X7.here hx rfl (hb hby at_20) rfl ?_
    show Steps p.tables e below (T7.setTop (mkF m 21 #[.val (.int p1), .val (.int p2), .val (.int p3), .val (.int p4), .val (.int p5), .val (.int p6), .val (.ref r7), .unset, .unset, .unset, .unset, .unset, .unset, .unset, .unset, .unset, .unset, .unset, .unset, .unset, .unset, .unset, .unset, .unset] [(.int (((p6.toUInt32 >>> ((8 : Int32) &&& 31).toUInt32).toInt32) &&& (255 : Int32)))])) _
    refine XS.i2c X7.here hx rfl (hb hby at_21) rfl ?_
    show Steps p.tables e below (T7.setTop (mkF m 22 #[.val (.int p1), .val (.int p2), .val (.int p3), .val (.int p4), .val (.int p5), .val (.int p6), .val (.ref r7), .unset, .unset, .unset, .unset, .unset, .unset, .unset, .unset, .unset, .unset, .unset, .unset, .unset, .unset, .unset, .unset, .unset] [(.int ((((p6.toUInt32 >>> ((8 : Int32) &&& 31).toUInt32).toInt32) &&& (255 : Int32)).toUInt32.toUInt16.toUInt32.toInt32))])) _
    refine st8 _ ?_
    show Steps p.tables e below (T8.setTop (mkF m 25 #[.val (.int p1), .val (.int p2), .val (.int p3), .val (.int p4), .val (.int p5), .val (.int p6), .val (.ref r7), .unset, .unset, .unset, .unset, .unset, .unset, .unset, .unset, .unset, .unset, .unset, .unset, .unset, .unset, .unset, .unset, .unset] [(.ref r8)])) _
    refine XS.astore X8.here hx rfl (hb hby at_25) rfl rfl (l' := #[.val (.int p1), .val (.int p2), .val (.int p3), .val (.int p4), .val (.int p5), .val (.int p6), .val (.ref r7), .val (.ref r8), .unset, .unset, .unset, .unset, .unset, .unset, .unset, .unset, .unset, .unset, .unset, .unset, .unset, .unset, .unset, .unset]) rfl ?_
    show Steps p.tables e below (T8.setTop (mkF m 27 #[.val (.int p1), .val (.int p2), .val (.int p3), .val (.int p4), .val (.int p5), .val (.int p6), .val (.ref r7), .val (.ref r8), .unset, .unset, .unset, .unset, .unset, .unset, .unset, .unset, .unset, .unset, .unset, .unset, .unset, .unset, .unset, .unset] [])) _
    refine XS.iconst X8.here hx rfl (hb hby at_27) ?_
    show Steps p.tables e below (T8.setTop (mkF m 28 #[.val (.int p1), .val (.int p2), .val (.int p3), .val (.int p4), .val (.int p5), .val (.int p6), .val (.ref r7), .val (.ref r8), .unset, .unset, .unset, .unset, .unset, .unset, .unset, .unset, .unset, .unset, .unset, .unset, .unset, .unset, .unset, .unset] [(.int (2 : Int32))])) _
    refine st9 _ ?_
    show Steps p.tables e below (T9.setTop (mkF m 30 #[.val (.int p1), .val (.int p2), .val (.int p3), .val (.int p4), .val (.int p5), .val (.int p6), .val (.ref r7), .val (.ref r8), .unset, .unset, .unset, .unset, .unset, .unset, .unset, .unset, .unset, .unset, .unset, .unset, .unset, .unset, .unset, .unset] [(.ref b9)])) _
    refine XS.dup X9.here hx rfl (hb hby at_30) rfl rfl ?_
    show Steps p.tables e below (T9.setTop (mkF m 31 #[.val (.int p1), .val (.int p2), .val (.int p3), .val (.int p4), .val (.int p5), .val (.int p6), .val (.ref r7), .val (.ref r8), .unset, .unset, .unset, .unset, .unset, .unset, .unset, .unset, .unset, .unset, .unset, .unset, .unset, .unset, .unset, .unset] [(.ref b9), (.ref b9)])) _
    refine XS.iconst X9.here hx rfl (hb hby at_31) ?_
    show Steps p.tables e below (T9.setTop (mkF m 32 #[.val (.int p1), .val (.int p2), .val (.int p3), .val (.int p4), .val (.int p5), .val (.int p6), .val (.ref r7), .val (.ref r8), .unset, .unset, .unset, .unset, .unset, .unset, .unset, .unset, .unset, .unset, .unset, .unset, .unset, .unset, .unset, .unset] [(.int (0 : Int32)), (.ref b9), (.ref b9)])) _
    refine XS.iload X9.here hx rfl (hb hby at_32) rfl ?_
    show Steps p.tables e below (T9.setTop (mkF m 34 #[.val (.int p1), .val (.int p2), .val (.int p3), .val (.int p4), .val (.int p5), .val (.int p6), .val (.ref r7), .val (.ref r8), .unset, .unset, .unset, .unset, .unset, .unset, .unset, .unset, .unset, .unset, .unset, .unset, .unset, .unset, .unset, .unset] [(.int p6), (.int (0 : Int32)), (.ref b9), (.ref b9)])) _
    refine XS.bipush X9.here hx rfl (hb hby at_34) ?_
    show Steps p.tables e below (T9.setTop (mkF m 36 #[.val (.int p1), .val (.int p2), .val (.int p3), .val (.int p4), .val (.int p5), .val (.int p6), .val (.ref r7), .val (.ref r8), .unset, .unset, .unset, .unset, .unset, .unset, .unset, .unset, .unset, .unset, .unset, .unset, .unset, .unset, .unset, .unset] [(.int (16 : Int32)), (.int p6), (.int (0 : Int32)), (.ref b9), (.ref b9)])) _
    refine XS.iushr X9.here hx rfl (hb hby at_36) rfl ?_
    show Steps p.tables e below (T9.setTop (mkF m 37 #[.val (.int p1), .val (.int p2), .val (.int p3), .val (.int p4), .val (.int p5), .val (.int p6), .val (.ref r7), .val (.ref r8), .unset, .unset, .unset, .unset, .unset, .unset, .unset, .unset, .unset, .unset, .unset, .unset, .unset, .unset, .unset, .unset] [(.int ((p6.toUInt32 >>> ((16 : Int32) &&& 31).toUInt32).toInt32)), (.int (0 : Int32)), (.ref b9), (.ref b9)])) _
    refine XS.sipush X9.here hx rfl (hb hby at_37) ?_
    show Steps p.tables e below (T9.setTop (mkF m 40 #[.val (.int p1), .val (.int p2), .val (.int p3), .val (.int p4), .val (.int p5), .val (.int p6), .val (.ref r7), .val (.ref r8), .unset, .unset, .unset, .unset, .unset, .unset, .unset, .unset, .unset, .unset, .unset, .unset, .unset, .unset, .unset, .unset] [(.int (255 : Int32)), (.int ((p6.toUInt32 >>> ((16 : Int32) &&& 31).toUInt32).toInt32)), (.int (0 : Int32)), (.ref b9), (.ref b9)])) _
    refine XS.iand X9.here hx rfl (hb hby at_40) rfl ?_
    show Steps p.tables e below (T9.setTop (mkF m 41 #[.val (.int p1), .val (.int p2), .val (.int p3), .val (.int p4), .val (.int p5), .val (.int p6), .val (.ref r7), .val (.ref r8), .unset, .unset, .unset, .unset, .unset, .unset, .unset, .unset, .unset, .unset, .unset, .unset, .unset, .unset, .unset, .unset] [(.int (((p6.toUInt32 >>> ((16 : Int32) &&& 31).toUInt32).toInt32) &&& (255 : Int32))), (.int (0 : Int32)), (.ref b9), (.ref b9)])) _
    refine XS.i2c X9.here hx rfl (hb hby at_41) rfl ?_
    show Steps p.tables e below (T9.setTop (mkF m 42 #[.val (.int p1), .val (.int p2), .val (.int p3), .val (.int p4), .val (.int p5), .val (.int p6), .val (.ref r7), .val (.ref r8), .unset, .unset, .unset, .unset, .unset, .unset, .unset, .unset, .unset, .unset, .unset, .unset, .unset, .unset, .unset, .unset] [(.int ((((p6.toUInt32 >>> ((16 : Int32) &&& 31).toUInt32).toInt32) &&& (255 : Int32)).toUInt32.toUInt16.toUInt32.toInt32)), (.int (0 : Int32)), (.ref b9), (.ref b9)])) _
    refine st10 _ ?_
    show Steps p.tables e below (T10.setTop (mkF m 43 #[.val (.int p1), .val (.int p2), .val (.int p3), .val (.int p4), .val (.int p5), .val (.int p6), .val (.ref r7), .val (.ref r8), .unset, .unset, .unset, .unset, .unset, .unset, .unset, .unset, .unset, .unset, .unset, .unset, .unset, .unset, .unset, .unset] [(.ref b9)])) _
    refine XS.dup X10.here hx rfl (hb hby at_43) rfl rfl ?_
    show Steps p.tables e below (T10.setTop (mkF m 44 #[.val (.int p1), .val (.int p2), .val (.int p3), .val (.int p4), .val (.int p5), .val (.int p6), .val (.ref r7), .val (.ref r8), .unset, .unset, .unset, .unset, .unset, .unset, .unset, .unset, .unset, .unset, .unset, .unset, .unset, .unset, .unset, .unset] [(.ref b9), (.ref b9)])) _
    refine XS.iconst X10.here hx rfl (hb hby at_44) ?_
    show Steps p.tables e below (T10.setTop (mkF m 45 #[.val (.int p1), .val (.int p2), .val (.int p3), .val (.int p4), .val (.int p5), .val (.int p6), .val (.ref r7), .val (.ref r8), .unset, .unset, .unset, .unset, .unset, .unset, .unset, .unset, .unset, .unset, .unset, .unset, .unset, .unset, .unset, .unset] [(.int (1 : Int32)), (.ref b9), (.ref b9)])) _
    refine XS.iload X10.here hx rfl (hb hby at_45) rfl ?_
    show Steps p.tables e below (T10.setTop (mkF m 47 #[.val (.int p1), .val (.int p2), .val (.int p3), .val (.int p4), .val (.int p5), .val (.int p6), .val (.ref r7), .val (.ref r8), .unset, .unset, .unset, .unset, .unset, .unset, .unset, .unset, .unset, .unset, .unset, .unset, .unset, .unset, .unset, .unset] [(.int p6), (.int (1 : Int32)), (.ref b9), (.ref b9)])) _
    refine XS.bipush X10.here hx rfl (hb hby at_47) ?_
    show Steps p.tables e below (T10.setTop (mkF m 49 #[.val (.int p1), .val (.int p2), .val (.int p3), .val (.int p4), .val (.int p5), .val (.int p6), .val (.ref r7), .val (.ref r8), .unset, .unset, .unset, .unset, .unset, .unset, .unset, .unset, .unset, .unset, .unset, .unset, .unset, .unset, .unset, .unset] [(.int (24 : Int32)), (.int p6), (.int (1 : Int32)), (.ref b9), (.ref b9)])) _
    refine XS.iushr X10.here hx rfl (hb hby at_49) rfl ?_
    show Steps p.tables e below (T10.setTop (mkF m 50 #[.val (.int p1), .val (.int p2), .val (.int p3), .val (.int p4), .val (.int p5), .val (.int p6), .val (.ref r7), .val (.ref r8), .unset, .unset, .unset, .unset, .unset, .unset, .unset, .unset, .unset, .unset, .unset, .unset, .unset, .unset, .unset, .unset] [(.int ((p6.toUInt32 >>> ((24 : Int32) &&& 31).toUInt32).toInt32)), (.int (1 : Int32)), (.ref b9), (.ref b9)])) _
    refine XS.sipush X10.here hx rfl (hb hby at_50) ?_
    show Steps p.tables e below (T10.setTop (mkF m 53 #[.val (.int p1), .val (.int p2), .val (.int p3), .val (.int p4), .val (.int p5), .val (.int p6), .val (.ref r7), .val (.ref r8), .unset, .unset, .unset, .unset, .unset, .unset, .unset, .unset, .unset, .unset, .unset, .unset, .unset, .unset, .unset, .unset] [(.int (255 : Int32)), (.int ((p6.toUInt32 >>> ((24 : Int32) &&& 31).toUInt32).toInt32)), (.int (1 : Int32)), (.ref b9), (.ref b9)])) _
    refine XS.iand X10.here hx rfl (hb hby at_53) rfl ?_
    show Steps p.tables e below (T10.setTop (mkF m 54 #[.val (.int p1), .val (.int p2), .val (.int p3), .val (.int p4), .val (.int p5), .val (.int p6), .val (.ref r7), .val (.ref r8), .unset, .unset, .unset, .unset, .unset, .unset, .unset, .unset, .unset, .unset, .unset, .unset, .unset, .unset, .unset, .unset] [(.int (((p6.toUInt32 >>> ((24 : Int32) &&& 31).toUInt32).toInt32) &&& (255 : Int32))), (.int (1 : Int32)), (.ref b9), (.ref b9)])) _
    refine XS.i2c X10.here hx rfl (hb hby at_54) rfl ?_
    show Steps p.tables e below (T10.setTop (mkF m 55 #[.val (.int p1), .val (.int p2), .val (.int p3), .val (.int p4), .val (.int p5), .val (.int p6), .val (.ref r7), .val (.ref r8), .unset, .unset, .unset, .unset, .unset, .unset, .unset, .unset, .unset, .unset, .unset, .unset, .unset, .unset, .unset, .unset] [(.int ((((p6.toUInt32 >>> ((24 : Int32) &&& 31).toUInt32).toInt32) &&& (255 : Int32)).toUInt32.toUInt16.toUInt32.toInt32)), (.int (1 : Int32)), (.ref b9), (.ref b9)])) _
    refine st11 _ ?_
    show Steps p.tables e below (T11.setTop (mkF m 56 #[.val (.int p1), .val (.int p2), .val (.int p3), .val (.int p4), .val (.int p5), .val (.int p6), .val (.ref r7), .val (.ref r8), .unset, .unset, .unset, .unset, .unset, .unset, .unset, .unset, .unset, .unset, .unset, .unset, .unset, .unset, .unset, .unset] [(.ref b9)])) _
    refine XS.astore X11.here hx rfl (hb hby at_56) rfl rfl (l' := #[.val (.int p1), .val (.int p2), .val (.int p3), .val (.int p4), .val (.int p5), .val (.int p6), .val (.ref r7), .val (.ref r8), .val (.ref b9), .unset, .unset, .unset, .unset, .unset, .unset, .unset, .unset, .unset, .unset, .unset, .unset, .unset, .unset, .unset]) rfl ?_
    show Steps p.tables e below (T11.setTop (mkF m 58 #[.val (.int p1), .val (.int p2), .val (.int p3), .val (.int p4), .val (.int p5), .val (.int p6), .val (.ref r7), .val (.ref r8), .val (.ref b9), .unset, .unset, .unset, .unset, .unset, .unset, .unset, .unset, .unset, .unset, .unset, .unset, .unset, .unset, .unset] [])) _
    refine st12 _ ?_
    show Steps p.tables e below (T12.setTop (mkF m 61 #[.val (.int p1), .val (.int p2), .val (.int p3), .val (.int p4), .val (.int p5), .val (.int p6), .val (.ref r7), .val (.ref r8), .val (.ref b9), .unset, .unset, .unset, .unset, .unset, .unset, .unset, .unset, .unset, .unset, .unset, .unset, .unset, .unset, .unset] [(.ref b12)])) _
    refine XS.dup X12.here hx rfl (hb hby at_61) rfl rfl ?_
    show Steps p.tables e below (T12.setTop (mkF m 62 #[.val (.int p1), .val (.int p2), .val (.int p3), .val (.int p4), .val (.int p5), .val (.int p6), .val (.ref r7), .val (.ref r8), .val (.ref b9), .unset, .unset, .unset, .unset, .unset, .unset, .unset, .unset, .unset, .unset, .unset, .unset, .unset, .unset, .unset] [(.ref b12), (.ref b12)])) _
    refine XS.aload X12.here hx rfl (hb hby at_62) rfl rfl ?_
    show Steps p.tables e below (T12.setTop (mkF m 64 #[.val (.int p1), .val (.int p2), .val (.int p3), .val (.int p4), .val (.int p5), .val (.int p6), .val (.ref r7), .val (.ref r8), .val (.ref b9), .unset, .unset, .unset, .unset, .unset, .unset, .unset, .unset, .unset, .unset, .unset, .unset, .unset, .unset, .unset] [(.ref b9), (.ref b12), (.ref b12)])) _
    refine st13.trans ?_
    show Steps p.tables e below (T13.setTop (mkF m 67 #[.val (.int p1), .val (.int p2), .val (.int p3), .val (.int p4), .val (.int p5), .val (.int p6), .val (.ref r7), .val (.ref r8), .val (.ref b9), .unset, .unset, .unset, .unset, .unset, .unset, .unset, .unset, .unset, .unset, .unset, .unset, .unset, .unset, .unset] [(.ref b12)])) _
    refine XS.astore X13.here hx rfl (hb hby at_67) rfl rfl (l' := #[.val (.int p1), .val (.int p2), .val (.int p3), .val (.int p4), .val (.int p5), .val (.int p6), .val (.ref r7), .val (.ref r8), .val (.ref b9), .val (.ref b12), .unset, .unset, .unset, .unset, .unset, .unset, .unset, .unset, .unset, .unset, .unset, .unset, .unset, .unset]) rfl ?_
    show Steps p.tables e below (T13.setTop (mkF m 69 #[.val (.int p1), .val (.int p2), .val (.int p3), .val (.int p4), .val (.int p5), .val (.int p6), .val (.ref r7), .val (.ref r8), .val (.ref b9), .val (.ref b12), .unset, .unset, .unset, .unset, .unset, .unset, .unset, .unset, .unset, .unset, .unset, .unset, .unset, .unset] [])) _
    refine st14 _ ?_
    show Steps p.tables e below (T14.setTop (mkF m 72 #[.val (.int p1), .val (.int p2), .val (.int p3), .val (.int p4), .val (.int p5), .val (.int p6), .val (.ref r7), .val (.ref r8), .val (.ref b9), .val (.ref b12), .unset, .unset, .unset, .unset, .unset, .unset, .unset, .unset, .unset, .unset, .unset, .unset, .unset, .unset] [(.ref b14)])) _
    refine XS.dup X14.here hx rfl (hb hby at_72) rfl rfl ?_
    show Steps p.tables e below (T14.setTop (mkF m 73 #[.val (.int p1), .val (.int p2), .val (.int p3), .val (.int p4), .val (.int p5), .val (.int p6), .val (.ref r7), .val (.ref r8), .val (.ref b9), .val (.ref b12), .unset, .unset, .unset, .unset, .unset, .unset, .unset, .unset, .unset, .unset, .unset, .unset, .unset, .unset] [(.ref b14), (.ref b14)])) _
    refine XS.aload X14.here hx rfl (hb hby at_73) rfl rfl ?_
    show Steps p.tables e below (T14.setTop (mkF m 75 #[.val (.int p1), .val (.int p2), .val (.int p3), .val (.int p4), .val (.int p5), .val (.int p6), .val (.ref r7), .val (.ref r8), .val (.ref b9), .val (.ref b12), .unset, .unset, .unset, .unset, .unset, .unset, .unset, .unset, .unset, .unset, .unset, .unset, .unset, .unset] [(.ref r7), (.ref b14), (.ref b14)])) _
    refine XS.iloadN X14.here hx rfl (hb hby at_75) rfl ?_
    show Steps p.tables e below (T14.setTop (mkF m 76 #[.val (.int p1), .val (.int p2), .val (.int p3), .val (.int p4), .val (.int p5), .val (.int p6), .val (.ref r7), .val (.ref r8), .val (.ref b9), .val (.ref b12), .unset, .unset, .unset, .unset, .unset, .unset, .unset, .unset, .unset, .unset, .unset, .unset, .unset, .unset] [(.int p1), (.ref r7), (.ref b14), (.ref b14)])) _
    refine XS.iloadN X14.here hx rfl (hb hby at_76) rfl ?_
    show Steps p.tables e below (T14.setTop (mkF m 77 #[.val (.int p1), .val (.int p2), .val (.int p3), .val (.int p4), .val (.int p5), .val (.int p6), .val (.ref r7), .val (.ref r8), .val (.ref b9), .val (.ref b12), .unset, .unset, .unset, .unset, .unset, .unset, .unset, .unset, .unset, .unset, .unset, .unset, .unset, .unset] [(.int p2), (.int p1), (.ref r7), (.ref b14), (.ref b14)])) _
    refine st15.trans ?_
    show Steps p.tables e below (T15.setTop (mkF m 80 #[.val (.int p1), .val (.int p2), .val (.int p3), .val (.int p4), .val (.int p5), .val (.int p6), .val (.ref r7), .val (.ref r8), .val (.ref b9), .val (.ref b12), .unset, .unset, .unset, .unset, .unset, .unset, .unset, .unset, .unset, .unset, .unset, .unset, .unset, .unset] [(.ref b14)])) _
    refine XS.astore X15.here hx rfl (hb hby at_80) rfl rfl (l' := #[.val (.int p1), .val (.int p2), .val (.int p3), .val (.int p4), .val (.int p5), .val (.int p6), .val (.ref r7), .val (.ref r8), .val (.ref b9), .val (.ref b12), .val (.ref b14), .unset, .unset, .unset, .unset, .unset, .unset, .unset, .unset, .unset, .unset, .unset, .unset, .unset]) rfl ?_
    show Steps p.tables e below (T15.setTop (mkF m 82 #[.val (.int p1), .val (.int p2), .val (.int p3), .val (.int p4), .val (.int p5), .val (.int p6), .val (.ref r7), .val (.ref r8), .val (.ref b9), .val (.ref b12), .val (.ref b14), .unset, .unset, .unset, .unset, .unset, .unset, .unset, .unset, .unset, .unset, .unset, .unset, .unset] [])) _
    refine st16 _ ?_
    show Steps p.tables e below (T16.setTop (mkF m 85 #[.val (.int p1), .val (.int p2), .val (.int p3), .val (.int p4), .val (.int p5), .val (.int p6), .val (.ref r7), .val (.ref r8), .val (.ref b9), .val (.ref b12), .val (.ref b14), .unset, .unset, .unset, .unset, .unset, .unset, .unset, .unset, .unset, .unset, .unset, .unset, .unset] [(.ref b16)])) _
    refine XS.dup X16.here hx rfl (hb hby at_85) rfl rfl ?_
    show Steps p.tables e below (T16.setTop (mkF m 86 #[.val (.int p1), .val (.int p2), .val (.int p3), .val (.int p4), .val (.int p5), .val (.int p6), .val (.ref r7), .val (.ref r8), .val (.ref b9), .val (.ref b12), .val (.ref b14), .unset, .unset, .unset, .unset, .unset, .unset, .unset, .unset, .unset, .unset, .unset, .unset, .unset] [(.ref b16), (.ref b16)])) _
    refine XS.aload X16.here hx rfl (hb hby at_86) rfl rfl ?_
    show Steps p.tables e below (T16.setTop (mkF m 88 #[.val (.int p1), .val (.int p2), .val (.int p3), .val (.int p4), .val (.int p5), .val (.int p6), .val (.ref r7), .val (.ref r8), .val (.ref b9), .val (.ref b12), .val (.ref b14), .unset, .unset, .unset, .unset, .unset, .unset, .unset, .unset, .unset, .unset, .unset, .unset, .unset] [(.ref r8), (.ref b16), (.ref b16)])) _
    refine XS.iloadN X16.here hx rfl (hb hby at_88) rfl ?_
    show Steps p.tables e below (T16.setTop (mkF m 89 #[.val (.int p1), .val (.int p2), .val (.int p3), .val (.int p4), .val (.int p5), .val (.int p6), .val (.ref r7), .val (.ref r8), .val (.ref b9), .val (.ref b12), .val (.ref b14), .unset, .unset, .unset, .unset, .unset, .unset, .unset, .unset, .unset, .unset, .unset, .unset, .unset] [(.int p3), (.ref r8), (.ref b16), (.ref b16)])) _
    refine XS.iloadN X16.here hx rfl (hb hby at_89) rfl ?_
    show Steps p.tables e below (T16.setTop (mkF m 90 #[.val (.int p1), .val (.int p2), .val (.int p3), .val (.int p4), .val (.int p5), .val (.int p6), .val (.ref r7), .val (.ref r8), .val (.ref b9), .val (.ref b12), .val (.ref b14), .unset, .unset, .unset, .unset, .unset, .unset, .unset, .unset, .unset, .unset, .unset, .unset, .unset] [(.int p4), (.int p3), (.ref r8), (.ref b16), (.ref b16)])) _
    refine st17.trans ?_
    show Steps p.tables e below (T17.setTop (mkF m 93 #[.val (.int p1), .val (.int p2), .val (.int p3), .val (.int p4), .val (.int p5), .val (.int p6), .val (.ref r7), .val (.ref r8), .val (.ref b9), .val (.ref b12), .val (.ref b14), .unset, .unset, .unset, .unset, .unset, .unset, .unset, .unset, .unset, .unset, .unset, .unset, .unset] [(.ref b16)])) _
    refine XS.astore X17.here hx rfl (hb hby at_93) rfl rfl (l' := #[.val (.int p1), .val (.int p2), .val (.int p3), .val (.int p4), .val (.int p5), .val (.int p6), .val (.ref r7), .val (.ref r8), .val (.ref b9), .val (.ref b12), .val (.ref b14), .val (.ref b16), .unset, .unset, .unset, .unset, .unset, .unset, .unset, .unset, .unset, .unset, .unset, .unset]) rfl ?_
    show Steps p.tables e below (T17.setTop (mkF m 95 #[.val (.int p1), .val (.int p2), .val (.int p3), .val (.int p4), .val (.int p5), .val (.int p6), .val (.ref r7), .val (.ref r8), .val (.ref b9), .val (.ref b12), .val (.ref b14), .val (.ref b16), .unset, .unset, .unset, .unset, .unset, .unset, .unset, .unset, .unset, .unset, .unset, .unset] [])) _
    refine st18 _ ?_
    show Steps p.tables e below (T18.setTop (mkF m 98 #[.val (.int p1), .val (.int p2), .val (.int p3), .val (.int p4), .val (.int p5), .val (.int p6), .val (.ref r7), .val (.ref r8), .val (.ref b9), .val (.ref b12), .val (.ref b14), .val (.ref b16), .unset, .unset, .unset, .unset, .unset, .unset, .unset, .unset, .unset, .unset, .unset, .unset] [(.ref b18)])) _
    refine XS.dup X18.here hx rfl (hb hby at_98) rfl rfl ?_
    show Steps p.tables e below (T18.setTop (mkF m 99 #[.val (.int p1), .val (.int p2), .val (.int p3), .val (.int p4), .val (.int p5), .val (.int p6), .val (.ref r7), .val (.ref r8), .val (.ref b9), .val (.ref b12), .val (.ref b14), .val (.ref b16), .unset, .unset, .unset, .unset, .unset, .unset, .unset, .unset, .unset, .unset, .unset, .unset] [(.ref b18), (.ref b18)])) _
    refine XS.aload X18.here hx rfl (hb hby at_99) rfl rfl ?_
    show Steps p.tables e below (T18.setTop (mkF m 101 #[.val (.int p1), .val (.int p2), .val (.int p3), .val (.int p4), .val (.int p5), .val (.int p6), .val (.ref r7), .val (.ref r8), .val (.ref b9), .val (.ref b12), .val (.ref b14), .val (.ref b16), .unset, .unset, .unset, .unset, .unset, .unset, .unset, .unset, .unset, .unset, .unset, .unset] [(.ref r7), (.ref b18), (.ref b18)])) _
    refine XS.iloadN X18.here hx rfl (hb hby at_101) rfl ?_
    show Steps p.tables e below (T18.setTop (mkF m 102 #[.val (.int p1), .val (.int p2), .val (.int p3), .val (.int p4), .val (.int p5), .val (.int p6), .val (.ref r7), .val (.ref r8), .val (.ref b9), .val (.ref b12), .val (.ref b14), .val (.ref b16), .unset, .unset, .unset, .unset, .unset, .unset, .unset, .unset, .unset, .unset, .unset, .unset] [(.int p3), (.ref r7), (.ref b18), (.ref b18)])) _
    refine XS.iloadN X18.here hx rfl (hb hby at_102) rfl ?_
    show Steps p.tables e below (T18.setTop (mkF m 103 #[.val (.int p1), .val (.int p2), .val (.int p3), .val (.int p4), .val (.int p5), .val (.int p6), .val (.ref r7), .val (.ref r8), .val (.ref b9), .val (.ref b12), .val (.ref b14), .val (.ref b16), .unset, .unset, .unset, .unset, .unset, .unset, .unset, .unset, .unset, .unset, .unset, .unset] [(.int p2), (.int p3), (.ref r7), (.ref b18), (.ref b18)])) _
    refine st19.trans ?_
    show Steps p.tables e below (T19.setTop (mkF m 106 #[.val (.int p1), .val (.int p2), .val (.int p3), .val (.int p4), .val (.int p5), .val (.int p6), .val (.ref r7), .val (.ref r8), .val (.ref b9), .val (.ref b12), .val (.ref b14), .val (.ref b16), .unset, .unset, .unset, .unset, .unset, .unset, .unset, .unset, .unset, .unset, .unset, .unset] [(.ref b18)])) _
    refine XS.astore X19.here hx rfl (hb hby at_106) rfl rfl (l' := #[.val (.int p1), .val (.int p2), .val (.int p3), .val (.int p4), .val (.int p5), .val (.int p6), .val (.ref r7), .val (.ref r8), .val (.ref b9), .val (.ref b12), .val (.ref b14), .val (.ref b16), .val (.ref b18), .unset, .unset, .unset, .unset, .unset, .unset, .unset, .unset, .unset, .unset, .unset]) rfl ?_
    show Steps p.tables e below (T19.setTop (mkF m 108 #[.val (.int p1), .val (.int p2), .val (.int p3), .val (.int p4), .val (.int p5), .val (.int p6), .val (.ref r7), .val (.ref r8), .val (.ref b9), .val (.ref b12), .val (.ref b14), .val (.ref b16), .val (.ref b18), .unset, .unset, .unset, .unset, .unset, .unset, .unset, .unset, .unset, .unset, .unset] [])) _
    refine XS.iload X19.here hx rfl (hb hby at_108) rfl ?_
    show Steps p.tables e below (T19.setTop (mkF m 110 #[.val (.int p1), .val (.int p2), .val (.int p3), .val (.int p4), .val (.int p5), .val (.int p6), .val (.ref r7), .val (.ref r8), .val (.ref b9), .val (.ref b12), .val (.ref b14), .val (.ref b16), .val (.ref b18), .unset, .unset, .unset, .unset, .unset, .unset, .unset, .unset, .unset, .unset, .unset] [(.int p5)])) _
    refine XS.iconst X19.here hx rfl (hb hby at_110) ?_
    show Steps p.tables e below (T19.setTop (mkF m 111 #[.val (.int p1), .val (.int p2), .val (.int p3), .val (.int p4), .val (.int p5), .val (.int p6), .val (.ref r7), .val (.ref r8), .val (.ref b9), .val (.ref b12), .val (.ref b14), .val (.ref b16), .val (.ref b18), .unset, .unset, .unset, .unset, .unset, .unset, .unset, .unset, .unset, .unset, .unset] [(.int (2 : Int32)), (.int p5)])) _
    refine XS.iushr X19.here hx rfl (hb hby at_111) rfl ?_
    show Steps p.tables e below (T19.setTop (mkF m 112 #[.val (.int p1), .val (.int p2), .val (.int p3), .val (.int p4), .val (.int p5), .val (.int p6), .val (.ref r7), .val (.ref r8), .val (.ref b9), .val (.ref b12), .val (.ref b14), .val (.ref b16), .val (.ref b18), .unset, .unset, .unset, .unset, .unset, .unset, .unset, .unset, .unset, .unset, .unset] [(.int ((p5.toUInt32 >>> ((2 : Int32) &&& 31).toUInt32).toInt32))])) _
    refine XS.iconst X19.here hx rfl (hb hby at_112) ?_
    show Steps p.tables e below (T19.setTop (mkF m 113 #[.val (.int p1), .val (.int p2), .val (.int p3), .val (.int p4), .val (.int p5), .val (.int p6), .val (.ref r7), .val (.ref r8), .val (.ref b9), .val (.ref b12), .val (.ref b14), .val (.ref b16), .val (.ref b18), .unset, .unset, .unset, .unset, .unset, .unset, .unset, .unset, .unset, .unset, .unset] [(.int (1 : Int32)), (.int ((p5.toUInt32 >>> ((2 : Int32) &&& 31).toUInt32).toInt32))])) _
    refine XS.iand X19.here hx rfl (hb hby at_113) rfl ?_
    show Steps p.tables e below (T19.setTop (mkF m 114 #[.val (.int p1), .val (.int p2), .val (.int p3), .val (.int p4), .val (.int p5), .val (.int p6), .val (.ref r7), .val (.ref r8), .val (.ref b9), .val (.ref b12), .val (.ref b14), .val (.ref b16), .val (.ref b18), .unset, .unset, .unset, .unset, .unset, .unset, .unset, .unset, .unset, .unset, .unset] [(.int (((p5.toUInt32 >>> ((2 : Int32) &&& 31).toUInt32).toInt32) &&& (1 : Int32)))])) _
    refine XS.ifYes X19.here hx rfl (pc0 := 114) (pc' := 121) rfl (hb hby at_114) rfl ((if0 _ _).trans (teq hc114).1) (by decide) (by decide) ?_
    show Steps p.tables e below (T19.setTop (mkF m 121 #[.val (.int p1), .val (.int p2), .val (.int p3), .val (.int p4), .val (.int p5), .val (.int p6), .val (.ref r7), .val (.ref r8), .val (.ref b9), .val (.ref b12), .val (.ref b14), .val (.ref b16), .val (.ref b18), .unset, .unset, .unset, .unset, .unset, .unset, .unset, .unset, .unset, .unset, .unset] [])) _
    refine XS.iconst X19.here hx rfl (hb hby at_121) ?_
    show Steps p.tables e below (T19.setTop (mkF m 122 #[.val (.int p1), .val (.int p2), .val (.int p3), .val (.int p4), .val (.int p5), .val (.int p6), .val (.ref r7), .val (.ref r8), .val (.ref b9), .val (.ref b12), .val (.ref b14), .val (.ref b16), .val (.ref b18), .unset, .unset, .unset, .unset, .unset, .unset, .unset, .unset, .unset, .unset, .unset] [(.int (0 : Int32))])) _
    refine XS.istore X19.here hx rfl (hb hby at_122) rfl (l' := #[.val (.int p1), .val (.int p2), .val (.int p3), .val (.int p4), .val (.int p5), .val (.int p6), .val (.ref r7), .val (.ref r8), .val (.ref b9), .val (.ref b12), .val (.ref b14), .val (.ref b16), .val (.ref b18), .val (.int (0 : Int32)), .unset, .unset, .unset, .unset, .unset, .unset, .unset, .unset, .unset, .unset]) rfl ?_
    show Steps p.tables e below (T19.setTop (mkF m 124 #[.val (.int p1), .val (.int p2), .val (.int p3), .val (.int p4), .val (.int p5), .val (.int p6), .val (.ref r7), .val (.ref r8), .val (.ref b9), .val (.ref b12), .val (.ref b14), .val (.ref b16), .val (.ref b18), .val (.int (0 : Int32)), .unset, .unset, .unset, .unset, .unset, .unset, .unset, .unset, .unset, .unset] [])) _
    refine XS.iload X19.here hx rfl (hb hby at_124) rfl ?_
    show Steps p.tables e below (T19.setTop (mkF m 126 #[.val (.int p1), .val (.int p2), .val (.int p3), .val (.int p4), .val (.int p5), .val (.int p6), .val (.ref r7), .val (.ref r8), .val (.ref b9), .val (.ref b12), .val (.ref b14), .val (.ref b16), .val (.ref b18), .val (.int (0 : Int32)), .unset, .unset, .unset, .unset, .unset, .unset, .unset, .unset, .unset, .unset] [(.int p5)])) _
    refine XS.iconst X19.here hx rfl (hb hby at_126) ?_
    show Steps p.tables e below (T19.setTop (mkF m 127 #[.val (.int p1), .val (.int p2), .val (.int p3), .val (.int p4), .val (.int p5), .val (.int p6), .val (.ref r7), .val (.ref r8), .val (.ref b9), .val (.ref b12), .val (.ref b14), .val (.ref b16), .val (.ref b18), .val (.int (0 : Int32)), .unset, .unset, .unset, .unset, .unset, .unset, .unset, .unset, .unset, .unset] [(.int (3 : Int32)), (.int p5)])) _
    refine XS.iushr X19.here hx rfl (hb hby at_127) rfl ?_
    show Steps p.tables e below (T19.setTop (mkF m 128 #[.val (.int p1), .val (.int p2), .val (.int p3), .val (.int p4), .val (.int p5), .val (.int p6), .val (.ref r7), .val (.ref r8), .val (.ref b9), .val (.ref b12), .val (.ref b14), .val (.ref b16), .val (.ref b18), .val (.int (0 : Int32)), .unset, .unset, .unset, .unset, .unset, .unset, .unset, .unset, .unset, .unset] [(.int ((p5.toUInt32 >>> ((3 : Int32) &&& 31).toUInt32).toInt32))])) _
    refine XS.iconst X19.here hx rfl (hb hby at_128) ?_
    show Steps p.tables e below (T19.setTop (mkF m 129 #[.val (.int p1), .val (.int p2), .val (.int p3), .val (.int p4), .val (.int p5), .val (.int p6), .val (.ref r7), .val (.ref r8), .val (.ref b9), .val (.ref b12), .val (.ref b14), .val (.ref b16), .val (.ref b18), .val (.int (0 : Int32)), .unset, .unset, .unset, .unset, .unset, .unset, .unset, .unset, .unset, .unset] [(.int (1 : Int32)), (.int ((p5.toUInt32 >>> ((3 : Int32) &&& 31).toUInt32).toInt32))])) _
    refine XS.iand X19.here hx rfl (hb hby at_129) rfl ?_
    show Steps p.tables e below (T19.setTop (mkF m 130 #[.val (.int p1), .val (.int p2), .val (.int p3), .val (.int p4), .val (.int p5), .val (.int p6), .val (.ref r7), .val (.ref r8), .val (.ref b9), .val (.ref b12), .val (.ref b14), .val (.ref b16), .val (.ref b18), .val (.int (0 : Int32)), .unset, .unset, .unset, .unset, .unset, .unset, .unset, .unset, .unset, .unset] [(.int (((p5.toUInt32 >>> ((3 : Int32) &&& 31).toUInt32).toInt32) &&& (1 : Int32)))])) _
    refine XS.ifNo X19.here hx rfl (hb hby at_130) rfl ((if0 _ _).trans (feq hc130).1) ?_
    show Steps p.tables e below (T19.setTop (mkF m 133 #[.val (.int p1), .val (.int p2), .val (.int p3), .val (.int p4), .val (.int p5), .val (.int p6), .val (.ref r7), .val (.ref r8), .val (.ref b9), .val (.ref b12), .val (.ref b14), .val (.ref b16), .val (.ref b18), .val (.int (0 : Int32)), .unset, .unset, .unset, .unset, .unset, .unset, .unset, .unset, .unset, .unset] [])) _
    refine XS.iconst X19.here hx rfl (hb hby at_133) ?_
    show Steps p.tables e below (T19.setTop (mkF m 134 #[.val (.int p1), .val (.int p2), .val (.int p3), .val (.int p4), .val (.int p5), .val (.int p6), .val (.ref r7), .val (.ref r8), .val (.ref b9), .val (.ref b12), .val (.ref b14), .val (.ref b16), .val (.ref b18), .val (.int (0 : Int32)), .unset, .unset, .unset, .unset, .unset, .unset, .unset, .unset, .unset, .unset] [(.int (1 : Int32))])) _
    refine XS.goto X19.here hx rfl (pc0 := 134) (pc' := 138) rfl (hb hby at_134) (by decide) (by decide) ?_
    show Steps p.tables e below (T19.setTop (mkF m 138 #[.val (.int p1), .val (.int p2), .val (.int p3), .val (.int p4), .val (.int p5), .val (.int p6), .val (.ref r7), .val (.ref r8), .val (.ref b9), .val (.ref b12), .val (.ref b14), .val (.ref b16), .val (.ref b18), .val (.int (0 : Int32)), .unset, .unset, .unset, .unset, .unset, .unset, .unset, .unset, .unset, .unset] [(.int (1 : Int32))])) _
    refine XS.istore X19.here hx rfl (hb hby at_138) rfl (l' := #[.val (.int p1), .val (.int p2), .val (.int p3), .val (.int p4), .val (.int p5), .val (.int p6), .val (.ref r7), .val (.ref r8), .val (.ref b9), .val (.ref b12), .val (.ref b14), .val (.ref b16), .val (.ref b18), .val (.int (0 : Int32)), .val (.int (1 : Int32)), .unset, .unset, .unset, .unset, .unset, .unset, .unset, .unset, .unset]) rfl ?_
    show Steps p.tables e below (T19.setTop (mkF m 140 #[.val (.int p1), .val (.int p2), .val (.int p3), .val (.int p4), .val (.int p5), .val (.int p6), .val (.ref r7), .val (.ref r8), .val (.ref b9), .val (.ref b12), .val (.ref b14), .val (.ref b16), .val (.ref b18), .val (.int (0 : Int32)), .val (.int (1 : Int32)), .unset, .unset, .unset, .unset, .unset, .unset, .unset, .unset, .unset] [])) _
    refine st20 _ ?_
    show Steps p.tables e below (T20.setTop (mkF m 143 #[.val (.int p1), .val (.int p2), .val (.int p3), .val (.int p4), .val (.int p5), .val (.int p6), .val (.ref r7), .val (.ref r8), .val (.ref b9), .val (.ref b12), .val (.ref b14), .val (.ref b16), .val (.ref b18), .val (.int (0 : Int32)), .val (.int (1 : Int32)), .unset, .unset, .unset, .unset, .unset, .unset, .unset, .unset, .unset] [(.ref b20)])) _
    refine XS.dup X20.here hx rfl (hb hby at_143) rfl rfl ?_
    show Steps p.tables e below (T20.setTop (mkF m 144 #[.val (.int p1), .val (.int p2), .val (.int p3), .val (.int p4), .val (.int p5), .val (.int p6), .val (.ref r7), .val (.ref r8), .val (.ref b9), .val (.ref b12), .val (.ref b14), .val (.ref b16), .val (.ref b18), .val (.int (0 : Int32)), .val (.int (1 : Int32)), .unset, .unset, .unset, .unset, .unset, .unset, .unset, .unset, .unset] [(.ref b20), (.ref b20)])) _
    refine XS.iload X20.here hx rfl (hb hby at_144) rfl ?_
    show Steps p.tables e below (T20.setTop (mkF m 146 #[.val (.int p1), .val (.int p2), .val (.int p3), .val (.int p4), .val (.int p5), .val (.int p6), .val (.ref r7), .val (.ref r8), .val (.ref b9), .val (.ref b12), .val (.ref b14), .val (.ref b16), .val (.ref b18), .val (.int (0 : Int32)), .val (.int (1 : Int32)), .unset, .unset, .unset, .unset, .unset, .unset, .unset, .unset, .unset] [(.int p5), (.ref b20), (.ref b20)])) _
    refine st21 _ ?_
    show Steps p.tables e below (T21.setTop (mkF m 149 #[.val (.int p1), .val (.int p2), .val (.int p3), .val (.int p4), .val (.int p5), .val (.int p6), .val (.ref r7), .val (.ref r8), .val (.ref b9), .val (.ref b12), .val (.ref b14), .val (.ref b16), .val (.ref b18), .val (.int (0 : Int32)), .val (.int (1 : Int32)), .unset, .unset, .unset, .unset, .unset, .unset, .unset, .unset, .unset] [(.ref wk), (.ref b20), (.ref b20)])) _
    refine XS.aload X21.here hx rfl (hb hby at_149) rfl rfl ?_
    show Steps p.tables e below (T21.setTop (mkF m 151 #[.val (.int p1), .val (.int p2), .val (.int p3), .val (.int p4), .val (.int p5), .val (.int p6), .val (.ref r7), .val (.ref r8), .val (.ref b9), .val (.ref b12), .val (.ref b14), .val (.ref b16), .val (.ref b18), .val (.int (0 : Int32)), .val (.int (1 : Int32)), .unset, .unset, .unset, .unset, .unset, .unset, .unset, .unset, .unset] [(.ref b12), (.ref wk), (.ref b20), (.ref b20)])) _
    refine XS.aconstNull X21.here hx rfl (hb hby at_151) ?_
    show Steps p.tables e below (T21.setTop (mkF m 152 #[.val (.int p1), .val (.int p2), .val (.int p3), .val (.int p4), .val (.int p5), .val (.int p6), .val (.ref r7), .val (.ref r8), .val (.ref b9), .val (.ref b12), .val (.ref b14), .val (.ref b16), .val (.ref b18), .val (.int (0 : Int32)), .val (.int (1 : Int32)), .unset, .unset, .unset, .unset, .unset, .unset, .unset, .unset, .unset] [.null, (.ref b12), (.ref wk), (.ref b20), (.ref b20)])) _
    refine XS.aload X21.here hx rfl (hb hby at_152) rfl rfl ?_
    show Steps p.tables e below (T21.setTop (mkF m 154 #[.val (.int p1), .val (.int p2), .val (.int p3), .val (.int p4), .val (.int p5), .val (.int p6), .val (.ref r7), .val (.ref r8), .val (.ref b9), .val (.ref b12), .val (.ref b14), .val (.ref b16), .val (.ref b18), .val (.int (0 : Int32)), .val (.int (1 : Int32)), .unset, .unset, .unset, .unset, .unset, .unset, .unset, .unset, .unset] [(.ref b14), .null, (.ref b12), (.ref wk), (.ref b20), (.ref b20)])) _
    refine XS.iload X21.here hx rfl (hb hby at_154) rfl ?_
    show Steps p.tables e below (T21.setTop (mkF m 156 #[.val (.int p1), .val (.int p2), .val (.int p3), .val (.int p4), .val (.int p5), .val (.int p6), .val (.ref r7), .val (.ref r8), .val (.ref b9), .val (.ref b12), .val (.ref b14), .val (.ref b16), .val (.ref b18), .val (.int (0 : Int32)), .val (.int (1 : Int32)), .unset, .unset, .unset, .unset, .unset, .unset, .unset, .unset, .unset] [(.int (0 : Int32)), (.ref b14), .null, (.ref b12), (.ref wk), (.ref b20), (.ref b20)])) _
    refine st22.trans ?_
    show Steps p.tables e below (T22.setTop (mkF m 159 #[.val (.int p1), .val (.int p2), .val (.int p3), .val (.int p4), .val (.int p5), .val (.int p6), .val (.ref r7), .val (.ref r8), .val (.ref b9), .val (.ref b12), .val (.ref b14), .val (.ref b16), .val (.ref b18), .val (.int (0 : Int32)), .val (.int (1 : Int32)), .unset, .unset, .unset, .unset, .unset, .unset, .unset, .unset, .unset] [(.ref b20)])) _
    refine XS.astore X22.here hx rfl (hb hby at_159) rfl rfl (l' := #[.val (.int p1), .val (.int p2), .val (.int p3), .val (.int p4), .val (.int p5), .val (.int p6), .val (.ref r7), .val (.ref r8), .val (.ref b9), .val (.ref b12), .val (.ref b14), .val (.ref b16), .val (.ref b18), .val (.int (0 : Int32)), .val (.int (1 : Int32)), .val (.ref b20), .unset, .unset, .unset, .unset, .unset, .unset, .unset, .unset]) rfl ?_
    show Steps p.tables e below (T22.setTop (mkF m 161 #[.val (.int p1), .val (.int p2), .val (.int p3), .val (.int p4), .val (.int p5), .val (.int p6), .val (.ref r7), .val (.ref r8), .val (.ref b9), .val (.ref b12), .val (.ref b14), .val (.ref b16), .val (.ref b18), .val (.int (0 : Int32)), .val (.int (1 : Int32)), .val (.ref b20), .unset, .unset, .unset, .unset, .unset, .unset, .unset, .unset] [])) _
    refine XS.aload X22.here hx rfl (hb hby at_161) rfl rfl ?_
    show Steps p.tables e below (T22.setTop (mkF m 163 #[.val (.int p1), .val (.int p2), .val (.int p3), .val (.int p4), .val (.int p5), .val (.int p6), .val (.ref r7), .val (.ref r8), .val (.ref b9), .val (.ref b12), .val (.ref b14), .val (.ref b16), .val (.ref b18), .val (.int (0 : Int32)), .val (.int (1 : Int32)), .val (.ref b20), .unset, .unset, .unset, .unset, .unset, .unset, .unset, .unset] [(.ref b20)])) _
    refine st23.trans ?_
    show Steps p.tables e below (T23.setTop (mkF m 166 #[.val (.int p1), .val (.int p2), .val (.int p3), .val (.int p4), .val (.int p5), .val (.int p6), .val (.ref r7), .val (.ref r8), .val (.ref b9), .val (.ref b12), .val (.ref b14), .val (.ref b16), .val (.ref b18), .val (.int (0 : Int32)), .val (.int (1 : Int32)), .val (.ref b20), .unset, .unset, .unset, .unset, .unset, .unset, .unset, .unset] [(.ref b14)])) _
    refine XS.aload X23.here hx rfl (hb hby at_166) rfl rfl ?_
    show Steps p.tables e below (T23.setTop (mkF m 168 #[.val (.int p1), .val (.int p2), .val (.int p3), .val (.int p4), .val (.int p5), .val (.int p6), .val (.ref r7), .val (.ref r8), .val (.ref b9), .val (.ref b12), .val (.ref b14), .val (.ref b16), .val (.ref b18), .val (.int (0 : Int32)), .val (.int (1 : Int32)), .val (.ref b20), .unset, .unset, .unset, .unset, .unset, .unset, .unset, .unset] [(.ref b14), (.ref b14)])) _
    refine Jvm.RoadKit.acmp (g := (mkF m 168 #[.val (.int p1), .val (.int p2), .val (.int p3), .val (.int p4), .val (.int p5), .val (.int p6), .val (.ref r7), .val (.ref r8), .val (.ref b9), .val (.ref b12), .val (.ref b14), .val (.ref b16), .val (.ref b18), .val (.int (0 : Int32)), .val (.int (1 : Int32)), .val (.ref b20), .unset, .unset, .unset, .unset, .unset, .unset, .unset, .unset] [(.ref b14), (.ref b14)])) X23 hx rfl rfl rfl (pc0 := 168) (pc' := 171) (same := true) rfl (hb hby at_168) rfl (decide_eq_true rfl) (by decide) (by decide) ?_
    show Steps p.tables e below (T23.setTop (mkF m 171 #[.val (.int p1), .val (.int p2), .val (.int p3), .val (.int p4), .val (.int p5), .val (.int p6), .val (.ref r7), .val (.ref r8), .val (.ref b9), .val (.ref b12), .val (.ref b14), .val (.ref b16), .val (.ref b18), .val (.int (0 : Int32)), .val (.int (1 : Int32)), .val (.ref b20), .unset, .unset, .unset, .unset, .unset, .unset, .unset, .unset] [])) _
    refine XS.iconst X23.here hx rfl (hb hby at_171) ?_
    show Steps p.tables e below (T23.setTop (mkF m 172 #[.val (.int p1), .val (.int p2), .val (.int p3), .val (.int p4), .val (.int p5), .val (.int p6), .val (.ref r7), .val (.ref r8), .val (.ref b9), .val (.ref b12), .val (.ref b14), .val (.ref b16), .val (.ref b18), .val (.int (0 : Int32)), .val (.int (1 : Int32)), .val (.ref b20), .unset, .unset, .unset, .unset, .unset, .unset, .unset, .unset] [(.int (1 : Int32))])) _
    refine XS.goto X23.here hx rfl (pc0 := 172) (pc' := 176) rfl (hb hby at_172) (by decide) (by decide) ?_
    show Steps p.tables e below (T23.setTop (mkF m 176 #[.val (.int p1), .val (.int p2), .val (.int p3), .val (.int p4), .val (.int p5), .val (.int p6), .val (.ref r7), .val (.ref r8), .val (.ref b9), .val (.ref b12), .val (.ref b14), .val (.ref b16), .val (.ref b18), .val (.int (0 : Int32)), .val (.int (1 : Int32)), .val (.ref b20), .unset, .unset, .unset, .unset, .unset, .unset, .unset, .unset] [(.int (1 : Int32))])) _
    refine XS.istore X23.here hx rfl (hb hby at_176) rfl (l' := #[.val (.int p1), .val (.int p2), .val (.int p3), .val (.int p4), .val (.int p5), .val (.int p6), .val (.ref r7), .val (.ref r8), .val (.ref b9), .val (.ref b12), .val (.ref b14), .val (.ref b16), .val (.ref b18), .val (.int (0 : Int32)), .val (.int (1 : Int32)), .val (.ref b20), .val (.int (1 : Int32)), .unset, .unset, .unset, .unset, .unset, .unset, .unset]) rfl ?_
    show Steps p.tables e below (T23.setTop (mkF m 178 #[.val (.int p1), .val (.int p2), .val (.int p3), .val (.int p4), .val (.int p5), .val (.int p6), .val (.ref r7), .val (.ref r8), .val (.ref b9), .val (.ref b12), .val (.ref b14), .val (.ref b16), .val (.ref b18), .val (.int (0 : Int32)), .val (.int (1 : Int32)), .val (.ref b20), .val (.int (1 : Int32)), .unset, .unset, .unset, .unset, .unset, .unset, .unset] [])) _
    refine XS.iload X23.here hx rfl (hb hby at_178) rfl ?_
    show Steps p.tables e below (T23.setTop (mkF m 180 #[.val (.int p1), .val (.int p2), .val (.int p3), .val (.int p4), .val (.int p5), .val (.int p6), .val (.ref r7), .val (.ref r8), .val (.ref b9), .val (.ref b12), .val (.ref b14), .val (.ref b16), .val (.ref b18), .val (.int (0 : Int32)), .val (.int (1 : Int32)), .val (.ref b20), .val (.int (1 : Int32)), .unset, .unset, .unset, .unset, .unset, .unset, .unset] [(.int (1 : Int32))])) _
    refine XS.ifNo X23.here hx rfl (hb hby at_180) rfl ((if0 _ _).trans (feq hc180).1) ?_
    show Steps p.tables e below (T23.setTop (mkF m 183 #[.val (.int p1), .val (.int p2), .val (.int p3), .val (.int p4), .val (.int p5), .val (.int p6), .val (.ref r7), .val (.ref r8), .val (.ref b9), .val (.ref b12), .val (.ref b14), .val (.ref b16), .val (.ref b18), .val (.int (0 : Int32)), .val (.int (1 : Int32)), .val (.ref b20), .val (.int (1 : Int32)), .unset, .unset, .unset, .unset, .unset, .unset, .unset] [])) _
    refine XS.aconstNull X23.here hx rfl (hb hby at_183) ?_
    show Steps p.tables e below (T23.setTop (mkF m 184 #[.val (.int p1), .val (.int p2), .val (.int p3), .val (.int p4), .val (.int p5), .val (.int p6), .val (.ref r7), .val (.ref r8), .val (.ref b9), .val (.ref b12), .val (.ref b14), .val (.ref b16), .val (.ref b18), .val (.int (0 : Int32)), .val (.int (1 : Int32)), .val (.ref b20), .val (.int (1 : Int32)), .unset, .unset, .unset, .unset, .unset, .unset, .unset] [.null])) _
    refine XS.goto X23.here hx rfl (pc0 := 184) (pc' := 189) rfl (hb hby at_184) (by decide) (by decide) ?_
    show Steps p.tables e below (T23.setTop (mkF m 189 #[.val (.int p1), .val (.int p2), .val (.int p3), .val (.int p4), .val (.int p5), .val (.int p6), .val (.ref r7), .val (.ref r8), .val (.ref b9), .val (.ref b12), .val (.ref b14), .val (.ref b16), .val (.ref b18), .val (.int (0 : Int32)), .val (.int (1 : Int32)), .val (.ref b20), .val (.int (1 : Int32)), .unset, .unset, .unset, .unset, .unset, .unset, .unset] [.null])) _
    refine XS.astore X23.here hx rfl (hb hby at_189) rfl rfl (l' := #[.val (.int p1), .val (.int p2), .val (.int p3), .val (.int p4), .val (.int p5), .val (.int p6), .val (.ref r7), .val (.ref r8), .val (.ref b9), .val (.ref b12), .val (.ref b14), .val (.ref b16), .val (.ref b18), .val (.int (0 : Int32)), .val (.int (1 : Int32)), .val (.ref b20), .val (.int (1 : Int32)), .val .null, .unset, .unset, .unset, .unset, .unset, .unset]) rfl ?_
    show Steps p.tables e below (T23.setTop (mkF m 191 #[.val (.int p1), .val (.int p2), .val (.int p3), .val (.int p4), .val (.int p5), .val (.int p6), .val (.ref r7), .val (.ref r8), .val (.ref b9), .val (.ref b12), .val (.ref b14), .val (.ref b16), .val (.ref b18), .val (.int (0 : Int32)), .val (.int (1 : Int32)), .val (.ref b20), .val (.int (1 : Int32)), .val .null, .unset, .unset, .unset, .unset, .unset, .unset] [])) _
    refine XS.aload X23.here hx rfl (hb hby at_191) rfl rfl ?_
    show Steps p.tables e below (T23.setTop (mkF m 193 #[.val (.int p1), .val (.int p2), .val (.int p3), .val (.int p4), .val (.int p5), .val (.int p6), .val (.ref r7), .val (.ref r8), .val (.ref b9), .val (.ref b12), .val (.ref b14), .val (.ref b16), .val (.ref b18), .val (.int (0 : Int32)), .val (.int (1 : Int32)), .val (.ref b20), .val (.int (1 : Int32)), .val .null, .unset, .unset, .unset, .unset, .unset, .unset] [(.ref b20)])) _
    refine XS.aload X23.here hx rfl (hb hby at_193) rfl rfl ?_
    show Steps p.tables e below (T23.setTop (mkF m 195 #[.val (.int p1), .val (.int p2), .val (.int p3), .val (.int p4), .val (.int p5), .val (.int p6), .val (.ref r7), .val (.ref r8), .val (.ref b9), .val (.ref b12), .val (.ref b14), .val (.ref b16), .val (.ref b18), .val (.int (0 : Int32)), .val (.int (1 : Int32)), .val (.ref b20), .val (.int (1 : Int32)), .val .null, .unset, .unset, .unset, .unset, .unset, .unset] [.null, (.ref b20)])) _
    refine st24.trans ?_
    show Steps p.tables e below (T24.setTop (mkF m 198 #[.val (.int p1), .val (.int p2), .val (.int p3), .val (.int p4), .val (.int p5), .val (.int p6), .val (.ref r7), .val (.ref r8), .val (.ref b9), .val (.ref b12), .val (.ref b14), .val (.ref b16), .val (.ref b18), .val (.int (0 : Int32)), .val (.int (1 : Int32)), .val (.ref b20), .val (.int (1 : Int32)), .val .null, .unset, .unset, .unset, .unset, .unset, .unset] [(.ref r24)])) _
    refine XS.astore X24.here hx rfl (hb hby at_198) rfl rfl (l' := #[.val (.int p1), .val (.int p2), .val (.int p3), .val (.int p4), .val (.int p5), .val (.int p6), .val (.ref r7), .val (.ref r8), .val (.ref b9), .val (.ref b12), .val (.ref b14), .val (.ref b16), .val (.ref b18), .val (.int (0 : Int32)), .val (.int (1 : Int32)), .val (.ref b20), .val (.int (1 : Int32)), .val .null, .val (.ref r24), .unset, .unset, .unset, .unset, .unset]) rfl ?_
    show Steps p.tables e below (T24.setTop (mkF m 200 #[.val (.int p1), .val (.int p2), .val (.int p3), .val (.int p4), .val (.int p5), .val (.int p6), .val (.ref r7), .val (.ref r8), .val (.ref b9), .val (.ref b12), .val (.ref b14), .val (.ref b16), .val (.ref b18), .val (.int (0 : Int32)), .val (.int (1 : Int32)), .val (.ref b20), .val (.int (1 : Int32)), .val .null, .val (.ref r24), .unset, .unset, .unset, .unset, .unset] [])) _
    refine XS.iload X24.here hx rfl (hb hby at_200) rfl ?_
    show Steps p.tables e below (T24.setTop (mkF m 202 #[.val (.int p1), .val (.int p2), .val (.int p3), .val (.int p4), .val (.int p5), .val (.int p6), .val (.ref r7), .val (.ref r8), .val (.ref b9), .val (.ref b12), .val (.ref b14), .val (.ref b16), .val (.ref b18), .val (.int (0 : Int32)), .val (.int (1 : Int32)), .val (.ref b20), .val (.int (1 : Int32)), .val .null, .val (.ref r24), .unset, .unset, .unset, .unset, .unset] [(.int (1 : Int32))])) _
    refine XS.ifNo X24.here hx rfl (hb hby at_202) rfl ((if0 _ _).trans (feq hc202).1) ?_
    show Steps p.tables e below (T24.setTop (mkF m 205 #[.val (.int p1), .val (.int p2), .val (.int p3), .val (.int p4), .val (.int p5), .val (.int p6), .val (.ref r7), .val (.ref r8), .val (.ref b9), .val (.ref b12), .val (.ref b14), .val (.ref b16), .val (.ref b18), .val (.int (0 : Int32)), .val (.int (1 : Int32)), .val (.ref b20), .val (.int (1 : Int32)), .val .null, .val (.ref r24), .unset, .unset, .unset, .unset, .unset] [])) _
    refine XS.aload X24.here hx rfl (hb hby at_205) rfl rfl ?_
    show Steps p.tables e below (T24.setTop (mkF m 207 #[.val (.int p1), .val (.int p2), .val (.int p3), .val (.int p4), .val (.int p5), .val (.int p6), .val (.ref r7), .val (.ref r8), .val (.ref b9), .val (.ref b12), .val (.ref b14), .val (.ref b16), .val (.ref b18), .val (.int (0 : Int32)), .val (.int (1 : Int32)), .val (.ref b20), .val (.int (1 : Int32)), .val .null, .val (.ref r24), .unset, .unset, .unset, .unset, .unset] [(.ref b14)])) _
    refine XS.goto X24.here hx rfl (pc0 := 207) (pc' := 212) rfl (hb hby at_207) (by decide) (by decide) ?_
    show Steps p.tables e below (T24.setTop (mkF m 212 #[.val (.int p1), .val (.int p2), .val (.int p3), .val (.int p4), .val (.int p5), .val (.int p6), .val (.ref r7), .val (.ref r8), .val (.ref b9), .val (.ref b12), .val (.ref b14), .val (.ref b16), .val (.ref b18), .val (.int (0 : Int32)), .val (.int (1 : Int32)), .val (.ref b20), .val (.int (1 : Int32)), .val .null, .val (.ref r24), .unset, .unset, .unset, .unset, .unset] [(.ref b14)])) _
    refine XS.astore X24.here hx rfl (hb hby at_212) rfl rfl (l' := #[.val (.int p1), .val (.int p2), .val (.int p3), .val (.int p4), .val (.int p5), .val (.int p6), .val (.ref r7), .val (.ref r8), .val (.ref b9), .val (.ref b12), .val (.ref b14), .val (.ref b16), .val (.ref b18), .val (.int (0 : Int32)), .val (.int (1 : Int32)), .val (.ref b20), .val (.int (1 : Int32)), .val .null, .val (.ref r24), .val (.ref b14), .unset, .unset, .unset, .unset]) rfl ?_
    show Steps p.tables e below (T24.setTop (mkF m 214 #[.val (.int p1), .val (.int p2), .val (.int p3), .val (.int p4), .val (.int p5), .val (.int p6), .val (.ref r7), .val (.ref r8), .val (.ref b9), .val (.ref b12), .val (.ref b14), .val (.ref b16), .val (.ref b18), .val (.int (0 : Int32)), .val (.int (1 : Int32)), .val (.ref b20), .val (.int (1 : Int32)), .val .null, .val (.ref r24), .val (.ref b14), .unset, .unset, .unset, .unset] [])) _
    refine XS.aload X24.here hx rfl (hb hby at_214) rfl rfl ?_
    show Steps p.tables e below (T24.setTop (mkF m 216 #[.val (.int p1), .val (.int p2), .val (.int p3), .val (.int p4), .val (.int p5), .val (.int p6), .val (.ref r7), .val (.ref r8), .val (.ref b9), .val (.ref b12), .val (.ref b14), .val (.ref b16), .val (.ref b18), .val (.int (0 : Int32)), .val (.int (1 : Int32)), .val (.ref b20), .val (.int (1 : Int32)), .val .null, .val (.ref r24), .val (.ref b14), .unset, .unset, .unset, .unset] [(.ref r24)])) _
    refine st25.trans ?_
    show Steps p.tables e below (T25.setTop (mkF m 219 #[.val (.int p1), .val (.int p2), .val (.int p3), .val (.int p4), .val (.int p5), .val (.int p6), .val (.ref r7), .val (.ref r8), .val (.ref b9), .val (.ref b12), .val (.ref b14), .val (.ref b16), .val (.ref b18), .val (.int (0 : Int32)), .val (.int (1 : Int32)), .val (.ref b20), .val (.int (1 : Int32)), .val .null, .val (.ref r24), .val (.ref b14), .unset, .unset, .unset, .unset] [(.ref b14)])) _
    refine XS.aload X25.here hx rfl (hb hby at_219) rfl rfl ?_
    show Steps p.tables e below (T25.setTop (mkF m 221 #[.val (.int p1), .val (.int p2), .val (.int p3), .val (.int p4), .val (.int p5), .val (.int p6), .val (.ref r7), .val (.ref r8), .val (.ref b9), .val (.ref b12), .val (.ref b14), .val (.ref b16), .val (.ref b18), .val (.int (0 : Int32)), .val (.int (1 : Int32)), .val (.ref b20), .val (.int (1 : Int32)), .val .null, .val (.ref r24), .val (.ref b14), .unset, .unset, .unset, .unset] [(.ref b14), (.ref b14)])) _
    refine Jvm.RoadKit.acmp (g := (mkF m 221 #[.val (.int p1), .val (.int p2), .val (.int p3), .val (.int p4), .val (.int p5), .val (.int p6), .val (.ref r7), .val (.ref r8), .val (.ref b9), .val (.ref b12), .val (.ref b14), .val (.ref b16), .val (.ref b18), .val (.int (0 : Int32)), .val (.int (1 : Int32)), .val (.ref b20), .val (.int (1 : Int32)), .val .null, .val (.ref r24), .val (.ref b14), .unset, .unset, .unset, .unset] [(.ref b14), (.ref b14)])) X25 hx rfl rfl rfl (pc0 := 221) (pc' := 224) (same := true) rfl (hb hby at_221) rfl (decide_eq_true rfl) (by decide) (by decide) ?_
    show Steps p.tables e below (T25.setTop (mkF m 224 #[.val (.int p1), .val (.int p2), .val (.int p3), .val (.int p4), .val (.int p5), .val (.int p6), .val (.ref r7), .val (.ref r8), .val (.ref b9), .val (.ref b12), .val (.ref b14), .val (.ref b16), .val (.ref b18), .val (.int (0 : Int32)), .val (.int (1 : Int32)), .val (.ref b20), .val (.int (1 : Int32)), .val .null, .val (.ref r24), .val (.ref b14), .unset, .unset, .unset, .unset] [])) _
    refine XS.iconst X25.here hx rfl (hb hby at_224) ?_
    show Steps p.tables e below (T25.setTop (mkF m 225 #[.val (.int p1), .val (.int p2), .val (.int p3), .val (.int p4), .val (.int p5), .val (.int p6), .val (.ref r7), .val (.ref r8), .val (.ref b9), .val (.ref b12), .val (.ref b14), .val (.ref b16), .val (.ref b18), .val (.int (0 : Int32)), .val (.int (1 : Int32)), .val (.ref b20), .val (.int (1 : Int32)), .val .null, .val (.ref r24), .val (.ref b14), .unset, .unset, .unset, .unset] [(.int (1 : Int32))])) _
    refine XS.goto X25.here hx rfl (pc0 := 225) (pc' := 229) rfl (hb hby at_225) (by decide) (by decide) ?_
    show Steps p.tables e below (T25.setTop (mkF m 229 #[.val (.int p1), .val (.int p2), .val (.int p3), .val (.int p4), .val (.int p5), .val (.int p6), .val (.ref r7), .val (.ref r8), .val (.ref b9), .val (.ref b12), .val (.ref b14), .val (.ref b16), .val (.ref b18), .val (.int (0 : Int32)), .val (.int (1 : Int32)), .val (.ref b20), .val (.int (1 : Int32)), .val .null, .val (.ref r24), .val (.ref b14), .unset, .unset, .unset, .unset] [(.int (1 : Int32))])) _
    refine XS.istore X25.here hx rfl (hb hby at_229) rfl (l' := #[.val (.int p1), .val (.int p2), .val (.int p3), .val (.int p4), .val (.int p5), .val (.int p6), .val (.ref r7), .val (.ref r8), .val (.ref b9), .val (.ref b12), .val (.ref b14), .val (.ref b16), .val (.ref b18), .val (.int (0 : Int32)), .val (.int (1 : Int32)), .val (.ref b20), .val (.int (1 : Int32)), .val .null, .val (.ref r24), .val (.ref b14), .val (.int (1 : Int32)), .unset, .unset, .unset]) rfl ?_
    show Steps p.tables e below (T25.setTop (mkF m 231 #[.val (.int p1), .val (.int p2), .val (.int p3), .val (.int p4), .val (.int p5), .val (.int p6), .val (.ref r7), .val (.ref r8), .val (.ref b9), .val (.ref b12), .val (.ref b14), .val (.ref b16), .val (.ref b18), .val (.int (0 : Int32)), .val (.int (1 : Int32)), .val (.ref b20), .val (.int (1 : Int32)), .val .null, .val (.ref r24), .val (.ref b14), .val (.int (1 : Int32)), .unset, .unset, .unset] [])) _
    refine XS.aload X25.here hx rfl (hb hby at_231) rfl rfl ?_
    show Steps p.tables e below (T25.setTop (mkF m 233 #[.val (.int p1), .val (.int p2), .val (.int p3), .val (.int p4), .val (.int p5), .val (.int p6), .val (.ref r7), .val (.ref r8), .val (.ref b9), .val (.ref b12), .val (.ref b14), .val (.ref b16), .val (.ref b18), .val (.int (0 : Int32)), .val (.int (1 : Int32)), .val (.ref b20), .val (.int (1 : Int32)), .val .null, .val (.ref r24), .val (.ref b14), .val (.int (1 : Int32)), .unset, .unset, .unset] [(.ref r24)])) _
    refine XS.aload X25.here hx rfl (hb hby at_233) rfl rfl ?_
    show Steps p.tables e below (T25.setTop (mkF m 235 #[.val (.int p1), .val (.int p2), .val (.int p3), .val (.int p4), .val (.int p5), .val (.int p6), .val (.ref r7), .val (.ref r8), .val (.ref b9), .val (.ref b12), .val (.ref b14), .val (.ref b16), .val (.ref b18), .val (.int (0 : Int32)), .val (.int (1 : Int32)), .val (.ref b20), .val (.int (1 : Int32)), .val .null, .val (.ref r24), .val (.ref b14), .val (.int (1 : Int32)), .unset, .unset, .unset] [(.ref b18), (.ref r24)])) _
    refine st26.trans ?_
    show Steps p.tables e below (T26.setTop (mkF m 238 #[.val (.int p1), .val (.int p2), .val (.int p3), .val (.int p4), .val (.int p5), .val (.int p6), .val (.ref r7), .val (.ref r8), .val (.ref b9), .val (.ref b12), .val (.ref b14), .val (.ref b16), .val (.ref b18), .val (.int (0 : Int32)), .val (.int (1 : Int32)), .val (.ref b20), .val (.int (1 : Int32)), .val .null, .val (.ref r24), .val (.ref b14), .val (.int (1 : Int32)), .unset, .unset, .unset] [(.ref r26)])) _
    refine XS.astore X26.here hx rfl (hb hby at_238) rfl rfl (l' := #[.val (.int p1), .val (.int p2), .val (.int p3), .val (.int p4), .val (.int p5), .val (.int p6), .val (.ref r7), .val (.ref r8), .val (.ref b9), .val (.ref b12), .val (.ref b14), .val (.ref b16), .val (.ref b18), .val (.int (0 : Int32)), .val (.int (1 : Int32)), .val (.ref b20), .val (.int (1 : Int32)), .val .null, .val (.ref r24), .val (.ref b14), .val (.int (1 : Int32)), .val (.ref r26), .unset, .unset]) rfl ?_
    show Steps p.tables e below (T26.setTop (mkF m 240 #[.val (.int p1), .val (.int p2), .val (.int p3), .val (.int p4), .val (.int p5), .val (.int p6), .val (.ref r7), .val (.ref r8), .val (.ref b9), .val (.ref b12), .val (.ref b14), .val (.ref b16), .val (.ref b18), .val (.int (0 : Int32)), .val (.int (1 : Int32)), .val (.ref b20), .val (.int (1 : Int32)), .val .null, .val (.ref r24), .val (.ref b14), .val (.int (1 : Int32)), .val (.ref r26), .unset, .unset] [])) _
    refine XS.iload X26.here hx rfl (hb hby at_240) rfl ?_
    show Steps p.tables e below (T26.setTop (mkF m 242 #[.val (.int p1), .val (.int p2), .val (.int p3), .val (.int p4), .val (.int p5), .val (.int p6), .val (.ref r7), .val (.ref r8), .val (.ref b9), .val (.ref b12), .val (.ref b14), .val (.ref b16), .val (.ref b18), .val (.int (0 : Int32)), .val (.int (1 : Int32)), .val (.ref b20), .val (.int (1 : Int32)), .val .null, .val (.ref r24), .val (.ref b14), .val (.int (1 : Int32)), .val (.ref r26), .unset, .unset] [(.int (1 : Int32))])) _
    refine XS.ifNo X26.here hx rfl (hb hby at_242) rfl ((if0 _ _).trans (feq hc242).1) ?_
    show Steps p.tables e below (T26.setTop (mkF m 245 #[.val (.int p1), .val (.int p2), .val (.int p3), .val (.int p4), .val (.int p5), .val (.int p6), .val (.ref r7), .val (.ref r8), .val (.ref b9), .val (.ref b12), .val (.ref b14), .val (.ref b16), .val (.ref b18), .val (.int (0 : Int32)), .val (.int (1 : Int32)), .val (.ref b20), .val (.int (1 : Int32)), .val .null, .val (.ref r24), .val (.ref b14), .val (.int (1 : Int32)), .val (.ref r26), .unset, .unset] [])) _
    refine XS.aload X26.here hx rfl (hb hby at_245) rfl rfl ?_
    show Steps p.tables e below (T26.setTop (mkF m 247 #[.val (.int p1), .val (.int p2), .val (.int p3), .val (.int p4), .val (.int p5), .val (.int p6), .val (.ref r7), .val (.ref r8), .val (.ref b9), .val (.ref b12), .val (.ref b14), .val (.ref b16), .val (.ref b18), .val (.int (0 : Int32)), .val (.int (1 : Int32)), .val (.ref b20), .val (.int (1 : Int32)), .val .null, .val (.ref r24), .val (.ref b14), .val (.int (1 : Int32)), .val (.ref r26), .unset, .unset] [(.ref b18)])) _
    refine XS.goto X26.here hx rfl (pc0 := 247) (pc' := 252) rfl (hb hby at_247) (by decide) (by decide) ?_
    show Steps p.tables e below (T26.setTop (mkF m 252 #[.val (.int p1), .val (.int p2), .val (.int p3), .val (.int p4), .val (.int p5), .val (.int p6), .val (.ref r7), .val (.ref r8), .val (.ref b9), .val (.ref b12), .val (.ref b14), .val (.ref b16), .val (.ref b18), .val (.int (0 : Int32)), .val (.int (1 : Int32)), .val (.ref b20), .val (.int (1 : Int32)), .val .null, .val (.ref r24), .val (.ref b14), .val (.int (1 : Int32)), .val (.ref r26), .unset, .unset] [(.ref b18)])) _
    refine XS.astore X26.here hx rfl (hb hby at_252) rfl rfl (l' := #[.val (.int p1), .val (.int p2), .val (.int p3), .val (.int p4), .val (.int p5), .val (.int p6), .val (.ref r7), .val (.ref r8), .val (.ref b9), .val (.ref b12), .val (.ref b14), .val (.ref b16), .val (.ref b18), .val (.int (0 : Int32)), .val (.int (1 : Int32)), .val (.ref b20), .val (.int (1 : Int32)), .val .null, .val (.ref r24), .val (.ref b14), .val (.int (1 : Int32)), .val (.ref r26), .val (.ref b18), .unset]) rfl ?_
    show Steps p.tables e below (T26.setTop (mkF m 254 #[.val (.int p1), .val (.int p2), .val (.int p3), .val (.int p4), .val (.int p5), .val (.int p6), .val (.ref r7), .val (.ref r8), .val (.ref b9), .val (.ref b12), .val (.ref b14), .val (.ref b16), .val (.ref b18), .val (.int (0 : Int32)), .val (.int (1 : Int32)), .val (.ref b20), .val (.int (1 : Int32)), .val .null, .val (.ref r24), .val (.ref b14), .val (.int (1 : Int32)), .val (.ref r26), .val (.ref b18), .unset] [])) _
    refine XS.aload X26.here hx rfl (hb hby at_254) rfl rfl ?_
    show Steps p.tables e below (T26.setTop (mkF m 256 #[.val (.int p1), .val (.int p2), .val (.int p3), .val (.int p4), .val (.int p5), .val (.int p6), .val (.ref r7), .val (.ref r8), .val (.ref b9), .val (.ref b12), .val (.ref b14), .val (.ref b16), .val (.ref b18), .val (.int (0 : Int32)), .val (.int (1 : Int32)), .val (.ref b20), .val (.int (1 : Int32)), .val .null, .val (.ref r24), .val (.ref b14), .val (.int (1 : Int32)), .val (.ref r26), .val (.ref b18), .unset] [(.ref r26)])) _
    refine st27.trans ?_
    show Steps p.tables e below (T27.setTop (mkF m 259 #[.val (.int p1), .val (.int p2), .val (.int p3), .val (.int p4), .val (.int p5), .val (.int p6), .val (.ref r7), .val (.ref r8), .val (.ref b9), .val (.ref b12), .val (.ref b14), .val (.ref b16), .val (.ref b18), .val (.int (0 : Int32)), .val (.int (1 : Int32)), .val (.ref b20), .val (.int (1 : Int32)), .val .null, .val (.ref r24), .val (.ref b14), .val (.int (1 : Int32)), .val (.ref r26), .val (.ref b18), .unset] [(.ref b18)])) _
    refine XS.aload X27.here hx rfl (hb hby at_259) rfl rfl ?_
    show Steps p.tables e below (T27.setTop (mkF m 261 #[.val (.int p1), .val (.int p2), .val (.int p3), .val (.int p4), .val (.int p5), .val (.int p6), .val (.ref r7), .val (.ref r8), .val (.ref b9), .val (.ref b12), .val (.ref b14), .val (.ref b16), .val (.ref b18), .val (.int (0 : Int32)), .val (.int (1 : Int32)), .val (.ref b20), .val (.int (1 : Int32)), .val .null, .val (.ref r24), .val (.ref b14), .val (.int (1 : Int32)), .val (.ref r26), .val (.ref b18), .unset] [(.ref b18), (.ref b18)])) _
    refine Jvm.RoadKit.acmp (g := (mkF m 261 #[.val (.int p1), .val (.int p2), .val (.int p3), .val (.int p4), .val (.int p5), .val (.int p6), .val (.ref r7), .val (.ref r8), .val (.ref b9), .val (.ref b12), .val (.ref b14), .val (.ref b16), .val (.ref b18), .val (.int (0 : Int32)), .val (.int (1 : Int32)), .val (.ref b20), .val (.int (1 : Int32)), .val .null, .val (.ref r24), .val (.ref b14), .val (.int (1 : Int32)), .val (.ref r26), .val (.ref b18), .unset] [(.ref b18), (.ref b18)])) X27 hx rfl rfl rfl (pc0 := 261) (pc' := 264) (same := true) rfl (hb hby at_261) rfl (decide_eq_true rfl) (by decide) (by decide) ?_
    show Steps p.tables e below (T27.setTop (mkF m 264 #[.val (.int p1), .val (.int p2), .val (.int p3), .val (.int p4), .val (.int p5), .val (.int p6), .val (.ref r7), .val (.ref r8), .val (.ref b9), .val (.ref b12), .val (.ref b14), .val (.ref b16), .val (.ref b18), .val (.int (0 : Int32)), .val (.int (1 : Int32)), .val (.ref b20), .val (.int (1 : Int32)), .val .null, .val (.ref r24), .val (.ref b14), .val (.int (1 : Int32)), .val (.ref r26), .val (.ref b18), .unset] [])) _
    refine XS.iconst X27.here hx rfl (hb hby at_264) ?_
    show Steps p.tables e below (T27.setTop (mkF m 265 #[.val (.int p1), .val (.int p2), .val (.int p3), .val (.int p4), .val (.int p5), .val (.int p6), .val (.ref r7), .val (.ref r8), .val (.ref b9), .val (.ref b12), .val (.ref b14), .val (.ref b16), .val (.ref b18), .val (.int (0 : Int32)), .val (.int (1 : Int32)), .val (.ref b20), .val (.int (1 : Int32)), .val .null, .val (.ref r24), .val (.ref b14), .val (.int (1 : Int32)), .val (.ref r26), .val (.ref b18), .unset] [(.int (1 : Int32))])) _
    refine XS.goto X27.here hx rfl (pc0 := 265) (pc' := 269) rfl (hb hby at_265) (by decide) (by decide) ?_
    show Steps p.tables e below (T27.setTop (mkF m 269 #[.val (.int p1), .val (.int p2), .val (.int p3), .val (.int p4), .val (.int p5), .val (.int p6), .val (.ref r7), .val (.ref r8), .val (.ref b9), .val (.ref b12), .val (.ref b14), .val (.ref b16), .val (.ref b18), .val (.int (0 : Int32)), .val (.int (1 : Int32)), .val (.ref b20), .val (.int (1 : Int32)), .val .null, .val (.ref r24), .val (.ref b14), .val (.int (1 : Int32)), .val (.ref r26), .val (.ref b18), .unset] [(.int (1 : Int32))])) _
    refine XS.istore X27.here hx rfl (hb hby at_269) rfl (l' := #[.val (.int p1), .val (.int p2), .val (.int p3), .val (.int p4), .val (.int p5), .val (.int p6), .val (.ref r7), .val (.ref r8), .val (.ref b9), .val (.ref b12), .val (.ref b14), .val (.ref b16), .val (.ref b18), .val (.int (0 : Int32)), .val (.int (1 : Int32)), .val (.ref b20), .val (.int (1 : Int32)), .val .null, .val (.ref r24), .val (.ref b14), .val (.int (1 : Int32)), .val (.ref r26), .val (.ref b18), .val (.int (1 : Int32))]) rfl ?_
    show Steps p.tables e below (T27.setTop (mkF m 271 #[.val (.int p1), .val (.int p2), .val (.int p3), .val (.int p4), .val (.int p5), .val (.int p6), .val (.ref r7), .val (.ref r8), .val (.ref b9), .val (.ref b12), .val (.ref b14), .val (.ref b16), .val (.ref b18), .val (.int (0 : Int32)), .val (.int (1 : Int32)), .val (.ref b20), .val (.int (1 : Int32)), .val .null, .val (.ref r24), .val (.ref b14), .val (.int (1 : Int32)), .val (.ref r26), .val (.ref b18), .val (.int (1 : Int32))] [])) _
    refine XS.iload X27.here hx rfl (hb hby at_271) rfl ?_
    show Steps p.tables e below (T27.setTop (mkF m 273 #[.val (.int p1), .val (.int p2), .val (.int p3), .val (.int p4), .val (.int p5), .val (.int p6), .val (.ref r7), .val (.ref r8), .val (.ref b9), .val (.ref b12), .val (.ref b14), .val (.ref b16), .val (.ref b18), .val (.int (0 : Int32)), .val (.int (1 : Int32)), .val (.ref b20), .val (.int (1 : Int32)), .val .null, .val (.ref r24), .val (.ref b14), .val (.int (1 : Int32)), .val (.ref r26), .val (.ref b18), .val (.int (1 : Int32))] [(.int (1 : Int32))])) _
    refine XS.ifNo X27.here hx rfl (hb hby at_273) rfl ((if0 _ _).trans (feq hc273).1) ?_
    show Steps p.tables e below (T27.setTop (mkF m 276 #[.val (.int p1), .val (.int p2), .val (.int p3), .val (.int p4), .val (.int p5), .val (.int p6), .val (.ref r7), .val (.ref r8), .val (.ref b9), .val (.ref b12), .val (.ref b14), .val (.ref b16), .val (.ref b18), .val (.int (0 : Int32)), .val (.int (1 : Int32)), .val (.ref b20), .val (.int (1 : Int32)), .val .null, .val (.ref r24), .val (.ref b14), .val (.int (1 : Int32)), .val (.ref r26), .val (.ref b18), .val (.int (1 : Int32))] [])) _
    refine XS.iload X27.here hx rfl (hb hby at_276) rfl ?_
    show Steps p.tables e below (T27.setTop (mkF m 278 #[.val (.int p1), .val (.int p2), .val (.int p3), .val (.int p4), .val (.int p5), .val (.int p6), .val (.ref r7), .val (.ref r8), .val (.ref b9), .val (.ref b12), .val (.ref b14), .val (.ref b16), .val (.ref b18), .val (.int (0 : Int32)), .val (.int (1 : Int32)), .val (.ref b20), .val (.int (1 : Int32)), .val .null, .val (.ref r24), .val (.ref b14), .val (.int (1 : Int32)), .val (.ref r26), .val (.ref b18), .val (.int (1 : Int32))] [(.int (1 : Int32))])) _
    refine XS.ifNo X27.here hx rfl (hb hby at_278) rfl ((if0 _ _).trans (feq hc278).1) ?_
    show Steps p.tables e below (T27.setTop (mkF m 281 #[.val (.int p1), .val (.int p2), .val (.int p3), .val (.int p4), .val (.int p5), .val (.int p6), .val (.ref r7), .val (.ref r8), .val (.ref b9), .val (.ref b12), .val (.ref b14), .val (.ref b16), .val (.ref b18), .val (.int (0 : Int32)), .val (.int (1 : Int32)), .val (.ref b20), .val (.int (1 : Int32)), .val .null, .val (.ref r24), .val (.ref b14), .val (.int (1 : Int32)), .val (.ref r26), .val (.ref b18), .val (.int (1 : Int32))] [])) _
    refine XS.iload X27.here hx rfl (hb hby at_281) rfl ?_
    show Steps p.tables e below (T27.setTop (mkF m 283 #[.val (.int p1), .val (.int p2), .val (.int p3), .val (.int p4), .val (.int p5), .val (.int p6), .val (.ref r7), .val (.ref r8), .val (.ref b9), .val (.ref b12), .val (.ref b14), .val (.ref b16), .val (.ref b18), .val (.int (0 : Int32)), .val (.int (1 : Int32)), .val (.ref b20), .val (.int (1 : Int32)), .val .null, .val (.ref r24), .val (.ref b14), .val (.int (1 : Int32)), .val (.ref r26), .val (.ref b18), .val (.int (1 : Int32))] [(.int (1 : Int32))])) _
    refine XS.ifNo X27.here hx rfl (hb hby at_283) rfl ((if0 _ _).trans (feq hc283).1) ?_
    show Steps p.tables e below (T27.setTop (mkF m 286 #[.val (.int p1), .val (.int p2), .val (.int p3), .val (.int p4), .val (.int p5), .val (.int p6), .val (.ref r7), .val (.ref r8), .val (.ref b9), .val (.ref b12), .val (.ref b14), .val (.ref b16), .val (.ref b18), .val (.int (0 : Int32)), .val (.int (1 : Int32)), .val (.ref b20), .val (.int (1 : Int32)), .val .null, .val (.ref r24), .val (.ref b14), .val (.int (1 : Int32)), .val (.ref r26), .val (.ref b18), .val (.int (1 : Int32))] [])) _
    refine XS.iconst X27.here hx rfl (hb hby at_286) ?_
    show Steps p.tables e below (T27.setTop (mkF m 287 #[.val (.int p1), .val (.int p2), .val (.int p3), .val (.int p4), .val (.int p5), .val (.int p6), .val (.ref r7), .val (.ref r8), .val (.ref b9), .val (.ref b12), .val (.ref b14), .val (.ref b16), .val (.ref b18), .val (.int (0 : Int32)), .val (.int (1 : Int32)), .val (.ref b20), .val (.int (1 : Int32)), .val .null, .val (.ref r24), .val (.ref b14), .val (.int (1 : Int32)), .val (.ref r26), .val (.ref b18), .val (.int (1 : Int32))] [(.int (1 : Int32))])) _
    refine XS.goto X27.here hx rfl (pc0 := 287) (pc' := 291) rfl (hb hby at_287) (by decide) (by decide) ?_
    show Steps p.tables e below (T27.setTop (mkF m 291 #[.val (.int p1), .val (.int p2), .val (.int p3), .val (.int p4), .val (.int p5), .val (.int p6), .val (.ref r7), .val (.ref r8), .val (.ref b9), .val (.ref b12), .val (.ref b14), .val (.ref b16), .val (.ref b18), .val (.int (0 : Int32)), .val (.int (1 : Int32)), .val (.ref b20), .val (.int (1 : Int32)), .val .null, .val (.ref r24), .val (.ref b14), .val (.int (1 : Int32)), .val (.ref r26), .val (.ref b18), .val (.int (1 : Int32))] [(.int (1 : Int32))])) _
    exact retN X27 hx (t := .boolean) Bd.returns (by simp) (hb hby at_291) hr
  · show Q0 Z h0 n0 _ T27.heap _
    exact ⟨rfl, N27⟩
set_option maxRecDepth 65536 in
set_option maxHeartbeats 40000000 in
theorem rm0_fq (l : Launch) (Z : State) (a0 : Array Value) (hw : ∀ d ∈ tables_1, d.before a0 Z = true) (ws : List Jvm.Cond) (p1 : Int32) (p2 : Int32) (p3 : Int32) (p4 : Int32) (p5 : Int32) (p6 : Int32) (w_cs : Int32) (wk : Addr) (h0 : Heap) (n0 : Nat) (Z0 : n0 ≤ h0.size) (S_COMPACT_STRINGS : Sta Z h0 "java/lang/String" "COMPACT_STRINGS" "Z" (.int w_cs)) (hcs : ¬ w_cs = 0) (S_kind : Sta Z h0 own_KC (own_kn p5) own_KD (.ref wk)) (hc114 : ¬ ((((p5.toUInt32 >>> ((2 : Int32) &&& 31).toUInt32).toInt32) &&& (1 : Int32)) = (0 : Int32))) (hc130 : (((p5.toUInt32 >>> ((3 : Int32) &&& 31).toUInt32).toInt32) &&& (1 : Int32)) = (0 : Int32)) :
    MetFree l x (head1 (Jvm.Cond.code x code maxLocals ret :: ws) room_1) (fun a U => a = #[(.int p1), (.int p2), (.int p3), (.int p4), (.int p5), (.int p6)] ∧ Z.Warmed39 U.vm ∧ U.heap = h0) (fun _ _ _ _ _ => True) (fun _ U o U' => ∃ v L, o = .returned v ∧ Q0 Z h0 n0 v U'.heap L ∧ FrameEnd U o U' L room_1.cells room_1.slots) := by
  refine MetFree.of_bodySF (plainFor_of_name pn_0) hisR ?_
  intro p e s m args below meth c s₁ Bd hml0 hP hK
  obtain ⟨rfl, hZ, hh⟩ := hP
  have hx := Bd.exec
  have hby := Bd.bytes
  have hml : c.maxLocals = 24 := hml0
  have hown : s.vm.findClass "com/example/stubwright/stubwright/read/TokenExpansionPointPinLaw" = some m.cls := findClass_of_methodNamed Bd.named
  have hnm := (name_of_methodNamed Bd.named Bd.method).1
  have X0 : Stand p l e room_1 s m #[(.int p1), (.int p2), (.int p3), (.int p4), (.int p5), (.int p6)] below meth c s₁ [] 0 0 := Stand.of_body Bd
  have e0 : s₁.heap = h0 := by rw [← hh, Bd.state]; rfl
  have N0 := Fr.nil n0
  have pre0 : ∀ t, Steps p.tables e below (s₁.setTop (mkF m 0 #[.val (.int p1), .val (.int p2), .val (.int p3), .val (.int p4), .val (.int p5), .val (.int p6), .unset, .unset, .unset, .unset, .unset, .unset, .unset, .unset, .unset, .unset, .unset, .unset, .unset, .unset, .unset, .unset, .unset, .unset] [])) t → Steps p.tables e below (s₁.setTop (entryFrame m #[(.int p1), (.int p2), (.int p3), (.int p4), (.int p5), (.int p6)] maxLocals)) t := fun t k => castTop (ef_0 m p1 p2 p3 p4 p5 p6) k
  -- 3. LAWS
  have hc273 : ¬ ((1 : Int32) = (0 : Int32)) := by decide
  have hc278 : ¬ ((1 : Int32) = (0 : Int32)) := by decide
  have hc283 : ¬ ((1 : Int32) = (0 : Int32)) := by decide
  -- pc 7: java/lang/String.valueOf by its contract rm1
  obtain ⟨_, _, ⟨T7, L7, k7, n7⟩, -, X7, ⟨Lc7, hQ7, l7, y7, z7⟩, st7⟩ := Jvm.LawKit.callS X0 hx (y := (⟨"java/lang/String", "valueOf", "(C)Ljava/lang/String;"⟩ : MethodName)) hown (mvT hZ (hw _ (List.mem_of_getElem? (i := 0) rfl))) (mvT hZ (hw _ (List.mem_of_getElem? (i := 1) rfl))) (mvT hZ (hw _ (List.mem_of_getElem? (i := 2) rfl))) (mvT hZ (hw _ (List.mem_of_getElem? (i := 3) rfl))) (by decide) (backOf (W := 0) (rm1 l Z a0 hw [] ((p6 &&& (255 : Int32)).toUInt32.toUInt16.toUInt32.toInt32) w_cs h0 n0 Z0 (own_sta S_COMPACT_STRINGS (Keep.refl h0 [])) hcs (own_enc _)) hZ (hw _ (List.mem_of_getElem? (i := 3) rfl)) (hw _ (List.mem_of_getElem? (i := 2) rfl)) (by decide) (by decide)) (g := (mkF m 7 #[.val (.int p1), .val (.int p2), .val (.int p3), .val (.int p4), .val (.int p5), .val (.int p6), .unset, .unset, .unset, .unset, .unset, .unset, .unset, .unset, .unset, .unset, .unset, .unset, .unset, .unset, .unset, .unset, .unset, .unset] [(.int ((p6 &&& (255 : Int32)).toUInt32.toUInt16.toUInt32.toInt32))])) rfl (by rw [hml]; rfl) (argsL := [(.int ((p6 &&& (255 : Int32)).toUInt32.toUInt16.toUInt32.toInt32))]) (rest := []) (lenOf pd_0_0 rfl) rfl (by show 2 * 0 + _ ≤ _; exact Nat.le_of_eq rfl) (hb hby at_7) (fun _ _ => ⟨rfl, e0, (by decide : 0 + 2 ≤ _), (by decide : 0 + 5 ≤ _)⟩)
  dsimp only [Pt.U, Pt.locs, Pt.cells, Pt.slots] at X7 l7 y7 z7 st7 hQ7
  subst l7 y7 z7
  obtain ⟨r7, rfl, N7q, Kc7⟩ := hQ7
  -- Kc7 : Keep h0 T7.heap []
  have N7 := Fr.app N0 N7q
  have K7 : Keep h0 T7.heap [] := (Keep.refl h0 []).trans Kc7 (fun x_ hx_ => absurd hx_ (by simp))
  -- pc 22: java/lang/String.valueOf by its contract rm1
  obtain ⟨_, _, ⟨T8, L8, k8, n8⟩, -, X8, ⟨Lc8, hQ8, l8, y8, z8⟩, st8⟩ := Jvm.LawKit.callS X7 hx (y := (⟨"java/lang/String", "valueOf", "(C)Ljava/lang/String;"⟩ : MethodName)) hown (mvT hZ (hw _ (List.mem_of_getElem? (i := 0) rfl))) (mvT hZ (hw _ (List.mem_of_getElem? (i := 1) rfl))) (mvT hZ (hw _ (List.mem_of_getElem? (i := 2) rfl))) (mvT hZ (hw _ (List.mem_of_getElem? (i := 3) rfl))) (by decide) (backOf (W := 0) (rm1 l Z a0 hw [] ((((p6.toUInt32 >>> ((8 : Int32) &&& 31).toUInt32).toInt32) &&& (255 : Int32)).toUInt32.toUInt16.toUInt32.toInt32) w_cs T7.heap n0 (Nat.le_trans Z0 Kc7.1) (own_sta S_COMPACT_STRINGS K7) hcs (own_enc _)) hZ (hw _ (List.mem_of_getElem? (i := 3) rfl)) (hw _ (List.mem_of_getElem? (i := 2) rfl)) (by decide) (by decide)) (g := (mkF m 22 #[.val (.int p1), .val (.int p2), .val (.int p3), .val (.int p4), .val (.int p5), .val (.int p6), .val (.ref r7), .unset, .unset, .unset, .unset, .unset, .unset, .unset, .unset, .unset, .unset, .unset, .unset, .unset, .unset, .unset, .unset, .unset] [(.int ((((p6.toUInt32 >>> ((8 : Int32) &&& 31).toUInt32).toInt32) &&& (255 : Int32)).toUInt32.toUInt16.toUInt32.toInt32))])) rfl (by rw [hml]; rfl) (argsL := [(.int ((((p6.toUInt32 >>> ((8 : Int32) &&& 31).toUInt32).toInt32) &&& (255 : Int32)).toUInt32.toUInt16.toUInt32.toInt32))]) (rest := []) (lenOf pd_0_0 rfl) rfl (by show 2 * 0 + _ ≤ _; exact Nat.le_of_eq rfl) (hb hby at_22) (fun _ _ => ⟨rfl, rfl, (by decide : 2 + 2 ≤ _), (by decide : 5 + 5 ≤ _)⟩)
  dsimp only [Pt.U, Pt.locs, Pt.cells, Pt.slots] at X8 l8 y8 z8 st8 hQ8
  subst l8 y8 z8
  obtain ⟨r8, rfl, N8q, Kc8⟩ := hQ8
  -- Kc8 : Keep T7.heap T8.heap []
  have N8 := Fr.app N7 N8q
  have K8 : Keep h0 T8.heap [] := K7.trans Kc8 (fun x_ hx_ => absurd hx_ (by simp))
  obtain ⟨T9, h9, k9, X9, e9, E9, A9, st9⟩ := newP X8 hx hZ (hw _ (List.mem_of_getElem? (i := 26) rfl)) rfl (g := (mkF m 28 #[.val (.int p1), .val (.int p2), .val (.int p3), .val (.int p4), .val (.int p5), .val (.int p6), .val (.ref r7), .val (.ref r8), .unset, .unset, .unset, .unset, .unset, .unset, .unset, .unset, .unset, .unset, .unset, .unset, .unset, .unset, .unset, .unset] [(.int (2 : Int32))])) rfl (hb hby at_28) rfl (by decide) (cap := 2) (by decide) (by decide) (by decide) (by decide)
  obtain ⟨b9, g9⟩ : ∃ z, z = T8.heap.size := ⟨_, rfl⟩      -- the fresh array's address
  rw [← g9] at A9 st9
  have V_b9 : Arv Z h9 b9 k9 .char (2 : Int32) [(.int (0 : Int32)), (.int (0 : Int32))] (.int (0 : Int32)) := (Arv.new A9 (by decide)).pad (pad_rep [] (.int (0 : Int32)) 2)
  have g_b9 : n0 ≤ b9 := Nat.le_trans (Nat.le_trans (Nat.le_trans Z0 Kc7.1) Kc8.1) (Nat.le_of_eq g9.symm)
  have sz_b9 : h0.size ≤ b9 := (Nat.le_trans K8.1 (Nat.le_of_eq g9.symm))
  have K9 : Keep h0 h9 [] := K8.ext E9
  obtain ⟨cl_b9_42, Ar_b9, q_b9, S_b9, N_b9, H_b9, G_b9⟩ := V_b9      -- open the array's fact as it stands now (its cell, kind, length, elements)
  have hin42 : ¬ ((0 : Int32) < 0 ∨ cl_b9_42.slots.size ≤ ((0 : Int32)).toNatClampNeg) := inb_of S_b9 ⟨by decide, by decide⟩
  obtain ⟨T10, h10, X10, e10, W10, st10⟩ := stC X9 hx hZ e9 Ar_b9 (j := (0 : Int32)) hin42 (g := (mkF m 42 #[.val (.int p1), .val (.int p2), .val (.int p3), .val (.int p4), .val (.int p5), .val (.int p6), .val (.ref r7), .val (.ref r8), .unset, .unset, .unset, .unset, .unset, .unset, .unset, .unset, .unset, .unset, .unset, .unset, .unset, .unset, .unset, .unset] [(.int ((((p6.toUInt32 >>> ((16 : Int32) &&& 31).toUInt32).toInt32) &&& (255 : Int32)).toUInt32.toUInt16.toUInt32.toInt32)), (.int (0 : Int32)), (.ref b9), (.ref b9)])) rfl rfl (hb hby at_42)
  have V_b9_10 := Arv.set Ar_b9 q_b9 S_b9 N_b9 H_b9 G_b9 (fits_nar_char _) W10 0 rfl (Nat.le_of_ble_eq_true rfl)      -- the array as it stands now (the place must lie among its first values: Arv.pad with pad_rep lengthens them)
  have K10 : Keep h0 h10 [] := K9.wr W10 (Or.inr sz_b9)
  have N10 := Fr.snoc X10 N8 g_b9
  obtain ⟨cl_b9_55, Ar_b9, q_b9, S_b9, N_b9, H_b9, G_b9⟩ := V_b9_10      -- open the array's fact as it stands now (its cell, kind, length, elements)
  have hin55 : ¬ ((1 : Int32) < 0 ∨ cl_b9_55.slots.size ≤ ((1 : Int32)).toNatClampNeg) := inb_of S_b9 ⟨by decide, by decide⟩
  obtain ⟨T11, h11, X11, e11, W11, st11⟩ := stC X10 hx hZ e10 Ar_b9 (j := (1 : Int32)) hin55 (g := (mkF m 55 #[.val (.int p1), .val (.int p2), .val (.int p3), .val (.int p4), .val (.int p5), .val (.int p6), .val (.ref r7), .val (.ref r8), .unset, .unset, .unset, .unset, .unset, .unset, .unset, .unset, .unset, .unset, .unset, .unset, .unset, .unset, .unset, .unset] [(.int ((((p6.toUInt32 >>> ((24 : Int32) &&& 31).toUInt32).toInt32) &&& (255 : Int32)).toUInt32.toUInt16.toUInt32.toInt32)), (.int (1 : Int32)), (.ref b9), (.ref b9)])) rfl rfl (hb hby at_55)
  have V_b9_11 := Arv.set Ar_b9 q_b9 S_b9 N_b9 H_b9 G_b9 (fits_nar_char _) W11 1 rfl (Nat.le_of_ble_eq_true rfl)      -- the array as it stands now (the place must lie among its first values: Arv.pad with pad_rep lengthens them)
  have K11 : Keep h0 h11 [] := K10.wr W11 (Or.inr sz_b9)
  have N11 := Fr.snoc X11 N10 g_b9
  obtain ⟨T12, h12, X12, e12, E12, A12, D12, -, st12⟩ := newO X11 hx hZ hown (hw _ (List.mem_of_getElem? (i := 27) rfl)) (hw _ (List.mem_of_getElem? (i := 10) rfl)) (hw _ (List.mem_of_getElem? (i := 2) rfl)) e11 (g := (mkF m 58 #[.val (.int p1), .val (.int p2), .val (.int p3), .val (.int p4), .val (.int p5), .val (.int p6), .val (.ref r7), .val (.ref r8), .val (.ref b9), .unset, .unset, .unset, .unset, .unset, .unset, .unset, .unset, .unset, .unset, .unset, .unset, .unset, .unset, .unset] [])) rfl (hb hby at_58) (by decide) (by decide)
  obtain ⟨b12, g12⟩ : ∃ z, z = h11.size := ⟨_, rfl⟩      -- the fresh object's address
  rw [← g12] at A12 D12 st12      -- A12 : Exa Z h12 b12 "java/lang/String"; E12 : Ext h11 h12 (carries every older fact: .ext E12)
  have F_value_b12 : Fld Z h12 b12 "java/lang/String" "value" "[B" .null := D12 (Or.inr (hw _ (List.mem_of_getElem? (i := 23) rfl))) (ty := (.array .byte)) (by decide)
  have F_coder_b12 : Fld Z h12 b12 "java/lang/String" "coder" "B" (.int (0 : Int32)) := D12 (Or.inr (hw _ (List.mem_of_getElem? (i := 25) rfl))) (ty := .byte) (by decide)
  have E_b12 := A12
  have g_b12 : n0 ≤ b12 := Nat.le_trans (Nat.le_trans (Nat.le_trans (Nat.le_trans (Nat.le_trans (Nat.le_trans Z0 Kc7.1) Kc8.1) E9.1) (Keep.of_wr W10).1) (Keep.of_wr W11).1) (Nat.le_of_eq g12.symm)
  have sz_b12 : h0.size ≤ b12 := (Nat.le_trans K11.1 (Nat.le_of_eq g12.symm))
  have K12 : Keep h0 h12 [] := K11.ext E12
  -- pc 64: the constructor of java/lang/String by its contract rm6
  -- JDK: don't walk it: StrChars.Road.backV (pack/laws/STRINGS.README.md): its own row in place of the next one (the 'backOf (W ..)' becomes what that law's P asks)
  obtain ⟨_, _, ⟨T13, L13, k13, n13⟩, -, X13, ⟨Lc13, hQ13, l13, y13, z13⟩, st13⟩ := X12.specialBack hx (y := (⟨"java/lang/String", "<init>", "([C)V"⟩ : MethodName)) rfl hown (mvT hZ (hw _ (List.mem_of_getElem? (i := 28) rfl))) (mvT hZ (hw _ (List.mem_of_getElem? (i := 29) rfl))) (mvT hZ (hw _ (List.mem_of_getElem? (i := 30) rfl))) (by decide) (Jvm.Pilot.@@N@@.StrChars.Road.backV (W := 1) hZ (own_cw hw) (kI := 4) (hw _ (List.mem_of_getElem? (i := 10) rfl)) (cs := [(nar .char ((((p6.toUInt32 >>> ((16 : Int32) &&& 31).toUInt32).toInt32) &&& (255 : Int32)).toUInt32.toUInt16.toUInt32.toInt32)), (nar .char ((((p6.toUInt32 >>> ((24 : Int32) &&& 31).toUInt32).toInt32) &&& (255 : Int32)).toUInt32.toUInt16.toUInt32.toInt32))]) g_b12 (Nat.le_trans (Nat.le_trans (Nat.le_trans (Nat.le_trans (Nat.le_trans (Nat.le_trans Z0 Kc7.1) Kc8.1) E9.1) (Keep.of_wr W10).1) (Keep.of_wr W11).1) E12.1) E_b12 F_value_b12 F_coder_b12 (V_b9_11.ext E12) (own_sta S_COMPACT_STRINGS K12) hcs rfl rfl (by simp) (by simp) own_two rfl (by decide) (by decide)) (g := (mkF m 64 #[.val (.int p1), .val (.int p2), .val (.int p3), .val (.int p4), .val (.int p5), .val (.int p6), .val (.ref r7), .val (.ref r8), .val (.ref b9), .unset, .unset, .unset, .unset, .unset, .unset, .unset, .unset, .unset, .unset, .unset, .unset, .unset, .unset, .unset] [(.ref b9), (.ref b12), (.ref b12)])) rfl (by rw [hml]; rfl) (Steps.refl _) (a := b12) (argsL := [(.ref b9)]) (rest := [(.ref b12)]) (lenOf pd_0_5 rfl) rfl (by show 2 * 0 + _ ≤ _; exact Nat.le_of_eq rfl) (hb hby at_64) (fun _ _ => ⟨rfl, e12, (by decide : 6 + 1 ≤ _), (by decide : 16 + 2 ≤ _)⟩)
  dsimp only [Pt.U, Pt.locs, Pt.cells, Pt.slots, List.length_cons, List.length_nil] at X13 l13 y13 z13 st13 hQ13
  subst l13 y13 z13
  obtain ⟨rfl, N13q, Kc13, -⟩ := hQ13
  -- Kc13 : Keep h12 T13.heap [b12]
  have N13 := Fr.app N11 N13q
  have K13 : Keep h0 T13.heap [] := K12.trans Kc13 (fun x_ hx_ => by rw [List.mem_singleton.mp hx_]; exact Or.inr sz_b12)
  obtain ⟨T14, h14, X14, e14, E14, A14, D14, -, st14⟩ := newO X13 hx hZ hown (hw _ (List.mem_of_getElem? (i := 44) rfl)) (hw _ (List.mem_of_getElem? (i := 45) rfl)) (hw _ (List.mem_of_getElem? (i := 46) rfl)) rfl (g := (mkF m 69 #[.val (.int p1), .val (.int p2), .val (.int p3), .val (.int p4), .val (.int p5), .val (.int p6), .val (.ref r7), .val (.ref r8), .val (.ref b9), .val (.ref b12), .unset, .unset, .unset, .unset, .unset, .unset, .unset, .unset, .unset, .unset, .unset, .unset, .unset, .unset] [])) rfl (hb hby at_69) (by decide) (by decide)
  obtain ⟨b14, g14⟩ : ∃ z, z = T13.heap.size := ⟨_, rfl⟩      -- the fresh object's address
  rw [← g14] at A14 D14 st14      -- A14 : Exa Z h14 b14 "com/example/stubwright/stubwright/model/Position"; E14 : Ext T13.heap h14 (carries every older fact: .ext E14)
  have F_file_b14 : Fld Z h14 b14 "com/example/stubwright/stubwright/model/Position" "file" "Ljava/lang/String;" .null := D14 (Or.inr (hw _ (List.mem_of_getElem? (i := 55) rfl))) (ty := (.object "java/lang/String")) (by decide)
  have F_line_b14 : Fld Z h14 b14 "com/example/stubwright/stubwright/model/Position" "line" "I" (.int (0 : Int32)) := D14 (Or.inr (hw _ (List.mem_of_getElem? (i := 57) rfl))) (ty := .int) (by decide)
  have F_column_b14 : Fld Z h14 b14 "com/example/stubwright/stubwright/model/Position" "column" "I" (.int (0 : Int32)) := D14 (Or.inr (hw _ (List.mem_of_getElem? (i := 59) rfl))) (ty := .int) (by decide)
  have F_source_b14 : Fld Z h14 b14 "com/example/stubwright/stubwright/model/Position" "source" "Ljava/lang/String;" .null := D14 (Or.inr (hw _ (List.mem_of_getElem? (i := 61) rfl))) (ty := (.object "java/lang/String")) (by decide)
  have E_b14 := A14
  have g_b14 : n0 ≤ b14 := Nat.le_trans (Nat.le_trans (Nat.le_trans (Nat.le_trans (Nat.le_trans (Nat.le_trans (Nat.le_trans (Nat.le_trans Z0 Kc7.1) Kc8.1) E9.1) (Keep.of_wr W10).1) (Keep.of_wr W11).1) E12.1) Kc13.1) (Nat.le_of_eq g14.symm)
  have sz_b14 : h0.size ≤ b14 := (Nat.le_trans K13.1 (Nat.le_of_eq g14.symm))
  have K14 : Keep h0 h14 [] := K13.ext E14
  -- pc 77: the constructor of com/example/stubwright/stubwright/model/Position by its contract rm11
  obtain ⟨_, _, ⟨T15, L15, k15, n15⟩, -, X15, ⟨Lc15, hQ15, l15, y15, z15⟩, st15⟩ := X14.specialBack hx (y := (⟨"com/example/stubwright/stubwright/model/Position", "<init>", "(Ljava/lang/String;II)V"⟩ : MethodName)) rfl hown (mvT hZ (hw _ (List.mem_of_getElem? (i := 47) rfl))) (mvT hZ (hw _ (List.mem_of_getElem? (i := 48) rfl))) (mvT hZ (hw _ (List.mem_of_getElem? (i := 49) rfl))) (by decide) (backOf (W := 1) (rm11 l Z a0 hw [] b14 r7 p1 p2 _ _ _ _ h14 n0 (Nat.le_trans (Nat.le_trans (Nat.le_trans (Nat.le_trans (Nat.le_trans (Nat.le_trans (Nat.le_trans (Nat.le_trans Z0 Kc7.1) Kc8.1) E9.1) (Keep.of_wr W10).1) (Keep.of_wr W11).1) E12.1) Kc13.1) E14.1) E_b14 F_file_b14 g_b14 F_line_b14 F_column_b14 F_source_b14) hZ (hw _ (List.mem_of_getElem? (i := 49) rfl)) (hw _ (List.mem_of_getElem? (i := 46) rfl)) (by decide) (by decide)) (g := (mkF m 77 #[.val (.int p1), .val (.int p2), .val (.int p3), .val (.int p4), .val (.int p5), .val (.int p6), .val (.ref r7), .val (.ref r8), .val (.ref b9), .val (.ref b12), .unset, .unset, .unset, .unset, .unset, .unset, .unset, .unset, .unset, .unset, .unset, .unset, .unset, .unset] [(.int p2), (.int p1), (.ref r7), (.ref b14), (.ref b14)])) rfl (by rw [hml]; rfl) (Steps.refl _) (a := b14) (argsL := [(.ref r7), (.int p1), (.int p2)]) (rest := [(.ref b14)]) (lenOf pd_0_10 rfl) rfl (by show 2 * 0 + _ ≤ _; exact Nat.le_of_eq rfl) (hb hby at_77) (fun _ _ => ⟨rfl, e14, (by decide : 8 + 0 ≤ _), (by decide : 22 + 0 ≤ _)⟩)
  dsimp only [Pt.U, Pt.locs, Pt.cells, Pt.slots] at X15 l15 y15 z15 st15 hQ15
  subst l15 y15 z15
  obtain ⟨rfl, N15q, Kc15, -⟩ := hQ15
  -- Kc15 : Keep h14 T15.heap [b14]
  have N15 := Fr.app N13 N15q
  have K15 : Keep h0 T15.heap [] := K14.trans Kc15 (fun x_ hx_ => by rw [List.mem_singleton.mp hx_]; exact Or.inr sz_b14)
  obtain ⟨T16, h16, X16, e16, E16, A16, D16, -, st16⟩ := newO X15 hx hZ hown (hw _ (List.mem_of_getElem? (i := 44) rfl)) (hw _ (List.mem_of_getElem? (i := 45) rfl)) (hw _ (List.mem_of_getElem? (i := 46) rfl)) rfl (g := (mkF m 82 #[.val (.int p1), .val (.int p2), .val (.int p3), .val (.int p4), .val (.int p5), .val (.int p6), .val (.ref r7), .val (.ref r8), .val (.ref b9), .val (.ref b12), .val (.ref b14), .unset, .unset, .unset, .unset, .unset, .unset, .unset, .unset, .unset, .unset, .unset, .unset, .unset] [])) rfl (hb hby at_82) (by decide) (by decide)
  obtain ⟨b16, g16⟩ : ∃ z, z = T15.heap.size := ⟨_, rfl⟩      -- the fresh object's address
  rw [← g16] at A16 D16 st16      -- A16 : Exa Z h16 b16 "com/example/stubwright/stubwright/model/Position"; E16 : Ext T15.heap h16 (carries every older fact: .ext E16)
  have F_file_b16 : Fld Z h16 b16 "com/example/stubwright/stubwright/model/Position" "file" "Ljava/lang/String;" .null := D16 (Or.inr (hw _ (List.mem_of_getElem? (i := 55) rfl))) (ty := (.object "java/lang/String")) (by decide)
  have F_line_b16 : Fld Z h16 b16 "com/example/stubwright/stubwright/model/Position" "line" "I" (.int (0 : Int32)) := D16 (Or.inr (hw _ (List.mem_of_getElem? (i := 57) rfl))) (ty := .int) (by decide)
  have F_column_b16 : Fld Z h16 b16 "com/example/stubwright/stubwright/model/Position" "column" "I" (.int (0 : Int32)) := D16 (Or.inr (hw _ (List.mem_of_getElem? (i := 59) rfl))) (ty := .int) (by decide)
  have F_source_b16 : Fld Z h16 b16 "com/example/stubwright/stubwright/model/Position" "source" "Ljava/lang/String;" .null := D16 (Or.inr (hw _ (List.mem_of_getElem? (i := 61) rfl))) (ty := (.object "java/lang/String")) (by decide)
  have E_b16 := A16
  have g_b16 : n0 ≤ b16 := Nat.le_trans (Nat.le_trans (Nat.le_trans (Nat.le_trans (Nat.le_trans (Nat.le_trans (Nat.le_trans (Nat.le_trans (Nat.le_trans (Nat.le_trans Z0 Kc7.1) Kc8.1) E9.1) (Keep.of_wr W10).1) (Keep.of_wr W11).1) E12.1) Kc13.1) E14.1) Kc15.1) (Nat.le_of_eq g16.symm)
  have sz_b16 : h0.size ≤ b16 := (Nat.le_trans K15.1 (Nat.le_of_eq g16.symm))
  have K16 : Keep h0 h16 [] := K15.ext E16
  -- pc 90: the constructor of com/example/stubwright/stubwright/model/Position by its contract rm11
  obtain ⟨_, _, ⟨T17, L17, k17, n17⟩, -, X17, ⟨Lc17, hQ17, l17, y17, z17⟩, st17⟩ := X16.specialBack hx (y := (⟨"com/example/stubwright/stubwright/model/Position", "<init>", "(Ljava/lang/String;II)V"⟩ : MethodName)) rfl hown (mvT hZ (hw _ (List.mem_of_getElem? (i := 47) rfl))) (mvT hZ (hw _ (List.mem_of_getElem? (i := 48) rfl))) (mvT hZ (hw _ (List.mem_of_getElem? (i := 49) rfl))) (by decide) (backOf (W := 1) (rm11 l Z a0 hw [] b16 r8 p3 p4 _ _ _ _ h16 n0 (Nat.le_trans (Nat.le_trans (Nat.le_trans (Nat.le_trans (Nat.le_trans (Nat.le_trans (Nat.le_trans (Nat.le_trans (Nat.le_trans (Nat.le_trans Z0 Kc7.1) Kc8.1) E9.1) (Keep.of_wr W10).1) (Keep.of_wr W11).1) E12.1) Kc13.1) E14.1) Kc15.1) E16.1) E_b16 F_file_b16 g_b16 F_line_b16 F_column_b16 F_source_b16) hZ (hw _ (List.mem_of_getElem? (i := 49) rfl)) (hw _ (List.mem_of_getElem? (i := 46) rfl)) (by decide) (by decide)) (g := (mkF m 90 #[.val (.int p1), .val (.int p2), .val (.int p3), .val (.int p4), .val (.int p5), .val (.int p6), .val (.ref r7), .val (.ref r8), .val (.ref b9), .val (.ref b12), .val (.ref b14), .unset, .unset, .unset, .unset, .unset, .unset, .unset, .unset, .unset, .unset, .unset, .unset, .unset] [(.int p4), (.int p3), (.ref r8), (.ref b16), (.ref b16)])) rfl (by rw [hml]; rfl) (Steps.refl _) (a := b16) (argsL := [(.ref r8), (.int p3), (.int p4)]) (rest := [(.ref b16)]) (lenOf pd_0_10 rfl) rfl (by show 2 * 0 + _ ≤ _; exact Nat.le_of_eq rfl) (hb hby at_90) (fun _ _ => ⟨rfl, e16, (by decide : 9 + 0 ≤ _), (by decide : 26 + 0 ≤ _)⟩)
  dsimp only [Pt.U, Pt.locs, Pt.cells, Pt.slots] at X17 l17 y17 z17 st17 hQ17
  subst l17 y17 z17
  obtain ⟨rfl, N17q, Kc17, -⟩ := hQ17
  -- Kc17 : Keep h16 T17.heap [b16]
  have N17 := Fr.app N15 N17q
  have K17 : Keep h0 T17.heap [] := K16.trans Kc17 (fun x_ hx_ => by rw [List.mem_singleton.mp hx_]; exact Or.inr sz_b16)
  obtain ⟨T18, h18, X18, e18, E18, A18, D18, -, st18⟩ := newO X17 hx hZ hown (hw _ (List.mem_of_getElem? (i := 44) rfl)) (hw _ (List.mem_of_getElem? (i := 45) rfl)) (hw _ (List.mem_of_getElem? (i := 46) rfl)) rfl (g := (mkF m 95 #[.val (.int p1), .val (.int p2), .val (.int p3), .val (.int p4), .val (.int p5), .val (.int p6), .val (.ref r7), .val (.ref r8), .val (.ref b9), .val (.ref b12), .val (.ref b14), .val (.ref b16), .unset, .unset, .unset, .unset, .unset, .unset, .unset, .unset, .unset, .unset, .unset, .unset] [])) rfl (hb hby at_95) (by decide) (by decide)
  obtain ⟨b18, g18⟩ : ∃ z, z = T17.heap.size := ⟨_, rfl⟩      -- the fresh object's address
  rw [← g18] at A18 D18 st18      -- A18 : Exa Z h18 b18 "com/example/stubwright/stubwright/model/Position"; E18 : Ext T17.heap h18 (carries every older fact: .ext E18)
  have F_file_b18 : Fld Z h18 b18 "com/example/stubwright/stubwright/model/Position" "file" "Ljava/lang/String;" .null := D18 (Or.inr (hw _ (List.mem_of_getElem? (i := 55) rfl))) (ty := (.object "java/lang/String")) (by decide)
  have F_line_b18 : Fld Z h18 b18 "com/example/stubwright/stubwright/model/Position" "line" "I" (.int (0 : Int32)) := D18 (Or.inr (hw _ (List.mem_of_getElem? (i := 57) rfl))) (ty := .int) (by decide)
  have F_column_b18 : Fld Z h18 b18 "com/example/stubwright/stubwright/model/Position" "column" "I" (.int (0 : Int32)) := D18 (Or.inr (hw _ (List.mem_of_getElem? (i := 59) rfl))) (ty := .int) (by decide)
  have F_source_b18 : Fld Z h18 b18 "com/example/stubwright/stubwright/model/Position" "source" "Ljava/lang/String;" .null := D18 (Or.inr (hw _ (List.mem_of_getElem? (i := 61) rfl))) (ty := (.object "java/lang/String")) (by decide)
  have E_b18 := A18
  have g_b18 : n0 ≤ b18 := Nat.le_trans (Nat.le_trans (Nat.le_trans (Nat.le_trans (Nat.le_trans (Nat.le_trans (Nat.le_trans (Nat.le_trans (Nat.le_trans (Nat.le_trans (Nat.le_trans (Nat.le_trans Z0 Kc7.1) Kc8.1) E9.1) (Keep.of_wr W10).1) (Keep.of_wr W11).1) E12.1) Kc13.1) E14.1) Kc15.1) E16.1) Kc17.1) (Nat.le_of_eq g18.symm)
  have sz_b18 : h0.size ≤ b18 := (Nat.le_trans K17.1 (Nat.le_of_eq g18.symm))
  have K18 : Keep h0 h18 [] := K17.ext E18
  -- pc 103: the constructor of com/example/stubwright/stubwright/model/Position by its contract rm11
  obtain ⟨_, _, ⟨T19, L19, k19, n19⟩, -, X19, ⟨Lc19, hQ19, l19, y19, z19⟩, st19⟩ := X18.specialBack hx (y := (⟨"com/example/stubwright/stubwright/model/Position", "<init>", "(Ljava/lang/String;II)V"⟩ : MethodName)) rfl hown (mvT hZ (hw _ (List.mem_of_getElem? (i := 47) rfl))) (mvT hZ (hw _ (List.mem_of_getElem? (i := 48) rfl))) (mvT hZ (hw _ (List.mem_of_getElem? (i := 49) rfl))) (by decide) (backOf (W := 1) (rm11 l Z a0 hw [] b18 r7 p3 p2 _ _ _ _ h18 n0 (Nat.le_trans (Nat.le_trans (Nat.le_trans (Nat.le_trans (Nat.le_trans (Nat.le_trans (Nat.le_trans (Nat.le_trans (Nat.le_trans (Nat.le_trans (Nat.le_trans (Nat.le_trans Z0 Kc7.1) Kc8.1) E9.1) (Keep.of_wr W10).1) (Keep.of_wr W11).1) E12.1) Kc13.1) E14.1) Kc15.1) E16.1) Kc17.1) E18.1) E_b18 F_file_b18 g_b18 F_line_b18 F_column_b18 F_source_b18) hZ (hw _ (List.mem_of_getElem? (i := 49) rfl)) (hw _ (List.mem_of_getElem? (i := 46) rfl)) (by decide) (by decide)) (g := (mkF m 103 #[.val (.int p1), .val (.int p2), .val (.int p3), .val (.int p4), .val (.int p5), .val (.int p6), .val (.ref r7), .val (.ref r8), .val (.ref b9), .val (.ref b12), .val (.ref b14), .val (.ref b16), .unset, .unset, .unset, .unset, .unset, .unset, .unset, .unset, .unset, .unset, .unset, .unset] [(.int p2), (.int p3), (.ref r7), (.ref b18), (.ref b18)])) rfl (by rw [hml]; rfl) (Steps.refl _) (a := b18) (argsL := [(.ref r7), (.int p3), (.int p2)]) (rest := [(.ref b18)]) (lenOf pd_0_10 rfl) rfl (by show 2 * 0 + _ ≤ _; exact Nat.le_of_eq rfl) (hb hby at_103) (fun _ _ => ⟨rfl, e18, (by decide : 10 + 0 ≤ _), (by decide : 30 + 0 ≤ _)⟩)
  dsimp only [Pt.U, Pt.locs, Pt.cells, Pt.slots] at X19 l19 y19 z19 st19 hQ19
  subst l19 y19 z19
  obtain ⟨rfl, N19q, Kc19, -⟩ := hQ19
  -- Kc19 : Keep h18 T19.heap [b18]
  have N19 := Fr.app N17 N19q
  have K19 : Keep h0 T19.heap [] := K18.trans Kc19 (fun x_ hx_ => by rw [List.mem_singleton.mp hx_]; exact Or.inr sz_b18)
  obtain ⟨T20, h20, X20, e20, E20, A20, D20, -, st20⟩ := newO X19 hx hZ hown (hw _ (List.mem_of_getElem? (i := 62) rfl)) (hw _ (List.mem_of_getElem? (i := 63) rfl)) (hw _ (List.mem_of_getElem? (i := 64) rfl)) rfl (g := (mkF m 140 #[.val (.int p1), .val (.int p2), .val (.int p3), .val (.int p4), .val (.int p5), .val (.int p6), .val (.ref r7), .val (.ref r8), .val (.ref b9), .val (.ref b12), .val (.ref b14), .val (.ref b16), .val (.ref b18), .val (.int (1 : Int32)), .val (.int (0 : Int32)), .unset, .unset, .unset, .unset, .unset, .unset, .unset, .unset, .unset] [])) rfl (hb hby at_140) (by decide) (by decide)
  obtain ⟨b20, g20⟩ : ∃ z, z = T19.heap.size := ⟨_, rfl⟩      -- the fresh object's address
  rw [← g20] at A20 D20 st20      -- A20 : Exa Z h20 b20 "com/example/stubwright/stubwright/read/Token"; E20 : Ext T19.heap h20 (carries every older fact: .ext E20)
  have F_kind_b20 : Fld Z h20 b20 "com/example/stubwright/stubwright/read/Token" "kind" "Lcom/example/stubwright/stubwright/read/Token$Kind;" .null := D20 (Or.inr (hw _ (List.mem_of_getElem? (i := 80) rfl))) (ty := (.object "com/example/stubwright/stubwright/read/Token$Kind")) (by decide)
  have F_spelling_b20 : Fld Z h20 b20 "com/example/stubwright/stubwright/read/Token" "spelling" "Ljava/lang/String;" .null := D20 (Or.inr (hw _ (List.mem_of_getElem? (i := 82) rfl))) (ty := (.object "java/lang/String")) (by decide)
  have F_value_b20 : Fld Z h20 b20 "com/example/stubwright/stubwright/read/Token" "value" "Ljava/lang/Object;" .null := D20 (Or.inr (hw _ (List.mem_of_getElem? (i := 84) rfl))) (ty := (.object "java/lang/Object")) (by decide)
  have F_position_b20 : Fld Z h20 b20 "com/example/stubwright/stubwright/read/Token" "position" "Lcom/example/stubwright/stubwright/model/Position;" .null := D20 (Or.inr (hw _ (List.mem_of_getElem? (i := 86) rfl))) (ty := (.object "com/example/stubwright/stubwright/model/Position")) (by decide)
  have F_spaceBefore_b20 : Fld Z h20 b20 "com/example/stubwright/stubwright/read/Token" "spaceBefore" "Z" (.int (0 : Int32)) := D20 (Or.inr (hw _ (List.mem_of_getElem? (i := 88) rfl))) (ty := .boolean) (by decide)
  have F_painted_b20 : Fld Z h20 b20 "com/example/stubwright/stubwright/read/Token" "painted" "Z" (.int (0 : Int32)) := D20 (Or.inr (hw _ (List.mem_of_getElem? (i := 90) rfl))) (ty := .boolean) (by decide)
  have F_expansion_b20 : Fld Z h20 b20 "com/example/stubwright/stubwright/read/Token" "expansion" "Lcom/example/stubwright/stubwright/model/Position;" .null := D20 (Or.inr (hw _ (List.mem_of_getElem? (i := 92) rfl))) (ty := (.object "com/example/stubwright/stubwright/model/Position")) (by decide)
  have E_b20 := A20
  have g_b20 : n0 ≤ b20 := Nat.le_trans (Nat.le_trans (Nat.le_trans (Nat.le_trans (Nat.le_trans (Nat.le_trans (Nat.le_trans (Nat.le_trans (Nat.le_trans (Nat.le_trans (Nat.le_trans (Nat.le_trans (Nat.le_trans (Nat.le_trans Z0 Kc7.1) Kc8.1) E9.1) (Keep.of_wr W10).1) (Keep.of_wr W11).1) E12.1) Kc13.1) E14.1) Kc15.1) E16.1) Kc17.1) E18.1) Kc19.1) (Nat.le_of_eq g20.symm)
  have sz_b20 : h0.size ≤ b20 := (Nat.le_trans K19.1 (Nat.le_of_eq g20.symm))
  have K20 : Keep h0 h20 [] := K19.ext E20
  -- pc 146: com/example/stubwright/stubwright/read/TokenExpansionPointPinLaw.kindOf by its contract rm13
  obtain ⟨_, _, ⟨T21, L21, k21, n21⟩, -, X21, ⟨Lc21, hQ21, l21, y21, z21⟩, st21⟩ := Jvm.LawKit.callS X20 hx (y := (⟨"com/example/stubwright/stubwright/read/TokenExpansionPointPinLaw", "kindOf", "(I)Lcom/example/stubwright/stubwright/read/Token$Kind;"⟩ : MethodName)) hown (mvT hZ (hw _ (List.mem_of_getElem? (i := 65) rfl))) (mvT hZ (hw _ (List.mem_of_getElem? (i := 66) rfl))) (mvT hZ (hw _ (List.mem_of_getElem? (i := 67) rfl))) (mvT hZ (hw _ (List.mem_of_getElem? (i := 68) rfl))) (by decide) (backOf (W := 2) (rm13 l Z a0 hw [] p5 wk h20 n0 (Nat.le_trans (Nat.le_trans (Nat.le_trans (Nat.le_trans (Nat.le_trans (Nat.le_trans (Nat.le_trans (Nat.le_trans (Nat.le_trans (Nat.le_trans (Nat.le_trans (Nat.le_trans (Nat.le_trans (Nat.le_trans Z0 Kc7.1) Kc8.1) E9.1) (Keep.of_wr W10).1) (Keep.of_wr W11).1) E12.1) Kc13.1) E14.1) Kc15.1) E16.1) Kc17.1) E18.1) Kc19.1) E20.1) (own_sta S_kind K20)) hZ (hw _ (List.mem_of_getElem? (i := 68) rfl)) (hw _ (List.mem_of_getElem? (i := 67) rfl)) (by decide) (by decide)) (g := (mkF m 146 #[.val (.int p1), .val (.int p2), .val (.int p3), .val (.int p4), .val (.int p5), .val (.int p6), .val (.ref r7), .val (.ref r8), .val (.ref b9), .val (.ref b12), .val (.ref b14), .val (.ref b16), .val (.ref b18), .val (.int (1 : Int32)), .val (.int (0 : Int32)), .unset, .unset, .unset, .unset, .unset, .unset, .unset, .unset, .unset] [(.int p5), (.ref b20), (.ref b20)])) rfl (by rw [hml]; rfl) (argsL := [(.int p5)]) (rest := [(.ref b20), (.ref b20)]) (lenOf pd_0_12 rfl) rfl (by show 2 * 0 + _ ≤ _; exact Nat.le_of_eq rfl) (hb hby at_146) (fun _ _ => ⟨rfl, e20, (by decide : 11 + 0 ≤ _), (by decide : 37 + 0 ≤ _)⟩)
  dsimp only [Pt.U, Pt.locs, Pt.cells, Pt.slots] at X21 l21 y21 z21 st21 hQ21
  subst l21 y21 z21
  obtain ⟨rfl, N21q, hh21⟩ := hQ21
  have Kc21 : Keep h20 T21.heap [] := by rw [hh21]; exact Keep.refl _ _
  have N21 := Fr.app N19 N21q
  have K21 : Keep h0 T21.heap [] := K20.trans Kc21 (fun x_ hx_ => absurd hx_ (by simp))
  -- pc 156: the constructor of com/example/stubwright/stubwright/read/Token by its contract rm14
  obtain ⟨_, _, ⟨T22, L22, k22, n22⟩, -, X22, ⟨Lc22, hQ22, l22, y22, z22⟩, st22⟩ := X21.specialBack hx (y := (⟨"com/example/stubwright/stubwright/read/Token", "<init>", "(Lcom/example/stubwright/stubwright/read/Token$Kind;Ljava/lang/String;Ljava/lang/Object;Lcom/example/stubwright/stubwright/model/Position;Z)V"⟩ : MethodName)) rfl hown (mvT hZ (hw _ (List.mem_of_getElem? (i := 72) rfl))) (mvT hZ (hw _ (List.mem_of_getElem? (i := 73) rfl))) (mvT hZ (hw _ (List.mem_of_getElem? (i := 74) rfl))) (by decide) (backOf (W := 1) (rm14 l Z a0 hw [] b20 wk b12 b14 (1 : Int32) _ _ _ _ _ _ _ T21.heap n0 (Nat.le_trans (Nat.le_trans (Nat.le_trans (Nat.le_trans (Nat.le_trans (Nat.le_trans (Nat.le_trans (Nat.le_trans (Nat.le_trans (Nat.le_trans (Nat.le_trans (Nat.le_trans (Nat.le_trans (Nat.le_trans (Nat.le_trans Z0 Kc7.1) Kc8.1) E9.1) (Keep.of_wr W10).1) (Keep.of_wr W11).1) E12.1) Kc13.1) E14.1) Kc15.1) E16.1) Kc17.1) E18.1) Kc19.1) E20.1) Kc21.1) (E_b20.keep Kc21) (F_kind_b20.keep Kc21 (by simp)) g_b20 (F_spelling_b20.keep Kc21 (by simp)) (F_value_b20.keep Kc21 (by simp)) (F_position_b20.keep Kc21 (by simp)) (F_spaceBefore_b20.keep Kc21 (by simp)) (F_painted_b20.keep Kc21 (by simp)) (F_expansion_b20.keep Kc21 (by simp))) hZ (hw _ (List.mem_of_getElem? (i := 74) rfl)) (hw _ (List.mem_of_getElem? (i := 64) rfl)) (by decide) (by decide)) (g := (mkF m 156 #[.val (.int p1), .val (.int p2), .val (.int p3), .val (.int p4), .val (.int p5), .val (.int p6), .val (.ref r7), .val (.ref r8), .val (.ref b9), .val (.ref b12), .val (.ref b14), .val (.ref b16), .val (.ref b18), .val (.int (1 : Int32)), .val (.int (0 : Int32)), .unset, .unset, .unset, .unset, .unset, .unset, .unset, .unset, .unset] [(.int (1 : Int32)), (.ref b14), .null, (.ref b12), (.ref wk), (.ref b20), (.ref b20)])) rfl (by rw [hml]; rfl) (Steps.refl _) (a := b20) (argsL := [(.ref wk), (.ref b12), .null, (.ref b14), (.int (1 : Int32))]) (rest := [(.ref b20)]) (lenOf pd_0_13 rfl) rfl (by show 2 * 0 + _ ≤ _; exact Nat.le_of_eq rfl) (hb hby at_156) (fun _ _ => ⟨rfl, rfl, (by decide : 11 + 0 ≤ _), (by decide : 37 + 0 ≤ _)⟩)
  dsimp only [Pt.U, Pt.locs, Pt.cells, Pt.slots] at X22 l22 y22 z22 st22 hQ22
  subst l22 y22 z22
  obtain ⟨rfl, N22q, Kc22, Et22, Fkind22, Fspelling22, Fvalue22, Fposition22, FspaceBefore22, Fpainted22, Fexpansion22⟩ := hQ22
  -- Kc22 : Keep T21.heap T22.heap [b20]
  have N22 := Fr.app N21 N22q
  have K22 : Keep h0 T22.heap [] := K21.trans Kc22 (fun x_ hx_ => by rw [List.mem_singleton.mp hx_]; exact Or.inr sz_b20)
  -- pc 163: com/example/stubwright/stubwright/read/Token.expansionPoint by the contract of the body that the receiver's class selects, rm16
  obtain ⟨cq23, kq23, q23a, q23b, q23c⟩ := isOf hZ rfl Et22
  obtain ⟨_, _, ⟨T23, L23, k23, n23⟩, -, X23, ⟨Lc23, hQ23, l23, y23, z23⟩, st23⟩ := X22.virtualBack hx (y := (⟨"com/example/stubwright/stubwright/read/Token", "expansionPoint", "()Lcom/example/stubwright/stubwright/model/Position;"⟩ : MethodName)) (z := (⟨"com/example/stubwright/stubwright/read/Token", "expansionPoint", "()Lcom/example/stubwright/stubwright/model/Position;"⟩ : MethodName)) hown (mvT hZ (hw _ (List.mem_of_getElem? (i := 93) rfl))) (mvT hZ (hw _ (List.mem_of_getElem? (i := 94) rfl))) (notFace_of_selects (args := #[]) (mvT hZ (hw _ (List.mem_of_getElem? (i := 96) rfl)))) (mvT hZ (hw _ (List.mem_of_getElem? (i := 96) rfl))) (mvT hZ (hw _ (List.mem_of_getElem? (i := 95) rfl))) (by decide) (backOf (W := 0) (rm16n l Z a0 hw [] b20 b14 T22.heap n0 (Nat.le_trans (Nat.le_trans (Nat.le_trans (Nat.le_trans (Nat.le_trans (Nat.le_trans (Nat.le_trans (Nat.le_trans (Nat.le_trans (Nat.le_trans (Nat.le_trans (Nat.le_trans (Nat.le_trans (Nat.le_trans (Nat.le_trans (Nat.le_trans Z0 Kc7.1) Kc8.1) E9.1) (Keep.of_wr W10).1) (Keep.of_wr W11).1) E12.1) Kc13.1) E14.1) Kc15.1) E16.1) Kc17.1) E18.1) Kc19.1) E20.1) Kc21.1) Kc22.1) Fexpansion22 Fposition22) hZ (hw _ (List.mem_of_getElem? (i := 97) rfl)) (hw _ (List.mem_of_getElem? (i := 64) rfl)) (by decide) (by decide)) q23a q23c (g := (mkF m 163 #[.val (.int p1), .val (.int p2), .val (.int p3), .val (.int p4), .val (.int p5), .val (.int p6), .val (.ref r7), .val (.ref r8), .val (.ref b9), .val (.ref b12), .val (.ref b14), .val (.ref b16), .val (.ref b18), .val (.int (1 : Int32)), .val (.int (0 : Int32)), .val (.ref b20), .unset, .unset, .unset, .unset, .unset, .unset, .unset, .unset] [(.ref b20)])) rfl (by rw [hml]; rfl) (Steps.refl _) (argsL := []) (rest := []) (lenOf pd_0_15 rfl) rfl (by show 2 * 0 + _ ≤ _; exact Nat.le_of_eq rfl) (hb hby at_163) (fun _ _ => ⟨rfl, rfl, (by decide : 11 + 0 ≤ _), (by decide : 37 + 0 ≤ _)⟩)
  dsimp only [Pt.U, Pt.locs, Pt.cells, Pt.slots] at X23 l23 y23 z23 st23 hQ23
  subst l23 y23 z23
  obtain ⟨rfl, N23q, hh23⟩ := hQ23
  have Kc23 : Keep T22.heap T23.heap [] := by rw [hh23]; exact Keep.refl _ _
  have N23 := Fr.app N22 N23q
  have K23 : Keep h0 T23.heap [] := K22.trans Kc23 (fun x_ hx_ => absurd hx_ (by simp))
  -- pc 195: com/example/stubwright/stubwright/read/Token.expandedAt by the contract of the body that the receiver's class selects, rm17
  obtain ⟨cq24, kq24, q24a, q24b, q24c⟩ := isOf hZ rfl (Et22.keep Kc23)
  obtain ⟨_, _, ⟨T24, L24, k24, n24⟩, -, X24, ⟨Lc24, hQ24, l24, y24, z24⟩, st24⟩ := X23.virtualBack hx (y := (⟨"com/example/stubwright/stubwright/read/Token", "expandedAt", "(Lcom/example/stubwright/stubwright/model/Position;)Lcom/example/stubwright/stubwright/read/Token;"⟩ : MethodName)) (z := (⟨"com/example/stubwright/stubwright/read/Token", "expandedAt", "(Lcom/example/stubwright/stubwright/model/Position;)Lcom/example/stubwright/stubwright/read/Token;"⟩ : MethodName)) hown (mvT hZ (hw _ (List.mem_of_getElem? (i := 98) rfl))) (mvT hZ (hw _ (List.mem_of_getElem? (i := 99) rfl))) (notFace_of_selects (args := #[]) (mvT hZ (hw _ (List.mem_of_getElem? (i := 101) rfl)))) (mvT hZ (hw _ (List.mem_of_getElem? (i := 101) rfl))) (mvT hZ (hw _ (List.mem_of_getElem? (i := 100) rfl))) (by decide) (backOf (W := 0) (rm17q l Z a0 hw [] b20 b16 wk b12 b14 (nar .boolean (1 : Int32)) (nar .boolean (0 : Int32)) T23.heap n0 (Nat.le_trans (Nat.le_trans (Nat.le_trans (Nat.le_trans (Nat.le_trans (Nat.le_trans (Nat.le_trans (Nat.le_trans (Nat.le_trans (Nat.le_trans (Nat.le_trans (Nat.le_trans (Nat.le_trans (Nat.le_trans (Nat.le_trans (Nat.le_trans (Nat.le_trans Z0 Kc7.1) Kc8.1) E9.1) (Keep.of_wr W10).1) (Keep.of_wr W11).1) E12.1) Kc13.1) E14.1) Kc15.1) E16.1) Kc17.1) E18.1) Kc19.1) E20.1) Kc21.1) Kc22.1) Kc23.1) (Fkind22.keep Kc23 (by simp)) (Fspelling22.keep Kc23 (by simp)) (Fvalue22.keep Kc23 (by simp)) (Fposition22.keep Kc23 (by simp)) (FspaceBefore22.keep Kc23 (by simp)) (Fpainted22.keep Kc23 (by simp))) hZ (hw _ (List.mem_of_getElem? (i := 102) rfl)) (hw _ (List.mem_of_getElem? (i := 64) rfl)) (by decide) (by decide)) q24a q24c (g := (mkF m 195 #[.val (.int p1), .val (.int p2), .val (.int p3), .val (.int p4), .val (.int p5), .val (.int p6), .val (.ref r7), .val (.ref r8), .val (.ref b9), .val (.ref b12), .val (.ref b14), .val (.ref b16), .val (.ref b18), .val (.int (1 : Int32)), .val (.int (0 : Int32)), .val (.ref b20), .val (.int (1 : Int32)), .val (.ref b16), .unset, .unset, .unset, .unset, .unset, .unset] [(.ref b16), (.ref b20)])) rfl (by rw [hml]; rfl) (Steps.refl _) (argsL := [(.ref b16)]) (rest := []) (lenOf pd_0_16 rfl) rfl (by show 2 * 0 + _ ≤ _; exact Nat.le_of_eq rfl) (hb hby at_195) (fun _ _ => ⟨rfl, rfl, (by decide : 11 + 1 ≤ _), (by decide : 37 + 7 ≤ _)⟩)
  dsimp only [Pt.U, Pt.locs, Pt.cells, Pt.slots] at X24 l24 y24 z24 st24 hQ24
  subst l24 y24 z24
  obtain ⟨r24, rfl, N24q, Kc24, le24, Et24, Fkind24, Fspelling24, Fvalue24, Fposition24, FspaceBefore24, Fpainted24, Fexpansion24⟩ := hQ24
  -- Kc24 : Keep T23.heap T24.heap []
  have N24 := Fr.app N23 N24q
  have g_r24 : n0 ≤ r24 := Nat.le_trans (Nat.le_trans (Nat.le_trans (Nat.le_trans (Nat.le_trans (Nat.le_trans (Nat.le_trans (Nat.le_trans (Nat.le_trans (Nat.le_trans (Nat.le_trans (Nat.le_trans (Nat.le_trans (Nat.le_trans (Nat.le_trans (Nat.le_trans (Nat.le_trans (Nat.le_trans Z0 Kc7.1) Kc8.1) E9.1) (Keep.of_wr W10).1) (Keep.of_wr W11).1) E12.1) Kc13.1) E14.1) Kc15.1) E16.1) Kc17.1) E18.1) Kc19.1) E20.1) Kc21.1) Kc22.1) Kc23.1) le24
  have K24 : Keep h0 T24.heap [] := K23.trans Kc24 (fun x_ hx_ => absurd hx_ (by simp))
  -- pc 216: com/example/stubwright/stubwright/read/Token.expansionPoint by the contract of the body that the receiver's class selects, rm16
  obtain ⟨cq25, kq25, q25a, q25b, q25c⟩ := isOf hZ rfl Et24
  obtain ⟨_, _, ⟨T25, L25, k25, n25⟩, -, X25, ⟨Lc25, hQ25, l25, y25, z25⟩, st25⟩ := X24.virtualBack hx (y := (⟨"com/example/stubwright/stubwright/read/Token", "expansionPoint", "()Lcom/example/stubwright/stubwright/model/Position;"⟩ : MethodName)) (z := (⟨"com/example/stubwright/stubwright/read/Token", "expansionPoint", "()Lcom/example/stubwright/stubwright/model/Position;"⟩ : MethodName)) hown (mvT hZ (hw _ (List.mem_of_getElem? (i := 93) rfl))) (mvT hZ (hw _ (List.mem_of_getElem? (i := 94) rfl))) (notFace_of_selects (args := #[]) (mvT hZ (hw _ (List.mem_of_getElem? (i := 96) rfl)))) (mvT hZ (hw _ (List.mem_of_getElem? (i := 96) rfl))) (mvT hZ (hw _ (List.mem_of_getElem? (i := 95) rfl))) (by decide) (backOf (W := 0) (rm16q l Z a0 hw [] r24 b16 T24.heap n0 (Nat.le_trans (Nat.le_trans (Nat.le_trans (Nat.le_trans (Nat.le_trans (Nat.le_trans (Nat.le_trans (Nat.le_trans (Nat.le_trans (Nat.le_trans (Nat.le_trans (Nat.le_trans (Nat.le_trans (Nat.le_trans (Nat.le_trans (Nat.le_trans (Nat.le_trans (Nat.le_trans Z0 Kc7.1) Kc8.1) E9.1) (Keep.of_wr W10).1) (Keep.of_wr W11).1) E12.1) Kc13.1) E14.1) Kc15.1) E16.1) Kc17.1) E18.1) Kc19.1) E20.1) Kc21.1) Kc22.1) Kc23.1) Kc24.1) Fexpansion24) hZ (hw _ (List.mem_of_getElem? (i := 97) rfl)) (hw _ (List.mem_of_getElem? (i := 64) rfl)) (by decide) (by decide)) q25a q25c (g := (mkF m 216 #[.val (.int p1), .val (.int p2), .val (.int p3), .val (.int p4), .val (.int p5), .val (.int p6), .val (.ref r7), .val (.ref r8), .val (.ref b9), .val (.ref b12), .val (.ref b14), .val (.ref b16), .val (.ref b18), .val (.int (1 : Int32)), .val (.int (0 : Int32)), .val (.ref b20), .val (.int (1 : Int32)), .val (.ref b16), .val (.ref r24), .val (.ref b16), .unset, .unset, .unset, .unset] [(.ref r24)])) rfl (by rw [hml]; rfl) (Steps.refl _) (argsL := []) (rest := []) (lenOf pd_0_15 rfl) rfl (by show 2 * 0 + _ ≤ _; exact Nat.le_of_eq rfl) (hb hby at_216) (fun _ _ => ⟨rfl, rfl, (by decide : 12 + 0 ≤ _), (by decide : 44 + 0 ≤ _)⟩)
  dsimp only [Pt.U, Pt.locs, Pt.cells, Pt.slots] at X25 l25 y25 z25 st25 hQ25
  subst l25 y25 z25
  obtain ⟨rfl, N25q, hh25⟩ := hQ25
  have Kc25 : Keep T24.heap T25.heap [] := by rw [hh25]; exact Keep.refl _ _
  have N25 := Fr.app N24 N25q
  have K25 : Keep h0 T25.heap [] := K24.trans Kc25 (fun x_ hx_ => absurd hx_ (by simp))
  -- pc 235: com/example/stubwright/stubwright/read/Token.at by the contract of the body that the receiver's class selects, rm18
  obtain ⟨cq26, kq26, q26a, q26b, q26c⟩ := isOf hZ rfl (Et24.keep Kc25)
  obtain ⟨_, _, ⟨T26, L26, k26, n26⟩, -, X26, ⟨Lc26, hQ26, l26, y26, z26⟩, st26⟩ := X25.virtualBack hx (y := (⟨"com/example/stubwright/stubwright/read/Token", "at", "(Lcom/example/stubwright/stubwright/model/Position;)Lcom/example/stubwright/stubwright/read/Token;"⟩ : MethodName)) (z := (⟨"com/example/stubwright/stubwright/read/Token", "at", "(Lcom/example/stubwright/stubwright/model/Position;)Lcom/example/stubwright/stubwright/read/Token;"⟩ : MethodName)) hown (mvT hZ (hw _ (List.mem_of_getElem? (i := 104) rfl))) (mvT hZ (hw _ (List.mem_of_getElem? (i := 105) rfl))) (notFace_of_selects (args := #[]) (mvT hZ (hw _ (List.mem_of_getElem? (i := 107) rfl)))) (mvT hZ (hw _ (List.mem_of_getElem? (i := 107) rfl))) (mvT hZ (hw _ (List.mem_of_getElem? (i := 106) rfl))) (by decide) (backOf (W := 0) (rm18q l Z a0 hw [] r24 b18 wk b12 (nar .boolean (nar .boolean (1 : Int32))) (nar .boolean (nar .boolean (0 : Int32))) b16 T25.heap n0 (Nat.le_trans (Nat.le_trans (Nat.le_trans (Nat.le_trans (Nat.le_trans (Nat.le_trans (Nat.le_trans (Nat.le_trans (Nat.le_trans (Nat.le_trans (Nat.le_trans (Nat.le_trans (Nat.le_trans (Nat.le_trans (Nat.le_trans (Nat.le_trans (Nat.le_trans (Nat.le_trans (Nat.le_trans Z0 Kc7.1) Kc8.1) E9.1) (Keep.of_wr W10).1) (Keep.of_wr W11).1) E12.1) Kc13.1) E14.1) Kc15.1) E16.1) Kc17.1) E18.1) Kc19.1) E20.1) Kc21.1) Kc22.1) Kc23.1) Kc24.1) Kc25.1) (Fkind24.keep Kc25 (by simp)) (Fspelling24.keep Kc25 (by simp)) (Fvalue24.keep Kc25 (by simp)) (FspaceBefore24.keep Kc25 (by simp)) (Fpainted24.keep Kc25 (by simp)) (Fexpansion24.keep Kc25 (by simp))) hZ (hw _ (List.mem_of_getElem? (i := 108) rfl)) (hw _ (List.mem_of_getElem? (i := 64) rfl)) (by decide) (by decide)) q26a q26c (g := (mkF m 235 #[.val (.int p1), .val (.int p2), .val (.int p3), .val (.int p4), .val (.int p5), .val (.int p6), .val (.ref r7), .val (.ref r8), .val (.ref b9), .val (.ref b12), .val (.ref b14), .val (.ref b16), .val (.ref b18), .val (.int (1 : Int32)), .val (.int (0 : Int32)), .val (.ref b20), .val (.int (1 : Int32)), .val (.ref b16), .val (.ref r24), .val (.ref b16), .val (.int (1 : Int32)), .unset, .unset, .unset] [(.ref b18), (.ref r24)])) rfl (by rw [hml]; rfl) (Steps.refl _) (argsL := [(.ref b18)]) (rest := []) (lenOf pd_0_16 rfl) rfl (by show 2 * 0 + _ ≤ _; exact Nat.le_of_eq rfl) (hb hby at_235) (fun _ _ => ⟨rfl, rfl, (by decide : 12 + 1 ≤ _), (by decide : 44 + 7 ≤ _)⟩)
  dsimp only [Pt.U, Pt.locs, Pt.cells, Pt.slots] at X26 l26 y26 z26 st26 hQ26
  subst l26 y26 z26
  obtain ⟨r26, rfl, N26q, Kc26, le26, Et26, Fkind26, Fspelling26, Fvalue26, Fposition26, FspaceBefore26, Fpainted26, Fexpansion26⟩ := hQ26
  -- Kc26 : Keep T25.heap T26.heap []
  have N26 := Fr.app N25 N26q
  have g_r26 : n0 ≤ r26 := Nat.le_trans (Nat.le_trans (Nat.le_trans (Nat.le_trans (Nat.le_trans (Nat.le_trans (Nat.le_trans (Nat.le_trans (Nat.le_trans (Nat.le_trans (Nat.le_trans (Nat.le_trans (Nat.le_trans (Nat.le_trans (Nat.le_trans (Nat.le_trans (Nat.le_trans (Nat.le_trans (Nat.le_trans (Nat.le_trans Z0 Kc7.1) Kc8.1) E9.1) (Keep.of_wr W10).1) (Keep.of_wr W11).1) E12.1) Kc13.1) E14.1) Kc15.1) E16.1) Kc17.1) E18.1) Kc19.1) E20.1) Kc21.1) Kc22.1) Kc23.1) Kc24.1) Kc25.1) le26
  have K26 : Keep h0 T26.heap [] := K25.trans Kc26 (fun x_ hx_ => absurd hx_ (by simp))
  -- pc 256: com/example/stubwright/stubwright/read/Token.expansionPoint by the contract of the body that the receiver's class selects, rm16
  obtain ⟨cq27, kq27, q27a, q27b, q27c⟩ := isOf hZ rfl Et26
  obtain ⟨_, _, ⟨T27, L27, k27, n27⟩, -, X27, ⟨Lc27, hQ27, l27, y27, z27⟩, st27⟩ := X26.virtualBack hx (y := (⟨"com/example/stubwright/stubwright/read/Token", "expansionPoint", "()Lcom/example/stubwright/stubwright/model/Position;"⟩ : MethodName)) (z := (⟨"com/example/stubwright/stubwright/read/Token", "expansionPoint", "()Lcom/example/stubwright/stubwright/model/Position;"⟩ : MethodName)) hown (mvT hZ (hw _ (List.mem_of_getElem? (i := 93) rfl))) (mvT hZ (hw _ (List.mem_of_getElem? (i := 94) rfl))) (notFace_of_selects (args := #[]) (mvT hZ (hw _ (List.mem_of_getElem? (i := 96) rfl)))) (mvT hZ (hw _ (List.mem_of_getElem? (i := 96) rfl))) (mvT hZ (hw _ (List.mem_of_getElem? (i := 95) rfl))) (by decide) (backOf (W := 0) (rm16q l Z a0 hw [] r26 b16 T26.heap n0 (Nat.le_trans (Nat.le_trans (Nat.le_trans (Nat.le_trans (Nat.le_trans (Nat.le_trans (Nat.le_trans (Nat.le_trans (Nat.le_trans (Nat.le_trans (Nat.le_trans (Nat.le_trans (Nat.le_trans (Nat.le_trans (Nat.le_trans (Nat.le_trans (Nat.le_trans (Nat.le_trans (Nat.le_trans (Nat.le_trans Z0 Kc7.1) Kc8.1) E9.1) (Keep.of_wr W10).1) (Keep.of_wr W11).1) E12.1) Kc13.1) E14.1) Kc15.1) E16.1) Kc17.1) E18.1) Kc19.1) E20.1) Kc21.1) Kc22.1) Kc23.1) Kc24.1) Kc25.1) Kc26.1) Fexpansion26) hZ (hw _ (List.mem_of_getElem? (i := 97) rfl)) (hw _ (List.mem_of_getElem? (i := 64) rfl)) (by decide) (by decide)) q27a q27c (g := (mkF m 256 #[.val (.int p1), .val (.int p2), .val (.int p3), .val (.int p4), .val (.int p5), .val (.int p6), .val (.ref r7), .val (.ref r8), .val (.ref b9), .val (.ref b12), .val (.ref b14), .val (.ref b16), .val (.ref b18), .val (.int (1 : Int32)), .val (.int (0 : Int32)), .val (.ref b20), .val (.int (1 : Int32)), .val (.ref b16), .val (.ref r24), .val (.ref b16), .val (.int (1 : Int32)), .val (.ref r26), .val (.ref b16), .unset] [(.ref r26)])) rfl (by rw [hml]; rfl) (Steps.refl _) (argsL := []) (rest := []) (lenOf pd_0_15 rfl) rfl (by show 2 * 0 + _ ≤ _; exact Nat.le_of_eq rfl) (hb hby at_256) (fun _ _ => ⟨rfl, rfl, (by decide : 13 + 0 ≤ _), (by decide : 51 + 0 ≤ _)⟩)
  dsimp only [Pt.U, Pt.locs, Pt.cells, Pt.slots] at X27 l27 y27 z27 st27 hQ27
  subst l27 y27 z27
  obtain ⟨rfl, N27q, hh27⟩ := hQ27
  have Kc27 : Keep T26.heap T27.heap [] := by rw [hh27]; exact Keep.refl _ _
  have N27 := Fr.app N26 N27q
  have K27 : Keep h0 T27.heap [] := K26.trans Kc27 (fun x_ hx_ => absurd hx_ (by simp))
  obtain ⟨fs, hr, hrun, hended, hW, hsame⟩ := X27.leave (v := some (.int (1 : Int32))) (fun h => by rw [Bd.returns] at h; cases h)
  refine ⟨_, _, pre0 _ ?_, hrun, hended, _, _, rfl, ?_, ⟨_, rfl⟩, hW, hsame.mono (by decide) (by decide)⟩
  -- 4. STEPS
  · show Steps p.tables e below (s₁.setTop (mkF m 0 #[.val (.int p1), .val (.int p2), .val (.int p3), .val (.int p4), .val (.int p5), .val (.int p6), .unset, .unset, .unset, .unset, .unset, .unset, .unset, .unset, .unset, .unset, .unset, .unset, .unset, .unset, .unset, .unset, .unset, .unset] [])) _
    refine XS.iload X0.here hx rfl (hb hby at_0) rfl ?_
    show Steps p.tables e below (s₁.setTop (mkF m 2 #[.val (.int p1), .val (.int p2), .val (.int p3), .val (.int p4), .val (.int p5), .val (.int p6), .unset, .unset, .unset, .unset, .unset, .unset, .unset, .unset, .unset, .unset, .unset, .unset, .unset, .unset, .unset, .unset, .unset, .unset] [(.int p6)])) _
    refine XS.sipush X0.here hx rfl (hb hby at_2) ?_
    show Steps p.tables e below (s₁.setTop (mkF m 5 #[.val (.int p1), .val (.int p2), .val (.int p3), .val (.int p4), .val (.int p5), .val (.int p6), .unset, .unset, .unset, .unset, .unset, .unset, .unset, .unset, .unset, .unset, .unset, .unset, .unset, .unset, .unset, .unset, .unset, .unset] [(.int (255 : Int32)), (.int p6)])) _
    refine XS.iand X0.here hx rfl (hb hby at_5) rfl ?_
    show Steps p.tables e below (s₁.setTop (mkF m 6 #[.val (.int p1), .val (.int p2), .val (.int p3), .val (.int p4), .val (.int p5), .val (.int p6), .unset, .unset, .unset, .unset, .unset, .unset, .unset, .unset, .unset, .unset, .unset, .unset, .unset, .unset, .unset, .unset, .unset, .unset] [(.int (p6 &&& (255 : Int32)))])) _
    refine XS.i2c X0.here hx rfl (hb hby at_6) rfl ?_
    show Steps p.tables e below (s₁.setTop (mkF m 7 #[.val (.int p1), .val (.int p2), .val (.int p3), .val (.int p4), .val (.int p5), .val (.int p6), .unset, .unset, .unset, .unset, .unset, .unset, .unset, .unset, .unset, .unset, .unset, .unset, .unset, .unset, .unset, .unset, .unset, .unset] [(.int ((p6 &&& (255 : Int32)).toUInt32.toUInt16.toUInt32.toInt32))])) _
    refine st7 _ ?_
    show Steps p.tables e below (T7.setTop (mkF m 10 #[.val (.int p1), .val (.int p2), .val (.int p3), .val (.int p4), .val (.int p5), .val (.int p6), .unset, .unset, .unset, .unset, .unset, .unset, .unset, .unset, .unset, .unset, .unset, .unset, .unset, .unset, .unset, .unset, .unset, .unset] [(.ref r7)])) _
    refine XS.astore X7.here hx rfl (hb hby at_10) rfl rfl (l' := #[.val (.int p1), .val (.int p2), .val (.int p3), .val (.int p4), .val (.int p5), .val (.int p6), .val (.ref r7), .unset, .unset, .unset, .unset, .unset, .unset, .unset, .unset, .unset, .unset, .unset, .unset, .unset, .unset, .unset, .unset, .unset]) rfl ?_
    show Steps p.tables e below (T7.setTop (mkF m 12 #[.val (.int p1), .val (.int p2), .val (.int p3), .val (.int p4), .val (.int p5), .val (.int p6), .val (.ref r7), .unset, .unset, .unset, .unset, .unset, .unset, .unset, .unset, .unset, .unset, .unset, .unset, .unset, .unset, .unset, .unset, .unset] [])) _
    refine XS.iload X7.here hx rfl (hb hby at_12) rfl ?_
    show Steps p.tables e below (T7.setTop (mkF m 14 #[.val (.int p1), .val (.int p2), .val (.int p3), .val (.int p4), .val (.int p5), .val (.int p6), .val (.ref r7), .unset, .unset, .unset, .unset, .unset, .unset, .unset, .unset, .unset, .unset, .unset, .unset, .unset, .unset, .unset, .unset, .unset] [(.int p6)])) _
    refine XS.bipush X7.here hx rfl (hb hby at_14) ?_
    show Steps p.tables e below (T7.setTop (mkF m 16 #[.val (.int p1), .val (.int p2), .val (.int p3), .val (.int p4), .val (.int p5), .val (.int p6), .val (.ref r7), .unset, .unset, .unset, .unset, .unset, .unset, .unset, .unset, .unset, .unset, .unset, .unset, .unset, .unset, .unset, .unset, .unset] [(.int (8 : Int32)), (.int p6)])) _
    refine XS.iushr X7.here hx rfl (hb hby at_16) rfl ?_
    show Steps p.tables e below (T7.setTop (mkF m 17 #[.val (.int p1), .val (.int p2), .val (.int p3), .val (.int p4), .val (.int p5), .val (.int p6), .val (.ref r7), .unset, .unset, .unset, .unset, .unset, .unset, .unset, .unset, .unset, .unset, .unset, .unset, .unset, .unset, .unset, .unset, .unset] [(.int ((p6.toUInt32 >>> ((8 : Int32) &&& 31).toUInt32).toInt32))])) _
    refine XS.sipush X7.here hx rfl (hb hby at_17) ?_
    show Steps p.tables e below (T7.setTop (mkF m 20 #[.val (.int p1), .val (.int p2), .val (.int p3), .val (.int p4), .val (.int p5), .val (.int p6), .val (.ref r7), .unset, .unset, .unset, .unset, .unset, .unset, .unset, .unset, .unset, .unset, .unset, .unset, .unset, .unset, .unset, .unset, .unset] [(.int (255 : Int32)), (.int ((p6.toUInt32 >>> ((8 : Int32) &&& 31).toUInt32).toInt32))])) _
    refine XS.iand X7.here hx rfl (hb hby at_20) rfl ?_
    show Steps p.tables e below (T7.setTop (mkF m 21 #[.val (.int p1), .val (.int p2), .val (.int p3), .val (.int p4), .val (.int p5), .val (.int p6), .val (.ref r7), .unset, .unset, .unset, .unset, .unset, .unset, .unset, .unset, .unset, .unset, .unset, .unset, .unset, .unset, .unset, .unset, .unset] [(.int (((p6.toUInt32 >>> ((8 : Int32) &&& 31).toUInt32).toInt32) &&& (255 : Int32)))])) _
    refine XS.i2c X7.here hx rfl (hb hby at_21) rfl ?_
    show Steps p.tables e below (T7.setTop (mkF m 22 #[.val (.int p1), .val (.int p2), .val (.int p3), .val (.int p4), .val (.int p5), .val (.int p6), .val (.ref r7), .unset, .unset, .unset, .unset, .unset, .unset, .unset, .unset, .unset, .unset, .unset, .unset, .unset, .unset, .unset, .unset, .unset] [(.int ((((p6.toUInt32 >>> ((8 : Int32) &&& 31).toUInt32).toInt32) &&& (255 : Int32)).toUInt32.toUInt16.toUInt32.toInt32))])) _
    refine st8 _ ?_
    show Steps p.tables e below (T8.setTop (mkF m 25 #[.val (.int p1), .val (.int p2), .val (.int p3), .val (.int p4), .val (.int p5), .val (.int p6), .val (.ref r7), .unset, .unset, .unset, .unset, .unset, .unset, .unset, .unset, .unset, .unset, .unset, .unset, .unset, .unset, .unset, .unset, .unset] [(.ref r8)])) _
    refine XS.astore X8.here hx rfl (hb hby at_25) rfl rfl (l' := #[.val (.int p1), .val (.int p2), .val (.int p3), .val (.int p4), .val (.int p5), .val (.int p6), .val (.ref r7), .val (.ref r8), .unset, .unset, .unset, .unset, .unset, .unset, .unset, .unset, .unset, .unset, .unset, .unset, .unset, .unset, .unset, .unset]) rfl ?_
    show Steps p.tables e below (T8.setTop (mkF m 27 #[.val (.int p1), .val (.int p2), .val (.int p3), .val (.int p4), .val (.int p5), .val (.int p6), .val (.ref r7), .val (.ref r8), .unset, .unset, .unset, .unset, .unset, .unset, .unset, .unset, .unset, .unset, .unset, .unset, .unset, .unset, .unset, .unset] [])) _
    refine XS.iconst X8.here hx rfl (hb hby at_27) ?_
    show Steps p.tables e below (T8.setTop (mkF m 28 #[.val (.int p1), .val (.int p2), .val (.int p3), .val (.int p4), .val (.int p5), .val (.int p6), .val (.ref r7), .val (.ref r8), .unset, .unset, .unset, .unset, .unset, .unset, .unset, .unset, .unset, .unset, .unset, .unset, .unset, .unset, .unset, .unset] [(.int (2 : Int32))])) _
    refine st9 _ ?_
    show Steps p.tables e below (T9.setTop (mkF m 30 #[.val (.int p1), .val (.int p2), .val (.int p3), .val (.int p4), .val (.int p5), .val (.int p6), .val (.ref r7), .val (.ref r8), .unset, .unset, .unset, .unset, .unset, .unset, .unset, .unset, .unset, .unset, .unset, .unset, .unset, .unset, .unset, .unset] [(.ref b9)])) _
    refine XS.dup X9.here hx rfl (hb hby at_30) rfl rfl ?_
    show Steps p.tables e below (T9.setTop (mkF m 31 #[.val (.int p1), .val (.int p2), .val (.int p3), .val (.int p4), .val (.int p5), .val (.int p6), .val (.ref r7), .val (.ref r8), .unset, .unset, .unset, .unset, .unset, .unset, .unset, .unset, .unset, .unset, .unset, .unset, .unset, .unset, .unset, .unset] [(.ref b9), (.ref b9)])) _
    refine XS.iconst X9.here hx rfl (hb hby at_31) ?_
    show Steps p.tables e below (T9.setTop (mkF m 32 #[.val (.int p1), .val (.int p2), .val (.int p3), .val (.int p4), .val (.int p5), .val (.int p6), .val (.ref r7), .val (.ref r8), .unset, .unset, .unset, .unset, .unset, .unset, .unset, .unset, .unset, .unset, .unset, .unset, .unset, .unset, .unset, .unset] [(.int (0 : Int32)), (.ref b9), (.ref b9)])) _
    refine XS.iload X9.here hx rfl (hb hby at_32) rfl ?_
    show Steps p.tables e below (T9.setTop (mkF m 34 #[.val (.int p1), .val (.int p2), .val (.int p3), .val (.int p4), .val (.int p5), .val (.int p6), .val (.ref r7), .val (.ref r8), .unset, .unset, .unset, .unset, .unset, .unset, .unset, .unset, .unset, .unset, .unset, .unset, .unset, .unset, .unset, .unset] [(.int p6), (.int (0 : Int32)), (.ref b9), (.ref b9)])) _
    refine XS.bipush X9.here hx rfl (hb hby at_34) ?_
    show Steps p.tables e below (T9.setTop (mkF m 36 #[.val (.int p1), .val (.int p2), .val (.int p3), .val (.int p4), .val (.int p5), .val (.int p6), .val (.ref r7), .val (.ref r8), .unset, .unset, .unset, .unset, .unset, .unset, .unset, .unset, .unset, .unset, .unset, .unset, .unset, .unset, .unset, .unset] [(.int (16 : Int32)), (.int p6), (.int (0 : Int32)), (.ref b9), (.ref b9)])) _
    refine XS.iushr X9.here hx rfl (hb hby at_36) rfl ?_
    show Steps p.tables e below (T9.setTop (mkF m 37 #[.val (.int p1), .val (.int p2), .val (.int p3), .val (.int p4), .val (.int p5), .val (.int p6), .val (.ref r7), .val (.ref r8), .unset, .unset, .unset, .unset, .unset, .unset, .unset, .unset, .unset, .unset, .unset, .unset, .unset, .unset, .unset, .unset] [(.int ((p6.toUInt32 >>> ((16 : Int32) &&& 31).toUInt32).toInt32)), (.int (0 : Int32)), (.ref b9), (.ref b9)])) _
    refine XS.sipush X9.here hx rfl (hb hby at_37) ?_
    show Steps p.tables e below (T9.setTop (mkF m 40 #[.val (.int p1), .val (.int p2), .val (.int p3), .val (.int p4), .val (.int p5), .val (.int p6), .val (.ref r7), .val (.ref r8), .unset, .unset, .unset, .unset, .unset, .unset, .unset, .unset, .unset, .unset, .unset, .unset, .unset, .unset, .unset, .unset] [(.int (255 : Int32)), (.int ((p6.toUInt32 >>> ((16 : Int32) &&& 31).toUInt32).toInt32)), (.int (0 : Int32)), (.ref b9), (.ref b9)])) _
    refine XS.iand X9.here hx rfl (hb hby at_40) rfl ?_
    show Steps p.tables e below (T9.setTop (mkF m 41 #[.val (.int p1), .val (.int p2), .val (.int p3), .val (.int p4), .val (.int p5), .val (.int p6), .val (.ref r7), .val (.ref r8), .unset, .unset, .unset, .unset, .unset, .unset, .unset, .unset, .unset, .unset, .unset, .unset, .unset, .unset, .unset, .unset] [(.int (((p6.toUInt32 >>> ((16 : Int32) &&& 31).toUInt32).toInt32) &&& (255 : Int32))), (.int (0 : Int32)), (.ref b9), (.ref b9)])) _
    refine XS.i2c X9.here hx rfl (hb hby at_41) rfl ?_
    show Steps p.tables e below (T9.setTop (mkF m 42 #[.val (.int p1), .val (.int p2), .val (.int p3), .val (.int p4), .val (.int p5), .val (.int p6), .val (.ref r7), .val (.ref r8), .unset, .unset, .unset, .unset, .unset, .unset, .unset, .unset, .unset, .unset, .unset, .unset, .unset, .unset, .unset, .unset] [(.int ((((p6.toUInt32 >>> ((16 : Int32) &&& 31).toUInt32).toInt32) &&& (255 : Int32)).toUInt32.toUInt16.toUInt32.toInt32)), (.int (0 : Int32)), (.ref b9), (.ref b9)])) _
    refine st10 _ ?_
    show Steps p.tables e below (T10.setTop (mkF m 43 #[.val (.int p1), .val (.int p2), .val (.int p3), .val (.int p4), .val (.int p5), .val (.int p6), .val (.ref r7), .val (.ref r8), .unset, .unset, .unset, .unset, .unset, .unset, .unset, .unset, .unset, .unset, .unset, .unset, .unset, .unset, .unset, .unset] [(.ref b9)])) _
    refine XS.dup X10.here hx rfl (hb hby at_43) rfl rfl ?_
    show Steps p.tables e below (T10.setTop (mkF m 44 #[.val (.int p1), .val (.int p2), .val (.int p3), .val (.int p4), .val (.int p5), .val (.int p6), .val (.ref r7), .val (.ref r8), .unset, .unset, .unset, .unset, .unset, .unset, .unset, .unset, .unset, .unset, .unset, .unset, .unset, .unset, .unset, .unset] [(.ref b9), (.ref b9)])) _
    refine XS.iconst X10.here hx rfl (hb hby at_44) ?_
    show Steps p.tables e below (T10.setTop (mkF m 45 #[.val (.int p1), .val (.int p2), .val (.int p3), .val (.int p4), .val (.int p5), .val (.int p6), .val (.ref r7), .val (.ref r8), .unset, .unset, .unset, .unset, .unset, .unset, .unset, .unset, .unset, .unset, .unset, .unset, .unset, .unset, .unset, .unset] [(.int (1 : Int32)), (.ref b9), (.ref b9)])) _
    refine XS.iload X10.here hx rfl (hb hby at_45) rfl ?_
    show Steps p.tables e below (T10.setTop (mkF m 47 #[.val (.int p1), .val (.int p2), .val (.int p3), .val (.int p4), .val (.int p5), .val (.int p6), .val (.ref r7), .val (.ref r8), .unset, .unset, .unset, .unset, .unset, .unset, .unset, .unset, .unset, .unset, .unset, .unset, .unset, .unset, .unset, .unset] [(.int p6), (.int (1 : Int32)), (.ref b9), (.ref b9)])) _
    refine XS.bipush X10.here hx rfl (hb hby at_47) ?_
    show Steps p.tables e below (T10.setTop (mkF m 49 #[.val (.int p1), .val (.int p2), .val (.int p3), .val (.int p4), .val (.int p5), .val (.int p6), .val (.ref r7), .val (.ref r8), .unset, .unset, .unset, .unset, .unset, .unset, .unset, .unset, .unset, .unset, .unset, .unset, .unset, .unset, .unset, .unset] [(.int (24 : Int32)), (.int p6), (.int (1 : Int32)), (.ref b9), (.ref b9)])) _
    refine XS.iushr X10.here hx rfl (hb hby at_49) rfl ?_
    show Steps p.tables e below (T10.setTop (mkF m 50 #[.val (.int p1), .val (.int p2), .val (.int p3), .val (.int p4), .val (.int p5), .val (.int p6), .val (.ref r7), .val (.ref r8), .unset, .unset, .unset, .unset, .unset, .unset, .unset, .unset, .unset, .unset, .unset, .unset, .unset, .unset, .unset, .unset] [(.int ((p6.toUInt32 >>> ((24 : Int32) &&& 31).toUInt32).toInt32)), (.int (1 : Int32)), (.ref b9), (.ref b9)])) _
    refine XS.sipush X10.here hx rfl (hb hby at_50) ?_
    show Steps p.tables e below (T10.setTop (mkF m 53 #[.val (.int p1), .val (.int p2), .val (.int p3), .val (.int p4), .val (.int p5), .val (.int p6), .val (.ref r7), .val (.ref r8), .unset, .unset, .unset, .unset, .unset, .unset, .unset, .unset, .unset, .unset, .unset, .unset, .unset, .unset, .unset, .unset] [(.int (255 : Int32)), (.int ((p6.toUInt32 >>> ((24 : Int32) &&& 31).toUInt32).toInt32)), (.int (1 : Int32)), (.ref b9), (.ref b9)])) _
    refine XS.iand X10.here hx rfl (hb hby at_53) rfl ?_
    show Steps p.tables e below (T10.setTop (mkF m 54 #[.val (.int p1), .val (.int p2), .val (.int p3), .val (.int p4), .val (.int p5), .val (.int p6), .val (.ref r7), .val (.ref r8), .unset, .unset, .unset, .unset, .unset, .unset, .unset, .unset, .unset, .unset, .unset, .unset, .unset, .unset, .unset, .unset] [(.int (((p6.toUInt32 >>> ((24 : Int32) &&& 31).toUInt32).toInt32) &&& (255 : Int32))), (.int (1 : Int32)), (.ref b9), (.ref b9)])) _
    refine XS.i2c X10.here hx rfl (hb hby at_54) rfl ?_
    show Steps p.tables e below (T10.setTop (mkF m 55 #[.val (.int p1), .val (.int p2), .val (.int p3), .val (.int p4), .val (.int p5), .val (.int p6), .val (.ref r7), .val (.ref r8), .unset, .unset, .unset, .unset, .unset, .unset, .unset, .unset, .unset, .unset, .unset, .unset, .unset, .unset, .unset, .unset] [(.int ((((p6.toUInt32 >>> ((24 : Int32) &&& 31).toUInt32).toInt32) &&& (255 : Int32)).toUInt32.toUInt16.toUInt32.toInt32)), (.int (1 : Int32)), (.ref b9), (.ref b9)])) _
    refine st11 _ ?_
    show Steps p.tables e below (T11.setTop (mkF m 56 #[.val (.int p1), .val (.int p2), .val (.int p3), .val (.int p4), .val (.int p5), .val (.int p6), .val (.ref r7), .val (.ref r8), .unset, .unset, .unset, .unset, .unset, .unset, .unset, .unset, .unset, .unset, .unset, .unset, .unset, .unset, .unset, .unset] [(.ref b9)])) _
    refine XS.astore X11.here hx rfl (hb hby at_56) rfl rfl (l' := #[.val (.int p1), .val (.int p2), .val (.int p3), .val (.int p4), .val (.int p5), .val (.int p6), .val (.ref r7), .val (.ref r8), .val (.ref b9), .unset, .unset, .unset, .unset, .unset, .unset, .unset, .unset, .unset, .unset, .unset, .unset, .unset, .unset, .unset]) rfl ?_
    show Steps p.tables e below (T11.setTop (mkF m 58 #[.val (.int p1), .val (.int p2), .val (.int p3), .val (.int p4), .val (.int p5), .val (.int p6), .val (.ref r7), .val (.ref r8), .val (.ref b9), .unset, .unset, .unset, .unset, .unset, .unset, .unset, .unset, .unset, .unset, .unset, .unset, .unset, .unset, .unset] [])) _
    refine st12 _ ?_
    show Steps p.tables e below (T12.setTop (mkF m 61 #[.val (.int p1), .val (.int p2), .val (.int p3), .val (.int p4), .val (.int p5), .val (.int p6), .val (.ref r7), .val (.ref r8), .val (.ref b9), .unset, .unset, .unset, .unset, .unset, .unset, .unset, .unset, .unset, .unset, .unset, .unset, .unset, .unset, .unset] [(.ref b12)])) _
    refine XS.dup X12.here hx rfl (hb hby at_61) rfl rfl ?_
    show Steps p.tables e below (T12.setTop (mkF m 62 #[.val (.int p1), .val (.int p2), .val (.int p3), .val (.int p4), .val (.int p5), .val (.int p6), .val (.ref r7), .val (.ref r8), .val (.ref b9), .unset, .unset, .unset, .unset, .unset, .unset, .unset, .unset, .unset, .unset, .unset, .unset, .unset, .unset, .unset] [(.ref b12), (.ref b12)])) _
    refine XS.aload X12.here hx rfl (hb hby at_62) rfl rfl ?_
    show Steps p.tables e below (T12.setTop (mkF m 64 #[.val (.int p1), .val (.int p2), .val (.int p3), .val (.int p4), .val (.int p5), .val (.int p6), .val (.ref r7), .val (.ref r8), .val (.ref b9), .unset, .unset, .unset, .unset, .unset, .unset, .unset, .unset, .unset, .unset, .unset, .unset, .unset, .unset, .unset] [(.ref b9), (.ref b12), (.ref b12)])) _
    refine st13.trans ?_
    show Steps p.tables e below (T13.setTop (mkF m 67 #[.val (.int p1), .val (.int p2), .val (.int p3), .val (.int p4), .val (.int p5), .val (.int p6), .val (.ref r7), .val (.ref r8), .val (.ref b9), .unset, .unset, .unset, .unset, .unset, .unset, .unset, .unset, .unset, .unset, .unset, .unset, .unset, .unset, .unset] [(.ref b12)])) _
    refine XS.astore X13.here hx rfl (hb hby at_67) rfl rfl (l' := #[.val (.int p1), .val (.int p2), .val (.int p3), .val (.int p4), .val (.int p5), .val (.int p6), .val (.ref r7), .val (.ref r8), .val (.ref b9), .val (.ref b12), .unset, .unset, .unset, .unset, .unset, .unset, .unset, .unset, .unset, .unset, .unset, .unset, .unset, .unset]) rfl ?_
    show Steps p.tables e below (T13.setTop (mkF m 69 #[.val (.int p1), .val (.int p2), .val (.int p3), .val (.int p4), .val (.int p5), .val (.int p6), .val (.ref r7), .val (.ref r8), .val (.ref b9), .val (.ref b12), .unset, .unset, .unset, .unset, .unset, .unset, .unset, .unset, .unset, .unset, .unset, .unset, .unset, .unset] [])) _
    refine st14 _ ?_
    show Steps p.tables e below (T14.setTop (mkF m 72 #[.val (.int p1), .val (.int p2), .val (.int p3), .val (.int p4), .val (.int p5), .val (.int p6), .val (.ref r7), .val (.ref r8), .val (.ref b9), .val (.ref b12), .unset, .unset, .unset, .unset, .unset, .unset, .unset, .unset, .unset, .unset, .unset, .unset, .unset, .unset] [(.ref b14)])) _
    refine XS.dup X14.here hx rfl (hb hby at_72) rfl rfl ?_
    show Steps p.tables e below (T14.setTop (mkF m 73 #[.val (.int p1), .val (.int p2), .val (.int p3), .val (.int p4), .val (.int p5), .val (.int p6), .val (.ref r7), .val (.ref r8), .val (.ref b9), .val (.ref b12), .unset, .unset, .unset, .unset, .unset, .unset, .unset, .unset, .unset, .unset, .unset, .unset, .unset, .unset] [(.ref b14), (.ref b14)])) _
    refine XS.aload X14.here hx rfl (hb hby at_73) rfl rfl ?_
    show Steps p.tables e below (T14.setTop (mkF m 75 #[.val (.int p1), .val (.int p2), .val (.int p3), .val (.int p4), .val (.int p5), .val (.int p6), .val (.ref r7), .val (.ref r8), .val (.ref b9), .val (.ref b12), .unset, .unset, .unset, .unset, .unset, .unset, .unset, .unset, .unset, .unset, .unset, .unset, .unset, .unset] [(.ref r7), (.ref b14), (.ref b14)])) _
    refine XS.iloadN X14.here hx rfl (hb hby at_75) rfl ?_
    show Steps p.tables e below (T14.setTop (mkF m 76 #[.val (.int p1), .val (.int p2), .val (.int p3), .val (.int p4), .val (.int p5), .val (.int p6), .val (.ref r7), .val (.ref r8), .val (.ref b9), .val (.ref b12), .unset, .unset, .unset, .unset, .unset, .unset, .unset, .unset, .unset, .unset, .unset, .unset, .unset, .unset] [(.int p1), (.ref r7), (.ref b14), (.ref b14)])) _
    refine XS.iloadN X14.here hx rfl (hb hby at_76) rfl ?_
    show Steps p.tables e below (T14.setTop (mkF m 77 #[.val (.int p1), .val (.int p2), .val (.int p3), .val (.int p4), .val (.int p5), .val (.int p6), .val (.ref r7), .val (.ref r8), .val (.ref b9), .val (.ref b12), .unset, .unset, .unset, .unset, .unset, .unset, .unset, .unset, .unset, .unset, .unset, .unset, .unset, .unset] [(.int p2), (.int p1), (.ref r7), (.ref b14), (.ref b14)])) _
    refine st15.trans ?_
    show Steps p.tables e below (T15.setTop (mkF m 80 #[.val (.int p1), .val (.int p2), .val (.int p3), .val (.int p4), .val (.int p5), .val (.int p6), .val (.ref r7), .val (.ref r8), .val (.ref b9), .val (.ref b12), .unset, .unset, .unset, .unset, .unset, .unset, .unset, .unset, .unset, .unset, .unset, .unset, .unset, .unset] [(.ref b14)])) _
    refine XS.astore X15.here hx rfl (hb hby at_80) rfl rfl (l' := #[.val (.int p1), .val (.int p2), .val (.int p3), .val (.int p4), .val (.int p5), .val (.int p6), .val (.ref r7), .val (.ref r8), .val (.ref b9), .val (.ref b12), .val (.ref b14), .unset, .unset, .unset, .unset, .unset, .unset, .unset, .unset, .unset, .unset, .unset, .unset, .unset]) rfl ?_
    show Steps p.tables e below (T15.setTop (mkF m 82 #[.val (.int p1), .val (.int p2), .val (.int p3), .val (.int p4), .val (.int p5), .val (.int p6), .val (.ref r7), .val (.ref r8), .val (.ref b9), .val (.ref b12), .val (.ref b14), .unset, .unset, .unset, .unset, .unset, .unset, .unset, .unset, .unset, .unset, .unset, .unset, .unset] [])) _
    refine st16 _ ?_
    show Steps p.tables e below (T16.setTop (mkF m 85 #[.val (.int p1), .val (.int p2), .val (.int p3), .val (.int p4), .val (.int p5), .val (.int p6), .val (.ref r7), .val (.ref r8), .val (.ref b9), .val (.ref b12), .val (.ref b14), .unset, .unset, .unset, .unset, .unset, .unset, .unset, .unset, .unset, .unset, .unset, .unset, .unset] [(.ref b16)])) _
    refine XS.dup X16.here hx rfl (hb hby at_85) rfl rfl ?_
    show Steps p.tables e below (T16.setTop (mkF m 86 #[.val (.int p1), .val (.int p2), .val (.int p3), .val (.int p4), .val (.int p5), .val (.int p6), .val (.ref r7), .val (.ref r8), .val (.ref b9), .val (.ref b12), .val (.ref b14), .unset, .unset, .unset, .unset, .unset, .unset, .unset, .unset, .unset, .unset, .unset, .unset, .unset] [(.ref b16), (.ref b16)])) _
    refine XS.aload X16.here hx rfl (hb hby at_86) rfl rfl ?_
    show Steps p.tables e below (T16.setTop (mkF m 88 #[.val (.int p1), .val (.int p2), .val (.int p3), .val (.int p4), .val (.int p5), .val (.int p6), .val (.ref r7), .val (.ref r8), .val (.ref b9), .val (.ref b12), .val (.ref b14), .unset, .unset, .unset, .unset, .unset, .unset, .unset, .unset, .unset, .unset, .unset, .unset, .unset] [(.ref r8), (.ref b16), (.ref b16)])) _
    refine XS.iloadN X16.here hx rfl (hb hby at_88) rfl ?_
    show Steps p.tables e below (T16.setTop (mkF m 89 #[.val (.int p1), .val (.int p2), .val (.int p3), .val (.int p4), .val (.int p5), .val (.int p6), .val (.ref r7), .val (.ref r8), .val (.ref b9), .val (.ref b12), .val (.ref b14), .unset, .unset, .unset, .unset, .unset, .unset, .unset, .unset, .unset, .unset, .unset, .unset, .unset] [(.int p3), (.ref r8), (.ref b16), (.ref b16)])) _
    refine XS.iloadN X16.here hx rfl (hb hby at_89) rfl ?_
    show Steps p.tables e below (T16.setTop (mkF m 90 #[.val (.int p1), .val (.int p2), .val (.int p3), .val (.int p4), .val (.int p5), .val (.int p6), .val (.ref r7), .val (.ref r8), .val (.ref b9), .val (.ref b12), .val (.ref b14), .unset, .unset, .unset, .unset, .unset, .unset, .unset, .unset, .unset, .unset, .unset, .unset, .unset] [(.int p4), (.int p3), (.ref r8), (.ref b16), (.ref b16)])) _
    refine st17.trans ?_
    show Steps p.tables e below (T17.setTop (mkF m 93 #[.val (.int p1), .val (.int p2), .val (.int p3), .val (.int p4), .val (.int p5), .val (.int p6), .val (.ref r7), .val (.ref r8), .val (.ref b9), .val (.ref b12), .val (.ref b14), .unset, .unset, .unset, .unset, .unset, .unset, .unset, .unset, .unset, .unset, .unset, .unset, .unset] [(.ref b16)])) _
    refine XS.astore X17.here hx rfl (hb hby at_93) rfl rfl (l' := #[.val (.int p1), .val (.int p2), .val (.int p3), .val (.int p4), .val (.int p5), .val (.int p6), .val (.ref r7), .val (.ref r8), .val (.ref b9), .val (.ref b12), .val (.ref b14), .val (.ref b16), .unset, .unset, .unset, .unset, .unset, .unset, .unset, .unset, .unset, .unset, .unset, .unset]) rfl ?_
    show Steps p.tables e below (T17.setTop (mkF m 95 #[.val (.int p1), .val (.int p2), .val (.int p3), .val (.int p4), .val (.int p5), .val (.int p6), .val (.ref r7), .val (.ref r8), .val (.ref b9), .val (.ref b12), .val (.ref b14), .val (.ref b16), .unset, .unset, .unset, .unset, .unset, .unset, .unset, .unset, .unset, .unset, .unset, .unset] [])) _
    refine st18 _ ?_
    show Steps p.tables e below (T18.setTop (mkF m 98 #[.val (.int p1), .val (.int p2), .val (.int p3), .val (.int p4), .val (.int p5), .val (.int p6), .val (.ref r7), .val (.ref r8), .val (.ref b9), .val (.ref b12), .val (.ref b14), .val (.ref b16), .unset, .unset, .unset, .unset, .unset, .unset, .unset, .unset, .unset, .unset, .unset, .unset] [(.ref b18)])) _
    refine XS.dup X18.here hx rfl (hb hby at_98) rfl rfl ?_
    show Steps p.tables e below (T18.setTop (mkF m 99 #[.val (.int p1), .val (.int p2), .val (.int p3), .val (.int p4), .val (.int p5), .val (.int p6), .val (.ref r7), .val (.ref r8), .val (.ref b9), .val (.ref b12), .val (.ref b14), .val (.ref b16), .unset, .unset, .unset, .unset, .unset, .unset, .unset, .unset, .unset, .unset, .unset, .unset] [(.ref b18), (.ref b18)])) _
    refine XS.aload X18.here hx rfl (hb hby at_99) rfl rfl ?_
    show Steps p.tables e below (T18.setTop (mkF m 101 #[.val (.int p1), .val (.int p2), .val (.int p3), .val (.int p4), .val (.int p5), .val (.int p6), .val (.ref r7), .val (.ref r8), .val (.ref b9), .val (.ref b12), .val (.ref b14), .val (.ref b16), .unset, .unset, .unset, .unset, .unset, .unset, .unset, .unset, .unset, .unset, .unset, .unset] [(.ref r7), (.ref b18), (.ref b18)])) _
    refine XS.iloadN X18.here hx rfl (hb hby at_101) rfl ?_
    show Steps p.tables e below (T18.setTop (mkF m 102 #[.val (.int p1), .val (.int p2), .val (.int p3), .val (.int p4), .val (.int p5), .val (.int p6), .val (.ref r7), .val (.ref r8), .val (.ref b9), .val (.ref b12), .val (.ref b14), .val (.ref b16), .unset, .unset, .unset, .unset, .unset, .unset, .unset, .unset, .unset, .unset, .unset, .unset] [(.int p3), (.ref r7), (.ref b18), (.ref b18)])) _
    refine XS.iloadN X18.here hx rfl (hb hby at_102) rfl ?_
    show Steps p.tables e below (T18.setTop (mkF m 103 #[.val (.int p1), .val (.int p2), .val (.int p3), .val (.int p4), .val (.int p5), .val (.int p6), .val (.ref r7), .val (.ref r8), .val (.ref b9), .val (.ref b12), .val (.ref b14), .val (.ref b16), .unset, .unset, .unset, .unset, .unset, .unset, .unset, .unset, .unset, .unset, .unset, .unset] [(.int p2), (.int p3), (.ref r7), (.ref b18), (.ref b18)])) _
    refine st19.trans ?_
    show Steps p.tables e below (T19.setTop (mkF m 106 #[.val (.int p1), .val (.int p2), .val (.int p3), .val (.int p4), .val (.int p5), .val (.int p6), .val (.ref r7), .val (.ref r8), .val (.ref b9), .val (.ref b12), .val (.ref b14), .val (.ref b16), .unset, .unset, .unset, .unset, .unset, .unset, .unset, .unset, .unset, .unset, .unset, .unset] [(.ref b18)])) _
    refine XS.astore X19.here hx rfl (hb hby at_106) rfl rfl (l' := #[.val (.int p1), .val (.int p2), .val (.int p3), .val (.int p4), .val (.int p5), .val (.int p6), .val (.ref r7), .val (.ref r8), .val (.ref b9), .val (.ref b12), .val (.ref b14), .val (.ref b16), .val (.ref b18), .unset, .unset, .unset, .unset, .unset, .unset, .unset, .unset, .unset, .unset, .unset]) rfl ?_
    show Steps p.tables e below (T19.setTop (mkF m 108 #[.val (.int p1), .val (.int p2), .val (.int p3), .val (.int p4), .val (.int p5), .val (.int p6), .val (.ref r7), .val (.ref r8), .val (.ref b9), .val (.ref b12), .val (.ref b14), .val (.ref b16), .val (.ref b18), .unset, .unset, .unset, .unset, .unset, .unset, .unset, .unset, .unset, .unset, .unset] [])) _
    refine XS.iload X19.here hx rfl (hb hby at_108) rfl ?_
    show Steps p.tables e below (T19.setTop (mkF m 110 #[.val (.int p1), .val (.int p2), .val (.int p3), .val (.int p4), .val (.int p5), .val (.int p6), .val (.ref r7), .val (.ref r8), .val (.ref b9), .val (.ref b12), .val (.ref b14), .val (.ref b16), .val (.ref b18), .unset, .unset, .unset, .unset, .unset, .unset, .unset, .unset, .unset, .unset, .unset] [(.int p5)])) _
    refine XS.iconst X19.here hx rfl (hb hby at_110) ?_
    show Steps p.tables e below (T19.setTop (mkF m 111 #[.val (.int p1), .val (.int p2), .val (.int p3), .val (.int p4), .val (.int p5), .val (.int p6), .val (.ref r7), .val (.ref r8), .val (.ref b9), .val (.ref b12), .val (.ref b14), .val (.ref b16), .val (.ref b18), .unset, .unset, .unset, .unset, .unset, .unset, .unset, .unset, .unset, .unset, .unset] [(.int (2 : Int32)), (.int p5)])) _
    refine XS.iushr X19.here hx rfl (hb hby at_111) rfl ?_
    show Steps p.tables e below (T19.setTop (mkF m 112 #[.val (.int p1), .val (.int p2), .val (.int p3), .val (.int p4), .val (.int p5), .val (.int p6), .val (.ref r7), .val (.ref r8), .val (.ref b9), .val (.ref b12), .val (.ref b14), .val (.ref b16), .val (.ref b18), .unset, .unset, .unset, .unset, .unset, .unset, .unset, .unset, .unset, .unset, .unset] [(.int ((p5.toUInt32 >>> ((2 : Int32) &&& 31).toUInt32).toInt32))])) _
    refine XS.iconst X19.here hx rfl (hb hby at_112) ?_
    show Steps p.tables e below (T19.setTop (mkF m 113 #[.val (.int p1), .val (.int p2), .val (.int p3), .val (.int p4), .val (.int p5), .val (.int p6), .val (.ref r7), .val (.ref r8), .val (.ref b9), .val (.ref b12), .val (.ref b14), .val (.ref b16), .val (.ref b18), .unset, .unset, .unset, .unset, .unset, .unset, .unset, .unset, .unset, .unset, .unset] [(.int (1 : Int32)), (.int ((p5.toUInt32 >>> ((2 : Int32) &&& 31).toUInt32).toInt32))])) _
    refine XS.iand X19.here hx rfl (hb hby at_113) rfl ?_
    show Steps p.tables e below (T19.setTop (mkF m 114 #[.val (.int p1), .val (.int p2), .val (.int p3), .val (.int p4), .val (.int p5), .val (.int p6), .val (.ref r7), .val (.ref r8), .val (.ref b9), .val (.ref b12), .val (.ref b14), .val (.ref b16), .val (.ref b18), .unset, .unset, .unset, .unset, .unset, .unset, .unset, .unset, .unset, .unset, .unset] [(.int (((p5.toUInt32 >>> ((2 : Int32) &&& 31).toUInt32).toInt32) &&& (1 : Int32)))])) _
    refine XS.ifNo X19.here hx rfl (hb hby at_114) rfl ((if0 _ _).trans (feq hc114).1) ?_
    show Steps p.tables e below (T19.setTop (mkF m 117 #[.val (.int p1), .val (.int p2), .val (.int p3), .val (.int p4), .val (.int p5), .val (.int p6), .val (.ref r7), .val (.ref r8), .val (.ref b9), .val (.ref b12), .val (.ref b14), .val (.ref b16), .val (.ref b18), .unset, .unset, .unset, .unset, .unset, .unset, .unset, .unset, .unset, .unset, .unset] [])) _
    refine XS.iconst X19.here hx rfl (hb hby at_117) ?_
    show Steps p.tables e below (T19.setTop (mkF m 118 #[.val (.int p1), .val (.int p2), .val (.int p3), .val (.int p4), .val (.int p5), .val (.int p6), .val (.ref r7), .val (.ref r8), .val (.ref b9), .val (.ref b12), .val (.ref b14), .val (.ref b16), .val (.ref b18), .unset, .unset, .unset, .unset, .unset, .unset, .unset, .unset, .unset, .unset, .unset] [(.int (1 : Int32))])) _
    refine XS.goto X19.here hx rfl (pc0 := 118) (pc' := 122) rfl (hb hby at_118) (by decide) (by decide) ?_
    show Steps p.tables e below (T19.setTop (mkF m 122 #[.val (.int p1), .val (.int p2), .val (.int p3), .val (.int p4), .val (.int p5), .val (.int p6), .val (.ref r7), .val (.ref r8), .val (.ref b9), .val (.ref b12), .val (.ref b14), .val (.ref b16), .val (.ref b18), .unset, .unset, .unset, .unset, .unset, .unset, .unset, .unset, .unset, .unset, .unset] [(.int (1 : Int32))])) _
    refine XS.istore X19.here hx rfl (hb hby at_122) rfl (l' := #[.val (.int p1), .val (.int p2), .val (.int p3), .val (.int p4), .val (.int p5), .val (.int p6), .val (.ref r7), .val (.ref r8), .val (.ref b9), .val (.ref b12), .val (.ref b14), .val (.ref b16), .val (.ref b18), .val (.int (1 : Int32)), .unset, .unset, .unset, .unset, .unset, .unset, .unset, .unset, .unset, .unset]) rfl ?_
    show Steps p.tables e below (T19.setTop (mkF m 124 #[.val (.int p1), .val (.int p2), .val (.int p3), .val (.int p4), .val (.int p5), .val (.int p6), .val (.ref r7), .val (.ref r8), .val (.ref b9), .val (.ref b12), .val (.ref b14), .val (.ref b16), .val (.ref b18), .val (.int (1 : Int32)), .unset, .unset, .unset, .unset, .unset, .unset, .unset, .unset, .unset, .unset] [])) _
    refine XS.iload X19.here hx rfl (hb hby at_124) rfl ?_
    show Steps p.tables e below (T19.setTop (mkF m 126 #[.val (.int p1), .val (.int p2), .val (.int p3), .val (.int p4), .val (.int p5), .val (.int p6), .val (.ref r7), .val (.ref r8), .val (.ref b9), .val (.ref b12), .val (.ref b14), .val (.ref b16), .val (.ref b18), .val (.int (1 : Int32)), .unset, .unset, .unset, .unset, .unset, .unset, .unset, .unset, .unset, .unset] [(.int p5)])) _
    refine XS.iconst X19.here hx rfl (hb hby at_126) ?_
    show Steps p.tables e below (T19.setTop (mkF m 127 #[.val (.int p1), .val (.int p2), .val (.int p3), .val (.int p4), .val (.int p5), .val (.int p6), .val (.ref r7), .val (.ref r8), .val (.ref b9), .val (.ref b12), .val (.ref b14), .val (.ref b16), .val (.ref b18), .val (.int (1 : Int32)), .unset, .unset, .unset, .unset, .unset, .unset, .unset, .unset, .unset, .unset] [(.int (3 : Int32)), (.int p5)])) _
    refine XS.iushr X19.here hx rfl (hb hby at_127) rfl ?_
    show Steps p.tables e below (T19.setTop (mkF m 128 #[.val (.int p1), .val (.int p2), .val (.int p3), .val (.int p4), .val (.int p5), .val (.int p6), .val (.ref r7), .val (.ref r8), .val (.ref b9), .val (.ref b12), .val (.ref b14), .val (.ref b16), .val (.ref b18), .val (.int (1 : Int32)), .unset, .unset, .unset, .unset, .unset, .unset, .unset, .unset, .unset, .unset] [(.int ((p5.toUInt32 >>> ((3 : Int32) &&& 31).toUInt32).toInt32))])) _
    refine XS.iconst X19.here hx rfl (hb hby at_128) ?_
    show Steps p.tables e below (T19.setTop (mkF m 129 #[.val (.int p1), .val (.int p2), .val (.int p3), .val (.int p4), .val (.int p5), .val (.int p6), .val (.ref r7), .val (.ref r8), .val (.ref b9), .val (.ref b12), .val (.ref b14), .val (.ref b16), .val (.ref b18), .val (.int (1 : Int32)), .unset, .unset, .unset, .unset, .unset, .unset, .unset, .unset, .unset, .unset] [(.int (1 : Int32)), (.int ((p5.toUInt32 >>> ((3 : Int32) &&& 31).toUInt32).toInt32))])) _
    refine XS.iand X19.here hx rfl (hb hby at_129) rfl ?_
    show Steps p.tables e below (T19.setTop (mkF m 130 #[.val (.int p1), .val (.int p2), .val (.int p3), .val (.int p4), .val (.int p5), .val (.int p6), .val (.ref r7), .val (.ref r8), .val (.ref b9), .val (.ref b12), .val (.ref b14), .val (.ref b16), .val (.ref b18), .val (.int (1 : Int32)), .unset, .unset, .unset, .unset, .unset, .unset, .unset, .unset, .unset, .unset] [(.int (((p5.toUInt32 >>> ((3 : Int32) &&& 31).toUInt32).toInt32) &&& (1 : Int32)))])) _
    refine XS.ifYes X19.here hx rfl (pc0 := 130) (pc' := 137) rfl (hb hby at_130) rfl ((if0 _ _).trans (teq hc130).1) (by decide) (by decide) ?_
    show Steps p.tables e below (T19.setTop (mkF m 137 #[.val (.int p1), .val (.int p2), .val (.int p3), .val (.int p4), .val (.int p5), .val (.int p6), .val (.ref r7), .val (.ref r8), .val (.ref b9), .val (.ref b12), .val (.ref b14), .val (.ref b16), .val (.ref b18), .val (.int (1 : Int32)), .unset, .unset, .unset, .unset, .unset, .unset, .unset, .unset, .unset, .unset] [])) _
    refine XS.iconst X19.here hx rfl (hb hby at_137) ?_
    show Steps p.tables e below (T19.setTop (mkF m 138 #[.val (.int p1), .val (.int p2), .val (.int p3), .val (.int p4), .val (.int p5), .val (.int p6), .val (.ref r7), .val (.ref r8), .val (.ref b9), .val (.ref b12), .val (.ref b14), .val (.ref b16), .val (.ref b18), .val (.int (1 : Int32)), .unset, .unset, .unset, .unset, .unset, .unset, .unset, .unset, .unset, .unset] [(.int (0 : Int32))])) _
    refine XS.istore X19.here hx rfl (hb hby at_138) rfl (l' := #[.val (.int p1), .val (.int p2), .val (.int p3), .val (.int p4), .val (.int p5), .val (.int p6), .val (.ref r7), .val (.ref r8), .val (.ref b9), .val (.ref b12), .val (.ref b14), .val (.ref b16), .val (.ref b18), .val (.int (1 : Int32)), .val (.int (0 : Int32)), .unset, .unset, .unset, .unset, .unset, .unset, .unset, .unset, .unset]) rfl ?_
    show Steps p.tables e below (T19.setTop (mkF m 140 #[.val (.int p1), .val (.int p2), .val (.int p3), .val (.int p4), .val (.int p5), .val (.int p6), .val (.ref r7), .val (.ref r8), .val (.ref b9), .val (.ref b12), .val (.ref b14), .val (.ref b16), .val (.ref b18), .val (.int (1 : Int32)), .val (.int (0 : Int32)), .unset, .unset, .unset, .unset, .unset, .unset, .unset, .unset, .unset] [])) _
    refine st20 _ ?_
    show Steps p.tables e below (T20.setTop (mkF m 143 #[.val (.int p1), .val (.int p2), .val (.int p3), .val (.int p4), .val (.int p5), .val (.int p6), .val (.ref r7), .val (.ref r8), .val (.ref b9), .val (.ref b12), .val (.ref b14), .val (.ref b16), .val (.ref b18), .val (.int (1 : Int32)), .val (.int (0 : Int32)), .unset, .unset, .unset, .unset, .unset, .unset, .unset, .unset, .unset] [(.ref b20)])) _
    refine XS.dup X20.here hx rfl (hb hby at_143) rfl rfl ?_
    show Steps p.tables e below (T20.setTop (mkF m 144 #[.val (.int p1), .val (.int p2), .val (.int p3), .val (.int p4), .val (.int p5), .val (.int p6), .val (.ref r7), .val (.ref r8), .val (.ref b9), .val (.ref b12), .val (.ref b14), .val (.ref b16), .val (.ref b18), .val (.int (1 : Int32)), .val (.int (0 : Int32)), .unset, .unset, .unset, .unset, .unset, .unset, .unset, .unset, .unset] [(.ref b20), (.ref b20)])) _
    refine XS.iload X20.here hx rfl (hb hby at_144) rfl ?_
    show Steps p.tables e below (T20.setTop (mkF m 146 #[.val (.int p1), .val (.int p2), .val (.int p3), .val (.int p4), .val (.int p5), .val (.int p6), .val (.ref r7), .val (.ref r8), .val (.ref b9), .val (.ref b12), .val (.ref b14), .val (.ref b16), .val (.ref b18), .val (.int (1 : Int32)), .val (.int (0 : Int32)), .unset, .unset, .unset, .unset, .unset, .unset, .unset, .unset, .unset] [(.int p5), (.ref b20), (.ref b20)])) _
    refine st21 _ ?_
    show Steps p.tables e below (T21.setTop (mkF m 149 #[.val (.int p1), .val (.int p2), .val (.int p3), .val (.int p4), .val (.int p5), .val (.int p6), .val (.ref r7), .val (.ref r8), .val (.ref b9), .val (.ref b12), .val (.ref b14), .val (.ref b16), .val (.ref b18), .val (.int (1 : Int32)), .val (.int (0 : Int32)), .unset, .unset, .unset, .unset, .unset, .unset, .unset, .unset, .unset] [(.ref wk), (.ref b20), (.ref b20)])) _
    refine XS.aload X21.here hx rfl (hb hby at_149) rfl rfl ?_
    show Steps p.tables e below (T21.setTop (mkF m 151 #[.val (.int p1), .val (.int p2), .val (.int p3), .val (.int p4), .val (.int p5), .val (.int p6), .val (.ref r7), .val (.ref r8), .val (.ref b9), .val (.ref b12), .val (.ref b14), .val (.ref b16), .val (.ref b18), .val (.int (1 : Int32)), .val (.int (0 : Int32)), .unset, .unset, .unset, .unset, .unset, .unset, .unset, .unset, .unset] [(.ref b12), (.ref wk), (.ref b20), (.ref b20)])) _
    refine XS.aconstNull X21.here hx rfl (hb hby at_151) ?_
    show Steps p.tables e below (T21.setTop (mkF m 152 #[.val (.int p1), .val (.int p2), .val (.int p3), .val (.int p4), .val (.int p5), .val (.int p6), .val (.ref r7), .val (.ref r8), .val (.ref b9), .val (.ref b12), .val (.ref b14), .val (.ref b16), .val (.ref b18), .val (.int (1 : Int32)), .val (.int (0 : Int32)), .unset, .unset, .unset, .unset, .unset, .unset, .unset, .unset, .unset] [.null, (.ref b12), (.ref wk), (.ref b20), (.ref b20)])) _
    refine XS.aload X21.here hx rfl (hb hby at_152) rfl rfl ?_
    show Steps p.tables e below (T21.setTop (mkF m 154 #[.val (.int p1), .val (.int p2), .val (.int p3), .val (.int p4), .val (.int p5), .val (.int p6), .val (.ref r7), .val (.ref r8), .val (.ref b9), .val (.ref b12), .val (.ref b14), .val (.ref b16), .val (.ref b18), .val (.int (1 : Int32)), .val (.int (0 : Int32)), .unset, .unset, .unset, .unset, .unset, .unset, .unset, .unset, .unset] [(.ref b14), .null, (.ref b12), (.ref wk), (.ref b20), (.ref b20)])) _
    refine XS.iload X21.here hx rfl (hb hby at_154) rfl ?_
    show Steps p.tables e below (T21.setTop (mkF m 156 #[.val (.int p1), .val (.int p2), .val (.int p3), .val (.int p4), .val (.int p5), .val (.int p6), .val (.ref r7), .val (.ref r8), .val (.ref b9), .val (.ref b12), .val (.ref b14), .val (.ref b16), .val (.ref b18), .val (.int (1 : Int32)), .val (.int (0 : Int32)), .unset, .unset, .unset, .unset, .unset, .unset, .unset, .unset, .unset] [(.int (1 : Int32)), (.ref b14), .null, (.ref b12), (.ref wk), (.ref b20), (.ref b20)])) _
    refine st22.trans ?_
    show Steps p.tables e below (T22.setTop (mkF m 159 #[.val (.int p1), .val (.int p2), .val (.int p3), .val (.int p4), .val (.int p5), .val (.int p6), .val (.ref r7), .val (.ref r8), .val (.ref b9), .val (.ref b12), .val (.ref b14), .val (.ref b16), .val (.ref b18), .val (.int (1 : Int32)), .val (.int (0 : Int32)), .unset, .unset, .unset, .unset, .unset, .unset, .unset, .unset, .unset] [(.ref b20)])) _
    refine XS.astore X22.here hx rfl (hb hby at_159) rfl rfl (l' := #[.val (.int p1), .val (.int p2), .val (.int p3), .val (.int p4), .val (.int p5), .val (.int p6), .val (.ref r7), .val (.ref r8), .val (.ref b9), .val (.ref b12), .val (.ref b14), .val (.ref b16), .val (.ref b18), .val (.int (1 : Int32)), .val (.int (0 : Int32)), .val (.ref b20), .unset, .unset, .unset, .unset, .unset, .unset, .unset, .unset]) rfl ?_
    show Steps p.tables e below (T22.setTop (mkF m 161 #[.val (.int p1), .val (.int p2), .val (.int p3), .val (.int p4), .val (.int p5), .val (.int p6), .val (.ref r7), .val (.ref r8), .val (.ref b9), .val (.ref b12), .val (.ref b14), .val (.ref b16), .val (.ref b18), .val (.int (1 : Int32)), .val (.int (0 : Int32)), .val (.ref b20), .unset, .unset, .unset, .unset, .unset, .unset, .unset, .unset] [])) _
    refine XS.aload X22.here hx rfl (hb hby at_161) rfl rfl ?_
    show Steps p.tables e below (T22.setTop (mkF m 163 #[.val (.int p1), .val (.int p2), .val (.int p3), .val (.int p4), .val (.int p5), .val (.int p6), .val (.ref r7), .val (.ref r8), .val (.ref b9), .val (.ref b12), .val (.ref b14), .val (.ref b16), .val (.ref b18), .val (.int (1 : Int32)), .val (.int (0 : Int32)), .val (.ref b20), .unset, .unset, .unset, .unset, .unset, .unset, .unset, .unset] [(.ref b20)])) _
    refine st23.trans ?_
    show Steps p.tables e below (T23.setTop (mkF m 166 #[.val (.int p1), .val (.int p2), .val (.int p3), .val (.int p4), .val (.int p5), .val (.int p6), .val (.ref r7), .val (.ref r8), .val (.ref b9), .val (.ref b12), .val (.ref b14), .val (.ref b16), .val (.ref b18), .val (.int (1 : Int32)), .val (.int (0 : Int32)), .val (.ref b20), .unset, .unset, .unset, .unset, .unset, .unset, .unset, .unset] [(.ref b14)])) _
    refine XS.aload X23.here hx rfl (hb hby at_166) rfl rfl ?_
    show Steps p.tables e below (T23.setTop (mkF m 168 #[.val (.int p1), .val (.int p2), .val (.int p3), .val (.int p4), .val (.int p5), .val (.int p6), .val (.ref r7), .val (.ref r8), .val (.ref b9), .val (.ref b12), .val (.ref b14), .val (.ref b16), .val (.ref b18), .val (.int (1 : Int32)), .val (.int (0 : Int32)), .val (.ref b20), .unset, .unset, .unset, .unset, .unset, .unset, .unset, .unset] [(.ref b14), (.ref b14)])) _
    refine Jvm.RoadKit.acmp (g := (mkF m 168 #[.val (.int p1), .val (.int p2), .val (.int p3), .val (.int p4), .val (.int p5), .val (.int p6), .val (.ref r7), .val (.ref r8), .val (.ref b9), .val (.ref b12), .val (.ref b14), .val (.ref b16), .val (.ref b18), .val (.int (1 : Int32)), .val (.int (0 : Int32)), .val (.ref b20), .unset, .unset, .unset, .unset, .unset, .unset, .unset, .unset] [(.ref b14), (.ref b14)])) X23 hx rfl rfl rfl (pc0 := 168) (pc' := 171) (same := true) rfl (hb hby at_168) rfl (decide_eq_true rfl) (by decide) (by decide) ?_
    show Steps p.tables e below (T23.setTop (mkF m 171 #[.val (.int p1), .val (.int p2), .val (.int p3), .val (.int p4), .val (.int p5), .val (.int p6), .val (.ref r7), .val (.ref r8), .val (.ref b9), .val (.ref b12), .val (.ref b14), .val (.ref b16), .val (.ref b18), .val (.int (1 : Int32)), .val (.int (0 : Int32)), .val (.ref b20), .unset, .unset, .unset, .unset, .unset, .unset, .unset, .unset] [])) _
    refine XS.iconst X23.here hx rfl (hb hby at_171) ?_
    show Steps p.tables e below (T23.setTop (mkF m 172 #[.val (.int p1), .val (.int p2), .val (.int p3), .val (.int p4), .val (.int p5), .val (.int p6), .val (.ref r7), .val (.ref r8), .val (.ref b9), .val (.ref b12), .val (.ref b14), .val (.ref b16), .val (.ref b18), .val (.int (1 : Int32)), .val (.int (0 : Int32)), .val (.ref b20), .unset, .unset, .unset, .unset, .unset, .unset, .unset, .unset] [(.int (1 : Int32))])) _
    refine XS.goto X23.here hx rfl (pc0 := 172) (pc' := 176) rfl (hb hby at_172) (by decide) (by decide) ?_
    show Steps p.tables e below (T23.setTop (mkF m 176 #[.val (.int p1), .val (.int p2), .val (.int p3), .val (.int p4), .val (.int p5), .val (.int p6), .val (.ref r7), .val (.ref r8), .val (.ref b9), .val (.ref b12), .val (.ref b14), .val (.ref b16), .val (.ref b18), .val (.int (1 : Int32)), .val (.int (0 : Int32)), .val (.ref b20), .unset, .unset, .unset, .unset, .unset, .unset, .unset, .unset] [(.int (1 : Int32))])) _
    refine XS.istore X23.here hx rfl (hb hby at_176) rfl (l' := #[.val (.int p1), .val (.int p2), .val (.int p3), .val (.int p4), .val (.int p5), .val (.int p6), .val (.ref r7), .val (.ref r8), .val (.ref b9), .val (.ref b12), .val (.ref b14), .val (.ref b16), .val (.ref b18), .val (.int (1 : Int32)), .val (.int (0 : Int32)), .val (.ref b20), .val (.int (1 : Int32)), .unset, .unset, .unset, .unset, .unset, .unset, .unset]) rfl ?_
    show Steps p.tables e below (T23.setTop (mkF m 178 #[.val (.int p1), .val (.int p2), .val (.int p3), .val (.int p4), .val (.int p5), .val (.int p6), .val (.ref r7), .val (.ref r8), .val (.ref b9), .val (.ref b12), .val (.ref b14), .val (.ref b16), .val (.ref b18), .val (.int (1 : Int32)), .val (.int (0 : Int32)), .val (.ref b20), .val (.int (1 : Int32)), .unset, .unset, .unset, .unset, .unset, .unset, .unset] [])) _
    refine XS.iload X23.here hx rfl (hb hby at_178) rfl ?_
    show Steps p.tables e below (T23.setTop (mkF m 180 #[.val (.int p1), .val (.int p2), .val (.int p3), .val (.int p4), .val (.int p5), .val (.int p6), .val (.ref r7), .val (.ref r8), .val (.ref b9), .val (.ref b12), .val (.ref b14), .val (.ref b16), .val (.ref b18), .val (.int (1 : Int32)), .val (.int (0 : Int32)), .val (.ref b20), .val (.int (1 : Int32)), .unset, .unset, .unset, .unset, .unset, .unset, .unset] [(.int (0 : Int32))])) _
    refine XS.ifYes X23.here hx rfl (pc0 := 180) (pc' := 187) rfl (hb hby at_180) rfl ((if0 _ _).trans (teq (rfl : (0 : Int32) = (0 : Int32))).1) (by decide) (by decide) ?_
    show Steps p.tables e below (T23.setTop (mkF m 187 #[.val (.int p1), .val (.int p2), .val (.int p3), .val (.int p4), .val (.int p5), .val (.int p6), .val (.ref r7), .val (.ref r8), .val (.ref b9), .val (.ref b12), .val (.ref b14), .val (.ref b16), .val (.ref b18), .val (.int (1 : Int32)), .val (.int (0 : Int32)), .val (.ref b20), .val (.int (1 : Int32)), .unset, .unset, .unset, .unset, .unset, .unset, .unset] [])) _
    refine XS.aload X23.here hx rfl (hb hby at_187) rfl rfl ?_
    show Steps p.tables e below (T23.setTop (mkF m 189 #[.val (.int p1), .val (.int p2), .val (.int p3), .val (.int p4), .val (.int p5), .val (.int p6), .val (.ref r7), .val (.ref r8), .val (.ref b9), .val (.ref b12), .val (.ref b14), .val (.ref b16), .val (.ref b18), .val (.int (1 : Int32)), .val (.int (0 : Int32)), .val (.ref b20), .val (.int (1 : Int32)), .unset, .unset, .unset, .unset, .unset, .unset, .unset] [(.ref b16)])) _
    refine XS.astore X23.here hx rfl (hb hby at_189) rfl rfl (l' := #[.val (.int p1), .val (.int p2), .val (.int p3), .val (.int p4), .val (.int p5), .val (.int p6), .val (.ref r7), .val (.ref r8), .val (.ref b9), .val (.ref b12), .val (.ref b14), .val (.ref b16), .val (.ref b18), .val (.int (1 : Int32)), .val (.int (0 : Int32)), .val (.ref b20), .val (.int (1 : Int32)), .val (.ref b16), .unset, .unset, .unset, .unset, .unset, .unset]) rfl ?_
    show Steps p.tables e below (T23.setTop (mkF m 191 #[.val (.int p1), .val (.int p2), .val (.int p3), .val (.int p4), .val (.int p5), .val (.int p6), .val (.ref r7), .val (.ref r8), .val (.ref b9), .val (.ref b12), .val (.ref b14), .val (.ref b16), .val (.ref b18), .val (.int (1 : Int32)), .val (.int (0 : Int32)), .val (.ref b20), .val (.int (1 : Int32)), .val (.ref b16), .unset, .unset, .unset, .unset, .unset, .unset] [])) _
    refine XS.aload X23.here hx rfl (hb hby at_191) rfl rfl ?_
    show Steps p.tables e below (T23.setTop (mkF m 193 #[.val (.int p1), .val (.int p2), .val (.int p3), .val (.int p4), .val (.int p5), .val (.int p6), .val (.ref r7), .val (.ref r8), .val (.ref b9), .val (.ref b12), .val (.ref b14), .val (.ref b16), .val (.ref b18), .val (.int (1 : Int32)), .val (.int (0 : Int32)), .val (.ref b20), .val (.int (1 : Int32)), .val (.ref b16), .unset, .unset, .unset, .unset, .unset, .unset] [(.ref b20)])) _
    refine XS.aload X23.here hx rfl (hb hby at_193) rfl rfl ?_
    show Steps p.tables e below (T23.setTop (mkF m 195 #[.val (.int p1), .val (.int p2), .val (.int p3), .val (.int p4), .val (.int p5), .val (.int p6), .val (.ref r7), .val (.ref r8), .val (.ref b9), .val (.ref b12), .val (.ref b14), .val (.ref b16), .val (.ref b18), .val (.int (1 : Int32)), .val (.int (0 : Int32)), .val (.ref b20), .val (.int (1 : Int32)), .val (.ref b16), .unset, .unset, .unset, .unset, .unset, .unset] [(.ref b16), (.ref b20)])) _
    refine st24.trans ?_
    show Steps p.tables e below (T24.setTop (mkF m 198 #[.val (.int p1), .val (.int p2), .val (.int p3), .val (.int p4), .val (.int p5), .val (.int p6), .val (.ref r7), .val (.ref r8), .val (.ref b9), .val (.ref b12), .val (.ref b14), .val (.ref b16), .val (.ref b18), .val (.int (1 : Int32)), .val (.int (0 : Int32)), .val (.ref b20), .val (.int (1 : Int32)), .val (.ref b16), .unset, .unset, .unset, .unset, .unset, .unset] [(.ref r24)])) _
    refine XS.astore X24.here hx rfl (hb hby at_198) rfl rfl (l' := #[.val (.int p1), .val (.int p2), .val (.int p3), .val (.int p4), .val (.int p5), .val (.int p6), .val (.ref r7), .val (.ref r8), .val (.ref b9), .val (.ref b12), .val (.ref b14), .val (.ref b16), .val (.ref b18), .val (.int (1 : Int32)), .val (.int (0 : Int32)), .val (.ref b20), .val (.int (1 : Int32)), .val (.ref b16), .val (.ref r24), .unset, .unset, .unset, .unset, .unset]) rfl ?_
    show Steps p.tables e below (T24.setTop (mkF m 200 #[.val (.int p1), .val (.int p2), .val (.int p3), .val (.int p4), .val (.int p5), .val (.int p6), .val (.ref r7), .val (.ref r8), .val (.ref b9), .val (.ref b12), .val (.ref b14), .val (.ref b16), .val (.ref b18), .val (.int (1 : Int32)), .val (.int (0 : Int32)), .val (.ref b20), .val (.int (1 : Int32)), .val (.ref b16), .val (.ref r24), .unset, .unset, .unset, .unset, .unset] [])) _
    refine XS.iload X24.here hx rfl (hb hby at_200) rfl ?_
    show Steps p.tables e below (T24.setTop (mkF m 202 #[.val (.int p1), .val (.int p2), .val (.int p3), .val (.int p4), .val (.int p5), .val (.int p6), .val (.ref r7), .val (.ref r8), .val (.ref b9), .val (.ref b12), .val (.ref b14), .val (.ref b16), .val (.ref b18), .val (.int (1 : Int32)), .val (.int (0 : Int32)), .val (.ref b20), .val (.int (1 : Int32)), .val (.ref b16), .val (.ref r24), .unset, .unset, .unset, .unset, .unset] [(.int (0 : Int32))])) _
    refine XS.ifYes X24.here hx rfl (pc0 := 202) (pc' := 210) rfl (hb hby at_202) rfl ((if0 _ _).trans (teq (rfl : (0 : Int32) = (0 : Int32))).1) (by decide) (by decide) ?_
    show Steps p.tables e below (T24.setTop (mkF m 210 #[.val (.int p1), .val (.int p2), .val (.int p3), .val (.int p4), .val (.int p5), .val (.int p6), .val (.ref r7), .val (.ref r8), .val (.ref b9), .val (.ref b12), .val (.ref b14), .val (.ref b16), .val (.ref b18), .val (.int (1 : Int32)), .val (.int (0 : Int32)), .val (.ref b20), .val (.int (1 : Int32)), .val (.ref b16), .val (.ref r24), .unset, .unset, .unset, .unset, .unset] [])) _
    refine XS.aload X24.here hx rfl (hb hby at_210) rfl rfl ?_
    show Steps p.tables e below (T24.setTop (mkF m 212 #[.val (.int p1), .val (.int p2), .val (.int p3), .val (.int p4), .val (.int p5), .val (.int p6), .val (.ref r7), .val (.ref r8), .val (.ref b9), .val (.ref b12), .val (.ref b14), .val (.ref b16), .val (.ref b18), .val (.int (1 : Int32)), .val (.int (0 : Int32)), .val (.ref b20), .val (.int (1 : Int32)), .val (.ref b16), .val (.ref r24), .unset, .unset, .unset, .unset, .unset] [(.ref b16)])) _
    refine XS.astore X24.here hx rfl (hb hby at_212) rfl rfl (l' := #[.val (.int p1), .val (.int p2), .val (.int p3), .val (.int p4), .val (.int p5), .val (.int p6), .val (.ref r7), .val (.ref r8), .val (.ref b9), .val (.ref b12), .val (.ref b14), .val (.ref b16), .val (.ref b18), .val (.int (1 : Int32)), .val (.int (0 : Int32)), .val (.ref b20), .val (.int (1 : Int32)), .val (.ref b16), .val (.ref r24), .val (.ref b16), .unset, .unset, .unset, .unset]) rfl ?_
    show Steps p.tables e below (T24.setTop (mkF m 214 #[.val (.int p1), .val (.int p2), .val (.int p3), .val (.int p4), .val (.int p5), .val (.int p6), .val (.ref r7), .val (.ref r8), .val (.ref b9), .val (.ref b12), .val (.ref b14), .val (.ref b16), .val (.ref b18), .val (.int (1 : Int32)), .val (.int (0 : Int32)), .val (.ref b20), .val (.int (1 : Int32)), .val (.ref b16), .val (.ref r24), .val (.ref b16), .unset, .unset, .unset, .unset] [])) _
    refine XS.aload X24.here hx rfl (hb hby at_214) rfl rfl ?_
    show Steps p.tables e below (T24.setTop (mkF m 216 #[.val (.int p1), .val (.int p2), .val (.int p3), .val (.int p4), .val (.int p5), .val (.int p6), .val (.ref r7), .val (.ref r8), .val (.ref b9), .val (.ref b12), .val (.ref b14), .val (.ref b16), .val (.ref b18), .val (.int (1 : Int32)), .val (.int (0 : Int32)), .val (.ref b20), .val (.int (1 : Int32)), .val (.ref b16), .val (.ref r24), .val (.ref b16), .unset, .unset, .unset, .unset] [(.ref r24)])) _
    refine st25.trans ?_
    show Steps p.tables e below (T25.setTop (mkF m 219 #[.val (.int p1), .val (.int p2), .val (.int p3), .val (.int p4), .val (.int p5), .val (.int p6), .val (.ref r7), .val (.ref r8), .val (.ref b9), .val (.ref b12), .val (.ref b14), .val (.ref b16), .val (.ref b18), .val (.int (1 : Int32)), .val (.int (0 : Int32)), .val (.ref b20), .val (.int (1 : Int32)), .val (.ref b16), .val (.ref r24), .val (.ref b16), .unset, .unset, .unset, .unset] [(.ref b16)])) _
    refine XS.aload X25.here hx rfl (hb hby at_219) rfl rfl ?_
    show Steps p.tables e below (T25.setTop (mkF m 221 #[.val (.int p1), .val (.int p2), .val (.int p3), .val (.int p4), .val (.int p5), .val (.int p6), .val (.ref r7), .val (.ref r8), .val (.ref b9), .val (.ref b12), .val (.ref b14), .val (.ref b16), .val (.ref b18), .val (.int (1 : Int32)), .val (.int (0 : Int32)), .val (.ref b20), .val (.int (1 : Int32)), .val (.ref b16), .val (.ref r24), .val (.ref b16), .unset, .unset, .unset, .unset] [(.ref b16), (.ref b16)])) _
    refine Jvm.RoadKit.acmp (g := (mkF m 221 #[.val (.int p1), .val (.int p2), .val (.int p3), .val (.int p4), .val (.int p5), .val (.int p6), .val (.ref r7), .val (.ref r8), .val (.ref b9), .val (.ref b12), .val (.ref b14), .val (.ref b16), .val (.ref b18), .val (.int (1 : Int32)), .val (.int (0 : Int32)), .val (.ref b20), .val (.int (1 : Int32)), .val (.ref b16), .val (.ref r24), .val (.ref b16), .unset, .unset, .unset, .unset] [(.ref b16), (.ref b16)])) X25 hx rfl rfl rfl (pc0 := 221) (pc' := 224) (same := true) rfl (hb hby at_221) rfl (decide_eq_true rfl) (by decide) (by decide) ?_
    show Steps p.tables e below (T25.setTop (mkF m 224 #[.val (.int p1), .val (.int p2), .val (.int p3), .val (.int p4), .val (.int p5), .val (.int p6), .val (.ref r7), .val (.ref r8), .val (.ref b9), .val (.ref b12), .val (.ref b14), .val (.ref b16), .val (.ref b18), .val (.int (1 : Int32)), .val (.int (0 : Int32)), .val (.ref b20), .val (.int (1 : Int32)), .val (.ref b16), .val (.ref r24), .val (.ref b16), .unset, .unset, .unset, .unset] [])) _
    refine XS.iconst X25.here hx rfl (hb hby at_224) ?_
    show Steps p.tables e below (T25.setTop (mkF m 225 #[.val (.int p1), .val (.int p2), .val (.int p3), .val (.int p4), .val (.int p5), .val (.int p6), .val (.ref r7), .val (.ref r8), .val (.ref b9), .val (.ref b12), .val (.ref b14), .val (.ref b16), .val (.ref b18), .val (.int (1 : Int32)), .val (.int (0 : Int32)), .val (.ref b20), .val (.int (1 : Int32)), .val (.ref b16), .val (.ref r24), .val (.ref b16), .unset, .unset, .unset, .unset] [(.int (1 : Int32))])) _
    refine XS.goto X25.here hx rfl (pc0 := 225) (pc' := 229) rfl (hb hby at_225) (by decide) (by decide) ?_
    show Steps p.tables e below (T25.setTop (mkF m 229 #[.val (.int p1), .val (.int p2), .val (.int p3), .val (.int p4), .val (.int p5), .val (.int p6), .val (.ref r7), .val (.ref r8), .val (.ref b9), .val (.ref b12), .val (.ref b14), .val (.ref b16), .val (.ref b18), .val (.int (1 : Int32)), .val (.int (0 : Int32)), .val (.ref b20), .val (.int (1 : Int32)), .val (.ref b16), .val (.ref r24), .val (.ref b16), .unset, .unset, .unset, .unset] [(.int (1 : Int32))])) _
    refine XS.istore X25.here hx rfl (hb hby at_229) rfl (l' := #[.val (.int p1), .val (.int p2), .val (.int p3), .val (.int p4), .val (.int p5), .val (.int p6), .val (.ref r7), .val (.ref r8), .val (.ref b9), .val (.ref b12), .val (.ref b14), .val (.ref b16), .val (.ref b18), .val (.int (1 : Int32)), .val (.int (0 : Int32)), .val (.ref b20), .val (.int (1 : Int32)), .val (.ref b16), .val (.ref r24), .val (.ref b16), .val (.int (1 : Int32)), .unset, .unset, .unset]) rfl ?_
    show Steps p.tables e below (T25.setTop (mkF m 231 #[.val (.int p1), .val (.int p2), .val (.int p3), .val (.int p4), .val (.int p5), .val (.int p6), .val (.ref r7), .val (.ref r8), .val (.ref b9), .val (.ref b12), .val (.ref b14), .val (.ref b16), .val (.ref b18), .val (.int (1 : Int32)), .val (.int (0 : Int32)), .val (.ref b20), .val (.int (1 : Int32)), .val (.ref b16), .val (.ref r24), .val (.ref b16), .val (.int (1 : Int32)), .unset, .unset, .unset] [])) _
    refine XS.aload X25.here hx rfl (hb hby at_231) rfl rfl ?_
    show Steps p.tables e below (T25.setTop (mkF m 233 #[.val (.int p1), .val (.int p2), .val (.int p3), .val (.int p4), .val (.int p5), .val (.int p6), .val (.ref r7), .val (.ref r8), .val (.ref b9), .val (.ref b12), .val (.ref b14), .val (.ref b16), .val (.ref b18), .val (.int (1 : Int32)), .val (.int (0 : Int32)), .val (.ref b20), .val (.int (1 : Int32)), .val (.ref b16), .val (.ref r24), .val (.ref b16), .val (.int (1 : Int32)), .unset, .unset, .unset] [(.ref r24)])) _
    refine XS.aload X25.here hx rfl (hb hby at_233) rfl rfl ?_
    show Steps p.tables e below (T25.setTop (mkF m 235 #[.val (.int p1), .val (.int p2), .val (.int p3), .val (.int p4), .val (.int p5), .val (.int p6), .val (.ref r7), .val (.ref r8), .val (.ref b9), .val (.ref b12), .val (.ref b14), .val (.ref b16), .val (.ref b18), .val (.int (1 : Int32)), .val (.int (0 : Int32)), .val (.ref b20), .val (.int (1 : Int32)), .val (.ref b16), .val (.ref r24), .val (.ref b16), .val (.int (1 : Int32)), .unset, .unset, .unset] [(.ref b18), (.ref r24)])) _
    refine st26.trans ?_
    show Steps p.tables e below (T26.setTop (mkF m 238 #[.val (.int p1), .val (.int p2), .val (.int p3), .val (.int p4), .val (.int p5), .val (.int p6), .val (.ref r7), .val (.ref r8), .val (.ref b9), .val (.ref b12), .val (.ref b14), .val (.ref b16), .val (.ref b18), .val (.int (1 : Int32)), .val (.int (0 : Int32)), .val (.ref b20), .val (.int (1 : Int32)), .val (.ref b16), .val (.ref r24), .val (.ref b16), .val (.int (1 : Int32)), .unset, .unset, .unset] [(.ref r26)])) _
    refine XS.astore X26.here hx rfl (hb hby at_238) rfl rfl (l' := #[.val (.int p1), .val (.int p2), .val (.int p3), .val (.int p4), .val (.int p5), .val (.int p6), .val (.ref r7), .val (.ref r8), .val (.ref b9), .val (.ref b12), .val (.ref b14), .val (.ref b16), .val (.ref b18), .val (.int (1 : Int32)), .val (.int (0 : Int32)), .val (.ref b20), .val (.int (1 : Int32)), .val (.ref b16), .val (.ref r24), .val (.ref b16), .val (.int (1 : Int32)), .val (.ref r26), .unset, .unset]) rfl ?_
    show Steps p.tables e below (T26.setTop (mkF m 240 #[.val (.int p1), .val (.int p2), .val (.int p3), .val (.int p4), .val (.int p5), .val (.int p6), .val (.ref r7), .val (.ref r8), .val (.ref b9), .val (.ref b12), .val (.ref b14), .val (.ref b16), .val (.ref b18), .val (.int (1 : Int32)), .val (.int (0 : Int32)), .val (.ref b20), .val (.int (1 : Int32)), .val (.ref b16), .val (.ref r24), .val (.ref b16), .val (.int (1 : Int32)), .val (.ref r26), .unset, .unset] [])) _
    refine XS.iload X26.here hx rfl (hb hby at_240) rfl ?_
    show Steps p.tables e below (T26.setTop (mkF m 242 #[.val (.int p1), .val (.int p2), .val (.int p3), .val (.int p4), .val (.int p5), .val (.int p6), .val (.ref r7), .val (.ref r8), .val (.ref b9), .val (.ref b12), .val (.ref b14), .val (.ref b16), .val (.ref b18), .val (.int (1 : Int32)), .val (.int (0 : Int32)), .val (.ref b20), .val (.int (1 : Int32)), .val (.ref b16), .val (.ref r24), .val (.ref b16), .val (.int (1 : Int32)), .val (.ref r26), .unset, .unset] [(.int (0 : Int32))])) _
    refine XS.ifYes X26.here hx rfl (pc0 := 242) (pc' := 250) rfl (hb hby at_242) rfl ((if0 _ _).trans (teq (rfl : (0 : Int32) = (0 : Int32))).1) (by decide) (by decide) ?_
    show Steps p.tables e below (T26.setTop (mkF m 250 #[.val (.int p1), .val (.int p2), .val (.int p3), .val (.int p4), .val (.int p5), .val (.int p6), .val (.ref r7), .val (.ref r8), .val (.ref b9), .val (.ref b12), .val (.ref b14), .val (.ref b16), .val (.ref b18), .val (.int (1 : Int32)), .val (.int (0 : Int32)), .val (.ref b20), .val (.int (1 : Int32)), .val (.ref b16), .val (.ref r24), .val (.ref b16), .val (.int (1 : Int32)), .val (.ref r26), .unset, .unset] [])) _
    refine XS.aload X26.here hx rfl (hb hby at_250) rfl rfl ?_
    show Steps p.tables e below (T26.setTop (mkF m 252 #[.val (.int p1), .val (.int p2), .val (.int p3), .val (.int p4), .val (.int p5), .val (.int p6), .val (.ref r7), .val (.ref r8), .val (.ref b9), .val (.ref b12), .val (.ref b14), .val (.ref b16), .val (.ref b18), .val (.int (1 : Int32)), .val (.int (0 : Int32)), .val (.ref b20), .val (.int (1 : Int32)), .val (.ref b16), .val (.ref r24), .val (.ref b16), .val (.int (1 : Int32)), .val (.ref r26), .unset, .unset] [(.ref b16)])) _
    refine XS.astore X26.here hx rfl (hb hby at_252) rfl rfl (l' := #[.val (.int p1), .val (.int p2), .val (.int p3), .val (.int p4), .val (.int p5), .val (.int p6), .val (.ref r7), .val (.ref r8), .val (.ref b9), .val (.ref b12), .val (.ref b14), .val (.ref b16), .val (.ref b18), .val (.int (1 : Int32)), .val (.int (0 : Int32)), .val (.ref b20), .val (.int (1 : Int32)), .val (.ref b16), .val (.ref r24), .val (.ref b16), .val (.int (1 : Int32)), .val (.ref r26), .val (.ref b16), .unset]) rfl ?_
    show Steps p.tables e below (T26.setTop (mkF m 254 #[.val (.int p1), .val (.int p2), .val (.int p3), .val (.int p4), .val (.int p5), .val (.int p6), .val (.ref r7), .val (.ref r8), .val (.ref b9), .val (.ref b12), .val (.ref b14), .val (.ref b16), .val (.ref b18), .val (.int (1 : Int32)), .val (.int (0 : Int32)), .val (.ref b20), .val (.int (1 : Int32)), .val (.ref b16), .val (.ref r24), .val (.ref b16), .val (.int (1 : Int32)), .val (.ref r26), .val (.ref b16), .unset] [])) _
    refine XS.aload X26.here hx rfl (hb hby at_254) rfl rfl ?_
    show Steps p.tables e below (T26.setTop (mkF m 256 #[.val (.int p1), .val (.int p2), .val (.int p3), .val (.int p4), .val (.int p5), .val (.int p6), .val (.ref r7), .val (.ref r8), .val (.ref b9), .val (.ref b12), .val (.ref b14), .val (.ref b16), .val (.ref b18), .val (.int (1 : Int32)), .val (.int (0 : Int32)), .val (.ref b20), .val (.int (1 : Int32)), .val (.ref b16), .val (.ref r24), .val (.ref b16), .val (.int (1 : Int32)), .val (.ref r26), .val (.ref b16), .unset] [(.ref r26)])) _
    refine st27.trans ?_
    show Steps p.tables e below (T27.setTop (mkF m 259 #[.val (.int p1), .val (.int p2), .val (.int p3), .val (.int p4), .val (.int p5), .val (.int p6), .val (.ref r7), .val (.ref r8), .val (.ref b9), .val (.ref b12), .val (.ref b14), .val (.ref b16), .val (.ref b18), .val (.int (1 : Int32)), .val (.int (0 : Int32)), .val (.ref b20), .val (.int (1 : Int32)), .val (.ref b16), .val (.ref r24), .val (.ref b16), .val (.int (1 : Int32)), .val (.ref r26), .val (.ref b16), .unset] [(.ref b16)])) _
    refine XS.aload X27.here hx rfl (hb hby at_259) rfl rfl ?_
    show Steps p.tables e below (T27.setTop (mkF m 261 #[.val (.int p1), .val (.int p2), .val (.int p3), .val (.int p4), .val (.int p5), .val (.int p6), .val (.ref r7), .val (.ref r8), .val (.ref b9), .val (.ref b12), .val (.ref b14), .val (.ref b16), .val (.ref b18), .val (.int (1 : Int32)), .val (.int (0 : Int32)), .val (.ref b20), .val (.int (1 : Int32)), .val (.ref b16), .val (.ref r24), .val (.ref b16), .val (.int (1 : Int32)), .val (.ref r26), .val (.ref b16), .unset] [(.ref b16), (.ref b16)])) _
    refine Jvm.RoadKit.acmp (g := (mkF m 261 #[.val (.int p1), .val (.int p2), .val (.int p3), .val (.int p4), .val (.int p5), .val (.int p6), .val (.ref r7), .val (.ref r8), .val (.ref b9), .val (.ref b12), .val (.ref b14), .val (.ref b16), .val (.ref b18), .val (.int (1 : Int32)), .val (.int (0 : Int32)), .val (.ref b20), .val (.int (1 : Int32)), .val (.ref b16), .val (.ref r24), .val (.ref b16), .val (.int (1 : Int32)), .val (.ref r26), .val (.ref b16), .unset] [(.ref b16), (.ref b16)])) X27 hx rfl rfl rfl (pc0 := 261) (pc' := 264) (same := true) rfl (hb hby at_261) rfl (decide_eq_true rfl) (by decide) (by decide) ?_
    show Steps p.tables e below (T27.setTop (mkF m 264 #[.val (.int p1), .val (.int p2), .val (.int p3), .val (.int p4), .val (.int p5), .val (.int p6), .val (.ref r7), .val (.ref r8), .val (.ref b9), .val (.ref b12), .val (.ref b14), .val (.ref b16), .val (.ref b18), .val (.int (1 : Int32)), .val (.int (0 : Int32)), .val (.ref b20), .val (.int (1 : Int32)), .val (.ref b16), .val (.ref r24), .val (.ref b16), .val (.int (1 : Int32)), .val (.ref r26), .val (.ref b16), .unset] [])) _
    refine XS.iconst X27.here hx rfl (hb hby at_264) ?_
    show Steps p.tables e below (T27.setTop (mkF m 265 #[.val (.int p1), .val (.int p2), .val (.int p3), .val (.int p4), .val (.int p5), .val (.int p6), .val (.ref r7), .val (.ref r8), .val (.ref b9), .val (.ref b12), .val (.ref b14), .val (.ref b16), .val (.ref b18), .val (.int (1 : Int32)), .val (.int (0 : Int32)), .val (.ref b20), .val (.int (1 : Int32)), .val (.ref b16), .val (.ref r24), .val (.ref b16), .val (.int (1 : Int32)), .val (.ref r26), .val (.ref b16), .unset] [(.int (1 : Int32))])) _
    refine XS.goto X27.here hx rfl (pc0 := 265) (pc' := 269) rfl (hb hby at_265) (by decide) (by decide) ?_
    show Steps p.tables e below (T27.setTop (mkF m 269 #[.val (.int p1), .val (.int p2), .val (.int p3), .val (.int p4), .val (.int p5), .val (.int p6), .val (.ref r7), .val (.ref r8), .val (.ref b9), .val (.ref b12), .val (.ref b14), .val (.ref b16), .val (.ref b18), .val (.int (1 : Int32)), .val (.int (0 : Int32)), .val (.ref b20), .val (.int (1 : Int32)), .val (.ref b16), .val (.ref r24), .val (.ref b16), .val (.int (1 : Int32)), .val (.ref r26), .val (.ref b16), .unset] [(.int (1 : Int32))])) _
    refine XS.istore X27.here hx rfl (hb hby at_269) rfl (l' := #[.val (.int p1), .val (.int p2), .val (.int p3), .val (.int p4), .val (.int p5), .val (.int p6), .val (.ref r7), .val (.ref r8), .val (.ref b9), .val (.ref b12), .val (.ref b14), .val (.ref b16), .val (.ref b18), .val (.int (1 : Int32)), .val (.int (0 : Int32)), .val (.ref b20), .val (.int (1 : Int32)), .val (.ref b16), .val (.ref r24), .val (.ref b16), .val (.int (1 : Int32)), .val (.ref r26), .val (.ref b16), .val (.int (1 : Int32))]) rfl ?_
    show Steps p.tables e below (T27.setTop (mkF m 271 #[.val (.int p1), .val (.int p2), .val (.int p3), .val (.int p4), .val (.int p5), .val (.int p6), .val (.ref r7), .val (.ref r8), .val (.ref b9), .val (.ref b12), .val (.ref b14), .val (.ref b16), .val (.ref b18), .val (.int (1 : Int32)), .val (.int (0 : Int32)), .val (.ref b20), .val (.int (1 : Int32)), .val (.ref b16), .val (.ref r24), .val (.ref b16), .val (.int (1 : Int32)), .val (.ref r26), .val (.ref b16), .val (.int (1 : Int32))] [])) _
    refine XS.iload X27.here hx rfl (hb hby at_271) rfl ?_
    show Steps p.tables e below (T27.setTop (mkF m 273 #[.val (.int p1), .val (.int p2), .val (.int p3), .val (.int p4), .val (.int p5), .val (.int p6), .val (.ref r7), .val (.ref r8), .val (.ref b9), .val (.ref b12), .val (.ref b14), .val (.ref b16), .val (.ref b18), .val (.int (1 : Int32)), .val (.int (0 : Int32)), .val (.ref b20), .val (.int (1 : Int32)), .val (.ref b16), .val (.ref r24), .val (.ref b16), .val (.int (1 : Int32)), .val (.ref r26), .val (.ref b16), .val (.int (1 : Int32))] [(.int (1 : Int32))])) _
    refine XS.ifNo X27.here hx rfl (hb hby at_273) rfl ((if0 _ _).trans (feq hc273).1) ?_
    show Steps p.tables e below (T27.setTop (mkF m 276 #[.val (.int p1), .val (.int p2), .val (.int p3), .val (.int p4), .val (.int p5), .val (.int p6), .val (.ref r7), .val (.ref r8), .val (.ref b9), .val (.ref b12), .val (.ref b14), .val (.ref b16), .val (.ref b18), .val (.int (1 : Int32)), .val (.int (0 : Int32)), .val (.ref b20), .val (.int (1 : Int32)), .val (.ref b16), .val (.ref r24), .val (.ref b16), .val (.int (1 : Int32)), .val (.ref r26), .val (.ref b16), .val (.int (1 : Int32))] [])) _
    refine XS.iload X27.here hx rfl (hb hby at_276) rfl ?_
    show Steps p.tables e below (T27.setTop (mkF m 278 #[.val (.int p1), .val (.int p2), .val (.int p3), .val (.int p4), .val (.int p5), .val (.int p6), .val (.ref r7), .val (.ref r8), .val (.ref b9), .val (.ref b12), .val (.ref b14), .val (.ref b16), .val (.ref b18), .val (.int (1 : Int32)), .val (.int (0 : Int32)), .val (.ref b20), .val (.int (1 : Int32)), .val (.ref b16), .val (.ref r24), .val (.ref b16), .val (.int (1 : Int32)), .val (.ref r26), .val (.ref b16), .val (.int (1 : Int32))] [(.int (1 : Int32))])) _
    refine XS.ifNo X27.here hx rfl (hb hby at_278) rfl ((if0 _ _).trans (feq hc278).1) ?_
    show Steps p.tables e below (T27.setTop (mkF m 281 #[.val (.int p1), .val (.int p2), .val (.int p3), .val (.int p4), .val (.int p5), .val (.int p6), .val (.ref r7), .val (.ref r8), .val (.ref b9), .val (.ref b12), .val (.ref b14), .val (.ref b16), .val (.ref b18), .val (.int (1 : Int32)), .val (.int (0 : Int32)), .val (.ref b20), .val (.int (1 : Int32)), .val (.ref b16), .val (.ref r24), .val (.ref b16), .val (.int (1 : Int32)), .val (.ref r26), .val (.ref b16), .val (.int (1 : Int32))] [])) _
    refine XS.iload X27.here hx rfl (hb hby at_281) rfl ?_
    show Steps p.tables e below (T27.setTop (mkF m 283 #[.val (.int p1), .val (.int p2), .val (.int p3), .val (.int p4), .val (.int p5), .val (.int p6), .val (.ref r7), .val (.ref r8), .val (.ref b9), .val (.ref b12), .val (.ref b14), .val (.ref b16), .val (.ref b18), .val (.int (1 : Int32)), .val (.int (0 : Int32)), .val (.ref b20), .val (.int (1 : Int32)), .val (.ref b16), .val (.ref r24), .val (.ref b16), .val (.int (1 : Int32)), .val (.ref r26), .val (.ref b16), .val (.int (1 : Int32))] [(.int (1 : Int32))])) _
    refine XS.ifNo X27.here hx rfl (hb hby at_283) rfl ((if0 _ _).trans (feq hc283).1) ?_
    show Steps p.tables e below (T27.setTop (mkF m 286 #[.val (.int p1), .val (.int p2), .val (.int p3), .val (.int p4), .val (.int p5), .val (.int p6), .val (.ref r7), .val (.ref r8), .val (.ref b9), .val (.ref b12), .val (.ref b14), .val (.ref b16), .val (.ref b18), .val (.int (1 : Int32)), .val (.int (0 : Int32)), .val (.ref b20), .val (.int (1 : Int32)), .val (.ref b16), .val (.ref r24), .val (.ref b16), .val (.int (1 : Int32)), .val (.ref r26), .val (.ref b16), .val (.int (1 : Int32))] [])) _
    refine XS.iconst X27.here hx rfl (hb hby at_286) ?_
    show Steps p.tables e below (T27.setTop (mkF m 287 #[.val (.int p1), .val (.int p2), .val (.int p3), .val (.int p4), .val (.int p5), .val (.int p6), .val (.ref r7), .val (.ref r8), .val (.ref b9), .val (.ref b12), .val (.ref b14), .val (.ref b16), .val (.ref b18), .val (.int (1 : Int32)), .val (.int (0 : Int32)), .val (.ref b20), .val (.int (1 : Int32)), .val (.ref b16), .val (.ref r24), .val (.ref b16), .val (.int (1 : Int32)), .val (.ref r26), .val (.ref b16), .val (.int (1 : Int32))] [(.int (1 : Int32))])) _
    refine XS.goto X27.here hx rfl (pc0 := 287) (pc' := 291) rfl (hb hby at_287) (by decide) (by decide) ?_
    show Steps p.tables e below (T27.setTop (mkF m 291 #[.val (.int p1), .val (.int p2), .val (.int p3), .val (.int p4), .val (.int p5), .val (.int p6), .val (.ref r7), .val (.ref r8), .val (.ref b9), .val (.ref b12), .val (.ref b14), .val (.ref b16), .val (.ref b18), .val (.int (1 : Int32)), .val (.int (0 : Int32)), .val (.ref b20), .val (.int (1 : Int32)), .val (.ref b16), .val (.ref r24), .val (.ref b16), .val (.int (1 : Int32)), .val (.ref r26), .val (.ref b16), .val (.int (1 : Int32))] [(.int (1 : Int32))])) _
    exact retN X27 hx (t := .boolean) Bd.returns (by simp) (hb hby at_291) hr
  · show Q0 Z h0 n0 _ T27.heap _
    exact ⟨rfl, N27⟩
set_option maxRecDepth 65536 in
set_option maxHeartbeats 40000000 in
theorem rm0_fn (l : Launch) (Z : State) (a0 : Array Value) (hw : ∀ d ∈ tables_1, d.before a0 Z = true) (ws : List Jvm.Cond) (p1 : Int32) (p2 : Int32) (p3 : Int32) (p4 : Int32) (p5 : Int32) (p6 : Int32) (w_cs : Int32) (wk : Addr) (h0 : Heap) (n0 : Nat) (Z0 : n0 ≤ h0.size) (S_COMPACT_STRINGS : Sta Z h0 "java/lang/String" "COMPACT_STRINGS" "Z" (.int w_cs)) (hcs : ¬ w_cs = 0) (S_kind : Sta Z h0 own_KC (own_kn p5) own_KD (.ref wk)) (hc114 : ¬ ((((p5.toUInt32 >>> ((2 : Int32) &&& 31).toUInt32).toInt32) &&& (1 : Int32)) = (0 : Int32))) (hc130 : ¬ ((((p5.toUInt32 >>> ((3 : Int32) &&& 31).toUInt32).toInt32) &&& (1 : Int32)) = (0 : Int32))) :
    MetFree l x (head1 (Jvm.Cond.code x code maxLocals ret :: ws) room_1) (fun a U => a = #[(.int p1), (.int p2), (.int p3), (.int p4), (.int p5), (.int p6)] ∧ Z.Warmed39 U.vm ∧ U.heap = h0) (fun _ _ _ _ _ => True) (fun _ U o U' => ∃ v L, o = .returned v ∧ Q0 Z h0 n0 v U'.heap L ∧ FrameEnd U o U' L room_1.cells room_1.slots) := by
  refine MetFree.of_bodySF (plainFor_of_name pn_0) hisR ?_
  intro p e s m args below meth c s₁ Bd hml0 hP hK
  obtain ⟨rfl, hZ, hh⟩ := hP
  have hx := Bd.exec
  have hby := Bd.bytes
  have hml : c.maxLocals = 24 := hml0
  have hown : s.vm.findClass "com/example/stubwright/stubwright/read/TokenExpansionPointPinLaw" = some m.cls := findClass_of_methodNamed Bd.named
  have hnm := (name_of_methodNamed Bd.named Bd.method).1
  have X0 : Stand p l e room_1 s m #[(.int p1), (.int p2), (.int p3), (.int p4), (.int p5), (.int p6)] below meth c s₁ [] 0 0 := Stand.of_body Bd
  have e0 : s₁.heap = h0 := by rw [← hh, Bd.state]; rfl
  have N0 := Fr.nil n0
  have pre0 : ∀ t, Steps p.tables e below (s₁.setTop (mkF m 0 #[.val (.int p1), .val (.int p2), .val (.int p3), .val (.int p4), .val (.int p5), .val (.int p6), .unset, .unset, .unset, .unset, .unset, .unset, .unset, .unset, .unset, .unset, .unset, .unset, .unset, .unset, .unset, .unset, .unset, .unset] [])) t → Steps p.tables e below (s₁.setTop (entryFrame m #[(.int p1), (.int p2), (.int p3), (.int p4), (.int p5), (.int p6)] maxLocals)) t := fun t k => castTop (ef_0 m p1 p2 p3 p4 p5 p6) k
  -- 3. LAWS
  have hc180 : ¬ ((1 : Int32) = (0 : Int32)) := by decide
  have hc202 : ¬ ((1 : Int32) = (0 : Int32)) := by decide
  have hc242 : ¬ ((1 : Int32) = (0 : Int32)) := by decide
  have hc273 : ¬ ((1 : Int32) = (0 : Int32)) := by decide
  have hc278 : ¬ ((1 : Int32) = (0 : Int32)) := by decide
  have hc283 : ¬ ((1 : Int32) = (0 : Int32)) := by decide
  -- pc 7: java/lang/String.valueOf by its contract rm1
  obtain ⟨_, _, ⟨T7, L7, k7, n7⟩, -, X7, ⟨Lc7, hQ7, l7, y7, z7⟩, st7⟩ := Jvm.LawKit.callS X0 hx (y := (⟨"java/lang/String", "valueOf", "(C)Ljava/lang/String;"⟩ : MethodName)) hown (mvT hZ (hw _ (List.mem_of_getElem? (i := 0) rfl))) (mvT hZ (hw _ (List.mem_of_getElem? (i := 1) rfl))) (mvT hZ (hw _ (List.mem_of_getElem? (i := 2) rfl))) (mvT hZ (hw _ (List.mem_of_getElem? (i := 3) rfl))) (by decide) (backOf (W := 0) (rm1 l Z a0 hw [] ((p6 &&& (255 : Int32)).toUInt32.toUInt16.toUInt32.toInt32) w_cs h0 n0 Z0 (own_sta S_COMPACT_STRINGS (Keep.refl h0 [])) hcs (own_enc _)) hZ (hw _ (List.mem_of_getElem? (i := 3) rfl)) (hw _ (List.mem_of_getElem? (i := 2) rfl)) (by decide) (by decide)) (g := (mkF m 7 #[.val (.int p1), .val (.int p2), .val (.int p3), .val (.int p4), .val (.int p5), .val (.int p6), .unset, .unset, .unset, .unset, .unset, .unset, .unset, .unset, .unset, .unset, .unset, .unset, .unset, .unset, .unset, .unset, .unset, .unset] [(.int ((p6 &&& (255 : Int32)).toUInt32.toUInt16.toUInt32.toInt32))])) rfl (by rw [hml]; rfl) (argsL := [(.int ((p6 &&& (255 : Int32)).toUInt32.toUInt16.toUInt32.toInt32))]) (rest := []) (lenOf pd_0_0 rfl) rfl (by show 2 * 0 + _ ≤ _; exact Nat.le_of_eq rfl) (hb hby at_7) (fun _ _ => ⟨rfl, e0, (by decide : 0 + 2 ≤ _), (by decide : 0 + 5 ≤ _)⟩)
  dsimp only [Pt.U, Pt.locs, Pt.cells, Pt.slots] at X7 l7 y7 z7 st7 hQ7
  subst l7 y7 z7
  obtain ⟨r7, rfl, N7q, Kc7⟩ := hQ7
  -- Kc7 : Keep h0 T7.heap []
  have N7 := Fr.app N0 N7q
  have K7 : Keep h0 T7.heap [] := (Keep.refl h0 []).trans Kc7 (fun x_ hx_ => absurd hx_ (by simp))
  -- pc 22: java/lang/String.valueOf by its contract rm1
  obtain ⟨_, _, ⟨T8, L8, k8, n8⟩, -, X8, ⟨Lc8, hQ8, l8, y8, z8⟩, st8⟩ := Jvm.LawKit.callS X7 hx (y := (⟨"java/lang/String", "valueOf", "(C)Ljava/lang/String;"⟩ : MethodName)) hown (mvT hZ (hw _ (List.mem_of_getElem? (i := 0) rfl))) (mvT hZ (hw _ (List.mem_of_getElem? (i := 1) rfl))) (mvT hZ (hw _ (List.mem_of_getElem? (i := 2) rfl))) (mvT hZ (hw _ (List.mem_of_getElem? (i := 3) rfl))) (by decide) (backOf (W := 0) (rm1 l Z a0 hw [] ((((p6.toUInt32 >>> ((8 : Int32) &&& 31).toUInt32).toInt32) &&& (255 : Int32)).toUInt32.toUInt16.toUInt32.toInt32) w_cs T7.heap n0 (Nat.le_trans Z0 Kc7.1) (own_sta S_COMPACT_STRINGS K7) hcs (own_enc _)) hZ (hw _ (List.mem_of_getElem? (i := 3) rfl)) (hw _ (List.mem_of_getElem? (i := 2) rfl)) (by decide) (by decide)) (g := (mkF m 22 #[.val (.int p1), .val (.int p2), .val (.int p3), .val (.int p4), .val (.int p5), .val (.int p6), .val (.ref r7), .unset, .unset, .unset, .unset, .unset, .unset, .unset, .unset, .unset, .unset, .unset, .unset, .unset, .unset, .unset, .unset, .unset] [(.int ((((p6.toUInt32 >>> ((8 : Int32) &&& 31).toUInt32).toInt32) &&& (255 : Int32)).toUInt32.toUInt16.toUInt32.toInt32))])) rfl (by rw [hml]; rfl) (argsL := [(.int ((((p6.toUInt32 >>> ((8 : Int32) &&& 31).toUInt32).toInt32) &&& (255 : Int32)).toUInt32.toUInt16.toUInt32.toInt32))]) (rest := []) (lenOf pd_0_0 rfl) rfl (by show 2 * 0 + _ ≤ _; exact Nat.le_of_eq rfl) (hb hby at_22) (fun _ _ => ⟨rfl, rfl, (by decide : 2 + 2 ≤ _), (by decide : 5 + 5 ≤ _)⟩)
  dsimp only [Pt.U, Pt.locs, Pt.cells, Pt.slots] at X8 l8 y8 z8 st8 hQ8
  subst l8 y8 z8
  obtain ⟨r8, rfl, N8q, Kc8⟩ := hQ8
  -- Kc8 : Keep T7.heap T8.heap []
  have N8 := Fr.app N7 N8q
  have K8 : Keep h0 T8.heap [] := K7.trans Kc8 (fun x_ hx_ => absurd hx_ (by simp))
  obtain ⟨T9, h9, k9, X9, e9, E9, A9, st9⟩ := newP X8 hx hZ (hw _ (List.mem_of_getElem? (i := 26) rfl)) rfl (g := (mkF m 28 #[.val (.int p1), .val (.int p2), .val (.int p3), .val (.int p4), .val (.int p5), .val (.int p6), .val (.ref r7), .val (.ref r8), .unset, .unset, .unset, .unset, .unset, .unset, .unset, .unset, .unset, .unset, .unset, .unset, .unset, .unset, .unset, .unset] [(.int (2 : Int32))])) rfl (hb hby at_28) rfl (by decide) (cap := 2) (by decide) (by decide) (by decide) (by decide)
  obtain ⟨b9, g9⟩ : ∃ z, z = T8.heap.size := ⟨_, rfl⟩      -- the fresh array's address
  rw [← g9] at A9 st9
  have V_b9 : Arv Z h9 b9 k9 .char (2 : Int32) [(.int (0 : Int32)), (.int (0 : Int32))] (.int (0 : Int32)) := (Arv.new A9 (by decide)).pad (pad_rep [] (.int (0 : Int32)) 2)
  have g_b9 : n0 ≤ b9 := Nat.le_trans (Nat.le_trans (Nat.le_trans Z0 Kc7.1) Kc8.1) (Nat.le_of_eq g9.symm)
  have sz_b9 : h0.size ≤ b9 := (Nat.le_trans K8.1 (Nat.le_of_eq g9.symm))
  have K9 : Keep h0 h9 [] := K8.ext E9
  obtain ⟨cl_b9_42, Ar_b9, q_b9, S_b9, N_b9, H_b9, G_b9⟩ := V_b9      -- open the array's fact as it stands now (its cell, kind, length, elements)
  have hin42 : ¬ ((0 : Int32) < 0 ∨ cl_b9_42.slots.size ≤ ((0 : Int32)).toNatClampNeg) := inb_of S_b9 ⟨by decide, by decide⟩
  obtain ⟨T10, h10, X10, e10, W10, st10⟩ := stC X9 hx hZ e9 Ar_b9 (j := (0 : Int32)) hin42 (g := (mkF m 42 #[.val (.int p1), .val (.int p2), .val (.int p3), .val (.int p4), .val (.int p5), .val (.int p6), .val (.ref r7), .val (.ref r8), .unset, .unset, .unset, .unset, .unset, .unset, .unset, .unset, .unset, .unset, .unset, .unset, .unset, .unset, .unset, .unset] [(.int ((((p6.toUInt32 >>> ((16 : Int32) &&& 31).toUInt32).toInt32) &&& (255 : Int32)).toUInt32.toUInt16.toUInt32.toInt32)), (.int (0 : Int32)), (.ref b9), (.ref b9)])) rfl rfl (hb hby at_42)
  have V_b9_10 := Arv.set Ar_b9 q_b9 S_b9 N_b9 H_b9 G_b9 (fits_nar_char _) W10 0 rfl (Nat.le_of_ble_eq_true rfl)      -- the array as it stands now (the place must lie among its first values: Arv.pad with pad_rep lengthens them)
  have K10 : Keep h0 h10 [] := K9.wr W10 (Or.inr sz_b9)
  have N10 := Fr.snoc X10 N8 g_b9
  obtain ⟨cl_b9_55, Ar_b9, q_b9, S_b9, N_b9, H_b9, G_b9⟩ := V_b9_10      -- open the array's fact as it stands now (its cell, kind, length, elements)
  have hin55 : ¬ ((1 : Int32) < 0 ∨ cl_b9_55.slots.size ≤ ((1 : Int32)).toNatClampNeg) := inb_of S_b9 ⟨by decide, by decide⟩
  obtain ⟨T11, h11, X11, e11, W11, st11⟩ := stC X10 hx hZ e10 Ar_b9 (j := (1 : Int32)) hin55 (g := (mkF m 55 #[.val (.int p1), .val (.int p2), .val (.int p3), .val (.int p4), .val (.int p5), .val (.int p6), .val (.ref r7), .val (.ref r8), .unset, .unset, .unset, .unset, .unset, .unset, .unset, .unset, .unset, .unset, .unset, .unset, .unset, .unset, .unset, .unset] [(.int ((((p6.toUInt32 >>> ((24 : Int32) &&& 31).toUInt32).toInt32) &&& (255 : Int32)).toUInt32.toUInt16.toUInt32.toInt32)), (.int (1 : Int32)), (.ref b9), (.ref b9)])) rfl rfl (hb hby at_55)
  have V_b9_11 := Arv.set Ar_b9 q_b9 S_b9 N_b9 H_b9 G_b9 (fits_nar_char _) W11 1 rfl (Nat.le_of_ble_eq_true rfl)      -- the array as it stands now (the place must lie among its first values: Arv.pad with pad_rep lengthens them)
  have K11 : Keep h0 h11 [] := K10.wr W11 (Or.inr sz_b9)
  have N11 := Fr.snoc X11 N10 g_b9
  obtain ⟨T12, h12, X12, e12, E12, A12, D12, -, st12⟩ := newO X11 hx hZ hown (hw _ (List.mem_of_getElem? (i := 27) rfl)) (hw _ (List.mem_of_getElem? (i := 10) rfl)) (hw _ (List.mem_of_getElem? (i := 2) rfl)) e11 (g := (mkF m 58 #[.val (.int p1), .val (.int p2), .val (.int p3), .val (.int p4), .val (.int p5), .val (.int p6), .val (.ref r7), .val (.ref r8), .val (.ref b9), .unset, .unset, .unset, .unset, .unset, .unset, .unset, .unset, .unset, .unset, .unset, .unset, .unset, .unset, .unset] [])) rfl (hb hby at_58) (by decide) (by decide)
  obtain ⟨b12, g12⟩ : ∃ z, z = h11.size := ⟨_, rfl⟩      -- the fresh object's address
  rw [← g12] at A12 D12 st12      -- A12 : Exa Z h12 b12 "java/lang/String"; E12 : Ext h11 h12 (carries every older fact: .ext E12)
  have F_value_b12 : Fld Z h12 b12 "java/lang/String" "value" "[B" .null := D12 (Or.inr (hw _ (List.mem_of_getElem? (i := 23) rfl))) (ty := (.array .byte)) (by decide)
  have F_coder_b12 : Fld Z h12 b12 "java/lang/String" "coder" "B" (.int (0 : Int32)) := D12 (Or.inr (hw _ (List.mem_of_getElem? (i := 25) rfl))) (ty := .byte) (by decide)
  have E_b12 := A12
  have g_b12 : n0 ≤ b12 := Nat.le_trans (Nat.le_trans (Nat.le_trans (Nat.le_trans (Nat.le_trans (Nat.le_trans Z0 Kc7.1) Kc8.1) E9.1) (Keep.of_wr W10).1) (Keep.of_wr W11).1) (Nat.le_of_eq g12.symm)
  have sz_b12 : h0.size ≤ b12 := (Nat.le_trans K11.1 (Nat.le_of_eq g12.symm))
  have K12 : Keep h0 h12 [] := K11.ext E12
  -- pc 64: the constructor of java/lang/String by its contract rm6
  -- JDK: don't walk it: StrChars.Road.backV (pack/laws/STRINGS.README.md): its own row in place of the next one (the 'backOf (W ..)' becomes what that law's P asks)
  obtain ⟨_, _, ⟨T13, L13, k13, n13⟩, -, X13, ⟨Lc13, hQ13, l13, y13, z13⟩, st13⟩ := X12.specialBack hx (y := (⟨"java/lang/String", "<init>", "([C)V"⟩ : MethodName)) rfl hown (mvT hZ (hw _ (List.mem_of_getElem? (i := 28) rfl))) (mvT hZ (hw _ (List.mem_of_getElem? (i := 29) rfl))) (mvT hZ (hw _ (List.mem_of_getElem? (i := 30) rfl))) (by decide) (Jvm.Pilot.@@N@@.StrChars.Road.backV (W := 1) hZ (own_cw hw) (kI := 4) (hw _ (List.mem_of_getElem? (i := 10) rfl)) (cs := [(nar .char ((((p6.toUInt32 >>> ((16 : Int32) &&& 31).toUInt32).toInt32) &&& (255 : Int32)).toUInt32.toUInt16.toUInt32.toInt32)), (nar .char ((((p6.toUInt32 >>> ((24 : Int32) &&& 31).toUInt32).toInt32) &&& (255 : Int32)).toUInt32.toUInt16.toUInt32.toInt32))]) g_b12 (Nat.le_trans (Nat.le_trans (Nat.le_trans (Nat.le_trans (Nat.le_trans (Nat.le_trans Z0 Kc7.1) Kc8.1) E9.1) (Keep.of_wr W10).1) (Keep.of_wr W11).1) E12.1) E_b12 F_value_b12 F_coder_b12 (V_b9_11.ext E12) (own_sta S_COMPACT_STRINGS K12) hcs rfl rfl (by simp) (by simp) own_two rfl (by decide) (by decide)) (g := (mkF m 64 #[.val (.int p1), .val (.int p2), .val (.int p3), .val (.int p4), .val (.int p5), .val (.int p6), .val (.ref r7), .val (.ref r8), .val (.ref b9), .unset, .unset, .unset, .unset, .unset, .unset, .unset, .unset, .unset, .unset, .unset, .unset, .unset, .unset, .unset] [(.ref b9), (.ref b12), (.ref b12)])) rfl (by rw [hml]; rfl) (Steps.refl _) (a := b12) (argsL := [(.ref b9)]) (rest := [(.ref b12)]) (lenOf pd_0_5 rfl) rfl (by show 2 * 0 + _ ≤ _; exact Nat.le_of_eq rfl) (hb hby at_64) (fun _ _ => ⟨rfl, e12, (by decide : 6 + 1 ≤ _), (by decide : 16 + 2 ≤ _)⟩)
  dsimp only [Pt.U, Pt.locs, Pt.cells, Pt.slots, List.length_cons, List.length_nil] at X13 l13 y13 z13 st13 hQ13
  subst l13 y13 z13
  obtain ⟨rfl, N13q, Kc13, -⟩ := hQ13
  -- Kc13 : Keep h12 T13.heap [b12]
  have N13 := Fr.app N11 N13q
  have K13 : Keep h0 T13.heap [] := K12.trans Kc13 (fun x_ hx_ => by rw [List.mem_singleton.mp hx_]; exact Or.inr sz_b12)
  obtain ⟨T14, h14, X14, e14, E14, A14, D14, -, st14⟩ := newO X13 hx hZ hown (hw _ (List.mem_of_getElem? (i := 44) rfl)) (hw _ (List.mem_of_getElem? (i := 45) rfl)) (hw _ (List.mem_of_getElem? (i := 46) rfl)) rfl (g := (mkF m 69 #[.val (.int p1), .val (.int p2), .val (.int p3), .val (.int p4), .val (.int p5), .val (.int p6), .val (.ref r7), .val (.ref r8), .val (.ref b9), .val (.ref b12), .unset, .unset, .unset, .unset, .unset, .unset, .unset, .unset, .unset, .unset, .unset, .unset, .unset, .unset] [])) rfl (hb hby at_69) (by decide) (by decide)
  obtain ⟨b14, g14⟩ : ∃ z, z = T13.heap.size := ⟨_, rfl⟩      -- the fresh object's address
  rw [← g14] at A14 D14 st14      -- A14 : Exa Z h14 b14 "com/example/stubwright/stubwright/model/Position"; E14 : Ext T13.heap h14 (carries every older fact: .ext E14)
  have F_file_b14 : Fld Z h14 b14 "com/example/stubwright/stubwright/model/Position" "file" "Ljava/lang/String;" .null := D14 (Or.inr (hw _ (List.mem_of_getElem? (i := 55) rfl))) (ty := (.object "java/lang/String")) (by decide)
  have F_line_b14 : Fld Z h14 b14 "com/example/stubwright/stubwright/model/Position" "line" "I" (.int (0 : Int32)) := D14 (Or.inr (hw _ (List.mem_of_getElem? (i := 57) rfl))) (ty := .int) (by decide)
  have F_column_b14 : Fld Z h14 b14 "com/example/stubwright/stubwright/model/Position" "column" "I" (.int (0 : Int32)) := D14 (Or.inr (hw _ (List.mem_of_getElem? (i := 59) rfl))) (ty := .int) (by decide)
  have F_source_b14 : Fld Z h14 b14 "com/example/stubwright/stubwright/model/Position" "source" "Ljava/lang/String;" .null := D14 (Or.inr (hw _ (List.mem_of_getElem? (i := 61) rfl))) (ty := (.object "java/lang/String")) (by decide)
  have E_b14 := A14
  have g_b14 : n0 ≤ b14 := Nat.le_trans (Nat.le_trans (Nat.le_trans (Nat.le_trans (Nat.le_trans (Nat.le_trans (Nat.le_trans (Nat.le_trans Z0 Kc7.1) Kc8.1) E9.1) (Keep.of_wr W10).1) (Keep.of_wr W11).1) E12.1) Kc13.1) (Nat.le_of_eq g14.symm)
  have sz_b14 : h0.size ≤ b14 := (Nat.le_trans K13.1 (Nat.le_of_eq g14.symm))
  have K14 : Keep h0 h14 [] := K13.ext E14
  -- pc 77: the constructor of com/example/stubwright/stubwright/model/Position by its contract rm11
  obtain ⟨_, _, ⟨T15, L15, k15, n15⟩, -, X15, ⟨Lc15, hQ15, l15, y15, z15⟩, st15⟩ := X14.specialBack hx (y := (⟨"com/example/stubwright/stubwright/model/Position", "<init>", "(Ljava/lang/String;II)V"⟩ : MethodName)) rfl hown (mvT hZ (hw _ (List.mem_of_getElem? (i := 47) rfl))) (mvT hZ (hw _ (List.mem_of_getElem? (i := 48) rfl))) (mvT hZ (hw _ (List.mem_of_getElem? (i := 49) rfl))) (by decide) (backOf (W := 1) (rm11 l Z a0 hw [] b14 r7 p1 p2 _ _ _ _ h14 n0 (Nat.le_trans (Nat.le_trans (Nat.le_trans (Nat.le_trans (Nat.le_trans (Nat.le_trans (Nat.le_trans (Nat.le_trans Z0 Kc7.1) Kc8.1) E9.1) (Keep.of_wr W10).1) (Keep.of_wr W11).1) E12.1) Kc13.1) E14.1) E_b14 F_file_b14 g_b14 F_line_b14 F_column_b14 F_source_b14) hZ (hw _ (List.mem_of_getElem? (i := 49) rfl)) (hw _ (List.mem_of_getElem? (i := 46) rfl)) (by decide) (by decide)) (g := (mkF m 77 #[.val (.int p1), .val (.int p2), .val (.int p3), .val (.int p4), .val (.int p5), .val (.int p6), .val (.ref r7), .val (.ref r8), .val (.ref b9), .val (.ref b12), .unset, .unset, .unset, .unset, .unset, .unset, .unset, .unset, .unset, .unset, .unset, .unset, .unset, .unset] [(.int p2), (.int p1), (.ref r7), (.ref b14), (.ref b14)])) rfl (by rw [hml]; rfl) (Steps.refl _) (a := b14) (argsL := [(.ref r7), (.int p1), (.int p2)]) (rest := [(.ref b14)]) (lenOf pd_0_10 rfl) rfl (by show 2 * 0 + _ ≤ _; exact Nat.le_of_eq rfl) (hb hby at_77) (fun _ _ => ⟨rfl, e14, (by decide : 8 + 0 ≤ _), (by decide : 22 + 0 ≤ _)⟩)
  dsimp only [Pt.U, Pt.locs, Pt.cells, Pt.slots] at X15 l15 y15 z15 st15 hQ15
  subst l15 y15 z15
  obtain ⟨rfl, N15q, Kc15, -⟩ := hQ15
  -- Kc15 : Keep h14 T15.heap [b14]
  have N15 := Fr.app N13 N15q
  have K15 : Keep h0 T15.heap [] := K14.trans Kc15 (fun x_ hx_ => by rw [List.mem_singleton.mp hx_]; exact Or.inr sz_b14)
  obtain ⟨T16, h16, X16, e16, E16, A16, D16, -, st16⟩ := newO X15 hx hZ hown (hw _ (List.mem_of_getElem? (i := 44) rfl)) (hw _ (List.mem_of_getElem? (i := 45) rfl)) (hw _ (List.mem_of_getElem? (i := 46) rfl)) rfl (g := (mkF m 82 #[.val (.int p1), .val (.int p2), .val (.int p3), .val (.int p4), .val (.int p5), .val (.int p6), .val (.ref r7), .val (.ref r8), .val (.ref b9), .val (.ref b12), .val (.ref b14), .unset, .unset, .unset, .unset, .unset, .unset, .unset, .unset, .unset, .unset, .unset, .unset, .unset] [])) rfl (hb hby at_82) (by decide) (by decide)
  obtain ⟨b16, g16⟩ : ∃ z, z = T15.heap.size := ⟨_, rfl⟩      -- the fresh object's address
  rw [← g16] at A16 D16 st16      -- A16 : Exa Z h16 b16 "com/example/stubwright/stubwright/model/Position"; E16 : Ext T15.heap h16 (carries every older fact: .ext E16)
  have F_file_b16 : Fld Z h16 b16 "com/example/stubwright/stubwright/model/Position" "file" "Ljava/lang/String;" .null := D16 (Or.inr (hw _ (List.mem_of_getElem? (i := 55) rfl))) (ty := (.object "java/lang/String")) (by decide)
  have F_line_b16 : Fld Z h16 b16 "com/example/stubwright/stubwright/model/Position" "line" "I" (.int (0 : Int32)) := D16 (Or.inr (hw _ (List.mem_of_getElem? (i := 57) rfl))) (ty := .int) (by decide)
  have F_column_b16 : Fld Z h16 b16 "com/example/stubwright/stubwright/model/Position" "column" "I" (.int (0 : Int32)) := D16 (Or.inr (hw _ (List.mem_of_getElem? (i := 59) rfl))) (ty := .int) (by decide)
  have F_source_b16 : Fld Z h16 b16 "com/example/stubwright/stubwright/model/Position" "source" "Ljava/lang/String;" .null := D16 (Or.inr (hw _ (List.mem_of_getElem? (i := 61) rfl))) (ty := (.object "java/lang/String")) (by decide)
  have E_b16 := A16
  have g_b16 : n0 ≤ b16 := Nat.le_trans (Nat.le_trans (Nat.le_trans (Nat.le_trans (Nat.le_trans (Nat.le_trans (Nat.le_trans (Nat.le_trans (Nat.le_trans (Nat.le_trans Z0 Kc7.1) Kc8.1) E9.1) (Keep.of_wr W10).1) (Keep.of_wr W11).1) E12.1) Kc13.1) E14.1) Kc15.1) (Nat.le_of_eq g16.symm)
  have sz_b16 : h0.size ≤ b16 := (Nat.le_trans K15.1 (Nat.le_of_eq g16.symm))
  have K16 : Keep h0 h16 [] := K15.ext E16
  -- pc 90: the constructor of com/example/stubwright/stubwright/model/Position by its contract rm11
  obtain ⟨_, _, ⟨T17, L17, k17, n17⟩, -, X17, ⟨Lc17, hQ17, l17, y17, z17⟩, st17⟩ := X16.specialBack hx (y := (⟨"com/example/stubwright/stubwright/model/Position", "<init>", "(Ljava/lang/String;II)V"⟩ : MethodName)) rfl hown (mvT hZ (hw _ (List.mem_of_getElem? (i := 47) rfl))) (mvT hZ (hw _ (List.mem_of_getElem? (i := 48) rfl))) (mvT hZ (hw _ (List.mem_of_getElem? (i := 49) rfl))) (by decide) (backOf (W := 1) (rm11 l Z a0 hw [] b16 r8 p3 p4 _ _ _ _ h16 n0 (Nat.le_trans (Nat.le_trans (Nat.le_trans (Nat.le_trans (Nat.le_trans (Nat.le_trans (Nat.le_trans (Nat.le_trans (Nat.le_trans (Nat.le_trans Z0 Kc7.1) Kc8.1) E9.1) (Keep.of_wr W10).1) (Keep.of_wr W11).1) E12.1) Kc13.1) E14.1) Kc15.1) E16.1) E_b16 F_file_b16 g_b16 F_line_b16 F_column_b16 F_source_b16) hZ (hw _ (List.mem_of_getElem? (i := 49) rfl)) (hw _ (List.mem_of_getElem? (i := 46) rfl)) (by decide) (by decide)) (g := (mkF m 90 #[.val (.int p1), .val (.int p2), .val (.int p3), .val (.int p4), .val (.int p5), .val (.int p6), .val (.ref r7), .val (.ref r8), .val (.ref b9), .val (.ref b12), .val (.ref b14), .unset, .unset, .unset, .unset, .unset, .unset, .unset, .unset, .unset, .unset, .unset, .unset, .unset] [(.int p4), (.int p3), (.ref r8), (.ref b16), (.ref b16)])) rfl (by rw [hml]; rfl) (Steps.refl _) (a := b16) (argsL := [(.ref r8), (.int p3), (.int p4)]) (rest := [(.ref b16)]) (lenOf pd_0_10 rfl) rfl (by show 2 * 0 + _ ≤ _; exact Nat.le_of_eq rfl) (hb hby at_90) (fun _ _ => ⟨rfl, e16, (by decide : 9 + 0 ≤ _), (by decide : 26 + 0 ≤ _)⟩)
  dsimp only [Pt.U, Pt.locs, Pt.cells, Pt.slots] at X17 l17 y17 z17 st17 hQ17
  subst l17 y17 z17
  obtain ⟨rfl, N17q, Kc17, -⟩ := hQ17
  -- Kc17 : Keep h16 T17.heap [b16]
  have N17 := Fr.app N15 N17q
  have K17 : Keep h0 T17.heap [] := K16.trans Kc17 (fun x_ hx_ => by rw [List.mem_singleton.mp hx_]; exact Or.inr sz_b16)
  obtain ⟨T18, h18, X18, e18, E18, A18, D18, -, st18⟩ := newO X17 hx hZ hown (hw _ (List.mem_of_getElem? (i := 44) rfl)) (hw _ (List.mem_of_getElem? (i := 45) rfl)) (hw _ (List.mem_of_getElem? (i := 46) rfl)) rfl (g := (mkF m 95 #[.val (.int p1), .val (.int p2), .val (.int p3), .val (.int p4), .val (.int p5), .val (.int p6), .val (.ref r7), .val (.ref r8), .val (.ref b9), .val (.ref b12), .val (.ref b14), .val (.ref b16), .unset, .unset, .unset, .unset, .unset, .unset, .unset, .unset, .unset, .unset, .unset, .unset] [])) rfl (hb hby at_95) (by decide) (by decide)
  obtain ⟨b18, g18⟩ : ∃ z, z = T17.heap.size := ⟨_, rfl⟩      -- the fresh object's address
  rw [← g18] at A18 D18 st18      -- A18 : Exa Z h18 b18 "com/example/stubwright/stubwright/model/Position"; E18 : Ext T17.heap h18 (carries every older fact: .ext E18)
  have F_file_b18 : Fld Z h18 b18 "com/example/stubwright/stubwright/model/Position" "file" "Ljava/lang/String;" .null := D18 (Or.inr (hw _ (List.mem_of_getElem? (i := 55) rfl))) (ty := (.object "java/lang/String")) (by decide)
  have F_line_b18 : Fld Z h18 b18 "com/example/stubwright/stubwright/model/Position" "line" "I" (.int (0 : Int32)) := D18 (Or.inr (hw _ (List.mem_of_getElem? (i := 57) rfl))) (ty := .int) (by decide)
  have F_column_b18 : Fld Z h18 b18 "com/example/stubwright/stubwright/model/Position" "column" "I" (.int (0 : Int32)) := D18 (Or.inr (hw _ (List.mem_of_getElem? (i := 59) rfl))) (ty := .int) (by decide)
  have F_source_b18 : Fld Z h18 b18 "com/example/stubwright/stubwright/model/Position" "source" "Ljava/lang/String;" .null := D18 (Or.inr (hw _ (List.mem_of_getElem? (i := 61) rfl))) (ty := (.object "java/lang/String")) (by decide)
  have E_b18 := A18
  have g_b18 : n0 ≤ b18 := Nat.le_trans (Nat.le_trans (Nat.le_trans (Nat.le_trans (Nat.le_trans (Nat.le_trans (Nat.le_trans (Nat.le_trans (Nat.le_trans (Nat.le_trans (Nat.le_trans (Nat.le_trans Z0 Kc7.1) Kc8.1) E9.1) (Keep.of_wr W10).1) (Keep.of_wr W11).1) E12.1) Kc13.1) E14.1) Kc15.1) E16.1) Kc17.1) (Nat.le_of_eq g18.symm)
  have sz_b18 : h0.size ≤ b18 := (Nat.le_trans K17.1 (Nat.le_of_eq g18.symm))
  have K18 : Keep h0 h18 [] := K17.ext E18
  -- pc 103: the constructor of com/example/stubwright/stubwright/model/Position by its contract rm11
  obtain ⟨_, _, ⟨T19, L19, k19, n19⟩, -, X19, ⟨Lc19, hQ19, l19, y19, z19⟩, st19⟩ := X18.specialBack hx (y := (⟨"com/example/stubwright/stubwright/model/Position", "<init>", "(Ljava/lang/String;II)V"⟩ : MethodName)) rfl hown (mvT hZ (hw _ (List.mem_of_getElem? (i := 47) rfl))) (mvT hZ (hw _ (List.mem_of_getElem? (i := 48) rfl))) (mvT hZ (hw _ (List.mem_of_getElem? (i := 49) rfl))) (by decide) (backOf (W := 1) (rm11 l Z a0 hw [] b18 r7 p3 p2 _ _ _ _ h18 n0 (Nat.le_trans (Nat.le_trans (Nat.le_trans (Nat.le_trans (Nat.le_trans (Nat.le_trans (Nat.le_trans (Nat.le_trans (Nat.le_trans (Nat.le_trans (Nat.le_trans (Nat.le_trans Z0 Kc7.1) Kc8.1) E9.1) (Keep.of_wr W10).1) (Keep.of_wr W11).1) E12.1) Kc13.1) E14.1) Kc15.1) E16.1) Kc17.1) E18.1) E_b18 F_file_b18 g_b18 F_line_b18 F_column_b18 F_source_b18) hZ (hw _ (List.mem_of_getElem? (i := 49) rfl)) (hw _ (List.mem_of_getElem? (i := 46) rfl)) (by decide) (by decide)) (g := (mkF m 103 #[.val (.int p1), .val (.int p2), .val (.int p3), .val (.int p4), .val (.int p5), .val (.int p6), .val (.ref r7), .val (.ref r8), .val (.ref b9), .val (.ref b12), .val (.ref b14), .val (.ref b16), .unset, .unset, .unset, .unset, .unset, .unset, .unset, .unset, .unset, .unset, .unset, .unset] [(.int p2), (.int p3), (.ref r7), (.ref b18), (.ref b18)])) rfl (by rw [hml]; rfl) (Steps.refl _) (a := b18) (argsL := [(.ref r7), (.int p3), (.int p2)]) (rest := [(.ref b18)]) (lenOf pd_0_10 rfl) rfl (by show 2 * 0 + _ ≤ _; exact Nat.le_of_eq rfl) (hb hby at_103) (fun _ _ => ⟨rfl, e18, (by decide : 10 + 0 ≤ _), (by decide : 30 + 0 ≤ _)⟩)
  dsimp only [Pt.U, Pt.locs, Pt.cells, Pt.slots] at X19 l19 y19 z19 st19 hQ19
  subst l19 y19 z19
  obtain ⟨rfl, N19q, Kc19, -⟩ := hQ19
  -- Kc19 : Keep h18 T19.heap [b18]
  have N19 := Fr.app N17 N19q
  have K19 : Keep h0 T19.heap [] := K18.trans Kc19 (fun x_ hx_ => by rw [List.mem_singleton.mp hx_]; exact Or.inr sz_b18)
  obtain ⟨T20, h20, X20, e20, E20, A20, D20, -, st20⟩ := newO X19 hx hZ hown (hw _ (List.mem_of_getElem? (i := 62) rfl)) (hw _ (List.mem_of_getElem? (i := 63) rfl)) (hw _ (List.mem_of_getElem? (i := 64) rfl)) rfl (g := (mkF m 140 #[.val (.int p1), .val (.int p2), .val (.int p3), .val (.int p4), .val (.int p5), .val (.int p6), .val (.ref r7), .val (.ref r8), .val (.ref b9), .val (.ref b12), .val (.ref b14), .val (.ref b16), .val (.ref b18), .val (.int (1 : Int32)), .val (.int (1 : Int32)), .unset, .unset, .unset, .unset, .unset, .unset, .unset, .unset, .unset] [])) rfl (hb hby at_140) (by decide) (by decide)
  obtain ⟨b20, g20⟩ : ∃ z, z = T19.heap.size := ⟨_, rfl⟩      -- the fresh object's address
  rw [← g20] at A20 D20 st20      -- A20 : Exa Z h20 b20 "com/example/stubwright/stubwright/read/Token"; E20 : Ext T19.heap h20 (carries every older fact: .ext E20)
  have F_kind_b20 : Fld Z h20 b20 "com/example/stubwright/stubwright/read/Token" "kind" "Lcom/example/stubwright/stubwright/read/Token$Kind;" .null := D20 (Or.inr (hw _ (List.mem_of_getElem? (i := 80) rfl))) (ty := (.object "com/example/stubwright/stubwright/read/Token$Kind")) (by decide)
  have F_spelling_b20 : Fld Z h20 b20 "com/example/stubwright/stubwright/read/Token" "spelling" "Ljava/lang/String;" .null := D20 (Or.inr (hw _ (List.mem_of_getElem? (i := 82) rfl))) (ty := (.object "java/lang/String")) (by decide)
  have F_value_b20 : Fld Z h20 b20 "com/example/stubwright/stubwright/read/Token" "value" "Ljava/lang/Object;" .null := D20 (Or.inr (hw _ (List.mem_of_getElem? (i := 84) rfl))) (ty := (.object "java/lang/Object")) (by decide)
  have F_position_b20 : Fld Z h20 b20 "com/example/stubwright/stubwright/read/Token" "position" "Lcom/example/stubwright/stubwright/model/Position;" .null := D20 (Or.inr (hw _ (List.mem_of_getElem? (i := 86) rfl))) (ty := (.object "com/example/stubwright/stubwright/model/Position")) (by decide)
  have F_spaceBefore_b20 : Fld Z h20 b20 "com/example/stubwright/stubwright/read/Token" "spaceBefore" "Z" (.int (0 : Int32)) := D20 (Or.inr (hw _ (List.mem_of_getElem? (i := 88) rfl))) (ty := .boolean) (by decide)
  have F_painted_b20 : Fld Z h20 b20 "com/example/stubwright/stubwright/read/Token" "painted" "Z" (.int (0 : Int32)) := D20 (Or.inr (hw _ (List.mem_of_getElem? (i := 90) rfl))) (ty := .boolean) (by decide)
  have F_expansion_b20 : Fld Z h20 b20 "com/example/stubwright/stubwright/read/Token" "expansion" "Lcom/example/stubwright/stubwright/model/Position;" .null := D20 (Or.inr (hw _ (List.mem_of_getElem? (i := 92) rfl))) (ty := (.object "com/example/stubwright/stubwright/model/Position")) (by decide)
  have E_b20 := A20
  have g_b20 : n0 ≤ b20 := Nat.le_trans (Nat.le_trans (Nat.le_trans (Nat.le_trans (Nat.le_trans (Nat.le_trans (Nat.le_trans (Nat.le_trans (Nat.le_trans (Nat.le_trans (Nat.le_trans (Nat.le_trans (Nat.le_trans (Nat.le_trans Z0 Kc7.1) Kc8.1) E9.1) (Keep.of_wr W10).1) (Keep.of_wr W11).1) E12.1) Kc13.1) E14.1) Kc15.1) E16.1) Kc17.1) E18.1) Kc19.1) (Nat.le_of_eq g20.symm)
  have sz_b20 : h0.size ≤ b20 := (Nat.le_trans K19.1 (Nat.le_of_eq g20.symm))
  have K20 : Keep h0 h20 [] := K19.ext E20
  -- pc 146: com/example/stubwright/stubwright/read/TokenExpansionPointPinLaw.kindOf by its contract rm13
  obtain ⟨_, _, ⟨T21, L21, k21, n21⟩, -, X21, ⟨Lc21, hQ21, l21, y21, z21⟩, st21⟩ := Jvm.LawKit.callS X20 hx (y := (⟨"com/example/stubwright/stubwright/read/TokenExpansionPointPinLaw", "kindOf", "(I)Lcom/example/stubwright/stubwright/read/Token$Kind;"⟩ : MethodName)) hown (mvT hZ (hw _ (List.mem_of_getElem? (i := 65) rfl))) (mvT hZ (hw _ (List.mem_of_getElem? (i := 66) rfl))) (mvT hZ (hw _ (List.mem_of_getElem? (i := 67) rfl))) (mvT hZ (hw _ (List.mem_of_getElem? (i := 68) rfl))) (by decide) (backOf (W := 2) (rm13 l Z a0 hw [] p5 wk h20 n0 (Nat.le_trans (Nat.le_trans (Nat.le_trans (Nat.le_trans (Nat.le_trans (Nat.le_trans (Nat.le_trans (Nat.le_trans (Nat.le_trans (Nat.le_trans (Nat.le_trans (Nat.le_trans (Nat.le_trans (Nat.le_trans Z0 Kc7.1) Kc8.1) E9.1) (Keep.of_wr W10).1) (Keep.of_wr W11).1) E12.1) Kc13.1) E14.1) Kc15.1) E16.1) Kc17.1) E18.1) Kc19.1) E20.1) (own_sta S_kind K20)) hZ (hw _ (List.mem_of_getElem? (i := 68) rfl)) (hw _ (List.mem_of_getElem? (i := 67) rfl)) (by decide) (by decide)) (g := (mkF m 146 #[.val (.int p1), .val (.int p2), .val (.int p3), .val (.int p4), .val (.int p5), .val (.int p6), .val (.ref r7), .val (.ref r8), .val (.ref b9), .val (.ref b12), .val (.ref b14), .val (.ref b16), .val (.ref b18), .val (.int (1 : Int32)), .val (.int (1 : Int32)), .unset, .unset, .unset, .unset, .unset, .unset, .unset, .unset, .unset] [(.int p5), (.ref b20), (.ref b20)])) rfl (by rw [hml]; rfl) (argsL := [(.int p5)]) (rest := [(.ref b20), (.ref b20)]) (lenOf pd_0_12 rfl) rfl (by show 2 * 0 + _ ≤ _; exact Nat.le_of_eq rfl) (hb hby at_146) (fun _ _ => ⟨rfl, e20, (by decide : 11 + 0 ≤ _), (by decide : 37 + 0 ≤ _)⟩)
  dsimp only [Pt.U, Pt.locs, Pt.cells, Pt.slots] at X21 l21 y21 z21 st21 hQ21
  subst l21 y21 z21
  obtain ⟨rfl, N21q, hh21⟩ := hQ21
  have Kc21 : Keep h20 T21.heap [] := by rw [hh21]; exact Keep.refl _ _
  have N21 := Fr.app N19 N21q
  have K21 : Keep h0 T21.heap [] := K20.trans Kc21 (fun x_ hx_ => absurd hx_ (by simp))
  -- pc 156: the constructor of com/example/stubwright/stubwright/read/Token by its contract rm14
  obtain ⟨_, _, ⟨T22, L22, k22, n22⟩, -, X22, ⟨Lc22, hQ22, l22, y22, z22⟩, st22⟩ := X21.specialBack hx (y := (⟨"com/example/stubwright/stubwright/read/Token", "<init>", "(Lcom/example/stubwright/stubwright/read/Token$Kind;Ljava/lang/String;Ljava/lang/Object;Lcom/example/stubwright/stubwright/model/Position;Z)V"⟩ : MethodName)) rfl hown (mvT hZ (hw _ (List.mem_of_getElem? (i := 72) rfl))) (mvT hZ (hw _ (List.mem_of_getElem? (i := 73) rfl))) (mvT hZ (hw _ (List.mem_of_getElem? (i := 74) rfl))) (by decide) (backOf (W := 1) (rm14 l Z a0 hw [] b20 wk b12 b14 (1 : Int32) _ _ _ _ _ _ _ T21.heap n0 (Nat.le_trans (Nat.le_trans (Nat.le_trans (Nat.le_trans (Nat.le_trans (Nat.le_trans (Nat.le_trans (Nat.le_trans (Nat.le_trans (Nat.le_trans (Nat.le_trans (Nat.le_trans (Nat.le_trans (Nat.le_trans (Nat.le_trans Z0 Kc7.1) Kc8.1) E9.1) (Keep.of_wr W10).1) (Keep.of_wr W11).1) E12.1) Kc13.1) E14.1) Kc15.1) E16.1) Kc17.1) E18.1) Kc19.1) E20.1) Kc21.1) (E_b20.keep Kc21) (F_kind_b20.keep Kc21 (by simp)) g_b20 (F_spelling_b20.keep Kc21 (by simp)) (F_value_b20.keep Kc21 (by simp)) (F_position_b20.keep Kc21 (by simp)) (F_spaceBefore_b20.keep Kc21 (by simp)) (F_painted_b20.keep Kc21 (by simp)) (F_expansion_b20.keep Kc21 (by simp))) hZ (hw _ (List.mem_of_getElem? (i := 74) rfl)) (hw _ (List.mem_of_getElem? (i := 64) rfl)) (by decide) (by decide)) (g := (mkF m 156 #[.val (.int p1), .val (.int p2), .val (.int p3), .val (.int p4), .val (.int p5), .val (.int p6), .val (.ref r7), .val (.ref r8), .val (.ref b9), .val (.ref b12), .val (.ref b14), .val (.ref b16), .val (.ref b18), .val (.int (1 : Int32)), .val (.int (1 : Int32)), .unset, .unset, .unset, .unset, .unset, .unset, .unset, .unset, .unset] [(.int (1 : Int32)), (.ref b14), .null, (.ref b12), (.ref wk), (.ref b20), (.ref b20)])) rfl (by rw [hml]; rfl) (Steps.refl _) (a := b20) (argsL := [(.ref wk), (.ref b12), .null, (.ref b14), (.int (1 : Int32))]) (rest := [(.ref b20)]) (lenOf pd_0_13 rfl) rfl (by show 2 * 0 + _ ≤ _; exact Nat.le_of_eq rfl) (hb hby at_156) (fun _ _ => ⟨rfl, rfl, (by decide : 11 + 0 ≤ _), (by decide : 37 + 0 ≤ _)⟩)
  dsimp only [Pt.U, Pt.locs, Pt.cells, Pt.slots] at X22 l22 y22 z22 st22 hQ22
  subst l22 y22 z22
  obtain ⟨rfl, N22q, Kc22, Et22, Fkind22, Fspelling22, Fvalue22, Fposition22, FspaceBefore22, Fpainted22, Fexpansion22⟩ := hQ22
  -- Kc22 : Keep T21.heap T22.heap [b20]
  have N22 := Fr.app N21 N22q
  have K22 : Keep h0 T22.heap [] := K21.trans Kc22 (fun x_ hx_ => by rw [List.mem_singleton.mp hx_]; exact Or.inr sz_b20)
  -- pc 163: com/example/stubwright/stubwright/read/Token.expansionPoint by the contract of the body that the receiver's class selects, rm16
  obtain ⟨cq23, kq23, q23a, q23b, q23c⟩ := isOf hZ rfl Et22
  obtain ⟨_, _, ⟨T23, L23, k23, n23⟩, -, X23, ⟨Lc23, hQ23, l23, y23, z23⟩, st23⟩ := X22.virtualBack hx (y := (⟨"com/example/stubwright/stubwright/read/Token", "expansionPoint", "()Lcom/example/stubwright/stubwright/model/Position;"⟩ : MethodName)) (z := (⟨"com/example/stubwright/stubwright/read/Token", "expansionPoint", "()Lcom/example/stubwright/stubwright/model/Position;"⟩ : MethodName)) hown (mvT hZ (hw _ (List.mem_of_getElem? (i := 93) rfl))) (mvT hZ (hw _ (List.mem_of_getElem? (i := 94) rfl))) (notFace_of_selects (args := #[]) (mvT hZ (hw _ (List.mem_of_getElem? (i := 96) rfl)))) (mvT hZ (hw _ (List.mem_of_getElem? (i := 96) rfl))) (mvT hZ (hw _ (List.mem_of_getElem? (i := 95) rfl))) (by decide) (backOf (W := 0) (rm16n l Z a0 hw [] b20 b14 T22.heap n0 (Nat.le_trans (Nat.le_trans (Nat.le_trans (Nat.le_trans (Nat.le_trans (Nat.le_trans (Nat.le_trans (Nat.le_trans (Nat.le_trans (Nat.le_trans (Nat.le_trans (Nat.le_trans (Nat.le_trans (Nat.le_trans (Nat.le_trans (Nat.le_trans Z0 Kc7.1) Kc8.1) E9.1) (Keep.of_wr W10).1) (Keep.of_wr W11).1) E12.1) Kc13.1) E14.1) Kc15.1) E16.1) Kc17.1) E18.1) Kc19.1) E20.1) Kc21.1) Kc22.1) Fexpansion22 Fposition22) hZ (hw _ (List.mem_of_getElem? (i := 97) rfl)) (hw _ (List.mem_of_getElem? (i := 64) rfl)) (by decide) (by decide)) q23a q23c (g := (mkF m 163 #[.val (.int p1), .val (.int p2), .val (.int p3), .val (.int p4), .val (.int p5), .val (.int p6), .val (.ref r7), .val (.ref r8), .val (.ref b9), .val (.ref b12), .val (.ref b14), .val (.ref b16), .val (.ref b18), .val (.int (1 : Int32)), .val (.int (1 : Int32)), .val (.ref b20), .unset, .unset, .unset, .unset, .unset, .unset, .unset, .unset] [(.ref b20)])) rfl (by rw [hml]; rfl) (Steps.refl _) (argsL := []) (rest := []) (lenOf pd_0_15 rfl) rfl (by show 2 * 0 + _ ≤ _; exact Nat.le_of_eq rfl) (hb hby at_163) (fun _ _ => ⟨rfl, rfl, (by decide : 11 + 0 ≤ _), (by decide : 37 + 0 ≤ _)⟩)
  dsimp only [Pt.U, Pt.locs, Pt.cells, Pt.slots] at X23 l23 y23 z23 st23 hQ23
  subst l23 y23 z23
  obtain ⟨rfl, N23q, hh23⟩ := hQ23
  have Kc23 : Keep T22.heap T23.heap [] := by rw [hh23]; exact Keep.refl _ _
  have N23 := Fr.app N22 N23q
  have K23 : Keep h0 T23.heap [] := K22.trans Kc23 (fun x_ hx_ => absurd hx_ (by simp))
  -- pc 195: com/example/stubwright/stubwright/read/Token.expandedAt by the contract of the body that the receiver's class selects, rm17
  obtain ⟨cq24, kq24, q24a, q24b, q24c⟩ := isOf hZ rfl (Et22.keep Kc23)
  obtain ⟨_, _, ⟨T24, L24, k24, n24⟩, -, X24, ⟨Lc24, hQ24, l24, y24, z24⟩, st24⟩ := X23.virtualBack hx (y := (⟨"com/example/stubwright/stubwright/read/Token", "expandedAt", "(Lcom/example/stubwright/stubwright/model/Position;)Lcom/example/stubwright/stubwright/read/Token;"⟩ : MethodName)) (z := (⟨"com/example/stubwright/stubwright/read/Token", "expandedAt", "(Lcom/example/stubwright/stubwright/model/Position;)Lcom/example/stubwright/stubwright/read/Token;"⟩ : MethodName)) hown (mvT hZ (hw _ (List.mem_of_getElem? (i := 98) rfl))) (mvT hZ (hw _ (List.mem_of_getElem? (i := 99) rfl))) (notFace_of_selects (args := #[]) (mvT hZ (hw _ (List.mem_of_getElem? (i := 101) rfl)))) (mvT hZ (hw _ (List.mem_of_getElem? (i := 101) rfl))) (mvT hZ (hw _ (List.mem_of_getElem? (i := 100) rfl))) (by decide) (backOf (W := 0) (rm17n l Z a0 hw [] b20 wk b12 b14 (nar .boolean (1 : Int32)) (nar .boolean (0 : Int32)) T23.heap n0 (Nat.le_trans (Nat.le_trans (Nat.le_trans (Nat.le_trans (Nat.le_trans (Nat.le_trans (Nat.le_trans (Nat.le_trans (Nat.le_trans (Nat.le_trans (Nat.le_trans (Nat.le_trans (Nat.le_trans (Nat.le_trans (Nat.le_trans (Nat.le_trans (Nat.le_trans Z0 Kc7.1) Kc8.1) E9.1) (Keep.of_wr W10).1) (Keep.of_wr W11).1) E12.1) Kc13.1) E14.1) Kc15.1) E16.1) Kc17.1) E18.1) Kc19.1) E20.1) Kc21.1) Kc22.1) Kc23.1) (Fkind22.keep Kc23 (by simp)) (Fspelling22.keep Kc23 (by simp)) (Fvalue22.keep Kc23 (by simp)) (Fposition22.keep Kc23 (by simp)) (FspaceBefore22.keep Kc23 (by simp)) (Fpainted22.keep Kc23 (by simp))) hZ (hw _ (List.mem_of_getElem? (i := 102) rfl)) (hw _ (List.mem_of_getElem? (i := 64) rfl)) (by decide) (by decide)) q24a q24c (g := (mkF m 195 #[.val (.int p1), .val (.int p2), .val (.int p3), .val (.int p4), .val (.int p5), .val (.int p6), .val (.ref r7), .val (.ref r8), .val (.ref b9), .val (.ref b12), .val (.ref b14), .val (.ref b16), .val (.ref b18), .val (.int (1 : Int32)), .val (.int (1 : Int32)), .val (.ref b20), .val (.int (1 : Int32)), .val .null, .unset, .unset, .unset, .unset, .unset, .unset] [.null, (.ref b20)])) rfl (by rw [hml]; rfl) (Steps.refl _) (argsL := [.null]) (rest := []) (lenOf pd_0_16 rfl) rfl (by show 2 * 0 + _ ≤ _; exact Nat.le_of_eq rfl) (hb hby at_195) (fun _ _ => ⟨rfl, rfl, (by decide : 11 + 1 ≤ _), (by decide : 37 + 7 ≤ _)⟩)
  dsimp only [Pt.U, Pt.locs, Pt.cells, Pt.slots] at X24 l24 y24 z24 st24 hQ24
  subst l24 y24 z24
  obtain ⟨r24, rfl, N24q, Kc24, le24, Et24, Fkind24, Fspelling24, Fvalue24, Fposition24, FspaceBefore24, Fpainted24, Fexpansion24⟩ := hQ24
  -- Kc24 : Keep T23.heap T24.heap []
  have N24 := Fr.app N23 N24q
  have g_r24 : n0 ≤ r24 := Nat.le_trans (Nat.le_trans (Nat.le_trans (Nat.le_trans (Nat.le_trans (Nat.le_trans (Nat.le_trans (Nat.le_trans (Nat.le_trans (Nat.le_trans (Nat.le_trans (Nat.le_trans (Nat.le_trans (Nat.le_trans (Nat.le_trans (Nat.le_trans (Nat.le_trans (Nat.le_trans Z0 Kc7.1) Kc8.1) E9.1) (Keep.of_wr W10).1) (Keep.of_wr W11).1) E12.1) Kc13.1) E14.1) Kc15.1) E16.1) Kc17.1) E18.1) Kc19.1) E20.1) Kc21.1) Kc22.1) Kc23.1) le24
  have K24 : Keep h0 T24.heap [] := K23.trans Kc24 (fun x_ hx_ => absurd hx_ (by simp))
  -- pc 216: com/example/stubwright/stubwright/read/Token.expansionPoint by the contract of the body that the receiver's class selects, rm16
  obtain ⟨cq25, kq25, q25a, q25b, q25c⟩ := isOf hZ rfl Et24
  obtain ⟨_, _, ⟨T25, L25, k25, n25⟩, -, X25, ⟨Lc25, hQ25, l25, y25, z25⟩, st25⟩ := X24.virtualBack hx (y := (⟨"com/example/stubwright/stubwright/read/Token", "expansionPoint", "()Lcom/example/stubwright/stubwright/model/Position;"⟩ : MethodName)) (z := (⟨"com/example/stubwright/stubwright/read/Token", "expansionPoint", "()Lcom/example/stubwright/stubwright/model/Position;"⟩ : MethodName)) hown (mvT hZ (hw _ (List.mem_of_getElem? (i := 93) rfl))) (mvT hZ (hw _ (List.mem_of_getElem? (i := 94) rfl))) (notFace_of_selects (args := #[]) (mvT hZ (hw _ (List.mem_of_getElem? (i := 96) rfl)))) (mvT hZ (hw _ (List.mem_of_getElem? (i := 96) rfl))) (mvT hZ (hw _ (List.mem_of_getElem? (i := 95) rfl))) (by decide) (backOf (W := 0) (rm16n l Z a0 hw [] r24 b14 T24.heap n0 (Nat.le_trans (Nat.le_trans (Nat.le_trans (Nat.le_trans (Nat.le_trans (Nat.le_trans (Nat.le_trans (Nat.le_trans (Nat.le_trans (Nat.le_trans (Nat.le_trans (Nat.le_trans (Nat.le_trans (Nat.le_trans (Nat.le_trans (Nat.le_trans (Nat.le_trans (Nat.le_trans Z0 Kc7.1) Kc8.1) E9.1) (Keep.of_wr W10).1) (Keep.of_wr W11).1) E12.1) Kc13.1) E14.1) Kc15.1) E16.1) Kc17.1) E18.1) Kc19.1) E20.1) Kc21.1) Kc22.1) Kc23.1) Kc24.1) Fexpansion24 Fposition24) hZ (hw _ (List.mem_of_getElem? (i := 97) rfl)) (hw _ (List.mem_of_getElem? (i := 64) rfl)) (by decide) (by decide)) q25a q25c (g := (mkF m 216 #[.val (.int p1), .val (.int p2), .val (.int p3), .val (.int p4), .val (.int p5), .val (.int p6), .val (.ref r7), .val (.ref r8), .val (.ref b9), .val (.ref b12), .val (.ref b14), .val (.ref b16), .val (.ref b18), .val (.int (1 : Int32)), .val (.int (1 : Int32)), .val (.ref b20), .val (.int (1 : Int32)), .val .null, .val (.ref r24), .val (.ref b14), .unset, .unset, .unset, .unset] [(.ref r24)])) rfl (by rw [hml]; rfl) (Steps.refl _) (argsL := []) (rest := []) (lenOf pd_0_15 rfl) rfl (by show 2 * 0 + _ ≤ _; exact Nat.le_of_eq rfl) (hb hby at_216) (fun _ _ => ⟨rfl, rfl, (by decide : 12 + 0 ≤ _), (by decide : 44 + 0 ≤ _)⟩)
  dsimp only [Pt.U, Pt.locs, Pt.cells, Pt.slots] at X25 l25 y25 z25 st25 hQ25
  subst l25 y25 z25
  obtain ⟨rfl, N25q, hh25⟩ := hQ25
  have Kc25 : Keep T24.heap T25.heap [] := by rw [hh25]; exact Keep.refl _ _
  have N25 := Fr.app N24 N25q
  have K25 : Keep h0 T25.heap [] := K24.trans Kc25 (fun x_ hx_ => absurd hx_ (by simp))
  -- pc 235: com/example/stubwright/stubwright/read/Token.at by the contract of the body that the receiver's class selects, rm18
  obtain ⟨cq26, kq26, q26a, q26b, q26c⟩ := isOf hZ rfl (Et24.keep Kc25)
  obtain ⟨_, _, ⟨T26, L26, k26, n26⟩, -, X26, ⟨Lc26, hQ26, l26, y26, z26⟩, st26⟩ := X25.virtualBack hx (y := (⟨"com/example/stubwright/stubwright/read/Token", "at", "(Lcom/example/stubwright/stubwright/model/Position;)Lcom/example/stubwright/stubwright/read/Token;"⟩ : MethodName)) (z := (⟨"com/example/stubwright/stubwright/read/Token", "at", "(Lcom/example/stubwright/stubwright/model/Position;)Lcom/example/stubwright/stubwright/read/Token;"⟩ : MethodName)) hown (mvT hZ (hw _ (List.mem_of_getElem? (i := 104) rfl))) (mvT hZ (hw _ (List.mem_of_getElem? (i := 105) rfl))) (notFace_of_selects (args := #[]) (mvT hZ (hw _ (List.mem_of_getElem? (i := 107) rfl)))) (mvT hZ (hw _ (List.mem_of_getElem? (i := 107) rfl))) (mvT hZ (hw _ (List.mem_of_getElem? (i := 106) rfl))) (by decide) (backOf (W := 0) (rm18n l Z a0 hw [] r24 b18 wk b12 (nar .boolean (nar .boolean (1 : Int32))) (nar .boolean (nar .boolean (0 : Int32))) T25.heap n0 (Nat.le_trans (Nat.le_trans (Nat.le_trans (Nat.le_trans (Nat.le_trans (Nat.le_trans (Nat.le_trans (Nat.le_trans (Nat.le_trans (Nat.le_trans (Nat.le_trans (Nat.le_trans (Nat.le_trans (Nat.le_trans (Nat.le_trans (Nat.le_trans (Nat.le_trans (Nat.le_trans (Nat.le_trans Z0 Kc7.1) Kc8.1) E9.1) (Keep.of_wr W10).1) (Keep.of_wr W11).1) E12.1) Kc13.1) E14.1) Kc15.1) E16.1) Kc17.1) E18.1) Kc19.1) E20.1) Kc21.1) Kc22.1) Kc23.1) Kc24.1) Kc25.1) (Fkind24.keep Kc25 (by simp)) (Fspelling24.keep Kc25 (by simp)) (Fvalue24.keep Kc25 (by simp)) (FspaceBefore24.keep Kc25 (by simp)) (Fpainted24.keep Kc25 (by simp)) (Fexpansion24.keep Kc25 (by simp))) hZ (hw _ (List.mem_of_getElem? (i := 108) rfl)) (hw _ (List.mem_of_getElem? (i := 64) rfl)) (by decide) (by decide)) q26a q26c (g := (mkF m 235 #[.val (.int p1), .val (.int p2), .val (.int p3), .val (.int p4), .val (.int p5), .val (.int p6), .val (.ref r7), .val (.ref r8), .val (.ref b9), .val (.ref b12), .val (.ref b14), .val (.ref b16), .val (.ref b18), .val (.int (1 : Int32)), .val (.int (1 : Int32)), .val (.ref b20), .val (.int (1 : Int32)), .val .null, .val (.ref r24), .val (.ref b14), .val (.int (1 : Int32)), .unset, .unset, .unset] [(.ref b18), (.ref r24)])) rfl (by rw [hml]; rfl) (Steps.refl _) (argsL := [(.ref b18)]) (rest := []) (lenOf pd_0_16 rfl) rfl (by show 2 * 0 + _ ≤ _; exact Nat.le_of_eq rfl) (hb hby at_235) (fun _ _ => ⟨rfl, rfl, (by decide : 12 + 1 ≤ _), (by decide : 44 + 7 ≤ _)⟩)
  dsimp only [Pt.U, Pt.locs, Pt.cells, Pt.slots] at X26 l26 y26 z26 st26 hQ26
  subst l26 y26 z26
  obtain ⟨r26, rfl, N26q, Kc26, le26, Et26, Fkind26, Fspelling26, Fvalue26, Fposition26, FspaceBefore26, Fpainted26, Fexpansion26⟩ := hQ26
  -- Kc26 : Keep T25.heap T26.heap []
  have N26 := Fr.app N25 N26q
  have g_r26 : n0 ≤ r26 := Nat.le_trans (Nat.le_trans (Nat.le_trans (Nat.le_trans (Nat.le_trans (Nat.le_trans (Nat.le_trans (Nat.le_trans (Nat.le_trans (Nat.le_trans (Nat.le_trans (Nat.le_trans (Nat.le_trans (Nat.le_trans (Nat.le_trans (Nat.le_trans (Nat.le_trans (Nat.le_trans (Nat.le_trans (Nat.le_trans Z0 Kc7.1) Kc8.1) E9.1) (Keep.of_wr W10).1) (Keep.of_wr W11).1) E12.1) Kc13.1) E14.1) Kc15.1) E16.1) Kc17.1) E18.1) Kc19.1) E20.1) Kc21.1) Kc22.1) Kc23.1) Kc24.1) Kc25.1) le26
  have K26 : Keep h0 T26.heap [] := K25.trans Kc26 (fun x_ hx_ => absurd hx_ (by simp))
  -- pc 256: com/example/stubwright/stubwright/read/Token.expansionPoint by the contract of the body that the receiver's class selects, rm16
  obtain ⟨cq27, kq27, q27a, q27b, q27c⟩ := isOf hZ rfl Et26
  obtain ⟨_, _, ⟨T27, L27, k27, n27⟩, -, X27, ⟨Lc27, hQ27, l27, y27, z27⟩, st27⟩ := X26.virtualBack hx (y := (⟨"com/example/stubwright/stubwright/read/Token", "expansionPoint", "()Lcom/example/stubwright/stubwright/model/Position;"⟩ : MethodName)) (z := (⟨"com/example/stubwright/stubwright/read/Token", "expansionPoint", "()Lcom/example/stubwright/stubwright/model/Position;"⟩ : MethodName)) hown (mvT hZ (hw _ (List.mem_of_getElem? (i := 93) rfl))) (mvT hZ (hw _ (List.mem_of_getElem? (i := 94) rfl))) (notFace_of_selects (args := #[]) (mvT hZ (hw _ (List.mem_of_getElem? (i := 96) rfl)))) (mvT hZ (hw _ (List.mem_of_getElem? (i := 96) rfl))) (mvT hZ (hw _ (List.mem_of_getElem? (i := 95) rfl))) (by decide) (backOf (W := 0) (rm16n l Z a0 hw [] r26 b18 T26.heap n0 (Nat.le_trans (Nat.le_trans (Nat.le_trans (Nat.le_trans (Nat.le_trans (Nat.le_trans (Nat.le_trans (Nat.le_trans (Nat.le_trans (Nat.le_trans (Nat.le_trans (Nat.le_trans (Nat.le_trans (Nat.le_trans (Nat.le_trans (Nat.le_trans (Nat.le_trans (Nat.le_trans (Nat.le_trans (Nat.le_trans Z0 Kc7.1) Kc8.1) E9.1) (Keep.of_wr W10).1) (Keep.of_wr W11).1) E12.1) Kc13.1) E14.1) Kc15.1) E16.1) Kc17.1) E18.1) Kc19.1) E20.1) Kc21.1) Kc22.1) Kc23.1) Kc24.1) Kc25.1) Kc26.1) Fexpansion26 Fposition26) hZ (hw _ (List.mem_of_getElem? (i := 97) rfl)) (hw _ (List.mem_of_getElem? (i := 64) rfl)) (by decide) (by decide)) q27a q27c (g := (mkF m 256 #[.val (.int p1), .val (.int p2), .val (.int p3), .val (.int p4), .val (.int p5), .val (.int p6), .val (.ref r7), .val (.ref r8), .val (.ref b9), .val (.ref b12), .val (.ref b14), .val (.ref b16), .val (.ref b18), .val (.int (1 : Int32)), .val (.int (1 : Int32)), .val (.ref b20), .val (.int (1 : Int32)), .val .null, .val (.ref r24), .val (.ref b14), .val (.int (1 : Int32)), .val (.ref r26), .val (.ref b18), .unset] [(.ref r26)])) rfl (by rw [hml]; rfl) (Steps.refl _) (argsL := []) (rest := []) (lenOf pd_0_15 rfl) rfl (by show 2 * 0 + _ ≤ _; exact Nat.le_of_eq rfl) (hb hby at_256) (fun _ _ => ⟨rfl, rfl, (by decide : 13 + 0 ≤ _), (by decide : 51 + 0 ≤ _)⟩)
  dsimp only [Pt.U, Pt.locs, Pt.cells, Pt.slots] at X27 l27 y27 z27 st27 hQ27
  subst l27 y27 z27
  obtain ⟨rfl, N27q, hh27⟩ := hQ27
  have Kc27 : Keep T26.heap T27.heap [] := by rw [hh27]; exact Keep.refl _ _
  have N27 := Fr.app N26 N27q
  have K27 : Keep h0 T27.heap [] := K26.trans Kc27 (fun x_ hx_ => absurd hx_ (by simp))
  obtain ⟨fs, hr, hrun, hended, hW, hsame⟩ := X27.leave (v := some (.int (1 : Int32))) (fun h => by rw [Bd.returns] at h; cases h)
  refine ⟨_, _, pre0 _ ?_, hrun, hended, _, _, rfl, ?_, ⟨_, rfl⟩, hW, hsame.mono (by decide) (by decide)⟩
  -- 4. STEPS
  · show Steps p.tables e below (s₁.setTop (mkF m 0 #[.val (.int p1), .val (.int p2), .val (.int p3), .val (.int p4), .val (.int p5), .val (.int p6), .unset, .unset, .unset, .unset, .unset, .unset, .unset, .unset, .unset, .unset, .unset, .unset, .unset, .unset, .unset, .unset, .unset, .unset] [])) _
    refine XS.iload X0.here hx rfl (hb hby at_0) rfl ?_
    show Steps p.tables e below (s₁.setTop (mkF m 2 #[.val (.int p1), .val (.int p2), .val (.int p3), .val (.int p4), .val (.int p5), .val (.int p6), .unset, .unset, .unset, .unset, .unset, .unset, .unset, .unset, .unset, .unset, .unset, .unset, .unset, .unset, .unset, .unset, .unset, .unset] [(.int p6)])) _
    refine XS.sipush X0.here hx rfl (hb hby at_2) ?_
    show Steps p.tables e below (s₁.setTop (mkF m 5 #[.val (.int p1), .val (.int p2), .val (.int p3), .val (.int p4), .val (.int p5), .val (.int p6), .unset, .unset, .unset, .unset, .unset, .unset, .unset, .unset, .unset, .unset, .unset, .unset, .unset, .unset, .unset, .unset, .unset, .unset] [(.int (255 : Int32)), (.int p6)])) _
    refine XS.iand X0.here hx rfl (hb hby at_5) rfl ?_
    show Steps p.tables e below (s₁.setTop (mkF m 6 #[.val (.int p1), .val (.int p2), .val (.int p3), .val (.int p4), .val (.int p5), .val (.int p6), .unset, .unset, .unset, .unset, .unset, .unset, .unset, .unset, .unset, .unset, .unset, .unset, .unset, .unset, .unset, .unset, .unset, .unset] [(.int (p6 &&& (255 : Int32)))])) _
    refine XS.i2c X0.here hx rfl (hb hby at_6) rfl ?_
    show Steps p.tables e below (s₁.setTop (mkF m 7 #[.val (.int p1), .val (.int p2), .val (.int p3), .val (.int p4), .val (.int p5), .val (.int p6), .unset, .unset, .unset, .unset, .unset, .unset, .unset, .unset, .unset, .unset, .unset, .unset, .unset, .unset, .unset, .unset, .unset, .unset] [(.int ((p6 &&& (255 : Int32)).toUInt32.toUInt16.toUInt32.toInt32))])) _
    refine st7 _ ?_
    show Steps p.tables e below (T7.setTop (mkF m 10 #[.val (.int p1), .val (.int p2), .val (.int p3), .val (.int p4), .val (.int p5), .val (.int p6), .unset, .unset, .unset, .unset, .unset, .unset, .unset, .unset, .unset, .unset, .unset, .unset, .unset, .unset, .unset, .unset, .unset, .unset] [(.ref r7)])) _
    refine XS.astore X7.here hx rfl (hb hby at_10) rfl rfl (l' := #[.val (.int p1), .val (.int p2), .val (.int p3), .val (.int p4), .val (.int p5), .val (.int p6), .val (.ref r7), .unset, .unset, .unset, .unset, .unset, .unset, .unset, .unset, .unset, .unset, .unset, .unset, .unset, .unset, .unset, .unset, .unset]) rfl ?_
    show Steps p.tables e below (T7.setTop (mkF m 12 #[.val (.int p1), .val (.int p2), .val (.int p3), .val (.int p4), .val (.int p5), .val (.int p6), .val (.ref r7), .unset, .unset, .unset, .unset, .unset, .unset, .unset, .unset, .unset, .unset, .unset, .unset, .unset, .unset, .unset, .unset, .unset] [])) _
    refine XS.iload X7.here hx rfl (hb hby at_12) rfl ?_
    show Steps p.tables e below (T7.setTop (mkF m 14 #[.val (.int p1), .val (.int p2), .val (.int p3), .val (.int p4), .val (.int p5), .val (.int p6), .val (.ref r7), .unset, .unset, .unset, .unset, .unset, .unset, .unset, .unset, .unset, .unset, .unset, .unset, .unset, .unset, .unset, .unset, .unset] [(.int p6)])) _
    refine XS.bipush X7.here hx rfl (hb hby at_14) ?_
    show Steps p.tables e below (T7.setTop (mkF m 16 #[.val (.int p1), .val (.int p2), .val (.int p3), .val (.int p4), .val (.int p5), .val (.int p6), .val (.ref r7), .unset, .unset, .unset, .unset, .unset, .unset, .unset, .unset, .unset, .unset, .unset, .unset, .unset, .unset, .unset, .unset, .unset] [(.int (8 : Int32)), (.int p6)])) _
    refine XS.iushr X7.here hx rfl (hb hby at_16) rfl ?_
    show Steps p.tables e below (T7.setTop (mkF m 17 #[.val (.int p1), .val (.int p2), .val (.int p3), .val (.int p4), .val (.int p5), .val (.int p6), .val (.ref r7), .unset, .unset, .unset, .unset, .unset, .unset, .unset, .unset, .unset, .unset, .unset, .unset, .unset, .unset, .unset, .unset, .unset] [(.int ((p6.toUInt32 >>> ((8 : Int32) &&& 31).toUInt32).toInt32))])) _
    refine XS.sipush X7.here hx rfl (hb hby at_17) ?_
    show Steps p.tables e below (T7.setTop (mkF m 20 #[.val (.int p1), .val (.int p2), .val (.int p3), .val (.int p4), .val (.int p5), .val (.int p6), .val (.ref r7), .unset, .unset, .unset, .unset, .unset, .unset, .unset, .unset, .unset, .unset, .unset, .unset, .unset, .unset, .unset, .unset, .unset] [(.int (255 : Int32)), (.int ((p6.toUInt32 >>> ((8 : Int32) &&& 31).toUInt32).toInt32))])) _
    refine XS.iand X7.here hx rfl (hb hby at_20) rfl ?_
    show Steps p.tables e below (T7.setTop (mkF m 21 #[.val (.int p1), .val (.int p2), .val (.int p3), .val (.int p4), .val (.int p5), .val (.int p6), .val (.ref r7), .unset, .unset, .unset, .unset, .unset, .unset, .unset, .unset, .unset, .unset, .unset, .unset, .unset, .unset, .unset, .unset, .unset] [(.int (((p6.toUInt32 >>> ((8 : Int32) &&& 31).toUInt32).toInt32) &&& (255 : Int32)))])) _
    refine XS.i2c X7.here hx rfl (hb hby at_21) rfl ?_
    show Steps p.tables e below (T7.setTop (mkF m 22 #[.val (.int p1), .val (.int p2), .val (.int p3), .val (.int p4), .val (.int p5), .val (.int p6), .val (.ref r7), .unset, .unset, .unset, .unset, .unset, .unset, .unset, .unset, .unset, .unset, .unset, .unset, .unset, .unset, .unset, .unset, .unset] [(.int ((((p6.toUInt32 >>> ((8 : Int32) &&& 31).toUInt32).toInt32) &&& (255 : Int32)).toUInt32.toUInt16.toUInt32.toInt32))])) _
    refine st8 _ ?_
    show Steps p.tables e below (T8.setTop (mkF m 25 #[.val (.int p1), .val (.int p2), .val (.int p3), .val (.int p4), .val (.int p5), .val (.int p6), .val (.ref r7), .unset, .unset, .unset, .unset, .unset, .unset, .unset, .unset, .unset, .unset, .unset, .unset, .unset, .unset, .unset, .unset, .unset] [(.ref r8)])) _
    refine XS.astore X8.here hx rfl (hb hby at_25) rfl rfl (l' := #[.val (.int p1), .val (.int p2), .val (.int p3), .val (.int p4), .val (.int p5), .val (.int p6), .val (.ref r7), .val (.ref r8), .unset, .unset, .unset, .unset, .unset, .unset, .unset, .unset, .unset, .unset, .unset, .unset, .unset, .unset, .unset, .unset]) rfl ?_
    show Steps p.tables e below (T8.setTop (mkF m 27 #[.val (.int p1), .val (.int p2), .val (.int p3), .val (.int p4), .val (.int p5), .val (.int p6), .val (.ref r7), .val (.ref r8), .unset, .unset, .unset, .unset, .unset, .unset, .unset, .unset, .unset, .unset, .unset, .unset, .unset, .unset, .unset, .unset] [])) _
    refine XS.iconst X8.here hx rfl (hb hby at_27) ?_
    show Steps p.tables e below (T8.setTop (mkF m 28 #[.val (.int p1), .val (.int p2), .val (.int p3), .val (.int p4), .val (.int p5), .val (.int p6), .val (.ref r7), .val (.ref r8), .unset, .unset, .unset, .unset, .unset, .unset, .unset, .unset, .unset, .unset, .unset, .unset, .unset, .unset, .unset, .unset] [(.int (2 : Int32))])) _
    refine st9 _ ?_
    show Steps p.tables e below (T9.setTop (mkF m 30 #[.val (.int p1), .val (.int p2), .val (.int p3), .val (.int p4), .val (.int p5), .val (.int p6), .val (.ref r7), .val (.ref r8), .unset, .unset, .unset, .unset, .unset, .unset, .unset, .unset, .unset, .unset, .unset, .unset, .unset, .unset, .unset, .unset] [(.ref b9)])) _
    refine XS.dup X9.here hx rfl (hb hby at_30) rfl rfl ?_
    show Steps p.tables e below (T9.setTop (mkF m 31 #[.val (.int p1), .val (.int p2), .val (.int p3), .val (.int p4), .val (.int p5), .val (.int p6), .val (.ref r7), .val (.ref r8), .unset, .unset, .unset, .unset, .unset, .unset, .unset, .unset, .unset, .unset, .unset, .unset, .unset, .unset, .unset, .unset] [(.ref b9), (.ref b9)])) _
    refine XS.iconst X9.here hx rfl (hb hby at_31) ?_
    show Steps p.tables e below (T9.setTop (mkF m 32 #[.val (.int p1), .val (.int p2), .val (.int p3), .val (.int p4), .val (.int p5), .val (.int p6), .val (.ref r7), .val (.ref r8), .unset, .unset, .unset, .unset, .unset, .unset, .unset, .unset, .unset, .unset, .unset, .unset, .unset, .unset, .unset, .unset] [(.int (0 : Int32)), (.ref b9), (.ref b9)])) _
    refine XS.iload X9.here hx rfl (hb hby at_32) rfl ?_
    show Steps p.tables e below (T9.setTop (mkF m 34 #[.val (.int p1), .val (.int p2), .val (.int p3), .val (.int p4), .val (.int p5), .val (.int p6), .val (.ref r7), .val (.ref r8), .unset, .unset, .unset, .unset, .unset, .unset, .unset, .unset, .unset, .unset, .unset, .unset, .unset, .unset, .unset, .unset] [(.int p6), (.int (0 : Int32)), (.ref b9), (.ref b9)])) _
    refine XS.bipush X9.here hx rfl (hb hby at_34) ?_
    show Steps p.tables e below (T9.setTop (mkF m 36 #[.val (.int p1), .val (.int p2), .val (.int p3), .val (.int p4), .val (.int p5), .val (.int p6), .val (.ref r7), .val (.ref r8), .unset, .unset, .unset, .unset, .unset, .unset, .unset, .unset, .unset, .unset, .unset, .unset, .unset, .unset, .unset, .unset] [(.int (16 : Int32)), (.int p6), (.int (0 : Int32)), (.ref b9), (.ref b9)])) _
    refine XS.iushr X9.here hx rfl (hb hby at_36) rfl ?_
    show Steps p.tables e below (T9.setTop (mkF m 37 #[.val (.int p1), .val (.int p2), .val (.int p3), .val (.int p4), .val (.int p5), .val (.int p6), .val (.ref r7), .val (.ref r8), .unset, .unset, .unset, .unset, .unset, .unset, .unset, .unset, .unset, .unset, .unset, .unset, .unset, .unset, .unset, .unset] [(.int ((p6.toUInt32 >>> ((16 : Int32) &&& 31).toUInt32).toInt32)), (.int (0 : Int32)), (.ref b9), (.ref b9)])) _
    refine XS.sipush X9.here hx rfl (hb hby at_37) ?_
    show Steps p.tables e below (T9.setTop (mkF m 40 #[.val (.int p1), .val (.int p2), .val (.int p3), .val (.int p4), .val (.int p5), .val (.int p6), .val (.ref r7), .val (.ref r8), .unset, .unset, .unset, .unset, .unset, .unset, .unset, .unset, .unset, .unset, .unset, .unset, .unset, .unset, .unset, .unset] [(.int (255 : Int32)), (.int ((p6.toUInt32 >>> ((16 : Int32) &&& 31).toUInt32).toInt32)), (.int (0 : Int32)), (.ref b9), (.ref b9)])) _
    refine XS.iand X9.here hx rfl (hb hby at_40) rfl ?_
    show Steps p.tables e below (T9.setTop (mkF m 41 #[.val (.int p1), .val (.int p2), .val (.int p3), .val (.int p4), .val (.int p5), .val (.int p6), .val (.ref r7), .val (.ref r8), .unset, .unset, .unset, .unset, .unset, .unset, .unset, .unset, .unset, .unset, .unset, .unset, .unset, .unset, .unset, .unset] [(.int (((p6.toUInt32 >>> ((16 : Int32) &&& 31).toUInt32).toInt32) &&& (255 : Int32))), (.int (0 : Int32)), (.ref b9), (.ref b9)])) _
    refine XS.i2c X9.here hx rfl (hb hby at_41) rfl ?_
    show Steps p.tables e below (T9.setTop (mkF m 42 #[.val (.int p1), .val (.int p2), .val (.int p3), .val (.int p4), .val (.int p5), .val (.int p6), .val (.ref r7), .val (.ref r8), .unset, .unset, .unset, .unset, .unset, .unset, .unset, .unset, .unset, .unset, .unset, .unset, .unset, .unset, .unset, .unset] [(.int ((((p6.toUInt32 >>> ((16 : Int32) &&& 31).toUInt32).toInt32) &&& (255 : Int32)).toUInt32.toUInt16.toUInt32.toInt32)), (.int (0 : Int32)), (.ref b9), (.ref b9)])) _
    refine st10 _ ?_
    show Steps p.tables e below (T10.setTop (mkF m 43 #[.val (.int p1), .val (.int p2), .val (.int p3), .val (.int p4), .val (.int p5), .val (.int p6), .val (.ref r7), .val (.ref r8), .unset, .unset, .unset, .unset, .unset, .unset, .unset, .unset, .unset, .unset, .unset, .unset, .unset, .unset, .unset, .unset] [(.ref b9)])) _
    refine XS.dup X10.here hx rfl (hb hby at_43) rfl rfl ?_
    show Steps p.tables e below (T10.setTop (mkF m 44 #[.val (.int p1), .val (.int p2), .val (.int p3), .val (.int p4), .val (.int p5), .val (.int p6), .val (.ref r7), .val (.ref r8), .unset, .unset, .unset, .unset, .unset, .unset, .unset, .unset, .unset, .unset, .unset, .unset, .unset, .unset, .unset, .unset] [(.ref b9), (.ref b9)])) _
    refine XS.iconst X10.here hx rfl (hb hby at_44) ?_
    show Steps p.tables e below (T10.setTop (mkF m 45 #[.val (.int p1), .val (.int p2), .val (.int p3), .val (.int p4), .val (.int p5), .val (.int p6), .val (.ref r7), .val (.ref r8), .unset, .unset, .unset, .unset, .unset, .unset, .unset, .unset, .unset, .unset, .unset, .unset, .unset, .unset, .unset, .unset] [(.int (1 : Int32)), (.ref b9), (.ref b9)])) _
    refine XS.iload X10.here hx rfl (hb hby at_45) rfl ?_
    show Steps p.tables e below (T10.setTop (mkF m 47 #[.val (.int p1), .val (.int p2), .val (.int p3), .val (.int p4), .val (.int p5), .val (.int p6), .val (.ref r7), .val (.ref r8), .unset, .unset, .unset, .unset, .unset, .unset, .unset, .unset, .unset, .unset, .unset, .unset, .unset, .unset, .unset, .unset] [(.int p6), (.int (1 : Int32)), (.ref b9), (.ref b9)])) _
    refine XS.bipush X10.here hx rfl (hb hby at_47) ?_
    show Steps p.tables e below (T10.setTop (mkF m 49 #[.val (.int p1), .val (.int p2), .val (.int p3), .val (.int p4), .val (.int p5), .val (.int p6), .val (.ref r7), .val (.ref r8), .unset, .unset, .unset, .unset, .unset, .unset, .unset, .unset, .unset, .unset, .unset, .unset, .unset, .unset, .unset, .unset] [(.int (24 : Int32)), (.int p6), (.int (1 : Int32)), (.ref b9), (.ref b9)])) _
    refine XS.iushr X10.here hx rfl (hb hby at_49) rfl ?_
    show Steps p.tables e below (T10.setTop (mkF m 50 #[.val (.int p1), .val (.int p2), .val (.int p3), .val (.int p4), .val (.int p5), .val (.int p6), .val (.ref r7), .val (.ref r8), .unset, .unset, .unset, .unset, .unset, .unset, .unset, .unset, .unset, .unset, .unset, .unset, .unset, .unset, .unset, .unset] [(.int ((p6.toUInt32 >>> ((24 : Int32) &&& 31).toUInt32).toInt32)), (.int (1 : Int32)), (.ref b9), (.ref b9)])) _
    refine XS.sipush X10.here hx rfl (hb hby at_50) ?_
    show Steps p.tables e below (T10.setTop (mkF m 53 #[.val (.int p1), .val (.int p2), .val (.int p3), .val (.int p4), .val (.int p5), .val (.int p6), .val (.ref r7), .val (.ref r8), .unset, .unset, .unset, .unset, .unset, .unset, .unset, .unset, .unset, .unset, .unset, .unset, .unset, .unset, .unset, .unset] [(.int (255 : Int32)), (.int ((p6.toUInt32 >>> ((24 : Int32) &&& 31).toUInt32).toInt32)), (.int (1 : Int32)), (.ref b9), (.ref b9)])) _
    refine XS.iand X10.here hx rfl (hb hby at_53) rfl ?_
    show Steps p.tables e below (T10.setTop (mkF m 54 #[.val (.int p1), .val (.int p2), .val (.int p3), .val (.int p4), .val (.int p5), .val (.int p6), .val (.ref r7), .val (.ref r8), .unset, .unset, .unset, .unset, .unset, .unset, .unset, .unset, .unset, .unset, .unset, .unset, .unset, .unset, .unset, .unset] [(.int (((p6.toUInt32 >>> ((24 : Int32) &&& 31).toUInt32).toInt32) &&& (255 : Int32))), (.int (1 : Int32)), (.ref b9), (.ref b9)])) _
    refine XS.i2c X10.here hx rfl (hb hby at_54) rfl ?_
    show Steps p.tables e below (T10.setTop (mkF m 55 #[.val (.int p1), .val (.int p2), .val (.int p3), .val (.int p4), .val (.int p5), .val (.int p6), .val (.ref r7), .val (.ref r8), .unset, .unset, .unset, .unset, .unset, .unset, .unset, .unset, .unset, .unset, .unset, .unset, .unset, .unset, .unset, .unset] [(.int ((((p6.toUInt32 >>> ((24 : Int32) &&& 31).toUInt32).toInt32) &&& (255 : Int32)).toUInt32.toUInt16.toUInt32.toInt32)), (.int (1 : Int32)), (.ref b9), (.ref b9)])) _
    refine st11 _ ?_
    show Steps p.tables e below (T11.setTop (mkF m 56 #[.val (.int p1), .val (.int p2), .val (.int p3), .val (.int p4), .val (.int p5), .val (.int p6), .val (.ref r7), .val (.ref r8), .unset, .unset, .unset, .unset, .unset, .unset, .unset, .unset, .unset, .unset, .unset, .unset, .unset, .unset, .unset, .unset] [(.ref b9)])) _
    refine XS.astore X11.here hx rfl (hb hby at_56) rfl rfl (l' := #[.val (.int p1), .val (.int p2), .val (.int p3), .val (.int p4), .val (.int p5), .val (.int p6), .val (.ref r7), .val (.ref r8), .val (.ref b9), .unset, .unset, .unset, .unset, .unset, .unset, .unset, .unset, .unset, .unset, .unset, .unset, .unset, .unset, .unset]) rfl ?_
    show Steps p.tables e below (T11.setTop (mkF m 58 #[.val (.int p1), .val (.int p2), .val (.int p3), .val (.int p4), .val (.int p5), .val (.int p6), .val (.ref r7), .val (.ref r8), .val (.ref b9), .unset, .unset, .unset, .unset, .unset, .unset, .unset, .unset, .unset, .unset, .unset, .unset, .unset, .unset, .unset] [])) _
    refine st12 _ ?_
    show Steps p.tables e below (T12.setTop (mkF m 61 #[.val (.int p1), .val (.int p2), .val (.int p3), .val (.int p4), .val (.int p5), .val (.int p6), .val (.ref r7), .val (.ref r8), .val (.ref b9), .unset, .unset, .unset, .unset, .unset, .unset, .unset, .unset, .unset, .unset, .unset, .unset, .unset, .unset, .unset] [(.ref b12)])) _
    refine XS.dup X12.here hx rfl (hb hby at_61) rfl rfl ?_
    show Steps p.tables e below (T12.setTop (mkF m 62 #[.val (.int p1), .val (.int p2), .val (.int p3), .val (.int p4), .val (.int p5), .val (.int p6), .val (.ref r7), .val (.ref r8), .val (.ref b9), .unset, .unset, .unset, .unset, .unset, .unset, .unset, .unset, .unset, .unset, .unset, .unset, .unset, .unset, .unset] [(.ref b12), (.ref b12)])) _
    refine XS.aload X12.here hx rfl (hb hby at_62) rfl rfl ?_
    show Steps p.tables e below (T12.setTop (mkF m 64 #[.val (.int p1), .val (.int p2), .val (.int p3), .val (.int p4), .val (.int p5), .val (.int p6), .val (.ref r7), .val (.ref r8), .val (.ref b9), .unset, .unset, .unset, .unset, .unset, .unset, .unset, .unset, .unset, .unset, .unset, .unset, .unset, .unset, .unset] [(.ref b9), (.ref b12), (.ref b12)])) _
    refine st13.trans ?_
    show Steps p.tables e below (T13.setTop (mkF m 67 #[.val (.int p1), .val (.int p2), .val (.int p3), .val (.int p4), .val (.int p5), .val (.int p6), .val (.ref r7), .val (.ref r8), .val (.ref b9), .unset, .unset, .unset, .unset, .unset, .unset, .unset, .unset, .unset, .unset, .unset, .unset, .unset, .unset, .unset] [(.ref b12)])) _
    refine XS.astore X13.here hx rfl (hb hby at_67) rfl rfl (l' := #[.val (.int p1), .val (.int p2), .val (.int p3), .val (.int p4), .val (.int p5), .val (.int p6), .val (.ref r7), .val (.ref r8), .val (.ref b9), .val (.ref b12), .unset, .unset, .unset, .unset, .unset, .unset, .unset, .unset, .unset, .unset, .unset, .unset, .unset, .unset]) rfl ?_
    show Steps p.tables e below (T13.setTop (mkF m 69 #[.val (.int p1), .val (.int p2), .val (.int p3), .val (.int p4), .val (.int p5), .val (.int p6), .val (.ref r7), .val (.ref r8), .val (.ref b9), .val (.ref b12), .unset, .unset, .unset, .unset, .unset, .unset, .unset, .unset, .unset, .unset, .unset, .unset, .unset, .unset] [])) _
    refine st14 _ ?_
    show Steps p.tables e below (T14.setTop (mkF m 72 #[.val (.int p1), .val (.int p2), .val (.int p3), .val (.int p4), .val (.int p5), .val (.int p6), .val (.ref r7), .val (.ref r8), .val (.ref b9), .val (.ref b12), .unset, .unset, .unset, .unset, .unset, .unset, .unset, .unset, .unset, .unset, .unset, .unset, .unset, .unset] [(.ref b14)])) _
    refine XS.dup X14.here hx rfl (hb hby at_72) rfl rfl ?_
    show Steps p.tables e below (T14.setTop (mkF m 73 #[.val (.int p1), .val (.int p2), .val (.int p3), .val (.int p4), .val (.int p5), .val (.int p6), .val (.ref r7), .val (.ref r8), .val (.ref b9), .val (.ref b12), .unset, .unset, .unset, .unset, .unset, .unset, .unset, .unset, .unset, .unset, .unset, .unset, .unset, .unset] [(.ref b14), (.ref b14)])) _
    refine XS.aload X14.here hx rfl (hb hby at_73) rfl rfl ?_
    show Steps p.tables e below (T14.setTop (mkF m 75 #[.val (.int p1), .val (.int p2), .val (.int p3), .val (.int p4), .val (.int p5), .val (.int p6), .val (.ref r7), .val (.ref r8), .val (.ref b9), .val (.ref b12), .unset, .unset, .unset, .unset, .unset, .unset, .unset, .unset, .unset, .unset, .unset, .unset, .unset, .unset] [(.ref r7), (.ref b14), (.ref b14)])) _
    refine XS.iloadN X14.here hx rfl (hb hby at_75) rfl ?_
    show Steps p.tables e below (T14.setTop (mkF m 76 #[.val (.int p1), .val (.int p2), .val (.int p3), .val (.int p4), .val (.int p5), .val (.int p6), .val (.ref r7), .val (.ref r8), .val (.ref b9), .val (.ref b12), .unset, .unset, .unset, .unset, .unset, .unset, .unset, .unset, .unset, .unset, .unset, .unset, .unset, .unset] [(.int p1), (.ref r7), (.ref b14), (.ref b14)])) _
    refine XS.iloadN X14.here hx rfl (hb hby at_76) rfl ?_
    show Steps p.tables e below (T14.setTop (mkF m 77 #[.val (.int p1), .val (.int p2), .val (.int p3), .val (.int p4), .val (.int p5), .val (.int p6), .val (.ref r7), .val (.ref r8), .val (.ref b9), .val (.ref b12), .unset, .unset, .unset, .unset, .unset, .unset, .unset, .unset, .unset, .unset, .unset, .unset, .unset, .unset] [(.int p2), (.int p1), (.ref r7), (.ref b14), (.ref b14)])) _
    refine st15.trans ?_
    show Steps p.tables e below (T15.setTop (mkF m 80 #[.val (.int p1), .val (.int p2), .val (.int p3), .val (.int p4), .val (.int p5), .val (.int p6), .val (.ref r7), .val (.ref r8), .val (.ref b9), .val (.ref b12), .unset, .unset, .unset, .unset, .unset, .unset, .unset, .unset, .unset, .unset, .unset, .unset, .unset, .unset] [(.ref b14)])) _
    refine XS.astore X15.here hx rfl (hb hby at_80) rfl rfl (l' := #[.val (.int p1), .val (.int p2), .val (.int p3), .val (.int p4), .val (.int p5), .val (.int p6), .val (.ref r7), .val (.ref r8), .val (.ref b9), .val (.ref b12), .val (.ref b14), .unset, .unset, .unset, .unset, .unset, .unset, .unset, .unset, .unset, .unset, .unset, .unset, .unset]) rfl ?_
    show Steps p.tables e below (T15.setTop (mkF m 82 #[.val (.int p1), .val (.int p2), .val (.int p3), .val (.int p4), .val (.int p5), .val (.int p6), .val (.ref r7), .val (.ref r8), .val (.ref b9), .val (.ref b12), .val (.ref b14), .unset, .unset, .unset, .unset, .unset, .unset, .unset, .unset, .unset, .unset, .unset, .unset, .unset] [])) _
    refine st16 _ ?_
    show Steps p.tables e below (T16.setTop (mkF m 85 #[.val (.int p1), .val (.int p2), .val (.int p3), .val (.int p4), .val (.int p5), .val (.int p6), .val (.ref r7), .val (.ref r8), .val (.ref b9), .val (.ref b12), .val (.ref b14), .unset, .unset, .unset, .unset, .unset, .unset, .unset, .unset, .unset, .unset, .unset, .unset, .unset] [(.ref b16)])) _
    refine XS.dup X16.here hx rfl (hb hby at_85) rfl rfl ?_
    show Steps p.tables e below (T16.setTop (mkF m 86 #[.val (.int p1), .val (.int p2), .val (.int p3), .val (.int p4), .val (.int p5), .val (.int p6), .val (.ref r7), .val (.ref r8), .val (.ref b9), .val (.ref b12), .val (.ref b14), .unset, .unset, .unset, .unset, .unset, .unset, .unset, .unset, .unset, .unset, .unset, .unset, .unset] [(.ref b16), (.ref b16)])) _
    refine XS.aload X16.here hx rfl (hb hby at_86) rfl rfl ?_
    show Steps p.tables e below (T16.setTop (mkF m 88 #[.val (.int p1), .val (.int p2), .val (.int p3), .val (.int p4), .val (.int p5), .val (.int p6), .val (.ref r7), .val (.ref r8), .val (.ref b9), .val (.ref b12), .val (.ref b14), .unset, .unset, .unset, .unset, .unset, .unset, .unset, .unset, .unset, .unset, .unset, .unset, .unset] [(.ref r8), (.ref b16), (.ref b16)])) _
    refine XS.iloadN X16.here hx rfl (hb hby at_88) rfl ?_
    show Steps p.tables e below (T16.setTop (mkF m 89 #[.val (.int p1), .val (.int p2), .val (.int p3), .val (.int p4), .val (.int p5), .val (.int p6), .val (.ref r7), .val (.ref r8), .val (.ref b9), .val (.ref b12), .val (.ref b14), .unset, .unset, .unset, .unset, .unset, .unset, .unset, .unset, .unset, .unset, .unset, .unset, .unset] [(.int p3), (.ref r8), (.ref b16), (.ref b16)])) _
    refine XS.iloadN X16.here hx rfl (hb hby at_89) rfl ?_
    show Steps p.tables e below (T16.setTop (mkF m 90 #[.val (.int p1), .val (.int p2), .val (.int p3), .val (.int p4), .val (.int p5), .val (.int p6), .val (.ref r7), .val (.ref r8), .val (.ref b9), .val (.ref b12), .val (.ref b14), .unset, .unset, .unset, .unset, .unset, .unset, .unset, .unset, .unset, .unset, .unset, .unset, .unset] [(.int p4), (.int p3), (.ref r8), (.ref b16), (.ref b16)])) _
    refine st17.trans ?_
    show Steps p.tables e below (T17.setTop (mkF m 93 #[.val (.int p1), .val (.int p2), .val (.int p3), .val (.int p4), .val (.int p5), .val (.int p6), .val (.ref r7), .val (.ref r8), .val (.ref b9), .val (.ref b12), .val (.ref b14), .unset, .unset, .unset, .unset, .unset, .unset, .unset, .unset, .unset, .unset, .unset, .unset, .unset] [(.ref b16)])) _
    refine XS.astore X17.here hx rfl (hb hby at_93) rfl rfl (l' := #[.val (.int p1), .val (.int p2), .val (.int p3), .val (.int p4), .val (.int p5), .val (.int p6), .val (.ref r7), .val (.ref r8), .val (.ref b9), .val (.ref b12), .val (.ref b14), .val (.ref b16), .unset, .unset, .unset, .unset, .unset, .unset, .unset, .unset, .unset, .unset, .unset, .unset]) rfl ?_
    show Steps p.tables e below (T17.setTop (mkF m 95 #[.val (.int p1), .val (.int p2), .val (.int p3), .val (.int p4), .val (.int p5), .val (.int p6), .val (.ref r7), .val (.ref r8), .val (.ref b9), .val (.ref b12), .val (.ref b14), .val (.ref b16), .unset, .unset, .unset, .unset, .unset, .unset, .unset, .unset, .unset, .unset, .unset, .unset] [])) _
    refine st18 _ ?_
    show Steps p.tables e below (T18.setTop (mkF m 98 #[.val (.int p1), .val (.int p2), .val (.int p3), .val (.int p4), .val (.int p5), .val (.int p6), .val (.ref r7), .val (.ref r8), .val (.ref b9), .val (.ref b12), .val (.ref b14), .val (.ref b16), .unset, .unset, .unset, .unset, .unset, .unset, .unset, .unset, .unset, .unset, .unset, .unset] [(.ref b18)])) _
    refine XS.dup X18.here hx rfl (hb hby at_98) rfl rfl ?_
    show Steps p.tables e below (T18.setTop (mkF m 99 #[.val (.int p1), .val (.int p2), .val (.int p3), .val (.int p4), .val (.int p5), .val (.int p6), .val (.ref r7), .val (.ref r8), .val (.ref b9), .val (.ref b12), .val (.ref b14), .val (.ref b16), .unset, .unset, .unset, .unset, .unset, .unset, .unset, .unset, .unset, .unset, .unset, .unset] [(.ref b18), (.ref b18)])) _
    refine XS.aload X18.here hx rfl (hb hby at_99) rfl rfl ?_
    show Steps p.tables e below (T18.setTop (mkF m 101 #[.val (.int p1), .val (.int p2), .val (.int p3), .val (.int p4), .val (.int p5), .val (.int p6), .val (.ref r7), .val (.ref r8), .val (.ref b9), .val (.ref b12), .val (.ref b14), .val (.ref b16), .unset, .unset, .unset, .unset, .unset, .unset, .unset, .unset, .unset, .unset, .unset, .unset] [(.ref r7), (.ref b18), (.ref b18)])) _
    refine XS.iloadN X18.here hx rfl (hb hby at_101) rfl ?_
    show Steps p.tables e below (T18.setTop (mkF m 102 #[.val (.int p1), .val (.int p2), .val (.int p3), .val (.int p4), .val (.int p5), .val (.int p6), .val (.ref r7), .val (.ref r8), .val (.ref b9), .val (.ref b12), .val (.ref b14), .val (.ref b16), .unset, .unset, .unset, .unset, .unset, .unset, .unset, .unset, .unset, .unset, .unset, .unset] [(.int p3), (.ref r7), (.ref b18), (.ref b18)])) _
    refine XS.iloadN X18.here hx rfl (hb hby at_102) rfl ?_
    show Steps p.tables e below (T18.setTop (mkF m 103 #[.val (.int p1), .val (.int p2), .val (.int p3), .val (.int p4), .val (.int p5), .val (.int p6), .val (.ref r7), .val (.ref r8), .val (.ref b9), .val (.ref b12), .val (.ref b14), .val (.ref b16), .unset, .unset, .unset, .unset, .unset, .unset, .unset, .unset, .unset, .unset, .unset, .unset] [(.int p2), (.int p3), (.ref r7), (.ref b18), (.ref b18)])) _
    refine st19.trans ?_
    show Steps p.tables e below (T19.setTop (mkF m 106 #[.val (.int p1), .val (.int p2), .val (.int p3), .val (.int p4), .val (.int p5), .val (.int p6), .val (.ref r7), .val (.ref r8), .val (.ref b9), .val (.ref b12), .val (.ref b14), .val (.ref b16), .unset, .unset, .unset, .unset, .unset, .unset, .unset, .unset, .unset, .unset, .unset, .unset] [(.ref b18)])) _
    refine XS.astore X19.here hx rfl (hb hby at_106) rfl rfl (l' := #[.val (.int p1), .val (.int p2), .val (.int p3), .val (.int p4), .val (.int p5), .val (.int p6), .val (.ref r7), .val (.ref r8), .val (.ref b9), .val (.ref b12), .val (.ref b14), .val (.ref b16), .val (.ref b18), .unset, .unset, .unset, .unset, .unset, .unset, .unset, .unset, .unset, .unset, .unset]) rfl ?_
    show Steps p.tables e below (T19.setTop (mkF m 108 #[.val (.int p1), .val (.int p2), .val (.int p3), .val (.int p4), .val (.int p5), .val (.int p6), .val (.ref r7), .val (.ref r8), .val (.ref b9), .val (.ref b12), .val (.ref b14), .val (.ref b16), .val (.ref b18), .unset, .unset, .unset, .unset, .unset, .unset, .unset, .unset, .unset, .unset, .unset] [])) _
    refine XS.iload X19.here hx rfl (hb hby at_108) rfl ?_
    show Steps p.tables e below (T19.setTop (mkF m 110 #[.val (.int p1), .val (.int p2), .val (.int p3), .val (.int p4), .val (.int p5), .val (.int p6), .val (.ref r7), .val (.ref r8), .val (.ref b9), .val (.ref b12), .val (.ref b14), .val (.ref b16), .val (.ref b18), .unset, .unset, .unset, .unset, .unset, .unset, .unset, .unset, .unset, .unset, .unset] [(.int p5)])) _
    refine XS.iconst X19.here hx rfl (hb hby at_110) ?_
    show Steps p.tables e below (T19.setTop (mkF m 111 #[.val (.int p1), .val (.int p2), .val (.int p3), .val (.int p4), .val (.int p5), .val (.int p6), .val (.ref r7), .val (.ref r8), .val (.ref b9), .val (.ref b12), .val (.ref b14), .val (.ref b16), .val (.ref b18), .unset, .unset, .unset, .unset, .unset, .unset, .unset, .unset, .unset, .unset, .unset] [(.int (2 : Int32)), (.int p5)])) _
    refine XS.iushr X19.here hx rfl (hb hby at_111) rfl ?_
    show Steps p.tables e below (T19.setTop (mkF m 112 #[.val (.int p1), .val (.int p2), .val (.int p3), .val (.int p4), .val (.int p5), .val (.int p6), .val (.ref r7), .val (.ref r8), .val (.ref b9), .val (.ref b12), .val (.ref b14), .val (.ref b16), .val (.ref b18), .unset, .unset, .unset, .unset, .unset, .unset, .unset, .unset, .unset, .unset, .unset] [(.int ((p5.toUInt32 >>> ((2 : Int32) &&& 31).toUInt32).toInt32))])) _
    refine XS.iconst X19.here hx rfl (hb hby at_112) ?_
    show Steps p.tables e below (T19.setTop (mkF m 113 #[.val (.int p1), .val (.int p2), .val (.int p3), .val (.int p4), .val (.int p5), .val (.int p6), .val (.ref r7), .val (.ref r8), .val (.ref b9), .val (.ref b12), .val (.ref b14), .val (.ref b16), .val (.ref b18), .unset, .unset, .unset, .unset, .unset, .unset, .unset, .unset, .unset, .unset, .unset] [(.int (1 : Int32)), (.int ((p5.toUInt32 >>> ((2 : Int32) &&& 31).toUInt32).toInt32))])) _
    refine XS.iand X19.here hx rfl (hb hby at_113) rfl ?_
    show Steps p.tables e below (T19.setTop (mkF m 114 #[.val (.int p1), .val (.int p2), .val (.int p3), .val (.int p4), .val (.int p5), .val (.int p6), .val (.ref r7), .val (.ref r8), .val (.ref b9), .val (.ref b12), .val (.ref b14), .val (.ref b16), .val (.ref b18), .unset, .unset, .unset, .unset, .unset, .unset, .unset, .unset, .unset, .unset, .unset] [(.int (((p5.toUInt32 >>> ((2 : Int32) &&& 31).toUInt32).toInt32) &&& (1 : Int32)))])) _
    refine XS.ifNo X19.here hx rfl (hb hby at_114) rfl ((if0 _ _).trans (feq hc114).1) ?_
    show Steps p.tables e below (T19.setTop (mkF m 117 #[.val (.int p1), .val (.int p2), .val (.int p3), .val (.int p4), .val (.int p5), .val (.int p6), .val (.ref r7), .val (.ref r8), .val (.ref b9), .val (.ref b12), .val (.ref b14), .val (.ref b16), .val (.ref b18), .unset, .unset, .unset, .unset, .unset, .unset, .unset, .unset, .unset, .unset, .unset] [])) _
    refine XS.iconst X19.here hx rfl (hb hby at_117) ?_
    show Steps p.tables e below (T19.setTop (mkF m 118 #[.val (.int p1), .val (.int p2), .val (.int p3), .val (.int p4), .val (.int p5), .val (.int p6), .val (.ref r7), .val (.ref r8), .val (.ref b9), .val (.ref b12), .val (.ref b14), .val (.ref b16), .val (.ref b18), .unset, .unset, .unset, .unset, .unset, .unset, .unset, .unset, .unset, .unset, .unset] [(.int (1 : Int32))])) _
    refine XS.goto X19.here hx rfl (pc0 := 118) (pc' := 122) rfl (hb hby at_118) (by decide) (by decide) ?_
    show Steps p.tables e below (T19.setTop (mkF m 122 #[.val (.int p1), .val (.int p2), .val (.int p3), .val (.int p4), .val (.int p5), .val (.int p6), .val (.ref r7), .val (.ref r8), .val (.ref b9), .val (.ref b12), .val (.ref b14), .val (.ref b16), .val (.ref b18), .unset, .unset, .unset, .unset, .unset, .unset, .unset, .unset, .unset, .unset, .unset] [(.int (1 : Int32))])) _
    refine XS.istore X19.here hx rfl (hb hby at_122) rfl (l' := #[.val (.int p1), .val (.int p2), .val (.int p3), .val (.int p4), .val (.int p5), .val (.int p6), .val (.ref r7), .val (.ref r8), .val (.ref b9), .val (.ref b12), .val (.ref b14), .val (.ref b16), .val (.ref b18), .val (.int (1 : Int32)), .unset, .unset, .unset, .unset, .unset, .unset, .unset, .unset, .unset, .unset]) rfl ?_
    show Steps p.tables e below (T19.setTop (mkF m 124 #[.val (.int p1), .val (.int p2), .val (.int p3), .val (.int p4), .val (.int p5), .val (.int p6), .val (.ref r7), .val (.ref r8), .val (.ref b9), .val (.ref b12), .val (.ref b14), .val (.ref b16), .val (.ref b18), .val (.int (1 : Int32)), .unset, .unset, .unset, .unset, .unset, .unset, .unset, .unset, .unset, .unset] [])) _
    refine XS.iload X19.here hx rfl (hb hby at_124) rfl ?_
    show Steps p.tables e below (T19.setTop (mkF m 126 #[.val (.int p1), .val (.int p2), .val (.int p3), .val (.int p4), .val (.int p5), .val (.int p6), .val (.ref r7), .val (.ref r8), .val (.ref b9), .val (.ref b12), .val (.ref b14), .val (.ref b16), .val (.ref b18), .val (.int (1 : Int32)), .unset, .unset, .unset, .unset, .unset, .unset, .unset, .unset, .unset, .unset] [(.int p5)])) _
    refine XS.iconst X19.here hx rfl (hb hby at_126) ?_
    show Steps p.tables e below (T19.setTop (mkF m 127 #[.val (.int p1), .val (.int p2), .val (.int p3), .val (.int p4), .val (.int p5), .val (.int p6), .val (.ref r7), .val (.ref r8), .val (.ref b9), .val (.ref b12), .val (.ref b14), .val (.ref b16), .val (.ref b18), .val (.int (1 : Int32)), .unset, .unset, .unset, .unset, .unset, .unset, .unset, .unset, .unset, .unset] [(.int (3 : Int32)), (.int p5)])) _
    refine XS.iushr X19.here hx rfl (hb hby at_127) rfl ?_
    show Steps p.tables e below (T19.setTop (mkF m 128 #[.val (.int p1), .val (.int p2), .val (.int p3), .val (.int p4), .val (.int p5), .val (.int p6), .val (.ref r7), .val (.ref r8), .val (.ref b9), .val (.ref b12), .val (.ref b14), .val (.ref b16), .val (.ref b18), .val (.int (1 : Int32)), .unset, .unset, .unset, .unset, .unset, .unset, .unset, .unset, .unset, .unset] [(.int ((p5.toUInt32 >>> ((3 : Int32) &&& 31).toUInt32).toInt32))])) _
    refine XS.iconst X19.here hx rfl (hb hby at_128) ?_
    show Steps p.tables e below (T19.setTop (mkF m 129 #[.val (.int p1), .val (.int p2), .val (.int p3), .val (.int p4), .val (.int p5), .val (.int p6), .val (.ref r7), .val (.ref r8), .val (.ref b9), .val (.ref b12), .val (.ref b14), .val (.ref b16), .val (.ref b18), .val (.int (1 : Int32)), .unset, .unset, .unset, .unset, .unset, .unset, .unset, .unset, .unset, .unset] [(.int (1 : Int32)), (.int ((p5.toUInt32 >>> ((3 : Int32) &&& 31).toUInt32).toInt32))])) _
    refine XS.iand X19.here hx rfl (hb hby at_129) rfl ?_
    show Steps p.tables e below (T19.setTop (mkF m 130 #[.val (.int p1), .val (.int p2), .val (.int p3), .val (.int p4), .val (.int p5), .val (.int p6), .val (.ref r7), .val (.ref r8), .val (.ref b9), .val (.ref b12), .val (.ref b14), .val (.ref b16), .val (.ref b18), .val (.int (1 : Int32)), .unset, .unset, .unset, .unset, .unset, .unset, .unset, .unset, .unset, .unset] [(.int (((p5.toUInt32 >>> ((3 : Int32) &&& 31).toUInt32).toInt32) &&& (1 : Int32)))])) _
    refine XS.ifNo X19.here hx rfl (hb hby at_130) rfl ((if0 _ _).trans (feq hc130).1) ?_
    show Steps p.tables e below (T19.setTop (mkF m 133 #[.val (.int p1), .val (.int p2), .val (.int p3), .val (.int p4), .val (.int p5), .val (.int p6), .val (.ref r7), .val (.ref r8), .val (.ref b9), .val (.ref b12), .val (.ref b14), .val (.ref b16), .val (.ref b18), .val (.int (1 : Int32)), .unset, .unset, .unset, .unset, .unset, .unset, .unset, .unset, .unset, .unset] [])) _
    refine XS.iconst X19.here hx rfl (hb hby at_133) ?_
    show Steps p.tables e below (T19.setTop (mkF m 134 #[.val (.int p1), .val (.int p2), .val (.int p3), .val (.int p4), .val (.int p5), .val (.int p6), .val (.ref r7), .val (.ref r8), .val (.ref b9), .val (.ref b12), .val (.ref b14), .val (.ref b16), .val (.ref b18), .val (.int (1 : Int32)), .unset, .unset, .unset, .unset, .unset, .unset, .unset, .unset, .unset, .unset] [(.int (1 : Int32))])) _
    refine XS.goto X19.here hx rfl (pc0 := 134) (pc' := 138) rfl (hb hby at_134) (by decide) (by decide) ?_
    show Steps p.tables e below (T19.setTop (mkF m 138 #[.val (.int p1), .val (.int p2), .val (.int p3), .val (.int p4), .val (.int p5), .val (.int p6), .val (.ref r7), .val (.ref r8), .val (.ref b9), .val (.ref b12), .val (.ref b14), .val (.ref b16), .val (.ref b18), .val (.int (1 : Int32)), .unset, .unset, .unset, .unset, .unset, .unset, .unset, .unset, .unset, .unset] [(.int (1 : Int32))])) _
    refine XS.istore X19.here hx rfl (hb hby at_138) rfl (l' := #[.val (.int p1), .val (.int p2), .val (.int p3), .val (.int p4), .val (.int p5), .val (.int p6), .val (.ref r7), .val (.ref r8), .val (.ref b9), .val (.ref b12), .val (.ref b14), .val (.ref b16), .val (.ref b18), .val (.int (1 : Int32)), .val (.int (1 : Int32)), .unset, .unset, .unset, .unset, .unset, .unset, .unset, .unset, .unset]) rfl ?_
    show Steps p.tables e below (T19.setTop (mkF m 140 #[.val (.int p1), .val (.int p2), .val (.int p3), .val (.int p4), .val (.int p5), .val (.int p6), .val (.ref r7), .val (.ref r8), .val (.ref b9), .val (.ref b12), .val (.ref b14), .val (.ref b16), .val (.ref b18), .val (.int (1 : Int32)), .val (.int (1 : Int32)), .unset, .unset, .unset, .unset, .unset, .unset, .unset, .unset, .unset] [])) _
    refine st20 _ ?_
    show Steps p.tables e below (T20.setTop (mkF m 143 #[.val (.int p1), .val (.int p2), .val (.int p3), .val (.int p4), .val (.int p5), .val (.int p6), .val (.ref r7), .val (.ref r8), .val (.ref b9), .val (.ref b12), .val (.ref b14), .val (.ref b16), .val (.ref b18), .val (.int (1 : Int32)), .val (.int (1 : Int32)), .unset, .unset, .unset, .unset, .unset, .unset, .unset, .unset, .unset] [(.ref b20)])) _
    refine XS.dup X20.here hx rfl (hb hby at_143) rfl rfl ?_
    show Steps p.tables e below (T20.setTop (mkF m 144 #[.val (.int p1), .val (.int p2), .val (.int p3), .val (.int p4), .val (.int p5), .val (.int p6), .val (.ref r7), .val (.ref r8), .val (.ref b9), .val (.ref b12), .val (.ref b14), .val (.ref b16), .val (.ref b18), .val (.int (1 : Int32)), .val (.int (1 : Int32)), .unset, .unset, .unset, .unset, .unset, .unset, .unset, .unset, .unset] [(.ref b20), (.ref b20)])) _
    refine XS.iload X20.here hx rfl (hb hby at_144) rfl ?_
    show Steps p.tables e below (T20.setTop (mkF m 146 #[.val (.int p1), .val (.int p2), .val (.int p3), .val (.int p4), .val (.int p5), .val (.int p6), .val (.ref r7), .val (.ref r8), .val (.ref b9), .val (.ref b12), .val (.ref b14), .val (.ref b16), .val (.ref b18), .val (.int (1 : Int32)), .val (.int (1 : Int32)), .unset, .unset, .unset, .unset, .unset, .unset, .unset, .unset, .unset] [(.int p5), (.ref b20), (.ref b20)])) _
    refine st21 _ ?_
    show Steps p.tables e below (T21.setTop (mkF m 149 #[.val (.int p1), .val (.int p2), .val (.int p3), .val (.int p4), .val (.int p5), .val (.int p6), .val (.ref r7), .val (.ref r8), .val (.ref b9), .val (.ref b12), .val (.ref b14), .val (.ref b16), .val (.ref b18), .val (.int (1 : Int32)), .val (.int (1 : Int32)), .unset, .unset, .unset, .unset, .unset, .unset, .unset, .unset, .unset] [(.ref wk), (.ref b20), (.ref b20)])) _
    refine XS.aload X21.here hx rfl (hb hby at_149) rfl rfl ?_
    show Steps p.tables e below (T21.setTop (mkF m 151 #[.val (.int p1), .val (.int p2), .val (.int p3), .val (.int p4), .val (.int p5), .val (.int p6), .val (.ref r7), .val (.ref r8), .val (.ref b9), .val (.ref b12), .val (.ref b14), .val (.ref b16), .val (.ref b18), .val (.int (1 : Int32)), .val (.int (1 : Int32)), .unset, .unset, .unset, .unset, .unset, .unset, .unset, .unset, .unset] [(.ref b12), (.ref wk), (.ref b20), (.ref b20)])) _
    refine XS.aconstNull X21.here hx rfl (hb hby at_151) ?_
    show Steps p.tables e below (T21.setTop (mkF m 152 #[.val (.int p1), .val (.int p2), .val (.int p3), .val (.int p4), .val (.int p5), .val (.int p6), .val (.ref r7), .val (.ref r8), .val (.ref b9), .val (.ref b12), .val (.ref b14), .val (.ref b16), .val (.ref b18), .val (.int (1 : Int32)), .val (.int (1 : Int32)), .unset, .unset, .unset, .unset, .unset, .unset, .unset, .unset, .unset] [.null, (.ref b12), (.ref wk), (.ref b20), (.ref b20)])) _
    refine XS.aload X21.here hx rfl (hb hby at_152) rfl rfl ?_
    show Steps p.tables e below (T21.setTop (mkF m 154 #[.val (.int p1), .val (.int p2), .val (.int p3), .val (.int p4), .val (.int p5), .val (.int p6), .val (.ref r7), .val (.ref r8), .val (.ref b9), .val (.ref b12), .val (.ref b14), .val (.ref b16), .val (.ref b18), .val (.int (1 : Int32)), .val (.int (1 : Int32)), .unset, .unset, .unset, .unset, .unset, .unset, .unset, .unset, .unset] [(.ref b14), .null, (.ref b12), (.ref wk), (.ref b20), (.ref b20)])) _
    refine XS.iload X21.here hx rfl (hb hby at_154) rfl ?_
    show Steps p.tables e below (T21.setTop (mkF m 156 #[.val (.int p1), .val (.int p2), .val (.int p3), .val (.int p4), .val (.int p5), .val (.int p6), .val (.ref r7), .val (.ref r8), .val (.ref b9), .val (.ref b12), .val (.ref b14), .val (.ref b16), .val (.ref b18), .val (.int (1 : Int32)), .val (.int (1 : Int32)), .unset, .unset, .unset, .unset, .unset, .unset, .unset, .unset, .unset] [(.int (1 : Int32)), (.ref b14), .null, (.ref b12), (.ref wk), (.ref b20), (.ref b20)])) _
    refine st22.trans ?_
    show Steps p.tables e below (T22.setTop (mkF m 159 #[.val (.int p1), .val (.int p2), .val (.int p3), .val (.int p4), .val (.int p5), .val (.int p6), .val (.ref r7), .val (.ref r8), .val (.ref b9), .val (.ref b12), .val (.ref b14), .val (.ref b16), .val (.ref b18), .val (.int (1 : Int32)), .val (.int (1 : Int32)), .unset, .unset, .unset, .unset, .unset, .unset, .unset, .unset, .unset] [(.ref b20)])) _
    refine XS.astore X22.here hx rfl (hb hby at_159) rfl rfl (l' := #[.val (.int p1), .val (.int p2), .val (.int p3), .val (.int p4), .val (.int p5), .val (.int p6), .val (.ref r7), .val (.ref r8), .val (.ref b9), .val (.ref b12), .val (.ref b14), .val (.ref b16), .val (.ref b18), .val (.int (1 : Int32)), .val (.int (1 : Int32)), .val (.ref b20), .unset, .unset, .unset, .unset, .unset, .unset, .unset, .unset]) rfl ?_
    show Steps p.tables e below (T22.setTop (mkF m 161 #[.val (.int p1), .val (.int p2), .val (.int p3), .val (.int p4), .val (.int p5), .val (.int p6), .val (.ref r7), .val (.ref r8), .val (.ref b9), .val (.ref b12), .val (.ref b14), .val (.ref b16), .val (.ref b18), .val (.int (1 : Int32)), .val (.int (1 : Int32)), .val (.ref b20), .unset, .unset, .unset, .unset, .unset, .unset, .unset, .unset] [])) _
    refine XS.aload X22.here hx rfl (hb hby at_161) rfl rfl ?_
    show Steps p.tables e below (T22.setTop (mkF m 163 #[.val (.int p1), .val (.int p2), .val (.int p3), .val (.int p4), .val (.int p5), .val (.int p6), .val (.ref r7), .val (.ref r8), .val (.ref b9), .val (.ref b12), .val (.ref b14), .val (.ref b16), .val (.ref b18), .val (.int (1 : Int32)), .val (.int (1 : Int32)), .val (.ref b20), .unset, .unset, .unset, .unset, .unset, .unset, .unset, .unset] [(.ref b20)])) _
    refine st23.trans ?_
    show Steps p.tables e below (T23.setTop (mkF m 166 #[.val (.int p1), .val (.int p2), .val (.int p3), .val (.int p4), .val (.int p5), .val (.int p6), .val (.ref r7), .val (.ref r8), .val (.ref b9), .val (.ref b12), .val (.ref b14), .val (.ref b16), .val (.ref b18), .val (.int (1 : Int32)), .val (.int (1 : Int32)), .val (.ref b20), .unset, .unset, .unset, .unset, .unset, .unset, .unset, .unset] [(.ref b14)])) _
    refine XS.aload X23.here hx rfl (hb hby at_166) rfl rfl ?_
    show Steps p.tables e below (T23.setTop (mkF m 168 #[.val (.int p1), .val (.int p2), .val (.int p3), .val (.int p4), .val (.int p5), .val (.int p6), .val (.ref r7), .val (.ref r8), .val (.ref b9), .val (.ref b12), .val (.ref b14), .val (.ref b16), .val (.ref b18), .val (.int (1 : Int32)), .val (.int (1 : Int32)), .val (.ref b20), .unset, .unset, .unset, .unset, .unset, .unset, .unset, .unset] [(.ref b14), (.ref b14)])) _
    refine Jvm.RoadKit.acmp (g := (mkF m 168 #[.val (.int p1), .val (.int p2), .val (.int p3), .val (.int p4), .val (.int p5), .val (.int p6), .val (.ref r7), .val (.ref r8), .val (.ref b9), .val (.ref b12), .val (.ref b14), .val (.ref b16), .val (.ref b18), .val (.int (1 : Int32)), .val (.int (1 : Int32)), .val (.ref b20), .unset, .unset, .unset, .unset, .unset, .unset, .unset, .unset] [(.ref b14), (.ref b14)])) X23 hx rfl rfl rfl (pc0 := 168) (pc' := 171) (same := true) rfl (hb hby at_168) rfl (decide_eq_true rfl) (by decide) (by decide) ?_
    show Steps p.tables e below (T23.setTop (mkF m 171 #[.val (.int p1), .val (.int p2), .val (.int p3), .val (.int p4), .val (.int p5), .val (.int p6), .val (.ref r7), .val (.ref r8), .val (.ref b9), .val (.ref b12), .val (.ref b14), .val (.ref b16), .val (.ref b18), .val (.int (1 : Int32)), .val (.int (1 : Int32)), .val (.ref b20), .unset, .unset, .unset, .unset, .unset, .unset, .unset, .unset] [])) _
    refine XS.iconst X23.here hx rfl (hb hby at_171) ?_
    show Steps p.tables e below (T23.setTop (mkF m 172 #[.val (.int p1), .val (.int p2), .val (.int p3), .val (.int p4), .val (.int p5), .val (.int p6), .val (.ref r7), .val (.ref r8), .val (.ref b9), .val (.ref b12), .val (.ref b14), .val (.ref b16), .val (.ref b18), .val (.int (1 : Int32)), .val (.int (1 : Int32)), .val (.ref b20), .unset, .unset, .unset, .unset, .unset, .unset, .unset, .unset] [(.int (1 : Int32))])) _
    refine XS.goto X23.here hx rfl (pc0 := 172) (pc' := 176) rfl (hb hby at_172) (by decide) (by decide) ?_
    show Steps p.tables e below (T23.setTop (mkF m 176 #[.val (.int p1), .val (.int p2), .val (.int p3), .val (.int p4), .val (.int p5), .val (.int p6), .val (.ref r7), .val (.ref r8), .val (.ref b9), .val (.ref b12), .val (.ref b14), .val (.ref b16), .val (.ref b18), .val (.int (1 : Int32)), .val (.int (1 : Int32)), .val (.ref b20), .unset, .unset, .unset, .unset, .unset, .unset, .unset, .unset] [(.int (1 : Int32))])) _
    refine XS.istore X23.here hx rfl (hb hby at_176) rfl (l' := #[.val (.int p1), .val (.int p2), .val (.int p3), .val (.int p4), .val (.int p5), .val (.int p6), .val (.ref r7), .val (.ref r8), .val (.ref b9), .val (.ref b12), .val (.ref b14), .val (.ref b16), .val (.ref b18), .val (.int (1 : Int32)), .val (.int (1 : Int32)), .val (.ref b20), .val (.int (1 : Int32)), .unset, .unset, .unset, .unset, .unset, .unset, .unset]) rfl ?_
    show Steps p.tables e below (T23.setTop (mkF m 178 #[.val (.int p1), .val (.int p2), .val (.int p3), .val (.int p4), .val (.int p5), .val (.int p6), .val (.ref r7), .val (.ref r8), .val (.ref b9), .val (.ref b12), .val (.ref b14), .val (.ref b16), .val (.ref b18), .val (.int (1 : Int32)), .val (.int (1 : Int32)), .val (.ref b20), .val (.int (1 : Int32)), .unset, .unset, .unset, .unset, .unset, .unset, .unset] [])) _
    refine XS.iload X23.here hx rfl (hb hby at_178) rfl ?_
    show Steps p.tables e below (T23.setTop (mkF m 180 #[.val (.int p1), .val (.int p2), .val (.int p3), .val (.int p4), .val (.int p5), .val (.int p6), .val (.ref r7), .val (.ref r8), .val (.ref b9), .val (.ref b12), .val (.ref b14), .val (.ref b16), .val (.ref b18), .val (.int (1 : Int32)), .val (.int (1 : Int32)), .val (.ref b20), .val (.int (1 : Int32)), .unset, .unset, .unset, .unset, .unset, .unset, .unset] [(.int (1 : Int32))])) _
    refine XS.ifNo X23.here hx rfl (hb hby at_180) rfl ((if0 _ _).trans (feq hc180).1) ?_
    show Steps p.tables e below (T23.setTop (mkF m 183 #[.val (.int p1), .val (.int p2), .val (.int p3), .val (.int p4), .val (.int p5), .val (.int p6), .val (.ref r7), .val (.ref r8), .val (.ref b9), .val (.ref b12), .val (.ref b14), .val (.ref b16), .val (.ref b18), .val (.int (1 : Int32)), .val (.int (1 : Int32)), .val (.ref b20), .val (.int (1 : Int32)), .unset, .unset, .unset, .unset, .unset, .unset, .unset] [])) _
    refine XS.aconstNull X23.here hx rfl (hb hby at_183) ?_
    show Steps p.tables e below (T23.setTop (mkF m 184 #[.val (.int p1), .val (.int p2), .val (.int p3), .val (.int p4), .val (.int p5), .val (.int p6), .val (.ref r7), .val (.ref r8), .val (.ref b9), .val (.ref b12), .val (.ref b14), .val (.ref b16), .val (.ref b18), .val (.int (1 : Int32)), .val (.int (1 : Int32)), .val (.ref b20), .val (.int (1 : Int32)), .unset, .unset, .unset, .unset, .unset, .unset, .unset] [.null])) _
    refine XS.goto X23.here hx rfl (pc0 := 184) (pc' := 189) rfl (hb hby at_184) (by decide) (by decide) ?_
    show Steps p.tables e below (T23.setTop (mkF m 189 #[.val (.int p1), .val (.int p2), .val (.int p3), .val (.int p4), .val (.int p5), .val (.int p6), .val (.ref r7), .val (.ref r8), .val (.ref b9), .val (.ref b12), .val (.ref b14), .val (.ref b16), .val (.ref b18), .val (.int (1 : Int32)), .val (.int (1 : Int32)), .val (.ref b20), .val (.int (1 : Int32)), .unset, .unset, .unset, .unset, .unset, .unset, .unset] [.null])) _
    refine XS.astore X23.here hx rfl (hb hby at_189) rfl rfl (l' := #[.val (.int p1), .val (.int p2), .val (.int p3), .val (.int p4), .val (.int p5), .val (.int p6), .val (.ref r7), .val (.ref r8), .val (.ref b9), .val (.ref b12), .val (.ref b14), .val (.ref b16), .val (.ref b18), .val (.int (1 : Int32)), .val (.int (1 : Int32)), .val (.ref b20), .val (.int (1 : Int32)), .val .null, .unset, .unset, .unset, .unset, .unset, .unset]) rfl ?_
    show Steps p.tables e below (T23.setTop (mkF m 191 #[.val (.int p1), .val (.int p2), .val (.int p3), .val (.int p4), .val (.int p5), .val (.int p6), .val (.ref r7), .val (.ref r8), .val (.ref b9), .val (.ref b12), .val (.ref b14), .val (.ref b16), .val (.ref b18), .val (.int (1 : Int32)), .val (.int (1 : Int32)), .val (.ref b20), .val (.int (1 : Int32)), .val .null, .unset, .unset, .unset, .unset, .unset, .unset] [])) _
    refine XS.aload X23.here hx rfl (hb hby at_191) rfl rfl ?_
    show Steps p.tables e below (T23.setTop (mkF m 193 #[.val (.int p1), .val (.int p2), .val (.int p3), .val (.int p4), .val (.int p5), .val (.int p6), .val (.ref r7), .val (.ref r8), .val (.ref b9), .val (.ref b12), .val (.ref b14), .val (.ref b16), .val (.ref b18), .val (.int (1 : Int32)), .val (.int (1 : Int32)), .val (.ref b20), .val (.int (1 : Int32)), .val .null, .unset, .unset, .unset, .unset, .unset, .unset] [(.ref b20)])) _
    refine XS.aload X23.here hx rfl (hb hby at_193) rfl rfl ?_
    show Steps p.tables e below (T23.setTop (mkF m 195 #[.val (.int p1), .val (.int p2), .val (.int p3), .val (.int p4), .val (.int p5), .val (.int p6), .val (.ref r7), .val (.ref r8), .val (.ref b9), .val (.ref b12), .val (.ref b14), .val (.ref b16), .val (.ref b18), .val (.int (1 : Int32)), .val (.int (1 : Int32)), .val (.ref b20), .val (.int (1 : Int32)), .val .null, .unset, .unset, .unset, .unset, .unset, .unset] [.null, (.ref b20)])) _
    refine st24.trans ?_
    show Steps p.tables e below (T24.setTop (mkF m 198 #[.val (.int p1), .val (.int p2), .val (.int p3), .val (.int p4), .val (.int p5), .val (.int p6), .val (.ref r7), .val (.ref r8), .val (.ref b9), .val (.ref b12), .val (.ref b14), .val (.ref b16), .val (.ref b18), .val (.int (1 : Int32)), .val (.int (1 : Int32)), .val (.ref b20), .val (.int (1 : Int32)), .val .null, .unset, .unset, .unset, .unset, .unset, .unset] [(.ref r24)])) _
    refine XS.astore X24.here hx rfl (hb hby at_198) rfl rfl (l' := #[.val (.int p1), .val (.int p2), .val (.int p3), .val (.int p4), .val (.int p5), .val (.int p6), .val (.ref r7), .val (.ref r8), .val (.ref b9), .val (.ref b12), .val (.ref b14), .val (.ref b16), .val (.ref b18), .val (.int (1 : Int32)), .val (.int (1 : Int32)), .val (.ref b20), .val (.int (1 : Int32)), .val .null, .val (.ref r24), .unset, .unset, .unset, .unset, .unset]) rfl ?_
    show Steps p.tables e below (T24.setTop (mkF m 200 #[.val (.int p1), .val (.int p2), .val (.int p3), .val (.int p4), .val (.int p5), .val (.int p6), .val (.ref r7), .val (.ref r8), .val (.ref b9), .val (.ref b12), .val (.ref b14), .val (.ref b16), .val (.ref b18), .val (.int (1 : Int32)), .val (.int (1 : Int32)), .val (.ref b20), .val (.int (1 : Int32)), .val .null, .val (.ref r24), .unset, .unset, .unset, .unset, .unset] [])) _
    refine XS.iload X24.here hx rfl (hb hby at_200) rfl ?_
    show Steps p.tables e below (T24.setTop (mkF m 202 #[.val (.int p1), .val (.int p2), .val (.int p3), .val (.int p4), .val (.int p5), .val (.int p6), .val (.ref r7), .val (.ref r8), .val (.ref b9), .val (.ref b12), .val (.ref b14), .val (.ref b16), .val (.ref b18), .val (.int (1 : Int32)), .val (.int (1 : Int32)), .val (.ref b20), .val (.int (1 : Int32)), .val .null, .val (.ref r24), .unset, .unset, .unset, .unset, .unset] [(.int (1 : Int32))])) _
    refine XS.ifNo X24.here hx rfl (hb hby at_202) rfl ((if0 _ _).trans (feq hc202).1) ?_
    show Steps p.tables e below (T24.setTop (mkF m 205 #[.val (.int p1), .val (.int p2), .val (.int p3), .val (.int p4), .val (.int p5), .val (.int p6), .val (.ref r7), .val (.ref r8), .val (.ref b9), .val (.ref b12), .val (.ref b14), .val (.ref b16), .val (.ref b18), .val (.int (1 : Int32)), .val (.int (1 : Int32)), .val (.ref b20), .val (.int (1 : Int32)), .val .null, .val (.ref r24), .unset, .unset, .unset, .unset, .unset] [])) _
    refine XS.aload X24.here hx rfl (hb hby at_205) rfl rfl ?_
    show Steps p.tables e below (T24.setTop (mkF m 207 #[.val (.int p1), .val (.int p2), .val (.int p3), .val (.int p4), .val (.int p5), .val (.int p6), .val (.ref r7), .val (.ref r8), .val (.ref b9), .val (.ref b12), .val (.ref b14), .val (.ref b16), .val (.ref b18), .val (.int (1 : Int32)), .val (.int (1 : Int32)), .val (.ref b20), .val (.int (1 : Int32)), .val .null, .val (.ref r24), .unset, .unset, .unset, .unset, .unset] [(.ref b14)])) _
    refine XS.goto X24.here hx rfl (pc0 := 207) (pc' := 212) rfl (hb hby at_207) (by decide) (by decide) ?_
    show Steps p.tables e below (T24.setTop (mkF m 212 #[.val (.int p1), .val (.int p2), .val (.int p3), .val (.int p4), .val (.int p5), .val (.int p6), .val (.ref r7), .val (.ref r8), .val (.ref b9), .val (.ref b12), .val (.ref b14), .val (.ref b16), .val (.ref b18), .val (.int (1 : Int32)), .val (.int (1 : Int32)), .val (.ref b20), .val (.int (1 : Int32)), .val .null, .val (.ref r24), .unset, .unset, .unset, .unset, .unset] [(.ref b14)])) _
    refine XS.astore X24.here hx rfl (hb hby at_212) rfl rfl (l' := #[.val (.int p1), .val (.int p2), .val (.int p3), .val (.int p4), .val (.int p5), .val (.int p6), .val (.ref r7), .val (.ref r8), .val (.ref b9), .val (.ref b12), .val (.ref b14), .val (.ref b16), .val (.ref b18), .val (.int (1 : Int32)), .val (.int (1 : Int32)), .val (.ref b20), .val (.int (1 : Int32)), .val .null, .val (.ref r24), .val (.ref b14), .unset, .unset, .unset, .unset]) rfl ?_
    show Steps p.tables e below (T24.setTop (mkF m 214 #[.val (.int p1), .val (.int p2), .val (.int p3), .val (.int p4), .val (.int p5), .val (.int p6), .val (.ref r7), .val (.ref r8), .val (.ref b9), .val (.ref b12), .val (.ref b14), .val (.ref b16), .val (.ref b18), .val (.int (1 : Int32)), .val (.int (1 : Int32)), .val (.ref b20), .val (.int (1 : Int32)), .val .null, .val (.ref r24), .val (.ref b14), .unset, .unset, .unset, .unset] [])) _
    refine XS.aload X24.here hx rfl (hb hby at_214) rfl rfl ?_
    show Steps p.tables e below (T24.setTop (mkF m 216 #[.val (.int p1), .val (.int p2), .val (.int p3), .val (.int p4), .val (.int p5), .val (.int p6), .val (.ref r7), .val (.ref r8), .val (.ref b9), .val (.ref b12), .val (.ref b14), .val (.ref b16), .val (.ref b18), .val (.int (1 : Int32)), .val (.int (1 : Int32)), .val (.ref b20), .val (.int (1 : Int32)), .val .null, .val (.ref r24), .val (.ref b14), .unset, .unset, .unset, .unset] [(.ref r24)])) _
    refine st25.trans ?_
    show Steps p.tables e below (T25.setTop (mkF m 219 #[.val (.int p1), .val (.int p2), .val (.int p3), .val (.int p4), .val (.int p5), .val (.int p6), .val (.ref r7), .val (.ref r8), .val (.ref b9), .val (.ref b12), .val (.ref b14), .val (.ref b16), .val (.ref b18), .val (.int (1 : Int32)), .val (.int (1 : Int32)), .val (.ref b20), .val (.int (1 : Int32)), .val .null, .val (.ref r24), .val (.ref b14), .unset, .unset, .unset, .unset] [(.ref b14)])) _
    refine XS.aload X25.here hx rfl (hb hby at_219) rfl rfl ?_
    show Steps p.tables e below (T25.setTop (mkF m 221 #[.val (.int p1), .val (.int p2), .val (.int p3), .val (.int p4), .val (.int p5), .val (.int p6), .val (.ref r7), .val (.ref r8), .val (.ref b9), .val (.ref b12), .val (.ref b14), .val (.ref b16), .val (.ref b18), .val (.int (1 : Int32)), .val (.int (1 : Int32)), .val (.ref b20), .val (.int (1 : Int32)), .val .null, .val (.ref r24), .val (.ref b14), .unset, .unset, .unset, .unset] [(.ref b14), (.ref b14)])) _
    refine Jvm.RoadKit.acmp (g := (mkF m 221 #[.val (.int p1), .val (.int p2), .val (.int p3), .val (.int p4), .val (.int p5), .val (.int p6), .val (.ref r7), .val (.ref r8), .val (.ref b9), .val (.ref b12), .val (.ref b14), .val (.ref b16), .val (.ref b18), .val (.int (1 : Int32)), .val (.int (1 : Int32)), .val (.ref b20), .val (.int (1 : Int32)), .val .null, .val (.ref r24), .val (.ref b14), .unset, .unset, .unset, .unset] [(.ref b14), (.ref b14)])) X25 hx rfl rfl rfl (pc0 := 221) (pc' := 224) (same := true) rfl (hb hby at_221) rfl (decide_eq_true rfl) (by decide) (by decide) ?_
    show Steps p.tables e below (T25.setTop (mkF m 224 #[.val (.int p1), .val (.int p2), .val (.int p3), .val (.int p4), .val (.int p5), .val (.int p6), .val (.ref r7), .val (.ref r8), .val (.ref b9), .val (.ref b12), .val (.ref b14), .val (.ref b16), .val (.ref b18), .val (.int (1 : Int32)), .val (.int (1 : Int32)), .val (.ref b20), .val (.int (1 : Int32)), .val .null, .val (.ref r24), .val (.ref b14), .unset, .unset, .unset, .unset] [])) _
    refine XS.iconst X25.here hx rfl (hb hby at_224) ?_
    show Steps p.tables e below (T25.setTop (mkF m 225 #[.val (.int p1), .val (.int p2), .val (.int p3), .val (.int p4), .val (.int p5), .val (.int p6), .val (.ref r7), .val (.ref r8), .val (.ref b9), .val (.ref b12), .val (.ref b14), .val (.ref b16), .val (.ref b18), .val (.int (1 : Int32)), .val (.int (1 : Int32)), .val (.ref b20), .val (.int (1 : Int32)), .val .null, .val (.ref r24), .val (.ref b14), .unset, .unset, .unset, .unset] [(.int (1 : Int32))])) _
    refine XS.goto X25.here hx rfl (pc0 := 225) (pc' := 229) rfl (hb hby at_225) (by decide) (by decide) ?_
    show Steps p.tables e below (T25.setTop (mkF m 229 #[.val (.int p1), .val (.int p2), .val (.int p3), .val (.int p4), .val (.int p5), .val (.int p6), .val (.ref r7), .val (.ref r8), .val (.ref b9), .val (.ref b12), .val (.ref b14), .val (.ref b16), .val (.ref b18), .val (.int (1 : Int32)), .val (.int (1 : Int32)), .val (.ref b20), .val (.int (1 : Int32)), .val .null, .val (.ref r24), .val (.ref b14), .unset, .unset, .unset, .unset] [(.int (1 : Int32))])) _
    refine XS.istore X25.here hx rfl (hb hby at_229) rfl (l' := #[.val (.int p1), .val (.int p2), .val (.int p3), .val (.int p4), .val (.int p5), .val (.int p6), .val (.ref r7), .val (.ref r8), .val (.ref b9), .val (.ref b12), .val (.ref b14), .val (.ref b16), .val (.ref b18), .val (.int (1 : Int32)), .val (.int (1 : Int32)), .val (.ref b20), .val (.int (1 : Int32)), .val .null, .val (.ref r24), .val (.ref b14), .val (.int (1 : Int32)), .unset, .unset, .unset]) rfl ?_
    show Steps p.tables e below (T25.setTop (mkF m 231 #[.val (.int p1), .val (.int p2), .val (.int p3), .val (.int p4), .val (.int p5), .val (.int p6), .val (.ref r7), .val (.ref r8), .val (.ref b9), .val (.ref b12), .val (.ref b14), .val (.ref b16), .val (.ref b18), .val (.int (1 : Int32)), .val (.int (1 : Int32)), .val (.ref b20), .val (.int (1 : Int32)), .val .null, .val (.ref r24), .val (.ref b14), .val (.int (1 : Int32)), .unset, .unset, .unset] [])) _
    refine XS.aload X25.here hx rfl (hb hby at_231) rfl rfl ?_
    show Steps p.tables e below (T25.setTop (mkF m 233 #[.val (.int p1), .val (.int p2), .val (.int p3), .val (.int p4), .val (.int p5), .val (.int p6), .val (.ref r7), .val (.ref r8), .val (.ref b9), .val (.ref b12), .val (.ref b14), .val (.ref b16), .val (.ref b18), .val (.int (1 : Int32)), .val (.int (1 : Int32)), .val (.ref b20), .val (.int (1 : Int32)), .val .null, .val (.ref r24), .val (.ref b14), .val (.int (1 : Int32)), .unset, .unset, .unset] [(.ref r24)])) _
    refine XS.aload X25.here hx rfl (hb hby at_233) rfl rfl ?_
    show Steps p.tables e below (T25.setTop (mkF m 235 #[.val (.int p1), .val (.int p2), .val (.int p3), .val (.int p4), .val (.int p5), .val (.int p6), .val (.ref r7), .val (.ref r8), .val (.ref b9), .val (.ref b12), .val (.ref b14), .val (.ref b16), .val (.ref b18), .val (.int (1 : Int32)), .val (.int (1 : Int32)), .val (.ref b20), .val (.int (1 : Int32)), .val .null, .val (.ref r24), .val (.ref b14), .val (.int (1 : Int32)), .unset, .unset, .unset] [(.ref b18), (.ref r24)])) _
    refine st26.trans ?_
    show Steps p.tables e below (T26.setTop (mkF m 238 #[.val (.int p1), .val (.int p2), .val (.int p3), .val (.int p4), .val (.int p5), .val (.int p6), .val (.ref r7), .val (.ref r8), .val (.ref b9), .val (.ref b12), .val (.ref b14), .val (.ref b16), .val (.ref b18), .val (.int (1 : Int32)), .val (.int (1 : Int32)), .val (.ref b20), .val (.int (1 : Int32)), .val .null, .val (.ref r24), .val (.ref b14), .val (.int (1 : Int32)), .unset, .unset, .unset] [(.ref r26)])) _
    refine XS.astore X26.here hx rfl (hb hby at_238) rfl rfl (l' := #[.val (.int p1), .val (.int p2), .val (.int p3), .val (.int p4), .val (.int p5), .val (.int p6), .val (.ref r7), .val (.ref r8), .val (.ref b9), .val (.ref b12), .val (.ref b14), .val (.ref b16), .val (.ref b18), .val (.int (1 : Int32)), .val (.int (1 : Int32)), .val (.ref b20), .val (.int (1 : Int32)), .val .null, .val (.ref r24), .val (.ref b14), .val (.int (1 : Int32)), .val (.ref r26), .unset, .unset]) rfl ?_
    show Steps p.tables e below (T26.setTop (mkF m 240 #[.val (.int p1), .val (.int p2), .val (.int p3), .val (.int p4), .val (.int p5), .val (.int p6), .val (.ref r7), .val (.ref r8), .val (.ref b9), .val (.ref b12), .val (.ref b14), .val (.ref b16), .val (.ref b18), .val (.int (1 : Int32)), .val (.int (1 : Int32)), .val (.ref b20), .val (.int (1 : Int32)), .val .null, .val (.ref r24), .val (.ref b14), .val (.int (1 : Int32)), .val (.ref r26), .unset, .unset] [])) _
    refine XS.iload X26.here hx rfl (hb hby at_240) rfl ?_
    show Steps p.tables e below (T26.setTop (mkF m 242 #[.val (.int p1), .val (.int p2), .val (.int p3), .val (.int p4), .val (.int p5), .val (.int p6), .val (.ref r7), .val (.ref r8), .val (.ref b9), .val (.ref b12), .val (.ref b14), .val (.ref b16), .val (.ref b18), .val (.int (1 : Int32)), .val (.int (1 : Int32)), .val (.ref b20), .val (.int (1 : Int32)), .val .null, .val (.ref r24), .val (.ref b14), .val (.int (1 : Int32)), .val (.ref r26), .unset, .unset] [(.int (1 : Int32))])) _
    refine XS.ifNo X26.here hx rfl (hb hby at_242) rfl ((if0 _ _).trans (feq hc242).1) ?_
    show Steps p.tables e below (T26.setTop (mkF m 245 #[.val (.int p1), .val (.int p2), .val (.int p3), .val (.int p4), .val (.int p5), .val (.int p6), .val (.ref r7), .val (.ref r8), .val (.ref b9), .val (.ref b12), .val (.ref b14), .val (.ref b16), .val (.ref b18), .val (.int (1 : Int32)), .val (.int (1 : Int32)), .val (.ref b20), .val (.int (1 : Int32)), .val .null, .val (.ref r24), .val (.ref b14), .val (.int (1 : Int32)), .val (.ref r26), .unset, .unset] [])) _
    refine XS.aload X26.here hx rfl (hb hby at_245) rfl rfl ?_
    show Steps p.tables e below (T26.setTop (mkF m 247 #[.val (.int p1), .val (.int p2), .val (.int p3), .val (.int p4), .val (.int p5), .val (.int p6), .val (.ref r7), .val (.ref r8), .val (.ref b9), .val (.ref b12), .val (.ref b14), .val (.ref b16), .val (.ref b18), .val (.int (1 : Int32)), .val (.int (1 : Int32)), .val (.ref b20), .val (.int (1 : Int32)), .val .null, .val (.ref r24), .val (.ref b14), .val (.int (1 : Int32)), .val (.ref r26), .unset, .unset] [(.ref b18)])) _
    refine XS.goto X26.here hx rfl (pc0 := 247) (pc' := 252) rfl (hb hby at_247) (by decide) (by decide) ?_
    show Steps p.tables e below (T26.setTop (mkF m 252 #[.val (.int p1), .val (.int p2), .val (.int p3), .val (.int p4), .val (.int p5), .val (.int p6), .val (.ref r7), .val (.ref r8), .val (.ref b9), .val (.ref b12), .val (.ref b14), .val (.ref b16), .val (.ref b18), .val (.int (1 : Int32)), .val (.int (1 : Int32)), .val (.ref b20), .val (.int (1 : Int32)), .val .null, .val (.ref r24), .val (.ref b14), .val (.int (1 : Int32)), .val (.ref r26), .unset, .unset] [(.ref b18)])) _
    refine XS.astore X26.here hx rfl (hb hby at_252) rfl rfl (l' := #[.val (.int p1), .val (.int p2), .val (.int p3), .val (.int p4), .val (.int p5), .val (.int p6), .val (.ref r7), .val (.ref r8), .val (.ref b9), .val (.ref b12), .val (.ref b14), .val (.ref b16), .val (.ref b18), .val (.int (1 : Int32)), .val (.int (1 : Int32)), .val (.ref b20), .val (.int (1 : Int32)), .val .null, .val (.ref r24), .val (.ref b14), .val (.int (1 : Int32)), .val (.ref r26), .val (.ref b18), .unset]) rfl ?_
    show Steps p.tables e below (T26.setTop (mkF m 254 #[.val (.int p1), .val (.int p2), .val (.int p3), .val (.int p4), .val (.int p5), .val (.int p6), .val (.ref r7), .val (.ref r8), .val (.ref b9), .val (.ref b12), .val (.ref b14), .val (.ref b16), .val (.ref b18), .val (.int (1 : Int32)), .val (.int (1 : Int32)), .val (.ref b20), .val (.int (1 : Int32)), .val .null, .val (.ref r24), .val (.ref b14), .val (.int (1 : Int32)), .val (.ref r26), .val (.ref b18), .unset] [])) _
    refine XS.aload X26.here hx rfl (hb hby at_254) rfl rfl ?_
    show Steps p.tables e below (T26.setTop (mkF m 256 #[.val (.int p1), .val (.int p2), .val (.int p3), .val (.int p4), .val (.int p5), .val (.int p6), .val (.ref r7), .val (.ref r8), .val (.ref b9), .val (.ref b12), .val (.ref b14), .val (.ref b16), .val (.ref b18), .val (.int (1 : Int32)), .val (.int (1 : Int32)), .val (.ref b20), .val (.int (1 : Int32)), .val .null, .val (.ref r24), .val (.ref b14), .val (.int (1 : Int32)), .val (.ref r26), .val (.ref b18), .unset] [(.ref r26)])) _
    refine st27.trans ?_
    show Steps p.tables e below (T27.setTop (mkF m 259 #[.val (.int p1), .val (.int p2), .val (.int p3), .val (.int p4), .val (.int p5), .val (.int p6), .val (.ref r7), .val (.ref r8), .val (.ref b9), .val (.ref b12), .val (.ref b14), .val (.ref b16), .val (.ref b18), .val (.int (1 : Int32)), .val (.int (1 : Int32)), .val (.ref b20), .val (.int (1 : Int32)), .val .null, .val (.ref r24), .val (.ref b14), .val (.int (1 : Int32)), .val (.ref r26), .val (.ref b18), .unset] [(.ref b18)])) _
    refine XS.aload X27.here hx rfl (hb hby at_259) rfl rfl ?_
    show Steps p.tables e below (T27.setTop (mkF m 261 #[.val (.int p1), .val (.int p2), .val (.int p3), .val (.int p4), .val (.int p5), .val (.int p6), .val (.ref r7), .val (.ref r8), .val (.ref b9), .val (.ref b12), .val (.ref b14), .val (.ref b16), .val (.ref b18), .val (.int (1 : Int32)), .val (.int (1 : Int32)), .val (.ref b20), .val (.int (1 : Int32)), .val .null, .val (.ref r24), .val (.ref b14), .val (.int (1 : Int32)), .val (.ref r26), .val (.ref b18), .unset] [(.ref b18), (.ref b18)])) _
    refine Jvm.RoadKit.acmp (g := (mkF m 261 #[.val (.int p1), .val (.int p2), .val (.int p3), .val (.int p4), .val (.int p5), .val (.int p6), .val (.ref r7), .val (.ref r8), .val (.ref b9), .val (.ref b12), .val (.ref b14), .val (.ref b16), .val (.ref b18), .val (.int (1 : Int32)), .val (.int (1 : Int32)), .val (.ref b20), .val (.int (1 : Int32)), .val .null, .val (.ref r24), .val (.ref b14), .val (.int (1 : Int32)), .val (.ref r26), .val (.ref b18), .unset] [(.ref b18), (.ref b18)])) X27 hx rfl rfl rfl (pc0 := 261) (pc' := 264) (same := true) rfl (hb hby at_261) rfl (decide_eq_true rfl) (by decide) (by decide) ?_
    show Steps p.tables e below (T27.setTop (mkF m 264 #[.val (.int p1), .val (.int p2), .val (.int p3), .val (.int p4), .val (.int p5), .val (.int p6), .val (.ref r7), .val (.ref r8), .val (.ref b9), .val (.ref b12), .val (.ref b14), .val (.ref b16), .val (.ref b18), .val (.int (1 : Int32)), .val (.int (1 : Int32)), .val (.ref b20), .val (.int (1 : Int32)), .val .null, .val (.ref r24), .val (.ref b14), .val (.int (1 : Int32)), .val (.ref r26), .val (.ref b18), .unset] [])) _
    refine XS.iconst X27.here hx rfl (hb hby at_264) ?_
    show Steps p.tables e below (T27.setTop (mkF m 265 #[.val (.int p1), .val (.int p2), .val (.int p3), .val (.int p4), .val (.int p5), .val (.int p6), .val (.ref r7), .val (.ref r8), .val (.ref b9), .val (.ref b12), .val (.ref b14), .val (.ref b16), .val (.ref b18), .val (.int (1 : Int32)), .val (.int (1 : Int32)), .val (.ref b20), .val (.int (1 : Int32)), .val .null, .val (.ref r24), .val (.ref b14), .val (.int (1 : Int32)), .val (.ref r26), .val (.ref b18), .unset] [(.int (1 : Int32))])) _
    refine XS.goto X27.here hx rfl (pc0 := 265) (pc' := 269) rfl (hb hby at_265) (by decide) (by decide) ?_
    show Steps p.tables e below (T27.setTop (mkF m 269 #[.val (.int p1), .val (.int p2), .val (.int p3), .val (.int p4), .val (.int p5), .val (.int p6), .val (.ref r7), .val (.ref r8), .val (.ref b9), .val (.ref b12), .val (.ref b14), .val (.ref b16), .val (.ref b18), .val (.int (1 : Int32)), .val (.int (1 : Int32)), .val (.ref b20), .val (.int (1 : Int32)), .val .null, .val (.ref r24), .val (.ref b14), .val (.int (1 : Int32)), .val (.ref r26), .val (.ref b18), .unset] [(.int (1 : Int32))])) _
    refine XS.istore X27.here hx rfl (hb hby at_269) rfl (l' := #[.val (.int p1), .val (.int p2), .val (.int p3), .val (.int p4), .val (.int p5), .val (.int p6), .val (.ref r7), .val (.ref r8), .val (.ref b9), .val (.ref b12), .val (.ref b14), .val (.ref b16), .val (.ref b18), .val (.int (1 : Int32)), .val (.int (1 : Int32)), .val (.ref b20), .val (.int (1 : Int32)), .val .null, .val (.ref r24), .val (.ref b14), .val (.int (1 : Int32)), .val (.ref r26), .val (.ref b18), .val (.int (1 : Int32))]) rfl ?_
    show Steps p.tables e below (T27.setTop (mkF m 271 #[.val (.int p1), .val (.int p2), .val (.int p3), .val (.int p4), .val (.int p5), .val (.int p6), .val (.ref r7), .val (.ref r8), .val (.ref b9), .val (.ref b12), .val (.ref b14), .val (.ref b16), .val (.ref b18), .val (.int (1 : Int32)), .val (.int (1 : Int32)), .val (.ref b20), .val (.int (1 : Int32)), .val .null, .val (.ref r24), .val (.ref b14), .val (.int (1 : Int32)), .val (.ref r26), .val (.ref b18), .val (.int (1 : Int32))] [])) _
    refine XS.iload X27.here hx rfl (hb hby at_271) rfl ?_
    show Steps p.tables e below (T27.setTop (mkF m 273 #[.val (.int p1), .val (.int p2), .val (.int p3), .val (.int p4), .val (.int p5), .val (.int p6), .val (.ref r7), .val (.ref r8), .val (.ref b9), .val (.ref b12), .val (.ref b14), .val (.ref b16), .val (.ref b18), .val (.int (1 : Int32)), .val (.int (1 : Int32)), .val (.ref b20), .val (.int (1 : Int32)), .val .null, .val (.ref r24), .val (.ref b14), .val (.int (1 : Int32)), .val (.ref r26), .val (.ref b18), .val (.int (1 : Int32))] [(.int (1 : Int32))])) _
    refine XS.ifNo X27.here hx rfl (hb hby at_273) rfl ((if0 _ _).trans (feq hc273).1) ?_
    show Steps p.tables e below (T27.setTop (mkF m 276 #[.val (.int p1), .val (.int p2), .val (.int p3), .val (.int p4), .val (.int p5), .val (.int p6), .val (.ref r7), .val (.ref r8), .val (.ref b9), .val (.ref b12), .val (.ref b14), .val (.ref b16), .val (.ref b18), .val (.int (1 : Int32)), .val (.int (1 : Int32)), .val (.ref b20), .val (.int (1 : Int32)), .val .null, .val (.ref r24), .val (.ref b14), .val (.int (1 : Int32)), .val (.ref r26), .val (.ref b18), .val (.int (1 : Int32))] [])) _
    refine XS.iload X27.here hx rfl (hb hby at_276) rfl ?_
    show Steps p.tables e below (T27.setTop (mkF m 278 #[.val (.int p1), .val (.int p2), .val (.int p3), .val (.int p4), .val (.int p5), .val (.int p6), .val (.ref r7), .val (.ref r8), .val (.ref b9), .val (.ref b12), .val (.ref b14), .val (.ref b16), .val (.ref b18), .val (.int (1 : Int32)), .val (.int (1 : Int32)), .val (.ref b20), .val (.int (1 : Int32)), .val .null, .val (.ref r24), .val (.ref b14), .val (.int (1 : Int32)), .val (.ref r26), .val (.ref b18), .val (.int (1 : Int32))] [(.int (1 : Int32))])) _
    refine XS.ifNo X27.here hx rfl (hb hby at_278) rfl ((if0 _ _).trans (feq hc278).1) ?_
    show Steps p.tables e below (T27.setTop (mkF m 281 #[.val (.int p1), .val (.int p2), .val (.int p3), .val (.int p4), .val (.int p5), .val (.int p6), .val (.ref r7), .val (.ref r8), .val (.ref b9), .val (.ref b12), .val (.ref b14), .val (.ref b16), .val (.ref b18), .val (.int (1 : Int32)), .val (.int (1 : Int32)), .val (.ref b20), .val (.int (1 : Int32)), .val .null, .val (.ref r24), .val (.ref b14), .val (.int (1 : Int32)), .val (.ref r26), .val (.ref b18), .val (.int (1 : Int32))] [])) _
    refine XS.iload X27.here hx rfl (hb hby at_281) rfl ?_
    show Steps p.tables e below (T27.setTop (mkF m 283 #[.val (.int p1), .val (.int p2), .val (.int p3), .val (.int p4), .val (.int p5), .val (.int p6), .val (.ref r7), .val (.ref r8), .val (.ref b9), .val (.ref b12), .val (.ref b14), .val (.ref b16), .val (.ref b18), .val (.int (1 : Int32)), .val (.int (1 : Int32)), .val (.ref b20), .val (.int (1 : Int32)), .val .null, .val (.ref r24), .val (.ref b14), .val (.int (1 : Int32)), .val (.ref r26), .val (.ref b18), .val (.int (1 : Int32))] [(.int (1 : Int32))])) _
    refine XS.ifNo X27.here hx rfl (hb hby at_283) rfl ((if0 _ _).trans (feq hc283).1) ?_
    show Steps p.tables e below (T27.setTop (mkF m 286 #[.val (.int p1), .val (.int p2), .val (.int p3), .val (.int p4), .val (.int p5), .val (.int p6), .val (.ref r7), .val (.ref r8), .val (.ref b9), .val (.ref b12), .val (.ref b14), .val (.ref b16), .val (.ref b18), .val (.int (1 : Int32)), .val (.int (1 : Int32)), .val (.ref b20), .val (.int (1 : Int32)), .val .null, .val (.ref r24), .val (.ref b14), .val (.int (1 : Int32)), .val (.ref r26), .val (.ref b18), .val (.int (1 : Int32))] [])) _
    refine XS.iconst X27.here hx rfl (hb hby at_286) ?_
    show Steps p.tables e below (T27.setTop (mkF m 287 #[.val (.int p1), .val (.int p2), .val (.int p3), .val (.int p4), .val (.int p5), .val (.int p6), .val (.ref r7), .val (.ref r8), .val (.ref b9), .val (.ref b12), .val (.ref b14), .val (.ref b16), .val (.ref b18), .val (.int (1 : Int32)), .val (.int (1 : Int32)), .val (.ref b20), .val (.int (1 : Int32)), .val .null, .val (.ref r24), .val (.ref b14), .val (.int (1 : Int32)), .val (.ref r26), .val (.ref b18), .val (.int (1 : Int32))] [(.int (1 : Int32))])) _
    refine XS.goto X27.here hx rfl (pc0 := 287) (pc' := 291) rfl (hb hby at_287) (by decide) (by decide) ?_
    show Steps p.tables e below (T27.setTop (mkF m 291 #[.val (.int p1), .val (.int p2), .val (.int p3), .val (.int p4), .val (.int p5), .val (.int p6), .val (.ref r7), .val (.ref r8), .val (.ref b9), .val (.ref b12), .val (.ref b14), .val (.ref b16), .val (.ref b18), .val (.int (1 : Int32)), .val (.int (1 : Int32)), .val (.ref b20), .val (.int (1 : Int32)), .val .null, .val (.ref r24), .val (.ref b14), .val (.int (1 : Int32)), .val (.ref r26), .val (.ref b18), .val (.int (1 : Int32))] [(.int (1 : Int32))])) _
    exact retN X27 hx (t := .boolean) Bd.returns (by simp) (hb hby at_291) hr
  · show Q0 Z h0 n0 _ T27.heap _
    exact ⟨rfl, N27⟩
theorem own_one {args : Array Value} {s : State} {f : String} (h1 : (Cond.initialized own_KC).before args s = true) (h2 : (Cond.laysStatic own_KC f own_KD).before args s = true) (g1 : (Cond.exactly (.static own_KC f own_KD) own_KC).value args s none s [] = some true) : ∃ w, Sta s s.heap own_KC f own_KD (.ref w) := by
  obtain ⟨w, e⟩ := exa_v g1
  exact ⟨w, Sta.start e (Or.inr ⟨h1, h2⟩)⟩
set_option maxRecDepth 65536 in
theorem own_kind {args : Array Value} {s : State} (hw : ∀ d ∈ tables_1, d.before args s = true) (n1 : (Cond.exactly (.static own_KC "IDENTIFIER" own_KD) own_KC).value args s none s [] = some true) (n2 : (Cond.exactly (.static own_KC "KEYWORD" own_KD) own_KC).value args s none s [] = some true) (n3 : (Cond.exactly (.static own_KC "END" own_KD) own_KC).value args s none s [] = some true) (n4 : (Cond.exactly (.static own_KC "PUNCTUATOR" own_KD) own_KC).value args s none s [] = some true) (m : Int32) : ∃ w, Sta s s.heap own_KC (own_kn m) own_KD (.ref w) := by
  have hi : (Cond.initialized own_KC).before args s = true := hw _ (List.mem_of_getElem? (i := 70) rfl)
  unfold own_kn
  split
  · exact own_one hi (hw _ (List.mem_of_getElem? (i := 71) rfl)) n1
  · split
    · exact own_one hi (hw _ (List.mem_of_getElem? (i := 110) rfl)) n2
    · split
      · exact own_one hi (hw _ (List.mem_of_getElem? (i := 114) rfl)) n4
      · exact own_one hi (hw _ (List.mem_of_getElem? (i := 112) rfl)) n3
theorem own_cs {args : Array Value} {s : State} (h1 : (Cond.initializedFor "java/lang/String" "COMPACT_STRINGS" "Z").before args s = true) (h2 : (Cond.isInt (.static "java/lang/String" "COMPACT_STRINGS" "Z")).value args s none s [] = some true) (h3 : (Cond.not (Cond.eq (.static "java/lang/String" "COMPACT_STRINGS" "Z") (.int (0 : Int32)))).value args s none s [] = some true) : ∃ w : Int32, Sta s s.heap "java/lang/String" "COMPACT_STRINGS" "Z" (.int w) ∧ ¬ w = 0 := by
  obtain ⟨w, e⟩ := is_v h2
  refine ⟨w, Sta.start e (Or.inl h1), fun q => ?_⟩
  subst q
  have t : (Cond.eq (.static "java/lang/String" "COMPACT_STRINGS" "Z") (.int (0 : Int32))).value args s none s [] = some true := eq_i e (Term.int_eval 0) rfl
  rw [Cond.value, t] at h3
  cases h3
-- 5. FROM THE CASE'S WORDS TO rm0, AND THE OWED THEOREMS
set_option maxRecDepth 65536 in
set_option maxHeartbeats 40000000 in
theorem comes_1 {Post : Tables → Env → Array Value → State → Outcome → State → Prop} (hpost : ∀ tb e args s v u, (limb_1_1.after args s (.returned v) u = true ∧ limb_1_2.after args s (.returned v) u = true ∧ True) → FrameEnd s (.returned v) u (Jvm.fieldLocs frame_1_writes args s ++ Jvm.arrayLocs frame_1_arrays args s ++ Jvm.staticLocs frame_1_statics s) 40 192 → Post tb e args s (.returned v) u) :
    ArmFor flags0 classFile x code maxLocals ret World_1 tables_1 room_1 Calls_1 rest_1 Pre_1 Post := by
  intro l hfl _ _ p e ha hc hk s m args below hf hA hF happ hP
  obtain ⟨hcalls, hrest, hpre⟩ := hP
  obtain ⟨-, -, -, hnamed, -, -, -, hat⟩ := (Spec.applies_iff hf).mp happ
  obtain ⟨hg, hn⟩ := and_e (Cond.before_iff.mp (show (Jvm.Cond.and given_1 narrow_1).before args s = true from hpre))
  obtain ⟨g28, g29⟩ := and_e hg
  obtain ⟨g30, g31⟩ := and_e g29
  obtain ⟨g32, g33⟩ := and_e g31
  obtain ⟨g34, g35⟩ := and_e g33
  obtain ⟨g36, g37⟩ := and_e g35
  obtain ⟨g38, g39⟩ := and_e g37
  obtain ⟨w0, w1, w2, w3, w4, w5, rfl⟩ : ∃ w0 w1 w2 w3 w4 w5 : Value, args = #[w0, w1, w2, w3, w4, w5] := by
    have hs : args.size = 6 := by simpa [Cond.value, given_1] using g28
    obtain ⟨L⟩ := args
    match L, hs with
    | [w0, w1, w2, w3, w4, w5], _ => exact ⟨w0, w1, w2, w3, w4, w5, rfl⟩
  have hw := fun d (hd : d ∈ tables_1) => atoms_spec (ws := Jvm.Cond.code x code maxLocals ret :: tables_1) hat d (List.mem_cons_of_mem _ hd)
  have hfit : Fit s := fun {y c} hc i hi => by
    obtain ⟨ha, rfl⟩ := Array.getElem?_eq_some_iff.mp hc
    have q := List.all_eq_true.mp ((Array.all_eq_true_iff_forall_mem.mp hF) _ (Array.getElem_mem ha)) i (List.mem_range.mpr hi)
    simpa [Array.getElem?_eq_getElem hi] using q
  -- the named sets: hsets indexes jdkStatics_1 (Statement.lean): (hsets _ (List.mem_of_getElem? (i := n) rfl)) is its n-th word, before the call
  obtain ⟨hsets, hown0⟩ := atoms_of _ (rest_1_c_eq ▸ (show rest_1_c.before _ s = true from hrest))
  have hr0 := Cond.before_iff.mp hown0
  obtain ⟨i0, ei0⟩ := is_v g30
  obtain rfl : w0 = (.int i0) := Option.some.inj ei0
  obtain ⟨i1, ei1⟩ := is_v g32
  obtain rfl : w1 = (.int i1) := Option.some.inj ei1
  obtain ⟨i2, ei2⟩ := is_v g34
  obtain rfl : w2 = (.int i2) := Option.some.inj ei2
  obtain ⟨i3, ei3⟩ := is_v g36
  obtain rfl : w3 = (.int i3) := Option.some.inj ei3
  obtain ⟨i4, ei4⟩ := is_v g38
  obtain rfl : w4 = (.int i4) := Option.some.inj ei4
  obtain ⟨i5, ei5⟩ := is_v g39
  obtain rfl : w5 = (.int i5) := Option.some.inj ei5
  obtain ⟨n1, hn⟩ := and_e hn
  obtain ⟨n2, hn⟩ := and_e hn
  obtain ⟨n3, n4⟩ := and_e hn
  obtain ⟨wk, S_kind⟩ := own_kind hw n1 n2 n3 n4 i4
  obtain ⟨w_cs, S_CS, hcs⟩ := own_cs (hsets _ (List.mem_of_getElem? (i := 0) rfl)) (Cond.before_iff.mp (hsets _ (List.mem_of_getElem? (i := 1) rfl))) (Cond.before_iff.mp (hsets _ (List.mem_of_getElem? (i := 2) rfl)))
  have main : MetFree l x (head1 (Jvm.Cond.code x code maxLocals ret :: tables_1) room_1) (fun a U => a = #[(.int i0), (.int i1), (.int i2), (.int i3), (.int i4), (.int i5)] ∧ s.Warmed39 U.vm ∧ U.heap = s.heap) (fun _ _ _ _ _ => True) (fun _ U o U' => ∃ v L, o = .returned v ∧ Q0 s s.heap s.heap.size v U'.heap L ∧ FrameEnd U o U' L room_1.cells room_1.slots) := by
    by_cases hc114 : (((i4.toUInt32 >>> ((2 : Int32) &&& 31).toUInt32).toInt32) &&& (1 : Int32)) = (0 : Int32)
    · by_cases hc130 : (((i4.toUInt32 >>> ((3 : Int32) &&& 31).toUInt32).toInt32) &&& (1 : Int32)) = (0 : Int32)
      · exact rm0_tq l s _ hw tables_1 i0 i1 i2 i3 i4 i5 w_cs wk s.heap s.heap.size (Nat.le_refl _) S_CS hcs S_kind hc114 hc130
      · exact rm0_tn l s _ hw tables_1 i0 i1 i2 i3 i4 i5 w_cs wk s.heap s.heap.size (Nat.le_refl _) S_CS hcs S_kind hc114 hc130
    · by_cases hc130 : (((i4.toUInt32 >>> ((3 : Int32) &&& 31).toUInt32).toInt32) &&& (1 : Int32)) = (0 : Int32)
      · exact rm0_fq l s _ hw tables_1 i0 i1 i2 i3 i4 i5 w_cs wk s.heap s.heap.size (Nat.le_refl _) S_CS hcs S_kind hc114 hc130
      · exact rm0_fn l s _ hw tables_1 i0 i1 i2 i3 i4 i5 w_cs wk s.heap s.heap.size (Nat.le_refl _) S_CS hcs S_kind hc114 hc130
  obtain ⟨n, o, h1, h2, h3, _, L, rfl, ⟨rfl, N⟩, hq⟩ := main p e ha hc hk s m _ below hf ((Spec.applies_iff_loose hf).mp happ).1 ⟨rfl, State.Warmed39.refl s, rfl⟩ trivial
  refine ⟨n, _, h1, h2, h3, hpost _ _ _ _ _ _ ⟨Cond.after_iff.mpr rfl, Cond.after_iff.mpr (eq_i res_at (Term.int_eval (1)) rfl), trivial⟩ ⟨hq.1, hq.2.1, (hq.2.2.sift fun y hy => Or.inr (N y hy)).mono (by decide) (by decide)⟩⟩
theorem main_1_1 : Claimed_1_1 := comes_1 fun _ _ _ _ _ _ h hF => ⟨h.1, hF⟩
theorem main_1_2 : Claimed_1_2 := comes_1 fun _ _ _ _ _ _ h hF => ⟨h.2.1, hF⟩
end Jvm.Pilot.@@N@@
namespace Jvm.Pilot.@@N@@
open Jvm Jvm.ClassFile Sem Op Lib Jvm.Free Jvm.Stand Jvm.Pilot.@@N@@.Jvm.D
/-! MADE BY PROGRAM (witnessworld.py) out of the Statement's table words and the real class files: 23 classes; the members and pool entries that the words name. The judged class is class 1, her method 2. -/
namespace start1
open Jvm.ClassFile
def u (s : String) : CpInfo := .utf8 (stringToUtf16 s)
/-- a pool by its gaps: so many unusable entries, then the entry; so many at the end -/
def gap : Nat → List CpInfo → List CpInfo
  | 0, r => r
  | n + 1, r => .unusable :: gap n r
def poolList (es : List (Nat × CpInfo)) (last : Nat) : List CpInfo := es.foldr (fun e r => gap e.1 (e.2 :: r)) (gap last [])
def pool (es : List (Nat × CpInfo)) (last : Nat) : Array CpInfo := ⟨poolList es last⟩
def fileOf (pool : Array CpInfo) (this : Nat) (attrs : Array Attribute := #[]) (ms : Array MethodInfo := #[]) (fl : Nat := 33) (sup : Nat := 0) (ifs : Array Nat := #[]) (fds : Array FieldInfo := #[]) : ClassFile where
  minorVersion := 0
  majorVersion := 65
  constantPool := pool
  accessFlags := fl
  thisClass := this
  superClass := sup
  interfaces := ifs
  fields := fds
  methods := ms
  attributes := attrs
def plain (name : String) (sup : Option ClassId) : Class where
  name := name
  kind := .ordinary
  loader := none
  accessFlags := 33
  super := sup
  interfaces := #[]
  cf := none
  fields := #[]
  methods := #[]
  instanceTypes := #[]
  staticTypes := #[]
  resolved := #[]
  callSites := []
  init := .initialized
  statics := none
  mirror := none

def pool0 : Array CpInfo := pool [(5, u "<init>"), (0, u "()V"), (1, .class_ 10), (1, u "java/lang/Object")] 113

def k0c0 : Code := { maxStack := 0, maxLocals := 1, code := object_method_1_code, exceptionTable := #[], attributes := #[] }
def k0m0 : Method := { name := "<init>", desc := "()V", sig := { parameters := [], returnType := none }, accessFlags := 1, code := some k0c0 }
/-- java/lang/Object -/
def k0 : Class := { plain "java/lang/Object" none with
  accessFlags := 33
  interfaces := #[]
  cf := some (fileOf pool0 8 #[] #[{ accessFlags := 1, nameIndex := 5, descriptorIndex := 6, attributes := #[] }] 33 0 #[] #[])
  fields := #[]
  methods := #[k0m0]
  instanceTypes := #[]
  staticTypes := #[]
  resolved := Array.replicate 124 none
  statics := none }

def pool1 : Array CpInfo := pool [(2, .class_ 4), (1, u "java/lang/Object"), (0, u "<init>"), (0, u "()V"), (0, .fieldref 8 9), (0, .class_ 10), (0, .nameAndType 11 12), (0, u "com/example/stubwright/stubwright/read/Token$Kind"), (0, u "IDENTIFIER"), (0, u "Lcom/example/stubwright/stubwright/read/Token$Kind;"), (0, .fieldref 8 14), (0, .nameAndType 15 12), (0, u "KEYWORD"), (0, .fieldref 8 17), (0, .nameAndType 18 12), (0, u "PUNCTUATOR"), (0, .fieldref 8 20), (0, .nameAndType 21 12), (0, u "END"), (0, .methodref 23 24), (0, .class_ 25), (0, .nameAndType 26 27), (0, u "java/lang/String"), (0, u "valueOf"), (0, u "(C)Ljava/lang/String;"), (0, .methodref 23 29), (0, .nameAndType 5 30), (0, u "([C)V"), (0, .class_ 32), (0, u "com/example/stubwright/stubwright/model/Position"), (0, .methodref 31 34), (0, .nameAndType 5 35), (0, u "(Ljava/lang/String;II)V"), (0, .class_ 37), (0, u "com/example/stubwright/stubwright/read/Token"), (0, .methodref 39 40), (0, .class_ 41), (0, .nameAndType 42 43), (0, u "com/example/stubwright/stubwright/read/TokenExpansionPointPinLaw"), (0, u "kindOf"), (0, u "(I)Lcom/example/stubwright/stubwright/read/Token$Kind;"), (0, .methodref 36 45), (0, .nameAndType 5 46), (0, u "(Lcom/example/stubwright/stubwright/read/Token$Kind;Ljava/lang/String;Ljava/lang/Object;Lcom/example/stubwright/stubwright/model/Position;Z)V"), (0, .methodref 36 48), (0, .nameAndType 49 50), (0, u "expansionPoint"), (0, u "()Lcom/example/stubwright/stubwright/model/Position;"), (0, .methodref 36 52), (0, .nameAndType 53 54), (0, u "expandedAt"), (0, u "(Lcom/example/stubwright/stubwright/model/Position;)Lcom/example/stubwright/stubwright/read/Token;"), (0, .methodref 36 56), (0, .nameAndType 57 54), (0, u "at"), (3, u "law"), (0, u "(IIIIII)Z")] 6

def k1m0 : Method := { name := "<init>", desc := "()V", sig := { parameters := [], returnType := none }, accessFlags := 2, code := none }
def k1c1 : Code := { maxStack := 2, maxLocals := 2, code := method_2_code, exceptionTable := #[], attributes := #[] }
def k1m1 : Method := { name := "kindOf", desc := "(I)Lcom/example/stubwright/stubwright/read/Token$Kind;", sig := { parameters := [.int], returnType := some (.object "com/example/stubwright/stubwright/read/Token$Kind") }, accessFlags := 10, code := some k1c1 }
def k1c2 : Code := { maxStack := 7, maxLocals := 24, code := code, exceptionTable := #[], attributes := #[] }
def k1m2 : Method := { name := "law", desc := "(IIIIII)Z", sig := { parameters := [.int, .int, .int, .int, .int, .int], returnType := some .boolean }, accessFlags := 9, code := some k1c2 }
/-- com/example/stubwright/stubwright/read/TokenExpansionPointPinLaw -/
def k1 : Class := { plain "com/example/stubwright/stubwright/read/TokenExpansionPointPinLaw" (some 0) with
  accessFlags := 49
  interfaces := #[]
  cf := some (fileOf pool1 39 #[] #[{ accessFlags := 2, nameIndex := 5, descriptorIndex := 6, attributes := #[] }, { accessFlags := 10, nameIndex := 42, descriptorIndex := 43, attributes := #[] }, { accessFlags := 9, nameIndex := 61, descriptorIndex := 62, attributes := #[] }] 49 2 #[] #[])
  fields := #[]
  methods := #[k1m0, k1m1, k1m2]
  instanceTypes := #[]
  staticTypes := #[]
  resolved := Array.replicate 69 none
  statics := none }

def pool2 : Array CpInfo := pool [(1, .class_ 2), (0, u "java/io/Serializable"), (0, .class_ 4), (0, u "java/lang/Object")] 2

/-- java/io/Serializable -/
def k2 : Class := { plain "java/io/Serializable" (some 0) with
  accessFlags := 1537
  interfaces := #[]
  cf := some (fileOf pool2 1 #[] #[] 1537 3 #[] #[])
  fields := #[]
  methods := #[]
  instanceTypes := #[]
  staticTypes := #[]
  resolved := Array.replicate 7 none
  statics := none }

def pool3 : Array CpInfo := pool [(1, .class_ 2), (0, u "java/lang/Comparable"), (0, .class_ 4), (0, u "java/lang/Object")] 7

/-- java/lang/Comparable -/
def k3 : Class := { plain "java/lang/Comparable" (some 0) with
  accessFlags := 1537
  interfaces := #[]
  cf := some (fileOf pool3 1 #[] #[] 1537 3 #[] #[])
  fields := #[]
  methods := #[]
  instanceTypes := #[]
  staticTypes := #[]
  resolved := Array.replicate 12 none
  statics := none }

def pool4 : Array CpInfo := pool [(2, .class_ 4), (1, u "java/lang/CharSequence"), (42, .class_ 48), (0, u "java/lang/CharSequence$1CodePointIterator"), (10, .class_ 60), (0, u "java/lang/CharSequence$1CharIterator"), (5, .class_ 67), (0, u "java/lang/Object")] 63

/-- java/lang/CharSequence -/
def k4 : Class := { plain "java/lang/CharSequence" (some 0) with
  accessFlags := 1537
  interfaces := #[]
  cf := some (fileOf pool4 2 #[.nestMembers #[47, 59]] #[] 1537 66 #[] #[])
  fields := #[]
  methods := #[]
  instanceTypes := #[]
  staticTypes := #[]
  resolved := Array.replicate 131 none
  statics := none }

def pool5 : Array CpInfo := pool [(1, .class_ 2), (0, u "java/lang/constant/Constable"), (0, .class_ 4), (0, u "java/lang/Object")] 6

/-- java/lang/constant/Constable -/
def k5 : Class := { plain "java/lang/constant/Constable" (some 0) with
  accessFlags := 1537
  interfaces := #[]
  cf := some (fileOf pool5 1 #[] #[] 1537 3 #[] #[])
  fields := #[]
  methods := #[]
  instanceTypes := #[]
  staticTypes := #[]
  resolved := Array.replicate 11 none
  statics := none }

def pool6 : Array CpInfo := pool [(1, .class_ 2), (0, u "java/lang/constant/ConstantDesc"), (0, .class_ 4), (0, u "java/lang/Object")] 32

/-- java/lang/constant/ConstantDesc -/
def k6 : Class := { plain "java/lang/constant/ConstantDesc" (some 0) with
  accessFlags := 1537
  interfaces := #[]
  cf := some (fileOf pool6 1 #[] #[] 1537 3 #[] #[])
  fields := #[]
  methods := #[]
  instanceTypes := #[]
  staticTypes := #[]
  resolved := Array.replicate 37 none
  statics := none }

def pool7 : Array CpInfo := pool [(1, .methodref 2 3), (0, .class_ 4), (0, .nameAndType 5 6), (0, u "java/lang/Object"), (0, u "<init>"), (0, u "()V"), (2, .fieldref 10 11), (0, .class_ 12), (0, .nameAndType 13 14), (0, u "java/lang/String"), (0, u "value"), (0, u "[B"), (0, .fieldref 10 16), (0, .nameAndType 17 18), (0, u "coder"), (0, u "B"), (2, u "hash"), (0, u "I"), (2, u "hashIsZero"), (0, u "Z"), (0, .methodref 10 28), (0, .nameAndType 5 29), (0, u "([CIILjava/lang/Void;)V"), (8, .fieldref 10 39), (0, .nameAndType 40 26), (0, u "COMPACT_STRINGS"), (1, .class_ 44), (1, u "java/lang/StringUTF16"), (0, u "compress"), (1, .methodref 42 48), (0, .nameAndType 49 50), (0, u "coderFromArrayLen"), (0, u "([BI)B"), (2, u "toBytes"), (53, .class_ 109), (1, u "java/lang/StringLatin1"), (67, .methodref 42 178), (0, .nameAndType 45 179), (0, u "([CII)[B"), (29, .methodref 10 210), (0, .nameAndType 5 211), (0, u "([BB)V"), (157, u "(C)Z"), (205, .class_ 576), (0, u "java/lang/CharSequence"), (22, u "CASE_INSENSITIVE_ORDER"), (0, u "Ljava/util/Comparator;"), (181, u "valueOf"), (0, u "(C)Ljava/lang/String;"), (226, u "([C)V"), (4, .methodref 107 1016), (0, .nameAndType 1017 369), (0, u "canEncode"), (0, .methodref 107 1019), (0, .nameAndType 53 1020), (0, u "(C)[B"), (80, u "serialPersistentFields"), (0, u "[Ljava/io/ObjectStreamField;"), (0, .class_ 1104), (0, u "java/lang/String$CaseInsensitiveComparator"), (1, .class_ 1107), (0, u "java/io/Serializable"), (0, .class_ 1109), (0, u "java/lang/Comparable"), (0, .class_ 1111), (0, u "java/lang/constant/Constable"), (0, .class_ 1113), (0, u "java/lang/constant/ConstantDesc"), (2, u "serialVersionUID"), (0, u "J"), (3, u "REPL"), (0, u "C"), (2, u "LATIN1"), (1, u "UTF16")] 323

def k7m0 : Method := { name := "<init>", desc := "()V", sig := { parameters := [], returnType := none }, accessFlags := 1, code := none }
def k7c1 : Code := { maxStack := 5, maxLocals := 2, code := jdk_42_method_3_code, exceptionTable := #[], attributes := #[] }
def k7m1 : Method := { name := "<init>", desc := "([C)V", sig := { parameters := [(.array .char)], returnType := none }, accessFlags := 1, code := some k7c1 }
def k7c2 : Code := { maxStack := 4, maxLocals := 1, code := jdk_42_method_139_code, exceptionTable := #[], attributes := #[] }
def k7m2 : Method := { name := "valueOf", desc := "(C)Ljava/lang/String;", sig := { parameters := [.char], returnType := some (.object "java/lang/String") }, accessFlags := 9, code := some k7c2 }
def k7c3 : Code := { maxStack := 4, maxLocals := 6, code := jdk_42_method_149_code, exceptionTable := #[], attributes := #[] }
def k7m3 : Method := { name := "<init>", desc := "([CIILjava/lang/Void;)V", sig := { parameters := [(.array .char), .int, .int, (.object "java/lang/Void")], returnType := none }, accessFlags := 2, code := some k7c3 }
def k7c4 : Code := { maxStack := 2, maxLocals := 3, code := jdk_42_method_151_code, exceptionTable := #[], attributes := #[] }
def k7m4 : Method := { name := "<init>", desc := "([BB)V", sig := { parameters := [(.array .byte), .byte], returnType := none }, accessFlags := 0, code := some k7c4 }
/-- java/lang/String -/
def k7 : Class := { plain "java/lang/String" (some 0) with
  accessFlags := 49
  interfaces := #[2, 3, 4, 5, 6]
  cf := some (fileOf pool7 10 #[.nestMembers #[1103]] #[{ accessFlags := 1, nameIndex := 5, descriptorIndex := 6, attributes := #[] }, { accessFlags := 1, nameIndex := 5, descriptorIndex := 1010, attributes := #[] }, { accessFlags := 9, nameIndex := 782, descriptorIndex := 783, attributes := #[] }, { accessFlags := 2, nameIndex := 5, descriptorIndex := 29, attributes := #[] }, { accessFlags := 0, nameIndex := 5, descriptorIndex := 211, attributes := #[] }] 49 2 #[1106, 1108, 575, 1110, 1112] #[{ accessFlags := 18, nameIndex := 13, descriptorIndex := 14, attributes := #[] }, { accessFlags := 18, nameIndex := 17, descriptorIndex := 18, attributes := #[] }, { accessFlags := 2, nameIndex := 21, descriptorIndex := 22, attributes := #[] }, { accessFlags := 2, nameIndex := 25, descriptorIndex := 26, attributes := #[] }, { accessFlags := 26, nameIndex := 1116, descriptorIndex := 1117, attributes := #[] }, { accessFlags := 24, nameIndex := 40, descriptorIndex := 26, attributes := #[] }, { accessFlags := 26, nameIndex := 1101, descriptorIndex := 1102, attributes := #[] }, { accessFlags := 26, nameIndex := 1121, descriptorIndex := 1122, attributes := #[] }, { accessFlags := 25, nameIndex := 599, descriptorIndex := 600, attributes := #[] }, { accessFlags := 24, nameIndex := 1125, descriptorIndex := 18, attributes := #[] }, { accessFlags := 24, nameIndex := 1127, descriptorIndex := 18, attributes := #[] }])
  fields := #[{ name := "value", type := (.array .byte), accessFlags := 18, slot := 0, constantValue := 0 }, { name := "coder", type := .byte, accessFlags := 18, slot := 1, constantValue := 0 }, { name := "hash", type := .int, accessFlags := 2, slot := 2, constantValue := 0 }, { name := "hashIsZero", type := .boolean, accessFlags := 2, slot := 3, constantValue := 0 }, { name := "serialVersionUID", type := .long, accessFlags := 26, slot := 0, constantValue := 0 }, { name := "COMPACT_STRINGS", type := .boolean, accessFlags := 24, slot := 1, constantValue := 0 }, { name := "serialPersistentFields", type := (.array (.object "java/io/ObjectStreamField")), accessFlags := 26, slot := 2, constantValue := 0 }, { name := "REPL", type := .char, accessFlags := 26, slot := 3, constantValue := 0 }, { name := "CASE_INSENSITIVE_ORDER", type := (.object "java/util/Comparator"), accessFlags := 25, slot := 4, constantValue := 0 }, { name := "LATIN1", type := .byte, accessFlags := 24, slot := 5, constantValue := 0 }, { name := "UTF16", type := .byte, accessFlags := 24, slot := 6, constantValue := 0 }]
  methods := #[k7m0, k7m1, k7m2, k7m3, k7m4]
  instanceTypes := #[(.array .byte), .byte, .int, .boolean]
  staticTypes := #[.long, .boolean, (.array (.object "java/io/ObjectStreamField")), .char, (.object "java/util/Comparator"), .byte, .byte]
  resolved := Array.replicate 1451 none
  statics := some 0 }

def pool8 : Array CpInfo := pool [(4, .class_ 6), (1, u "java/lang/Object"), (0, u "<init>"), (0, u "()V"), (5, .class_ 16), (1, u "java/lang/StringLatin1"), (73, u "canEncode"), (14, u "(C)Z"), (15, u "$assertionsDisabled"), (0, u "Z"), (98, .class_ 223), (1, u "java/lang/StringLatin1$LinesSpliterator"), (156, u "toBytes"), (1, u "(C)[B"), (7, .class_ 391), (0, u "java/lang/StringLatin1$CharsSpliterator")] 3

def k8m0 : Method := { name := "<init>", desc := "()V", sig := { parameters := [], returnType := none }, accessFlags := 0, code := none }
def k8c1 : Code := { maxStack := 2, maxLocals := 1, code := jdk_43_method_3_code, exceptionTable := #[], attributes := #[] }
def k8m1 : Method := { name := "canEncode", desc := "(C)Z", sig := { parameters := [.char], returnType := some .boolean }, accessFlags := 9, code := some k8c1 }
def k8c2 : Code := { maxStack := 4, maxLocals := 1, code := jdk_43_method_46_code, exceptionTable := #[], attributes := #[] }
def k8m2 : Method := { name := "toBytes", desc := "(C)[B", sig := { parameters := [.char], returnType := some (.array .byte) }, accessFlags := 9, code := some k8c2 }
/-- java/lang/StringLatin1 -/
def k8 : Class := { plain "java/lang/StringLatin1" (some 0) with
  accessFlags := 48
  interfaces := #[]
  cf := some (fileOf pool8 14 #[.nestMembers #[390, 221]] #[{ accessFlags := 0, nameIndex := 7, descriptorIndex := 8, attributes := #[] }, { accessFlags := 9, nameIndex := 90, descriptorIndex := 105, attributes := #[] }, { accessFlags := 9, nameIndex := 380, descriptorIndex := 382, attributes := #[] }] 48 4 #[] #[{ accessFlags := 4120, nameIndex := 121, descriptorIndex := 122, attributes := #[] }])
  fields := #[{ name := "$assertionsDisabled", type := .boolean, accessFlags := 4120, slot := 0, constantValue := 0 }]
  methods := #[k8m0, k8m1, k8m2]
  instanceTypes := #[]
  staticTypes := #[.boolean]
  resolved := Array.replicate 395 none
  statics := none }

def pool9 : Array CpInfo := pool [(6, .class_ 8), (1, u "java/lang/Object"), (0, u "<init>"), (0, u "()V"), (1, .class_ 14), (1, u "java/lang/StringUTF16"), (31, u "$assertionsDisabled"), (0, u "Z"), (13, u "HI_BYTE_SHIFT"), (0, u "I"), (2, u "LO_BYTE_SHIFT"), (49, .methodref 12 116), (0, .nameAndType 117 118), (0, u "compress"), (0, u "([CI[BII)I"), (3, u "([CII)[B"), (138, u "coderFromArrayLen"), (0, u "([BI)B"), (106, .class_ 371), (1, u "java/lang/StringUTF16$LinesSpliterator"), (58, u "MAX_LENGTH"), (196, .class_ 628), (0, u "java/lang/StringUTF16$CodePointsSpliterator"), (0, .class_ 630), (0, u "java/lang/StringUTF16$CharsSpliterator")] 4

def k9m0 : Method := { name := "<init>", desc := "()V", sig := { parameters := [], returnType := none }, accessFlags := 0, code := none }
def k9c1 : Code := { maxStack := 2, maxLocals := 2, code := jdk_52_method_15_code, exceptionTable := #[], attributes := #[] }
def k9m1 : Method := { name := "coderFromArrayLen", desc := "([BI)B", sig := { parameters := [(.array .byte), .int], returnType := some .byte }, accessFlags := 8, code := some k9c1 }
def k9c2 : Code := { maxStack := 5, maxLocals := 6, code := jdk_52_method_16_code, exceptionTable := #[], attributes := #[] }
def k9m2 : Method := { name := "compress", desc := "([CII)[B", sig := { parameters := [(.array .char), .int, .int], returnType := some (.array .byte) }, accessFlags := 9, code := some k9c2 }
def k9c3 : Code := { maxStack := 3, maxLocals := 7, code := jdk_52_method_21_code, exceptionTable := #[], attributes := #[] }
def k9m3 : Method := { name := "compress", desc := "([CI[BII)I", sig := { parameters := [(.array .char), .int, (.array .byte), .int, .int], returnType := some .int }, accessFlags := 9, code := some k9c3 }
/-- java/lang/StringUTF16 -/
def k9 : Class := { plain "java/lang/StringUTF16" (some 0) with
  accessFlags := 48
  interfaces := #[]
  cf := some (fileOf pool9 12 #[.nestMembers #[627, 629, 369]] #[{ accessFlags := 0, nameIndex := 9, descriptorIndex := 10, attributes := #[] }, { accessFlags := 8, nameIndex := 261, descriptorIndex := 262, attributes := #[] }, { accessFlags := 9, nameIndex := 117, descriptorIndex := 122, attributes := #[] }, { accessFlags := 9, nameIndex := 117, descriptorIndex := 118, attributes := #[] }] 48 6 #[] #[{ accessFlags := 26, nameIndex := 61, descriptorIndex := 62, attributes := #[] }, { accessFlags := 26, nameIndex := 65, descriptorIndex := 62, attributes := #[] }, { accessFlags := 24, nameIndex := 430, descriptorIndex := 62, attributes := #[] }, { accessFlags := 4120, nameIndex := 46, descriptorIndex := 47, attributes := #[] }])
  fields := #[{ name := "HI_BYTE_SHIFT", type := .int, accessFlags := 26, slot := 0, constantValue := 0 }, { name := "LO_BYTE_SHIFT", type := .int, accessFlags := 26, slot := 1, constantValue := 0 }, { name := "MAX_LENGTH", type := .int, accessFlags := 24, slot := 2, constantValue := 0 }, { name := "$assertionsDisabled", type := .boolean, accessFlags := 4120, slot := 3, constantValue := 0 }]
  methods := #[k9m0, k9m1, k9m2, k9m3]
  instanceTypes := #[]
  staticTypes := #[.int, .int, .int, .boolean]
  resolved := Array.replicate 635 none
  statics := none }

def pool10 : Array CpInfo := pool [(1, .methodref 2 3), (0, .class_ 4), (0, .nameAndType 5 6), (0, u "com/example/stubwright/stubwright/model/Position"), (0, u "<init>"), (0, u "(Ljava/lang/String;IILjava/lang/String;)V"), (0, .methodref 8 9), (0, .class_ 10), (0, .nameAndType 5 11), (0, u "java/lang/Object"), (0, u "()V"), (0, .fieldref 2 13), (0, .nameAndType 14 15), (0, u "file"), (0, u "Ljava/lang/String;"), (0, .fieldref 2 17), (0, .nameAndType 18 19), (0, u "line"), (0, u "I"), (0, .fieldref 2 21), (0, .nameAndType 22 19), (0, u "column"), (0, .fieldref 2 24), (0, .nameAndType 25 15), (0, u "source"), (26, u "(Ljava/lang/String;II)V"), (2, u "BUILT_IN"), (0, u "Lcom/example/stubwright/stubwright/model/Position;")] 26

def k10c0 : Code := { maxStack := 5, maxLocals := 4, code := prog_39_method_1_code, exceptionTable := #[], attributes := #[] }
def k10m0 : Method := { name := "<init>", desc := "(Ljava/lang/String;II)V", sig := { parameters := [(.object "java/lang/String"), .int, .int], returnType := none }, accessFlags := 1, code := some k10c0 }
def k10c1 : Code := { maxStack := 2, maxLocals := 5, code := prog_39_method_2_code, exceptionTable := #[], attributes := #[] }
def k10m1 : Method := { name := "<init>", desc := "(Ljava/lang/String;IILjava/lang/String;)V", sig := { parameters := [(.object "java/lang/String"), .int, .int, (.object "java/lang/String")], returnType := none }, accessFlags := 1, code := some k10c1 }
/-- com/example/stubwright/stubwright/model/Position -/
def k10 : Class := { plain "com/example/stubwright/stubwright/model/Position" (some 0) with
  accessFlags := 49
  interfaces := #[]
  cf := some (fileOf pool10 2 #[] #[{ accessFlags := 1, nameIndex := 5, descriptorIndex := 52, attributes := #[] }, { accessFlags := 1, nameIndex := 5, descriptorIndex := 6, attributes := #[] }] 49 8 #[] #[{ accessFlags := 25, nameIndex := 55, descriptorIndex := 56, attributes := #[] }, { accessFlags := 18, nameIndex := 14, descriptorIndex := 15, attributes := #[] }, { accessFlags := 18, nameIndex := 18, descriptorIndex := 19, attributes := #[] }, { accessFlags := 18, nameIndex := 22, descriptorIndex := 19, attributes := #[] }, { accessFlags := 18, nameIndex := 25, descriptorIndex := 15, attributes := #[] }])
  fields := #[{ name := "BUILT_IN", type := (.object "com/example/stubwright/stubwright/model/Position"), accessFlags := 25, slot := 0, constantValue := 0 }, { name := "file", type := (.object "java/lang/String"), accessFlags := 18, slot := 0, constantValue := 0 }, { name := "line", type := .int, accessFlags := 18, slot := 1, constantValue := 0 }, { name := "column", type := .int, accessFlags := 18, slot := 2, constantValue := 0 }, { name := "source", type := (.object "java/lang/String"), accessFlags := 18, slot := 3, constantValue := 0 }]
  methods := #[k10m0, k10m1]
  instanceTypes := #[(.object "java/lang/String"), .int, .int, (.object "java/lang/String")]
  staticTypes := #[(.object "com/example/stubwright/stubwright/model/Position")]
  resolved := Array.replicate 83 none
  statics := none }

def pool11 : Array CpInfo := pool [(2, .class_ 4), (1, u "com/example/stubwright/stubwright/read/Token"), (0, u "<init>"), (0, u "(Lcom/example/stubwright/stubwright/read/Token$Kind;Ljava/lang/String;Ljava/lang/Object;Lcom/example/stubwright/stubwright/model/Position;Z)V"), (0, .methodref 2 8), (0, .nameAndType 5 9), (0, u "(Lcom/example/stubwright/stubwright/read/Token$Kind;Ljava/lang/String;Ljava/lang/Object;Lcom/example/stubwright/stubwright/model/Position;ZZLcom/example/stubwright/stubwright/model/Position;)V"), (0, .methodref 11 12), (0, .class_ 13), (0, .nameAndType 5 14), (0, u "java/lang/Object"), (0, u "()V"), (0, .fieldref 2 16), (0, .nameAndType 17 18), (0, u "kind"), (0, u "Lcom/example/stubwright/stubwright/read/Token$Kind;"), (0, .fieldref 2 20), (0, .nameAndType 21 22), (0, u "spelling"), (0, u "Ljava/lang/String;"), (0, .fieldref 2 24), (0, .nameAndType 25 26), (0, u "value"), (0, u "Ljava/lang/Object;"), (0, .fieldref 2 28), (0, .nameAndType 29 30), (0, u "position"), (0, u "Lcom/example/stubwright/stubwright/model/Position;"), (0, .fieldref 2 32), (0, .nameAndType 33 34), (0, u "spaceBefore"), (0, u "Z"), (0, .fieldref 2 36), (0, .nameAndType 37 34), (0, u "painted"), (0, .fieldref 2 39), (0, .nameAndType 40 30), (0, u "expansion"), (1, .class_ 44), (1, u "com/example/stubwright/stubwright/read/Token$Kind"), (107, u "()Lcom/example/stubwright/stubwright/model/Position;"), (1, u "at"), (0, u "(Lcom/example/stubwright/stubwright/model/Position;)Lcom/example/stubwright/stubwright/read/Token;"), (3, u "expandedAt"), (0, u "expansionPoint")] 30

def k11c0 : Code := { maxStack := 8, maxLocals := 6, code := prog_80_method_2_code, exceptionTable := #[], attributes := #[] }
def k11m0 : Method := { name := "<init>", desc := "(Lcom/example/stubwright/stubwright/read/Token$Kind;Ljava/lang/String;Ljava/lang/Object;Lcom/example/stubwright/stubwright/model/Position;Z)V", sig := { parameters := [(.object "com/example/stubwright/stubwright/read/Token$Kind"), (.object "java/lang/String"), (.object "java/lang/Object"), (.object "com/example/stubwright/stubwright/model/Position"), .boolean], returnType := none }, accessFlags := 0, code := some k11c0 }
def k11c1 : Code := { maxStack := 2, maxLocals := 8, code := prog_80_method_3_code, exceptionTable := #[], attributes := #[] }
def k11m1 : Method := { name := "<init>", desc := "(Lcom/example/stubwright/stubwright/read/Token$Kind;Ljava/lang/String;Ljava/lang/Object;Lcom/example/stubwright/stubwright/model/Position;ZZLcom/example/stubwright/stubwright/model/Position;)V", sig := { parameters := [(.object "com/example/stubwright/stubwright/read/Token$Kind"), (.object "java/lang/String"), (.object "java/lang/Object"), (.object "com/example/stubwright/stubwright/model/Position"), .boolean, .boolean, (.object "com/example/stubwright/stubwright/model/Position")], returnType := none }, accessFlags := 2, code := some k11c1 }
def k11c2 : Code := { maxStack := 9, maxLocals := 2, code := prog_80_method_12_code, exceptionTable := #[], attributes := #[] }
def k11m2 : Method := { name := "at", desc := "(Lcom/example/stubwright/stubwright/model/Position;)Lcom/example/stubwright/stubwright/read/Token;", sig := { parameters := [(.object "com/example/stubwright/stubwright/model/Position")], returnType := some (.object "com/example/stubwright/stubwright/read/Token") }, accessFlags := 0, code := some k11c2 }
def k11c3 : Code := { maxStack := 9, maxLocals := 2, code := prog_80_method_15_code, exceptionTable := #[], attributes := #[] }
def k11m3 : Method := { name := "expandedAt", desc := "(Lcom/example/stubwright/stubwright/model/Position;)Lcom/example/stubwright/stubwright/read/Token;", sig := { parameters := [(.object "com/example/stubwright/stubwright/model/Position")], returnType := some (.object "com/example/stubwright/stubwright/read/Token") }, accessFlags := 0, code := some k11c3 }
def k11c4 : Code := { maxStack := 1, maxLocals := 1, code := prog_80_method_16_code, exceptionTable := #[], attributes := #[] }
def k11m4 : Method := { name := "expansionPoint", desc := "()Lcom/example/stubwright/stubwright/model/Position;", sig := { parameters := [], returnType := some (.object "com/example/stubwright/stubwright/model/Position") }, accessFlags := 0, code := some k11c4 }
/-- com/example/stubwright/stubwright/read/Token -/
def k11 : Class := { plain "com/example/stubwright/stubwright/read/Token" (some 0) with
  accessFlags := 48
  interfaces := #[]
  cf := some (fileOf pool11 2 #[.nestMembers #[42]] #[{ accessFlags := 0, nameIndex := 5, descriptorIndex := 6, attributes := #[] }, { accessFlags := 2, nameIndex := 5, descriptorIndex := 9, attributes := #[] }, { accessFlags := 0, nameIndex := 154, descriptorIndex := 155, attributes := #[] }, { accessFlags := 0, nameIndex := 159, descriptorIndex := 155, attributes := #[] }, { accessFlags := 0, nameIndex := 160, descriptorIndex := 152, attributes := #[] }] 48 11 #[] #[{ accessFlags := 18, nameIndex := 17, descriptorIndex := 18, attributes := #[] }, { accessFlags := 18, nameIndex := 21, descriptorIndex := 22, attributes := #[] }, { accessFlags := 18, nameIndex := 25, descriptorIndex := 26, attributes := #[] }, { accessFlags := 18, nameIndex := 29, descriptorIndex := 30, attributes := #[] }, { accessFlags := 18, nameIndex := 33, descriptorIndex := 34, attributes := #[] }, { accessFlags := 18, nameIndex := 37, descriptorIndex := 34, attributes := #[] }, { accessFlags := 18, nameIndex := 40, descriptorIndex := 30, attributes := #[] }])
  fields := #[{ name := "kind", type := (.object "com/example/stubwright/stubwright/read/Token$Kind"), accessFlags := 18, slot := 0, constantValue := 0 }, { name := "spelling", type := (.object "java/lang/String"), accessFlags := 18, slot := 1, constantValue := 0 }, { name := "value", type := (.object "java/lang/Object"), accessFlags := 18, slot := 2, constantValue := 0 }, { name := "position", type := (.object "com/example/stubwright/stubwright/model/Position"), accessFlags := 18, slot := 3, constantValue := 0 }, { name := "spaceBefore", type := .boolean, accessFlags := 18, slot := 4, constantValue := 0 }, { name := "painted", type := .boolean, accessFlags := 18, slot := 5, constantValue := 0 }, { name := "expansion", type := (.object "com/example/stubwright/stubwright/model/Position"), accessFlags := 18, slot := 6, constantValue := 0 }]
  methods := #[k11m0, k11m1, k11m2, k11m3, k11m4]
  instanceTypes := #[(.object "com/example/stubwright/stubwright/read/Token$Kind"), (.object "java/lang/String"), (.object "java/lang/Object"), (.object "com/example/stubwright/stubwright/model/Position"), .boolean, .boolean, (.object "com/example/stubwright/stubwright/model/Position")]
  staticTypes := #[]
  resolved := Array.replicate 191 none
  statics := none }

def pool12 : Array CpInfo := pool [(2, .class_ 4), (1, u "java/lang/Enum"), (0, u "name"), (0, u "Ljava/lang/String;"), (2, u "ordinal"), (0, u "I"), (1, .class_ 14), (1, u "java/lang/Object"), (4, u "hash"), (86, .class_ 108), (1, u "java/lang/Enum$EnumDesc"), (2, .class_ 112), (0, u "java/lang/constant/Constable"), (0, .class_ 114), (0, u "java/lang/Comparable"), (0, .class_ 116), (0, u "java/io/Serializable")] 87

/-- java/lang/Enum -/
def k12 : Class := { plain "java/lang/Enum" (some 0) with
  accessFlags := 1057
  interfaces := #[5, 3, 2]
  cf := some (fileOf pool12 2 #[.nestMembers #[106]] #[] 1057 12 #[111, 113, 115] #[{ accessFlags := 18, nameIndex := 5, descriptorIndex := 6, attributes := #[] }, { accessFlags := 18, nameIndex := 9, descriptorIndex := 10, attributes := #[] }, { accessFlags := 2, nameIndex := 19, descriptorIndex := 10, attributes := #[] }])
  fields := #[{ name := "name", type := (.object "java/lang/String"), accessFlags := 18, slot := 0, constantValue := 0 }, { name := "ordinal", type := .int, accessFlags := 18, slot := 1, constantValue := 0 }, { name := "hash", type := .int, accessFlags := 2, slot := 2, constantValue := 0 }]
  methods := #[]
  instanceTypes := #[(.object "java/lang/String"), .int, .int]
  staticTypes := #[]
  resolved := Array.replicate 204 none
  statics := none }

def pool13 : Array CpInfo := pool [(1, .class_ 2), (0, u "com/example/stubwright/stubwright/read/Token$Kind"), (2, u "IDENTIFIER"), (0, u "Lcom/example/stubwright/stubwright/read/Token$Kind;"), (2, u "KEYWORD"), (2, u "PUNCTUATOR"), (2, u "INTEGER"), (2, u "FLOATING"), (2, u "NUMBER"), (2, u "CHARACTER"), (2, u "STRING"), (2, u "OTHER"), (2, u "DIRECTIVE"), (2, u "PADDING"), (2, u "END"), (2, u "$VALUES"), (0, u "[Lcom/example/stubwright/stubwright/read/Token$Kind;"), (6, .class_ 52), (1, u "java/lang/Enum"), (35, .class_ 89), (0, u "com/example/stubwright/stubwright/read/Token")] 2

/-- com/example/stubwright/stubwright/read/Token$Kind -/
def k13 : Class := { plain "com/example/stubwright/stubwright/read/Token$Kind" (some 12) with
  accessFlags := 16432
  interfaces := #[]
  cf := some (fileOf pool13 1 #[.nestHost 88] #[] 16432 50 #[] #[{ accessFlags := 16409, nameIndex := 5, descriptorIndex := 6, attributes := #[] }, { accessFlags := 16409, nameIndex := 9, descriptorIndex := 6, attributes := #[] }, { accessFlags := 16409, nameIndex := 12, descriptorIndex := 6, attributes := #[] }, { accessFlags := 16409, nameIndex := 15, descriptorIndex := 6, attributes := #[] }, { accessFlags := 16409, nameIndex := 18, descriptorIndex := 6, attributes := #[] }, { accessFlags := 16409, nameIndex := 21, descriptorIndex := 6, attributes := #[] }, { accessFlags := 16409, nameIndex := 24, descriptorIndex := 6, attributes := #[] }, { accessFlags := 16409, nameIndex := 27, descriptorIndex := 6, attributes := #[] }, { accessFlags := 16409, nameIndex := 30, descriptorIndex := 6, attributes := #[] }, { accessFlags := 16409, nameIndex := 33, descriptorIndex := 6, attributes := #[] }, { accessFlags := 16409, nameIndex := 36, descriptorIndex := 6, attributes := #[] }, { accessFlags := 16409, nameIndex := 39, descriptorIndex := 6, attributes := #[] }, { accessFlags := 4122, nameIndex := 42, descriptorIndex := 43, attributes := #[] }])
  fields := #[{ name := "IDENTIFIER", type := (.object "com/example/stubwright/stubwright/read/Token$Kind"), accessFlags := 16409, slot := 0, constantValue := 0 }, { name := "KEYWORD", type := (.object "com/example/stubwright/stubwright/read/Token$Kind"), accessFlags := 16409, slot := 1, constantValue := 0 }, { name := "PUNCTUATOR", type := (.object "com/example/stubwright/stubwright/read/Token$Kind"), accessFlags := 16409, slot := 2, constantValue := 0 }, { name := "INTEGER", type := (.object "com/example/stubwright/stubwright/read/Token$Kind"), accessFlags := 16409, slot := 3, constantValue := 0 }, { name := "FLOATING", type := (.object "com/example/stubwright/stubwright/read/Token$Kind"), accessFlags := 16409, slot := 4, constantValue := 0 }, { name := "NUMBER", type := (.object "com/example/stubwright/stubwright/read/Token$Kind"), accessFlags := 16409, slot := 5, constantValue := 0 }, { name := "CHARACTER", type := (.object "com/example/stubwright/stubwright/read/Token$Kind"), accessFlags := 16409, slot := 6, constantValue := 0 }, { name := "STRING", type := (.object "com/example/stubwright/stubwright/read/Token$Kind"), accessFlags := 16409, slot := 7, constantValue := 0 }, { name := "OTHER", type := (.object "com/example/stubwright/stubwright/read/Token$Kind"), accessFlags := 16409, slot := 8, constantValue := 0 }, { name := "DIRECTIVE", type := (.object "com/example/stubwright/stubwright/read/Token$Kind"), accessFlags := 16409, slot := 9, constantValue := 0 }, { name := "PADDING", type := (.object "com/example/stubwright/stubwright/read/Token$Kind"), accessFlags := 16409, slot := 10, constantValue := 0 }, { name := "END", type := (.object "com/example/stubwright/stubwright/read/Token$Kind"), accessFlags := 16409, slot := 11, constantValue := 0 }, { name := "$VALUES", type := (.array (.object "com/example/stubwright/stubwright/read/Token$Kind")), accessFlags := 4122, slot := 12, constantValue := 0 }]
  methods := #[]
  instanceTypes := #[(.object "java/lang/String"), .int, .int]
  staticTypes := #[(.object "com/example/stubwright/stubwright/read/Token$Kind"), (.object "com/example/stubwright/stubwright/read/Token$Kind"), (.object "com/example/stubwright/stubwright/read/Token$Kind"), (.object "com/example/stubwright/stubwright/read/Token$Kind"), (.object "com/example/stubwright/stubwright/read/Token$Kind"), (.object "com/example/stubwright/stubwright/read/Token$Kind"), (.object "com/example/stubwright/stubwright/read/Token$Kind"), (.object "com/example/stubwright/stubwright/read/Token$Kind"), (.object "com/example/stubwright/stubwright/read/Token$Kind"), (.object "com/example/stubwright/stubwright/read/Token$Kind"), (.object "com/example/stubwright/stubwright/read/Token$Kind"), (.object "com/example/stubwright/stubwright/read/Token$Kind"), (.array (.object "com/example/stubwright/stubwright/read/Token$Kind"))]
  resolved := Array.replicate 92 none
  statics := some 1 }

def pool14 : Array CpInfo := pool [(2, .class_ 4), (1, u "java/lang/Object"), (0, u "<init>"), (0, u "()V"), (17, .class_ 26), (1, u "jdk/internal/util/Preconditions"), (28, .class_ 56), (0, u "jdk/internal/util/Preconditions$4"), (57, .class_ 115), (0, u "jdk/internal/util/Preconditions$1"), (7, u "SIOOBE_FORMATTER"), (0, u "Ljava/util/function/BiFunction;"), (0, .class_ 126), (0, u "jdk/internal/util/Preconditions$2"), (3, u "AIOOBE_FORMATTER"), (0, .class_ 132), (0, u "jdk/internal/util/Preconditions$3"), (3, u "IOOBE_FORMATTER")] 57

def k14m0 : Method := { name := "<init>", desc := "()V", sig := { parameters := [], returnType := none }, accessFlags := 1, code := none }
/-- jdk/internal/util/Preconditions -/
def k14 : Class := { plain "jdk/internal/util/Preconditions" (some 0) with
  accessFlags := 33
  interfaces := #[]
  cf := some (fileOf pool14 24 #[.nestMembers #[55, 131, 125, 114]] #[{ accessFlags := 1, nameIndex := 5, descriptorIndex := 6, attributes := #[] }] 33 2 #[] #[{ accessFlags := 25, nameIndex := 123, descriptorIndex := 124, attributes := #[] }, { accessFlags := 25, nameIndex := 130, descriptorIndex := 124, attributes := #[] }, { accessFlags := 25, nameIndex := 136, descriptorIndex := 124, attributes := #[] }])
  fields := #[{ name := "SIOOBE_FORMATTER", type := (.object "java/util/function/BiFunction"), accessFlags := 25, slot := 0, constantValue := 0 }, { name := "AIOOBE_FORMATTER", type := (.object "java/util/function/BiFunction"), accessFlags := 25, slot := 1, constantValue := 0 }, { name := "IOOBE_FORMATTER", type := (.object "java/util/function/BiFunction"), accessFlags := 25, slot := 2, constantValue := 0 }]
  methods := #[k14m0]
  instanceTypes := #[]
  staticTypes := #[(.object "java/util/function/BiFunction"), (.object "java/util/function/BiFunction"), (.object "java/util/function/BiFunction")]
  resolved := Array.replicate 194 none
  statics := some 2 }

def pool15 : Array CpInfo := pool [(9, u "<init>"), (6, .class_ 18), (1, u "java/lang/Object"), (0, u "()V"), (1, .class_ 23), (1, u "jdk/internal/util/ArraysSupport"), (0, u "LOG2_ARRAY_LONG_INDEX_SCALE"), (0, u "I"), (2, u "U"), (0, u "Ljdk/internal/misc/Unsafe;"), (8, u "BIG_ENDIAN"), (0, u "Z"), (8, u "LOG2_BYTE_BIT_SIZE"), (4, u "LOG2_ARRAY_INT_INDEX_SCALE"), (54, u "JLA"), (0, u "Ljdk/internal/access/JavaLangAccess;"), (11, u "LOG2_ARRAY_BOOLEAN_INDEX_SCALE"), (9, u "LOG2_ARRAY_BYTE_INDEX_SCALE"), (5, u "LOG2_ARRAY_CHAR_INDEX_SCALE"), (5, u "LOG2_ARRAY_SHORT_INDEX_SCALE"), (18, u "LOG2_ARRAY_FLOAT_INDEX_SCALE"), (24, u "LOG2_ARRAY_DOUBLE_INDEX_SCALE"), (89, u "T_BOOLEAN"), (2, u "T_CHAR"), (1, u "T_FLOAT"), (1, u "T_DOUBLE"), (1, u "T_BYTE"), (1, u "T_SHORT"), (1, u "T_INT"), (1, u "T_LONG"), (1, u "SOFT_MAX_ARRAY_LENGTH")] 83

def k15m0 : Method := { name := "<init>", desc := "()V", sig := { parameters := [], returnType := none }, accessFlags := 2, code := none }
/-- jdk/internal/util/ArraysSupport -/
def k15 : Class := { plain "jdk/internal/util/ArraysSupport" (some 0) with
  accessFlags := 33
  interfaces := #[]
  cf := some (fileOf pool15 21 #[] #[{ accessFlags := 2, nameIndex := 9, descriptorIndex := 19, attributes := #[] }] 33 16 #[] #[{ accessFlags := 24, nameIndex := 28, descriptorIndex := 29, attributes := #[] }, { accessFlags := 26, nameIndex := 38, descriptorIndex := 39, attributes := #[] }, { accessFlags := 25, nameIndex := 121, descriptorIndex := 25, attributes := #[] }, { accessFlags := 25, nameIndex := 131, descriptorIndex := 25, attributes := #[] }, { accessFlags := 25, nameIndex := 137, descriptorIndex := 25, attributes := #[] }, { accessFlags := 25, nameIndex := 143, descriptorIndex := 25, attributes := #[] }, { accessFlags := 25, nameIndex := 53, descriptorIndex := 25, attributes := #[] }, { accessFlags := 25, nameIndex := 24, descriptorIndex := 25, attributes := #[] }, { accessFlags := 25, nameIndex := 162, descriptorIndex := 25, attributes := #[] }, { accessFlags := 25, nameIndex := 187, descriptorIndex := 25, attributes := #[] }, { accessFlags := 26, nameIndex := 48, descriptorIndex := 25, attributes := #[] }, { accessFlags := 25, nameIndex := 277, descriptorIndex := 25, attributes := #[] }, { accessFlags := 25, nameIndex := 280, descriptorIndex := 25, attributes := #[] }, { accessFlags := 25, nameIndex := 282, descriptorIndex := 25, attributes := #[] }, { accessFlags := 25, nameIndex := 284, descriptorIndex := 25, attributes := #[] }, { accessFlags := 25, nameIndex := 286, descriptorIndex := 25, attributes := #[] }, { accessFlags := 25, nameIndex := 288, descriptorIndex := 25, attributes := #[] }, { accessFlags := 25, nameIndex := 290, descriptorIndex := 25, attributes := #[] }, { accessFlags := 25, nameIndex := 292, descriptorIndex := 25, attributes := #[] }, { accessFlags := 26, nameIndex := 108, descriptorIndex := 109, attributes := #[] }, { accessFlags := 25, nameIndex := 294, descriptorIndex := 25, attributes := #[] }])
  fields := #[{ name := "U", type := (.object "jdk/internal/misc/Unsafe"), accessFlags := 24, slot := 0, constantValue := 0 }, { name := "BIG_ENDIAN", type := .boolean, accessFlags := 26, slot := 1, constantValue := 0 }, { name := "LOG2_ARRAY_BOOLEAN_INDEX_SCALE", type := .int, accessFlags := 25, slot := 2, constantValue := 0 }, { name := "LOG2_ARRAY_BYTE_INDEX_SCALE", type := .int, accessFlags := 25, slot := 3, constantValue := 0 }, { name := "LOG2_ARRAY_CHAR_INDEX_SCALE", type := .int, accessFlags := 25, slot := 4, constantValue := 0 }, { name := "LOG2_ARRAY_SHORT_INDEX_SCALE", type := .int, accessFlags := 25, slot := 5, constantValue := 0 }, { name := "LOG2_ARRAY_INT_INDEX_SCALE", type := .int, accessFlags := 25, slot := 6, constantValue := 0 }, { name := "LOG2_ARRAY_LONG_INDEX_SCALE", type := .int, accessFlags := 25, slot := 7, constantValue := 0 }, { name := "LOG2_ARRAY_FLOAT_INDEX_SCALE", type := .int, accessFlags := 25, slot := 8, constantValue := 0 }, { name := "LOG2_ARRAY_DOUBLE_INDEX_SCALE", type := .int, accessFlags := 25, slot := 9, constantValue := 0 }, { name := "LOG2_BYTE_BIT_SIZE", type := .int, accessFlags := 26, slot := 10, constantValue := 0 }, { name := "T_BOOLEAN", type := .int, accessFlags := 25, slot := 11, constantValue := 0 }, { name := "T_CHAR", type := .int, accessFlags := 25, slot := 12, constantValue := 0 }, { name := "T_FLOAT", type := .int, accessFlags := 25, slot := 13, constantValue := 0 }, { name := "T_DOUBLE", type := .int, accessFlags := 25, slot := 14, constantValue := 0 }, { name := "T_BYTE", type := .int, accessFlags := 25, slot := 15, constantValue := 0 }, { name := "T_SHORT", type := .int, accessFlags := 25, slot := 16, constantValue := 0 }, { name := "T_INT", type := .int, accessFlags := 25, slot := 17, constantValue := 0 }, { name := "T_LONG", type := .int, accessFlags := 25, slot := 18, constantValue := 0 }, { name := "JLA", type := (.object "jdk/internal/access/JavaLangAccess"), accessFlags := 26, slot := 19, constantValue := 0 }, { name := "SOFT_MAX_ARRAY_LENGTH", type := .int, accessFlags := 25, slot := 20, constantValue := 0 }]
  methods := #[k15m0]
  instanceTypes := #[]
  staticTypes := #[(.object "jdk/internal/misc/Unsafe"), .boolean, .int, .int, .int, .int, .int, .int, .int, .int, .int, .int, .int, .int, .int, .int, .int, .int, .int, (.object "jdk/internal/access/JavaLangAccess"), .int]
  resolved := Array.replicate 378 none
  statics := none }

def pool16 : Array CpInfo := pool [(1, u "java/lang/Cloneable"), (0, .class_ 1), (0, u "java/lang/Object"), (0, .class_ 3)] 3

/-- java/lang/Cloneable -/
def k16 : Class := { plain "java/lang/Cloneable" (some 0) with
  accessFlags := 1537
  interfaces := #[]
  cf := some (fileOf pool16 2 #[] #[] 1537 4 #[] #[])
  fields := #[]
  methods := #[]
  instanceTypes := #[]
  staticTypes := #[]
  resolved := Array.replicate 8 none
  statics := none }

/-- the primitive byte -/
def k17 : Class := { plain "byte" none with kind := .primitive 'B', accessFlags := 0x411 }
/-- [B -/
def k18 : Class := { plain "[B" (some 0) with kind := .array 17 .byte, interfaces := #[16, 2], accessFlags := 1041 }

/-- the primitive char -/
def k19 : Class := { plain "char" none with kind := .primitive 'C', accessFlags := 0x411 }
/-- [C -/
def k20 : Class := { plain "[C" (some 0) with kind := .array 19 .char, interfaces := #[16, 2], accessFlags := 1041 }

/-- the primitive int -/
def k21 : Class := { plain "int" none with kind := .primitive 'I', accessFlags := 0x411 }
/-- [I -/
def k22 : Class := { plain "[I" (some 0) with kind := .array 21 .int, interfaces := #[16, 2], accessFlags := 1041 }

def heap : Heap := #[{ cls := 7, slots := #[.long 0, .int 1, .null, .int 0, .null, .int 0, .int 0], vm := .statics 7 },
  { cls := 13, slots := #[.ref 3, .ref 4, .ref 5, .null, .null, .null, .null, .null, .null, .null, .null, .ref 6, .null], vm := .statics 13 },
  { cls := 14, slots := #[.null, .null, .null], vm := .statics 14 },
  { cls := 13, slots := #[.null,.int 0,.int 0], vm := .none },
  { cls := 13, slots := #[.null,.int 1,.int 0], vm := .none },
  { cls := 13, slots := #[.null,.int 2,.int 0], vm := .none },
  { cls := 13, slots := #[.null,.int 3,.int 0], vm := .none }]
def classes : Array Class := #[k0, k1, k2, k3, k4, k5, k6, k7, k8, k9, k10, k11, k12, k13, k14, k15, k16, k17, k18, k19, k20, k21, k22]
def interned : List (Array UInt16 × Addr) := []
def slotsUsed : Nat := 35
def theMethod : MethodId := ⟨1, 2⟩
def args0 : Array Value := #[.int 5, .int 2, .int 3, .int 4, .int 7, .int 9]
def aboutOver (below : List Frame) : State where
  vm := { classes := classes, interned := interned.toArray }
  heap := heap
  slotsUsed := slotsUsed
  threads := #[{ frames := .invoking theMethod args0 :: below }]
def below0 : List Frame := [.native { method := ⟨0, 0⟩, args := #[] }]
def about1 : State := aboutOver below0
def p0 : Program := .bare "" "" ""
def e0 : Env := launch0.env 0 0 0
theorem w_frames : about1.frames = Frame.invoking theMethod args0 :: below0 := rfl
set_option maxRecDepth 65536 in
theorem w_args : argsFit about1.vm theMethod args0 = true := by decide +kernel
set_option maxRecDepth 65536 in
theorem w_heap : heapFits about1 = true := by decide +kernel
set_option maxRecDepth 65536 in
theorem w_runnable : about1.curStatus? = some .runnable := by decide +kernel
set_option maxRecDepth 65536 in
theorem w_alone : about1.alone = true := by decide +kernel
set_option maxRecDepth 65536 in
theorem w_named : about1.methodNamed? x = some theMethod := by decide +kernel
set_option maxRecDepth 65536 in
theorem w_hears : about1.hears theMethod below0 = true := by decide +kernel
set_option maxRecDepth 65536 in
theorem w_ripe : about1.ripe theMethod args0 below0 = true := by decide +kernel
theorem w_running : about1.status = .running := rfl
set_option maxRecDepth 65536 in
theorem w_room : about1.hasRoom e0.platform room_1 = true :=
  launch0.hasRoom_least _ room_1 (by decide +kernel) (by decide +kernel) (by decide +kernel) (by decide +kernel) (by decide +kernel) (by decide +kernel)
theorem allAtoms_all (ts : List Jvm.Cond) (a : Array Jvm.Value) (st : Jvm.State) : (allAtoms ts).before a st = ts.all (fun c => c.before a st) := by
  induction ts with
  | nil => rfl
  | cons c t ih =>
    show (Jvm.Cond.and c (allAtoms t)).before a st = _
    rw [Jvm.Cond.before_and, ih, List.all_cons]
def words1 : List Jvm.Cond := Jvm.Cond.code x code maxLocals ret :: tables_1
/-- a 'code' word, met by the world's own term for the bytes: nothing is compared byte by byte -/
theorem code_word {y : MethodName} {bytes : ByteArray} {mx : Nat} {rt : Option FieldType} {a : Array Value} {s : State} {m : MethodId} {meth : Method} {c : Code} (h1 : s.methodNamed? y = some m) (h2 : s.vm.method? m = some meth) (h3 : meth.code = some c) (h4 : c.code = bytes)
    (h5 : (c.maxLocals == mx && c.exceptionTable.isEmpty && decide (c.maxStack ≤ mostOperands) && decide (meth.sig.returnType = rt) && !meth.locks && decide (parseMethodDescriptor y.desc = some meth.sig)) = true) : (Jvm.Cond.code y bytes mx rt).before a s = true := by
  simp only [Bool.and_eq_true, beq_iff_eq, Bool.not_eq_true', decide_eq_true_eq] at h5
  obtain ⟨⟨⟨⟨⟨g1, g2⟩, g3⟩, g4⟩, g5⟩, g6⟩ := h5
  simp [Cond.before, Cond.holds, Cond.value, h1, h2, h3, h4, g1, g2, g3, g4, g5, g6]
def isCode : Jvm.Cond → Bool
  | .code _ _ _ _ => true
  | _ => false
theorem all_split {L : List Jvm.Cond} {P : Jvm.Cond → Bool} (h1 : L.all (fun c => isCode c || P c) = true) (h2 : ∀ c ∈ L.filter isCode, P c = true) : L.all P = true := by
  refine List.all_eq_true.mpr fun c hc => ?_
  have h := List.all_eq_true.mp h1 c hc
  rcases Bool.eq_false_or_eq_true (isCode c) with hi | hi
  · exact h2 c (List.mem_filter.mpr ⟨hc, hi⟩)
  · simpa [hi] using h
set_option maxRecDepth 65536 in
theorem w_c0 : (Jvm.Cond.code x code maxLocals ret).before args0 about1 = true := code_word (m := ⟨1, 2⟩) (meth := k1m2) (c := k1c2) (by decide +kernel) rfl rfl rfl (by decide +kernel)
set_option maxRecDepth 65536 in
theorem w_c1 : (Jvm.Cond.code ({ cls := "java/lang/String", name := "valueOf", desc := "(C)Ljava/lang/String;" } : Jvm.MethodName) jdk_42_method_139_code (1 : Nat) (Option.some (Jvm.ClassFile.FieldType.object "java/lang/String"))).before args0 about1 = true := code_word (m := ⟨7, 2⟩) (meth := k7m2) (c := k7c2) (by decide +kernel) rfl rfl rfl (by decide +kernel)
set_option maxRecDepth 65536 in
theorem w_c2 : (Jvm.Cond.code ({ cls := "java/lang/StringLatin1", name := "canEncode", desc := "(C)Z" } : Jvm.MethodName) jdk_43_method_3_code (1 : Nat) (Option.some Jvm.ClassFile.FieldType.boolean)).before args0 about1 = true := code_word (m := ⟨8, 1⟩) (meth := k8m1) (c := k8c1) (by decide +kernel) rfl rfl rfl (by decide +kernel)
set_option maxRecDepth 65536 in
theorem w_c3 : (Jvm.Cond.code ({ cls := "java/lang/StringLatin1", name := "toBytes", desc := "(C)[B" } : Jvm.MethodName) jdk_43_method_46_code (1 : Nat) (Option.some (Jvm.ClassFile.FieldType.array Jvm.ClassFile.FieldType.byte))).before args0 about1 = true := code_word (m := ⟨8, 2⟩) (meth := k8m2) (c := k8c2) (by decide +kernel) rfl rfl rfl (by decide +kernel)
set_option maxRecDepth 65536 in
theorem w_c4 : (Jvm.Cond.code ({ cls := "java/lang/String", name := "<init>", desc := "([BB)V" } : Jvm.MethodName) jdk_42_method_151_code (3 : Nat) (Option.none : Option Jvm.ClassFile.FieldType)).before args0 about1 = true := code_word (m := ⟨7, 4⟩) (meth := k7m4) (c := k7c4) (by decide +kernel) rfl rfl rfl (by decide +kernel)
set_option maxRecDepth 65536 in
theorem w_c5 : (Jvm.Cond.code ({ cls := "java/lang/Object", name := "<init>", desc := "()V" } : Jvm.MethodName) object_method_1_code (1 : Nat) (Option.none : Option Jvm.ClassFile.FieldType)).before args0 about1 = true := code_word (m := ⟨0, 0⟩) (meth := k0m0) (c := k0c0) (by decide +kernel) rfl rfl rfl (by decide +kernel)
set_option maxRecDepth 65536 in
theorem w_c6 : (Jvm.Cond.code ({ cls := "java/lang/String", name := "<init>", desc := "([C)V" } : Jvm.MethodName) jdk_42_method_3_code (2 : Nat) (Option.none : Option Jvm.ClassFile.FieldType)).before args0 about1 = true := code_word (m := ⟨7, 1⟩) (meth := k7m1) (c := k7c1) (by decide +kernel) rfl rfl rfl (by decide +kernel)
set_option maxRecDepth 65536 in
theorem w_c7 : (Jvm.Cond.code ({ cls := "java/lang/String", name := "<init>", desc := "([CIILjava/lang/Void;)V" } : Jvm.MethodName) jdk_42_method_149_code (6 : Nat) (Option.none : Option Jvm.ClassFile.FieldType)).before args0 about1 = true := code_word (m := ⟨7, 3⟩) (meth := k7m3) (c := k7c3) (by decide +kernel) rfl rfl rfl (by decide +kernel)
set_option maxRecDepth 65536 in
theorem w_c8 : (Jvm.Cond.code ({ cls := "java/lang/StringUTF16", name := "compress", desc := "([CII)[B" } : Jvm.MethodName) jdk_52_method_16_code (6 : Nat) (Option.some (Jvm.ClassFile.FieldType.array Jvm.ClassFile.FieldType.byte))).before args0 about1 = true := code_word (m := ⟨9, 2⟩) (meth := k9m2) (c := k9c2) (by decide +kernel) rfl rfl rfl (by decide +kernel)
set_option maxRecDepth 65536 in
theorem w_c9 : (Jvm.Cond.code ({ cls := "java/lang/StringUTF16", name := "compress", desc := "([CI[BII)I" } : Jvm.MethodName) jdk_52_method_21_code (7 : Nat) (Option.some Jvm.ClassFile.FieldType.int)).before args0 about1 = true := code_word (m := ⟨9, 3⟩) (meth := k9m3) (c := k9c3) (by decide +kernel) rfl rfl rfl (by decide +kernel)
set_option maxRecDepth 65536 in
theorem w_c10 : (Jvm.Cond.code ({ cls := "java/lang/StringUTF16", name := "coderFromArrayLen", desc := "([BI)B" } : Jvm.MethodName) jdk_52_method_15_code (2 : Nat) (Option.some Jvm.ClassFile.FieldType.byte)).before args0 about1 = true := code_word (m := ⟨9, 1⟩) (meth := k9m1) (c := k9c1) (by decide +kernel) rfl rfl rfl (by decide +kernel)
set_option maxRecDepth 65536 in
theorem w_c11 : (Jvm.Cond.code ({ cls := "com/example/stubwright/stubwright/model/Position", name := "<init>", desc := "(Ljava/lang/String;II)V" } : Jvm.MethodName) prog_39_method_1_code (4 : Nat) (Option.none : Option Jvm.ClassFile.FieldType)).before args0 about1 = true := code_word (m := ⟨10, 0⟩) (meth := k10m0) (c := k10c0) (by decide +kernel) rfl rfl rfl (by decide +kernel)
set_option maxRecDepth 65536 in
theorem w_c12 : (Jvm.Cond.code ({ cls := "com/example/stubwright/stubwright/model/Position", name := "<init>", desc := "(Ljava/lang/String;IILjava/lang/String;)V" } : Jvm.MethodName) prog_39_method_2_code (5 : Nat) (Option.none : Option Jvm.ClassFile.FieldType)).before args0 about1 = true := code_word (m := ⟨10, 1⟩) (meth := k10m1) (c := k10c1) (by decide +kernel) rfl rfl rfl (by decide +kernel)
set_option maxRecDepth 65536 in
theorem w_c13 : (Jvm.Cond.code ({ cls := "com/example/stubwright/stubwright/read/TokenExpansionPointPinLaw", name := "kindOf", desc := "(I)Lcom/example/stubwright/stubwright/read/Token$Kind;" } : Jvm.MethodName) method_2_code (2 : Nat) (Option.some (Jvm.ClassFile.FieldType.object "com/example/stubwright/stubwright/read/Token$Kind"))).before args0 about1 = true := code_word (m := ⟨1, 1⟩) (meth := k1m1) (c := k1c1) (by decide +kernel) rfl rfl rfl (by decide +kernel)
set_option maxRecDepth 65536 in
theorem w_c14 : (Jvm.Cond.code ({ cls := "com/example/stubwright/stubwright/read/Token", name := "<init>", desc := "(Lcom/example/stubwright/stubwright/read/Token$Kind;Ljava/lang/String;Ljava/lang/Object;Lcom/example/stubwright/stubwright/model/Position;Z)V" } : Jvm.MethodName) prog_80_method_2_code (6 : Nat) (Option.none : Option Jvm.ClassFile.FieldType)).before args0 about1 = true := code_word (m := ⟨11, 0⟩) (meth := k11m0) (c := k11c0) (by decide +kernel) rfl rfl rfl (by decide +kernel)
set_option maxRecDepth 65536 in
theorem w_c15 : (Jvm.Cond.code ({ cls := "com/example/stubwright/stubwright/read/Token", name := "<init>", desc := "(Lcom/example/stubwright/stubwright/read/Token$Kind;Ljava/lang/String;Ljava/lang/Object;Lcom/example/stubwright/stubwright/model/Position;ZZLcom/example/stubwright/stubwright/model/Position;)V" } : Jvm.MethodName) prog_80_method_3_code (8 : Nat) (Option.none : Option Jvm.ClassFile.FieldType)).before args0 about1 = true := code_word (m := ⟨11, 1⟩) (meth := k11m1) (c := k11c1) (by decide +kernel) rfl rfl rfl (by decide +kernel)
set_option maxRecDepth 65536 in
theorem w_c16 : (Jvm.Cond.code ({ cls := "com/example/stubwright/stubwright/read/Token", name := "expansionPoint", desc := "()Lcom/example/stubwright/stubwright/model/Position;" } : Jvm.MethodName) prog_80_method_16_code (1 : Nat) (Option.some (Jvm.ClassFile.FieldType.object "com/example/stubwright/stubwright/model/Position"))).before args0 about1 = true := code_word (m := ⟨11, 4⟩) (meth := k11m4) (c := k11c4) (by decide +kernel) rfl rfl rfl (by decide +kernel)
set_option maxRecDepth 65536 in
theorem w_c17 : (Jvm.Cond.code ({ cls := "com/example/stubwright/stubwright/read/Token", name := "expandedAt", desc := "(Lcom/example/stubwright/stubwright/model/Position;)Lcom/example/stubwright/stubwright/read/Token;" } : Jvm.MethodName) prog_80_method_15_code (2 : Nat) (Option.some (Jvm.ClassFile.FieldType.object "com/example/stubwright/stubwright/read/Token"))).before args0 about1 = true := code_word (m := ⟨11, 3⟩) (meth := k11m3) (c := k11c3) (by decide +kernel) rfl rfl rfl (by decide +kernel)
set_option maxRecDepth 65536 in
theorem w_c18 : (Jvm.Cond.code ({ cls := "com/example/stubwright/stubwright/read/Token", name := "at", desc := "(Lcom/example/stubwright/stubwright/model/Position;)Lcom/example/stubwright/stubwright/read/Token;" } : Jvm.MethodName) prog_80_method_12_code (2 : Nat) (Option.some (Jvm.ClassFile.FieldType.object "com/example/stubwright/stubwright/read/Token"))).before args0 about1 = true := code_word (m := ⟨11, 2⟩) (meth := k11m2) (c := k11c2) (by decide +kernel) rfl rfl rfl (by decide +kernel)
def codes1 : List Jvm.Cond := [Jvm.Cond.code x code maxLocals ret, Jvm.Cond.code ({ cls := "java/lang/String", name := "valueOf", desc := "(C)Ljava/lang/String;" } : Jvm.MethodName) jdk_42_method_139_code (1 : Nat) (Option.some (Jvm.ClassFile.FieldType.object "java/lang/String")), Jvm.Cond.code ({ cls := "java/lang/StringLatin1", name := "canEncode", desc := "(C)Z" } : Jvm.MethodName) jdk_43_method_3_code (1 : Nat) (Option.some Jvm.ClassFile.FieldType.boolean), Jvm.Cond.code ({ cls := "java/lang/StringLatin1", name := "toBytes", desc := "(C)[B" } : Jvm.MethodName) jdk_43_method_46_code (1 : Nat) (Option.some (Jvm.ClassFile.FieldType.array Jvm.ClassFile.FieldType.byte)), Jvm.Cond.code ({ cls := "java/lang/String", name := "<init>", desc := "([BB)V" } : Jvm.MethodName) jdk_42_method_151_code (3 : Nat) (Option.none : Option Jvm.ClassFile.FieldType), Jvm.Cond.code ({ cls := "java/lang/Object", name := "<init>", desc := "()V" } : Jvm.MethodName) object_method_1_code (1 : Nat) (Option.none : Option Jvm.ClassFile.FieldType), Jvm.Cond.code ({ cls := "java/lang/String", name := "<init>", desc := "([C)V" } : Jvm.MethodName) jdk_42_method_3_code (2 : Nat) (Option.none : Option Jvm.ClassFile.FieldType), Jvm.Cond.code ({ cls := "java/lang/String", name := "<init>", desc := "([CIILjava/lang/Void;)V" } : Jvm.MethodName) jdk_42_method_149_code (6 : Nat) (Option.none : Option Jvm.ClassFile.FieldType), Jvm.Cond.code ({ cls := "java/lang/StringUTF16", name := "compress", desc := "([CII)[B" } : Jvm.MethodName) jdk_52_method_16_code (6 : Nat) (Option.some (Jvm.ClassFile.FieldType.array Jvm.ClassFile.FieldType.byte)), Jvm.Cond.code ({ cls := "java/lang/StringUTF16", name := "compress", desc := "([CI[BII)I" } : Jvm.MethodName) jdk_52_method_21_code (7 : Nat) (Option.some Jvm.ClassFile.FieldType.int), Jvm.Cond.code ({ cls := "java/lang/StringUTF16", name := "coderFromArrayLen", desc := "([BI)B" } : Jvm.MethodName) jdk_52_method_15_code (2 : Nat) (Option.some Jvm.ClassFile.FieldType.byte), Jvm.Cond.code ({ cls := "com/example/stubwright/stubwright/model/Position", name := "<init>", desc := "(Ljava/lang/String;II)V" } : Jvm.MethodName) prog_39_method_1_code (4 : Nat) (Option.none : Option Jvm.ClassFile.FieldType), Jvm.Cond.code ({ cls := "com/example/stubwright/stubwright/model/Position", name := "<init>", desc := "(Ljava/lang/String;IILjava/lang/String;)V" } : Jvm.MethodName) prog_39_method_2_code (5 : Nat) (Option.none : Option Jvm.ClassFile.FieldType), Jvm.Cond.code ({ cls := "com/example/stubwright/stubwright/read/TokenExpansionPointPinLaw", name := "kindOf", desc := "(I)Lcom/example/stubwright/stubwright/read/Token$Kind;" } : Jvm.MethodName) method_2_code (2 : Nat) (Option.some (Jvm.ClassFile.FieldType.object "com/example/stubwright/stubwright/read/Token$Kind")), Jvm.Cond.code ({ cls := "com/example/stubwright/stubwright/read/Token", name := "<init>", desc := "(Lcom/example/stubwright/stubwright/read/Token$Kind;Ljava/lang/String;Ljava/lang/Object;Lcom/example/stubwright/stubwright/model/Position;Z)V" } : Jvm.MethodName) prog_80_method_2_code (6 : Nat) (Option.none : Option Jvm.ClassFile.FieldType), Jvm.Cond.code ({ cls := "com/example/stubwright/stubwright/read/Token", name := "<init>", desc := "(Lcom/example/stubwright/stubwright/read/Token$Kind;Ljava/lang/String;Ljava/lang/Object;Lcom/example/stubwright/stubwright/model/Position;ZZLcom/example/stubwright/stubwright/model/Position;)V" } : Jvm.MethodName) prog_80_method_3_code (8 : Nat) (Option.none : Option Jvm.ClassFile.FieldType), Jvm.Cond.code ({ cls := "com/example/stubwright/stubwright/read/Token", name := "expansionPoint", desc := "()Lcom/example/stubwright/stubwright/model/Position;" } : Jvm.MethodName) prog_80_method_16_code (1 : Nat) (Option.some (Jvm.ClassFile.FieldType.object "com/example/stubwright/stubwright/model/Position")), Jvm.Cond.code ({ cls := "com/example/stubwright/stubwright/read/Token", name := "expandedAt", desc := "(Lcom/example/stubwright/stubwright/model/Position;)Lcom/example/stubwright/stubwright/read/Token;" } : Jvm.MethodName) prog_80_method_15_code (2 : Nat) (Option.some (Jvm.ClassFile.FieldType.object "com/example/stubwright/stubwright/read/Token")), Jvm.Cond.code ({ cls := "com/example/stubwright/stubwright/read/Token", name := "at", desc := "(Lcom/example/stubwright/stubwright/model/Position;)Lcom/example/stubwright/stubwright/read/Token;" } : Jvm.MethodName) prog_80_method_12_code (2 : Nat) (Option.some (Jvm.ClassFile.FieldType.object "com/example/stubwright/stubwright/read/Token"))]
set_option maxRecDepth 65536 in
theorem codes_eq : words1.filter isCode = codes1 := rfl
theorem w_codes : ∀ c ∈ words1.filter isCode, c.before args0 about1 = true := by
  rw [codes_eq]
  intro c hc
  simp only [codes1, List.mem_cons, List.not_mem_nil, or_false] at hc
  rcases hc with rfl | rfl | rfl | rfl | rfl | rfl | rfl | rfl | rfl | rfl | rfl | rfl | rfl | rfl | rfl | rfl | rfl | rfl | rfl
  · exact w_c0
  · exact w_c1
  · exact w_c2
  · exact w_c3
  · exact w_c4
  · exact w_c5
  · exact w_c6
  · exact w_c7
  · exact w_c8
  · exact w_c9
  · exact w_c10
  · exact w_c11
  · exact w_c12
  · exact w_c13
  · exact w_c14
  · exact w_c15
  · exact w_c16
  · exact w_c17
  · exact w_c18
set_option maxRecDepth 65536 in
theorem w_t1 : (words1.take 24).all (fun c => isCode c || c.before args0 about1) = true := by decide +kernel
set_option maxRecDepth 65536 in
theorem w_t2 : ((words1.drop 24).take 24).all (fun c => isCode c || c.before args0 about1) = true := by decide +kernel
set_option maxRecDepth 65536 in
theorem w_t3 : (((words1.drop 24).drop 24).take 24).all (fun c => isCode c || c.before args0 about1) = true := by decide +kernel
set_option maxRecDepth 65536 in
theorem w_t4 : ((((words1.drop 24).drop 24).drop 24).take 24).all (fun c => isCode c || c.before args0 about1) = true := by decide +kernel
set_option maxRecDepth 65536 in
theorem w_t5 : ((((words1.drop 24).drop 24).drop 24).drop 24).all (fun c => isCode c || c.before args0 about1) = true := by decide +kernel
theorem w_tables : (allAtoms (Jvm.Cond.code x code maxLocals ret :: tables_1)).before args0 about1 = true := by
  rw [allAtoms_all]
  show words1.all (fun c => c.before args0 about1) = true
  refine all_split ?_ w_codes
  rw [← List.take_append_drop 24 words1, List.all_append, w_t1, ← List.take_append_drop 24 (words1.drop 24), List.all_append, w_t2, ← List.take_append_drop 24 ((words1.drop 24).drop 24), List.all_append, w_t3, ← List.take_append_drop 24 (((words1.drop 24).drop 24).drop 24), List.all_append, w_t4, w_t5]
  rfl
set_option maxRecDepth 65536 in
theorem w_rest : rest_1_c.before args0 about1 = true := by decide +kernel
set_option maxRecDepth 65536 in
theorem w_case : (Jvm.Cond.and given_1 narrow_1).before args0 about1 = true := by decide +kernel
theorem w_applies : (headSpec (Jvm.Cond.code x code maxLocals ret :: tables_1) room_1).applies x e0.platform about1 = true :=
  (Spec.applies_iff w_frames).mpr ⟨w_running, w_runnable, w_alone, w_named, w_hears, w_ripe, w_room, w_tables⟩
theorem atStart : AtStart classFile x code maxLocals ret World_1 tables_1 room_1 Calls_1 rest_1 Pre_1 launch0 p0 e0 about1 theMethod args0 below0 :=
  ⟨lists_1, trivial, launch0.admits_env _ _ _, launch0.least_env, fairChoices_fair.cas, fairChoices_fair.clock, w_frames, w_args, w_heap, w_applies, trivial, w_rest, w_case⟩
end start1
theorem witness_1 : WitnessClaimed_1 := ⟨start1.p0, start1.e0, start1.about1, start1.theMethod, start1.args0, start1.below0, start1.atStart⟩
end Jvm.Pilot.@@N@@
