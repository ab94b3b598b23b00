import JvmDerived
import JvmDerived.Pilot.@@N@@Statement
import JvmDerived.Pilot.@@N@@Code
set_option linter.unusedVariables false
set_option linter.unusedSimpArgs false
namespace Jvm.RoadKit
open Sem ClassFile Op Lib Jvm.Stand Jvm.Free Jvm.LawKit
section New
variable {p : Program} {l : Launch} {e : Env} {R : Room} {s : State} {m : MethodId} {args : Array Value} {below : List Frame} {meth : Method} {c : Code} {T : State} {locs : List Loc} {cells slots : Nat}
theorem retI (X : Stand p l e R s m args below meth c T locs cells slots) (hx : p.tables.exec = Jvm.exec) {pc : Nat} {Ls : Array Slot} {z : Int32} {rest : List Value} (hret : meth.sig.returnType = some .int) (hd : decode c.code pc = .ok (.ireturn, 1)) {fs : List Frame}
    (hl : ∀ (f : JFrame) (acts : List Action), f.method = m → f.locked = none → f.entered = [] → (doReturn e (T.setTop f) acts (some (.int z))).1 = T.setFrames fs) : Steps p.tables e below (T.setTop (mkF m pc Ls (.int z :: rest))) (T.setFrames fs) :=
  retOut X hx hret rfl (Or.inl ⟨rfl, Or.inl rfl, z, rfl⟩) hd hl
end New
end Jvm.RoadKit
/- laws to paste: Road.backV, Road.eqW, Road.codOf (cut by pick.py; bodies as the Statement names them) -/
namespace Jvm.Pilot.@@N@@
namespace StrChars
open Jvm Sem ClassFile Op Lib Jvm.Stand Jvm.Free.XT Jvm.Free.ALB Jvm.Free.JM Jvm.Free
open Jvm.Lib.Cold (StaticIs)
/-- a char array whose places are chars -/
def Ch (a : Addr) (A : Cell) (U : State) : Prop := Arr .char a A U ∧ Typed .char A
theorem Ch.mv {a : Addr} {A : Cell} {U U' : State} (h : Ch a A U) (hal : U.vm.Alike U'.vm) (hh : U'.heap = U.heap) : Ch a A U' := ⟨h.1.mv hal hh, h.2⟩
theorem Ch.keep {a : Addr} {A : Cell} {U U' : State} (h : Ch a A U) (hal : U.vm.Alike U'.vm) (hk : U'.heap[a]? = some A) : Ch a A U' := ⟨h.1.keep hal hk, h.2⟩
/-- what place i of a char[]'s cell holds -/
def cv (A : Cell) (i : Nat) : Int32 := match A.slots[i]? with | some (.int x) => x | _ => 0
theorem Ch.get {a : Addr} {A : Cell} {U : State} (h : Ch a A U) {i : Nat} (hi : i < A.slots.size) : A.slots[i]? = some (.int (cv A i)) := by
  have e := Array.getElem?_eq_getElem hi
  have f := h.2 i _ e
  unfold cv; rw [e]
  generalize A.slots[i] = v at f
  cases v <;> simp [fits] at f ⊢
/-- the byte that i2b leaves of a char -/
def lo8 (x : Int32) : Int32 := x.toInt8.toInt32
theorem fits_lo8 (y : Int32) : fits .byte (.int (lo8 y)) = true := by
  have h1 := y.toInt8.le_toInt
  have h2 := y.toInt8.toInt_lt
  simp only [lo8, fits, Bool.and_eq_true, decide_eq_true_eq, Int32.le_iff_toInt_le, Int8.toInt_toInt32, show (-128 : Int32).toInt = -128 from by decide, show (127 : Int32).toInt = 127 from by decide]
  omega
/-- A' is A but that each place j of lo .. hi - 1 holds f j -/
def Laid (A A' : Cell) (lo hi : Nat) (f : Nat → Value) : Prop := A'.cls = A.cls ∧ A'.vm = A.vm ∧ A'.slots.size = A.slots.size ∧ ∀ i, A'.slots[i]? = if lo ≤ i ∧ i < hi then some (f i) else A.slots[i]?
theorem Laid.zero (A : Cell) (lo : Nat) (f : Nat → Value) : Laid A A lo (lo + 0) f := ⟨rfl, rfl, rfl, fun i => by rw [if_neg (by omega)]⟩
theorem Laid.step {A Ak : Cell} {lo k : Nat} {f : Nat → Value} {v : Value} (h : Laid A Ak lo k f) (hlo : lo ≤ k) (hk : k < Ak.slots.size) (hv : v = f k) : Laid A (Ak.setSlot k v) lo (k + 1) f := by
  refine ⟨h.1, h.2.1, by simpa [Cell.setSlot] using h.2.2.1, fun i => ?_⟩
  by_cases e : k = i
  · subst e; rw [Cell.slots_setSlot_self v hk, if_pos (by omega), hv]
  · rw [Cell.slots_setSlot_ne v e, h.2.2.2 i]
    by_cases q : lo ≤ i ∧ i < k
    · rw [if_pos q, if_pos (by omega)]
    · rw [if_neg q, if_neg (by omega)]
def U16 : String := "java/lang/StringUTF16"
namespace Cmp5
def yN : MethodName := ⟨"java/lang/StringUTF16", "compress", "([CI[BII)I"⟩
abbrev yB : ByteArray := jdk_52_method_21_code
theorem d0 : decode yB 0 = .ok (.iconst 0, 1) := by decide +kernel
theorem d1 : decode yB 1 = .ok (.istore 5, 2) := by decide +kernel
theorem d3 : decode yB 3 = .ok (.iload 5, 2) := by decide +kernel
theorem d5 : decode yB 5 = .ok (.iload 4, 2) := by decide +kernel
theorem d7 : decode yB 7 = .ok (.if_icmp (.ge) 37, 3) := by decide +kernel
theorem d10 : decode yB 10 = .ok (.aload_n 0, 1) := by decide +kernel
theorem d11 : decode yB 11 = .ok (.iload_n 1, 1) := by decide +kernel
theorem d12 : decode yB 12 = .ok (.caload, 1) := by decide +kernel
theorem d13 : decode yB 13 = .ok (.istore 6, 2) := by decide +kernel
theorem d15 : decode yB 15 = .ok (.iload 6, 2) := by decide +kernel
theorem d17 : decode yB 17 = .ok (.sipush 255, 3) := by decide +kernel
theorem d20 : decode yB 20 = .ok (.if_icmp (.le) 6, 3) := by decide +kernel
theorem d26 : decode yB 26 = .ok (.aload_n 2, 1) := by decide +kernel
theorem d27 : decode yB 27 = .ok (.iload_n 3, 1) := by decide +kernel
theorem d28 : decode yB 28 = .ok (.iload 6, 2) := by decide +kernel
theorem d30 : decode yB 30 = .ok (.i2b, 1) := by decide +kernel
theorem d31 : decode yB 31 = .ok (.bastore, 1) := by decide +kernel
theorem d32 : decode yB 32 = .ok (.iinc 1 1, 3) := by decide +kernel
theorem d35 : decode yB 35 = .ok (.iinc 3 1, 3) := by decide +kernel
theorem d38 : decode yB 38 = .ok (.iinc 5 1, 3) := by decide +kernel
theorem d41 : decode yB 41 = .ok (.goto (-38), 3) := by decide +kernel
theorem d44 : decode yB 44 = .ok (.iload 4, 2) := by decide +kernel
theorem d46 : decode yB 46 = .ok (.ireturn, 1) := by decide +kernel
def site : List Cond := []
def tab : Cond := tabOf yN yB 7 (some .int) site
def P (b : Addr) (A : Cell) (d : Addr) (B : Cell) (o q len : Nat) (args : Array Value) (s : State) : Prop := args = #[.ref b, .int (Int32.ofNat o), .ref d, .int (Int32.ofNat q), .int (Int32.ofNat len)] ∧ Ch b A s ∧ Arr .byte d B s ∧ b ≠ d ∧ o + len ≤ A.slots.size ∧ q + len ≤ B.slots.size ∧ ∀ i, i < len → ¬ 255 < cv A (o + i)
def E (b : Addr) (A : Cell) (d : Addr) (B : Cell) (o q len : Nat) (r : Option Value) (s u : State) : Prop := r = some (.int (Int32.ofNat len)) ∧ ∃ B', Put d B' s u ∧ Laid B B' q (q + len) (fun j => Value.int (lo8 (cv A (o + (j - q)))))
/-- no char of the range above 255: len; the places written hold each char's low byte -/
theorem law (l : Launch) (b : Addr) (A : Cell) (d : Addr) (B : Cell) (o q len : Nat) : Law l yN 5 5 0 0 yB 7 (some .int) site (P b A d B o q len) (E b A d B o q len) (copyLocs d q len) 0 0 := by
  refine Law.of_walk (plainFor_of_name (by decide +kernel)) (by decide +kernel) (by decide +kernel) (by decide) (fun _ _ h => by rw [h.1]; rfl) (fun _ U U' hal hh h => ⟨h.1, h.2.1.mv hal hh, h.2.2.1.mv hal hh, h.2.2.2⟩) (fun r U U' V V' h1 hal h2 h => ⟨h.1, h.2.elim fun B' q => ⟨B', q.1.mv h1 h2, q.2⟩⟩) ?_
  intro p e s m args below meth c s₁ X0 hexec hbytes hml hret hlk hnm hown hh0 W hP
  obtain ⟨rfl, hA, hB, hne, l1, l2, hp⟩ := hP
  have c1 : Steps p.tables e below (s₁.setTop (entryFrame m #[.ref b, .int (Int32.ofNat o), .ref d, .int (Int32.ofNat q), .int (Int32.ofNat len)] 7)) (s₁.setTop (mkF m 0 #[.val (.ref b), .val (.int (Int32.ofNat o)), .val (.ref d), .val (.int (Int32.ofNat q)), .val (.int (Int32.ofNat len)), .unset, .unset] [])) := entry rfl
  have hA0 := hA.1.mv X0.warmed.alike hh0
  have hB0 := hB.mv X0.warmed.alike hh0
  have a31 := hA.1.2.2.2
  have c2 : Steps p.tables e below (s₁.setTop (entryFrame m #[.ref b, .int (Int32.ofNat o), .ref d, .int (Int32.ofNat q), .int (Int32.ofNat len)] 7)) (s₁.setTop (mkF m 3 #[.val (.ref b), .val (.int (Int32.ofNat o)), .val (.ref d), .val (.int (Int32.ofNat q)), .val (.int (Int32.ofNat len)), .val (.int 0), .unset] [])) := c1.trans (by
    refine iconstV X0.here hexec rfl 0 (hb hbytes d0) (by decide) ?_
    refine XS.istore X0.here hexec rfl (hb hbytes d1) rfl rfl ?_
    exact Steps.refl _)
  have loop : ∀ (r i : Nat), i + r = len → ∀ (z : Slot), (z = .unset ∨ ∃ w, z = .val w ∧ w.category = 1) → ∀ (Tl : State) (Bk : Cell), Stand p l e { frames := 0, locals := 0, cells := 0, slots := 0 } s m #[.ref b, .int (Int32.ofNat o), .ref d, .int (Int32.ofNat q), .int (Int32.ofNat len)] below meth c Tl ([] ++ copyLocs d q i) 0 0 → Put d Bk s₁ Tl → Laid B Bk q (q + i) (fun j => Value.int (lo8 (cv A (o + (j - q))))) →
      Steps p.tables e below (s₁.setTop (entryFrame m #[.ref b, .int (Int32.ofNat o), .ref d, .int (Int32.ofNat q), .int (Int32.ofNat len)] 7)) (Tl.setTop (mkF m 3 #[.val (.ref b), .val (.int (Int32.ofNat (o + i))), .val (.ref d), .val (.int (Int32.ofNat (q + i))), .val (.int (Int32.ofNat len)), .val (.int (Int32.ofNat i)), z] [])) → ∃ (T' : State) (B' : Cell) (z' : Slot), Stand p l e { frames := 0, locals := 0, cells := 0, slots := 0 } s m #[.ref b, .int (Int32.ofNat o), .ref d, .int (Int32.ofNat q), .int (Int32.ofNat len)] below meth c T' ([] ++ copyLocs d q len) 0 0 ∧ Put d B' s₁ T' ∧ Laid B B' q (q + len) (fun j => Value.int (lo8 (cv A (o + (j - q))))) ∧
      Steps p.tables e below (s₁.setTop (entryFrame m #[.ref b, .int (Int32.ofNat o), .ref d, .int (Int32.ofNat q), .int (Int32.ofNat len)] 7)) (T'.setTop (mkF m 3 #[.val (.ref b), .val (.int (Int32.ofNat (o + len))), .val (.ref d), .val (.int (Int32.ofNat (q + len))), .val (.int (Int32.ofNat len)), .val (.int (Int32.ofNat len)), z'] [])) := by
    intro r
    induction r with
    | zero =>
      intro i hi z hz Tl Bk Xl pl fl cl
      have hil : i = len := by omega
      rw [hil] at Xl fl cl
      exact ⟨Tl, Bk, z, Xl, pl, fl, cl⟩
    | succ r ih =>
      intro i hi z hz Tl Bk Xl pl fl cl
      have all := X0.warmed.alike.symm.trans Xl.warmed.alike
      have hAl := hA0.keep all (pl.other hne hA0.1)
      have hBk := hB0.like all pl.1 fl.1 fl.2.1 fl.2.2.1
      have hlt : q + i < Bk.slots.size := by rw [fl.2.2.1]; omega
      have c3 : Steps p.tables e below (s₁.setTop (entryFrame m #[.ref b, .int (Int32.ofNat o), .ref d, .int (Int32.ofNat q), .int (Int32.ofNat len)] 7)) (Tl.setTop (mkF m 12 #[.val (.ref b), .val (.int (Int32.ofNat (o + i))), .val (.ref d), .val (.int (Int32.ofNat (q + i))), .val (.int (Int32.ofNat len)), .val (.int (Int32.ofNat i)), z] [.int (Int32.ofNat (o + i)), .ref b])) := cl.trans (by
        refine XS.iload Xl.here hexec rfl (hb hbytes d3) rfl ?_
        refine XS.iload Xl.here hexec rfl (hb hbytes d5) rfl ?_
        refine XS.icmpNo Xl.here hexec rfl (hb hbytes d7) rfl (ii_ge_f (lt32 (by omega) (by omega))) ?_
        refine XS.aloadN Xl.here hexec rfl (hb hbytes d10) rfl rfl ?_
        refine XS.iloadN Xl.here hexec rfl (hb hbytes d11) rfl ?_
        exact Steps.refl _)
      have c4 : Steps p.tables e below (s₁.setTop (entryFrame m #[.ref b, .int (Int32.ofNat o), .ref d, .int (Int32.ofNat q), .int (Int32.ofNat len)] 7)) (Tl.setTop (mkF m 13 #[.val (.ref b), .val (.int (Int32.ofNat (o + i))), .val (.ref d), .val (.int (Int32.ofNat (q + i))), .val (.int (Int32.ofNat len)), .val (.int (Int32.ofNat i)), z] [.int (cv A (o + i))])) := c3.trans (by
        refine Xl.aget hexec hAl rfl (hA.get (i := o + i) (by omega)) rfl rfl (hb hbytes d12) ?_
        exact Steps.refl _)
      have c5 : Steps p.tables e below (s₁.setTop (entryFrame m #[.ref b, .int (Int32.ofNat o), .ref d, .int (Int32.ofNat q), .int (Int32.ofNat len)] 7)) (Tl.setTop (mkF m 15 #[.val (.ref b), .val (.int (Int32.ofNat (o + i))), .val (.ref d), .val (.int (Int32.ofNat (q + i))), .val (.int (Int32.ofNat len)), .val (.int (Int32.ofNat i)), .val (.int (cv A (o + i)))] [])) := c4.trans (by
        refine XS.istoreS Xl.here hexec rfl (hb hbytes d13) rfl rfl hz ?_
        exact Steps.refl _)
      have c6 : Steps p.tables e below (s₁.setTop (entryFrame m #[.ref b, .int (Int32.ofNat o), .ref d, .int (Int32.ofNat q), .int (Int32.ofNat len)] 7)) (Tl.setTop (mkF m 31 #[.val (.ref b), .val (.int (Int32.ofNat (o + i))), .val (.ref d), .val (.int (Int32.ofNat (q + i))), .val (.int (Int32.ofNat len)), .val (.int (Int32.ofNat i)), .val (.int (cv A (o + i)))] [.int (lo8 (cv A (o + i))), .int (Int32.ofNat (q + i)), .ref d])) := c5.trans (by
        refine XS.iload Xl.here hexec rfl (hb hbytes d15) rfl ?_
        refine sipushV Xl.here hexec rfl 255 (hb hbytes d17) (by decide) ?_
        refine XS.icmpYes Xl.here hexec rfl (pc0 := 20) rfl (hb hbytes d20) rfl (ii_le_t (hp i (by omega))) (by decide) rfl ?_
        refine XS.aloadN Xl.here hexec rfl (hb hbytes d26) rfl rfl ?_
        refine XS.iloadN Xl.here hexec rfl (hb hbytes d27) rfl ?_
        refine XS.iload Xl.here hexec rfl (hb hbytes d28) rfl ?_
        refine i2b Xl.here hexec rfl (hb hbytes d30) rfl ?_
        exact Steps.refl _)
      obtain ⟨T7, X7, p7, st7⟩ := Xl.aput hexec hBk rfl hlt rfl (fits_lo8 (cv A (o + i))) (g := (mkF m 31 #[.val (.ref b), .val (.int (Int32.ofNat (o + i))), .val (.ref d), .val (.int (Int32.ofNat (q + i))), .val (.int (Int32.ofNat len)), .val (.int (Int32.ofNat i)), .val (.int (cv A (o + i)))] [.int (lo8 (cv A (o + i))), .int (Int32.ofNat (q + i)), .ref d])) rfl (rest := []) rfl (hb hbytes d31)
      have c8 : Steps p.tables e below (s₁.setTop (entryFrame m #[.ref b, .int (Int32.ofNat o), .ref d, .int (Int32.ofNat q), .int (Int32.ofNat len)] 7)) (T7.setTop (mkF m 32 #[.val (.ref b), .val (.int (Int32.ofNat (o + i))), .val (.ref d), .val (.int (Int32.ofNat (q + i))), .val (.int (Int32.ofNat len)), .val (.int (Int32.ofNat i)), .val (.int (cv A (o + i)))] [])) := c6.trans (st7 _ (Steps.refl _))
      have c9 : Steps p.tables e below (s₁.setTop (entryFrame m #[.ref b, .int (Int32.ofNat o), .ref d, .int (Int32.ofNat q), .int (Int32.ofNat len)] 7)) (T7.setTop (mkF m 3 #[.val (.ref b), .val (.int (Int32.ofNat (o + i) + 1)), .val (.ref d), .val (.int (Int32.ofNat (q + i) + 1)), .val (.int (Int32.ofNat len)), .val (.int (Int32.ofNat i + 1)), .val (.int (cv A (o + i)))] [])) := c8.trans (by
        refine iincV X7.here hexec rfl 1 (hb hbytes d32) (by decide) rfl rfl ?_
        refine iincV X7.here hexec rfl 1 (hb hbytes d35) (by decide) rfl rfl ?_
        refine iincV X7.here hexec rfl 1 (hb hbytes d38) (by decide) rfl rfl ?_
        refine XS.goto X7.here hexec rfl (pc0 := 41) rfl (hb hbytes d41) (by decide) rfl ?_
        exact Steps.refl _)
      have c10 : Steps p.tables e below (s₁.setTop (entryFrame m #[.ref b, .int (Int32.ofNat o), .ref d, .int (Int32.ofNat q), .int (Int32.ofNat len)] 7)) (T7.setTop (mkF m 3 #[.val (.ref b), .val (.int (Int32.ofNat (o + (i + 1)))), .val (.ref d), .val (.int (Int32.ofNat (q + (i + 1)))), .val (.int (Int32.ofNat len)), .val (.int (Int32.ofNat (i + 1))), .val (.int (cv A (o + i)))] [])) := by
        have := c9
        rw [succ32, succ32, succ32] at this
        exact this
      exact ih (i + 1) (by omega) _ (Or.inr ⟨_, rfl, rfl⟩) T7 _ (by rw [copyLocs_step, ← List.append_assoc]; exact X7) (pl.trans p7) (fl.step (by omega) hlt (by simp)) c10
  obtain ⟨T9, B9, z9, X9, p9, f9, g9⟩ := loop len 0 (by omega) .unset (Or.inl rfl) s₁ B (by simpa [copyLocs] using X0) ⟨hB0.1, fun _ _ => rfl, rfl⟩ (Laid.zero _ _ _) c2
  have c11 : Steps p.tables e below (s₁.setTop (entryFrame m #[.ref b, .int (Int32.ofNat o), .ref d, .int (Int32.ofNat q), .int (Int32.ofNat len)] 7)) (T9.setTop (mkF m 46 #[.val (.ref b), .val (.int (Int32.ofNat (o + len))), .val (.ref d), .val (.int (Int32.ofNat (q + len))), .val (.int (Int32.ofNat len)), .val (.int (Int32.ofNat len)), z9] [.int (Int32.ofNat len)])) := g9.trans (by
    refine XS.iload X9.here hexec rfl (hb hbytes d3) rfl ?_
    refine XS.iload X9.here hexec rfl (hb hbytes d5) rfl ?_
    refine XS.icmpYes X9.here hexec rfl (pc0 := 7) rfl (hb hbytes d7) rfl (ii_ge_t (nlt32 (by omega) (Nat.le_refl _))) (by decide) rfl ?_
    refine XS.iload X9.here hexec rfl (hb hbytes d44) rfl ?_
    exact Steps.refl _)
  exact ⟨T9, some (.int (Int32.ofNat len)), _, _, _, X9, by simp, rfl, rfl, (fun h => by cases h), ⟨rfl, B9, p9.from hh0, f9⟩, fun fs hl => c11.trans (X9.ireturnOut hexec hret rfl (Or.inl rfl) (hb hbytes d46) hl)⟩
end Cmp5
namespace Cmp3
def yN : MethodName := ⟨"java/lang/StringUTF16", "compress", "([CII)[B"⟩
abbrev yB : ByteArray := jdk_52_method_16_code
theorem d0 : decode yB 0 = .ok (.iload_n 2, 1) := by decide +kernel
theorem d1 : decode yB 1 = .ok (.newarray .byte, 2) := by decide +kernel
theorem d3 : decode yB 3 = .ok (.astore_n 3, 1) := by decide +kernel
theorem d4 : decode yB 4 = .ok (.aload_n 0, 1) := by decide +kernel
theorem d5 : decode yB 5 = .ok (.iload_n 1, 1) := by decide +kernel
theorem d6 : decode yB 6 = .ok (.aload_n 3, 1) := by decide +kernel
theorem d7 : decode yB 7 = .ok (.iconst 0, 1) := by decide +kernel
theorem d8 : decode yB 8 = .ok (.iload_n 2, 1) := by decide +kernel
theorem d9 : decode yB 9 = .ok (.invokestatic 115, 3) := by decide +kernel
theorem d12 : decode yB 12 = .ok (.istore 4, 2) := by decide +kernel
theorem d14 : decode yB 14 = .ok (.iload 4, 2) := by decide +kernel
theorem d16 : decode yB 16 = .ok (.iload_n 2, 1) := by decide +kernel
theorem d17 : decode yB 17 = .ok (.if_icmp (.eq) 40, 3) := by decide +kernel
theorem d57 : decode yB 57 = .ok (.aload_n 3, 1) := by decide +kernel
theorem d58 : decode yB 58 = .ok (.areturn, 1) := by decide +kernel
def site : List Cond := [.arrayClass .byte, Cmp5.tab] ++ staticW U16 115 Cmp5.yN
def tab : Cond := tabOf yN yB 6 (some (.array .byte)) site
def P (b : Addr) (A : Cell) (o len : Nat) (args : Array Value) (s : State) : Prop := args = #[.ref b, .int (Int32.ofNat o), .int (Int32.ofNat len)] ∧ Ch b A s ∧ o + len ≤ A.slots.size ∧ len ≤ 536870912 ∧ ∀ i, i < len → ¬ 255 < cv A (o + i)
def E (b : Addr) (A : Cell) (o len : Nat) (r : Option Value) (s u : State) : Prop := NewArr .byte "[B" len (fun j => .int (lo8 (cv A (o + j)))) r s u ∧ u.heap.size = s.heap.size + 1
/-- no char of the range above 255: a new byte[] of their low bytes -/
theorem law (l : Launch) (b : Addr) (A : Cell) (o len : Nat) : Law l yN 3 3 1 18 yB 6 (some (.array .byte)) site (P b A o len) (E b A o len) [] 1 len := by
  refine Law.of_walk (plainFor_of_name (by decide +kernel)) (by decide +kernel) (by decide +kernel) (by decide) (fun _ _ h => by rw [h.1]; rfl) (fun _ U U' hal hh h => ⟨h.1, h.2.1.mv hal hh, h.2.2⟩) (fun r U U' V V' h1 hal h2 h => ⟨NewArr.mv r U U' V V' h1 hal h2 h.1, by rw [h1, h2]; exact h.2⟩) ?_
  intro p e s m args below meth c s₁ X0 hexec hbytes hml hret hlk hnm hown hh0 W hP
  obtain ⟨rfl, hA, l1, l2, hp⟩ := hP
  have a31 := hA.1.2.2.2
  have c1 : Steps p.tables e below (s₁.setTop (entryFrame m #[.ref b, .int (Int32.ofNat o), .int (Int32.ofNat len)] 6)) (s₁.setTop (mkF m 0 #[.val (.ref b), .val (.int (Int32.ofNat o)), .val (.int (Int32.ofNat len)), .unset, .unset, .unset] [])) := entry rfl
  have c2 : Steps p.tables e below (s₁.setTop (entryFrame m #[.ref b, .int (Int32.ofNat o), .int (Int32.ofNat len)] 6)) (s₁.setTop (mkF m 1 #[.val (.ref b), .val (.int (Int32.ofNat o)), .val (.int (Int32.ofNat len)), .unset, .unset, .unset] [.int (Int32.ofNat len)])) := c1.trans (by
    refine XS.iloadN X0.here hexec rfl (hb hbytes d0) rfl ?_
    exact Steps.refl _)
  obtain ⟨T3, B3, X3, ba3, bs3, bv3, bh3, bf3, st3⟩ := X0.anew hexec (atype := .byte) (wk W (.arrayClass .byte)) rfl (by show len * 1 ≤ _; omega) (by omega) (g := (mkF m 1 #[.val (.ref b), .val (.int (Int32.ofNat o)), .val (.int (Int32.ofNat len)), .unset, .unset, .unset] [.int (Int32.ofNat len)])) rfl (hb hbytes d1) (rest := []) rfl (Nat.le_refl _) (by show 0 + len ≤ len; omega)
  rw [hh0] at ba3 st3
  have kp3 : XT.Kept s T3 := (XT.Kept.of_eq hh0).push bh3
  have hA3 := hA.keep X3.warmed.alike (kp3 _ _ hA.1.1)
  have hne : b ≠ s.heap.size := hA.1.ne
  have c4 : Steps p.tables e below (s₁.setTop (entryFrame m #[.ref b, .int (Int32.ofNat o), .int (Int32.ofNat len)] 6)) (T3.setTop (mkF m 3 #[.val (.ref b), .val (.int (Int32.ofNat o)), .val (.int (Int32.ofNat len)), .unset, .unset, .unset] [.ref s.heap.size])) := c2.trans (st3 _ (Steps.refl _))
  have c5 : Steps p.tables e below (s₁.setTop (entryFrame m #[.ref b, .int (Int32.ofNat o), .int (Int32.ofNat len)] 6)) (T3.setTop (mkF m 9 #[.val (.ref b), .val (.int (Int32.ofNat o)), .val (.int (Int32.ofNat len)), .val (.ref s.heap.size), .unset, .unset] [.int (Int32.ofNat len), .int 0, .ref s.heap.size, .int (Int32.ofNat o), .ref b])) := c4.trans (by
    refine XS.astoreN X3.here hexec rfl (hb hbytes d3) rfl rfl rfl ?_
    refine XS.aloadN X3.here hexec rfl (hb hbytes d4) rfl rfl ?_
    refine XS.iloadN X3.here hexec rfl (hb hbytes d5) rfl ?_
    refine XS.aloadN X3.here hexec rfl (hb hbytes d6) rfl rfl ?_
    refine iconstV X3.here hexec rfl 0 (hb hbytes d7) (by decide) ?_
    refine XS.iloadN X3.here hexec rfl (hb hbytes d8) rfl ?_
    exact Steps.refl _)
  obtain ⟨v6, T6, X6, E6, g6⟩ := X3.callS hexec (Cmp5.law l b A s.heap.size B3 o 0 len) hown (wks W (staticW U16 115 Cmp5.yN)) (wk W Cmp5.tab) (W := 0) (Nat.le_of_ble_eq_true rfl) (Nat.le_of_ble_eq_true rfl) (Nat.le_refl _) (by show 0 + len + 0 ≤ len; omega) (g := (mkF m 9 #[.val (.ref b), .val (.int (Int32.ofNat o)), .val (.int (Int32.ofNat len)), .val (.ref s.heap.size), .unset, .unset] [.int (Int32.ofNat len), .int (Int32.ofNat 0), .ref s.heap.size, .int (Int32.ofNat o), .ref b])) rfl (by rw [hml]; rfl) c5 (argsL := [.ref b, .int (Int32.ofNat o), .ref s.heap.size, .int (Int32.ofNat 0), .int (Int32.ofNat len)]) (rest := []) rfl rfl (by show 2 * 0 + 0 ≤ _; decide) (hb hbytes d9) (⟨rfl, hA3, ba3, hne, l1, by rw [bs3]; simp, hp⟩)
  obtain ⟨rfl, B6, p6, f6⟩ := E6
  have c7 : Steps p.tables e below (s₁.setTop (entryFrame m #[.ref b, .int (Int32.ofNat o), .int (Int32.ofNat len)] 6)) (T6.setTop (mkF m 12 #[.val (.ref b), .val (.int (Int32.ofNat o)), .val (.int (Int32.ofNat len)), .val (.ref s.heap.size), .unset, .unset] [.int (Int32.ofNat len)])) := g6
  have c8 : Steps p.tables e below (s₁.setTop (entryFrame m #[.ref b, .int (Int32.ofNat o), .int (Int32.ofNat len)] 6)) (T6.setTop (mkF m 58 #[.val (.ref b), .val (.int (Int32.ofNat o)), .val (.int (Int32.ofNat len)), .val (.ref s.heap.size), .val (.int (Int32.ofNat len)), .unset] [.ref s.heap.size])) := c7.trans (by
    refine XS.istore X6.here hexec rfl (hb hbytes d12) rfl rfl ?_
    refine XS.iload X6.here hexec rfl (hb hbytes d14) rfl ?_
    refine XS.iloadN X6.here hexec rfl (hb hbytes d16) rfl ?_
    refine XS.icmpYes X6.here hexec rfl (pc0 := 17) rfl (hb hbytes d17) rfl (ii_eq_t rfl) (by decide) rfl ?_
    refine XS.aloadN X6.here hexec rfl (hb hbytes d57) rfl rfl ?_
    exact Steps.refl _)
  have X8 := X6.wide (L' := []) (cells' := 1) (slots' := len) (fun x hx hlt => by
    simp only [List.nil_append, copyLocs, List.mem_map, List.mem_range] at hx
    obtain ⟨i, -, rfl⟩ := hx
    exact absurd hlt (Nat.lt_irrefl _)) (Nat.le_refl _) (by omega)
  exact ⟨T6, some (.ref s.heap.size), _, _, _, X8, rfl, rfl, rfl, (fun h => by cases h), ⟨⟨rfl, B6, ba3.like (X3.warmed.alike.symm.trans X6.warmed.alike) p6.1 f6.1 f6.2.1 f6.2.2.1, f6.2.1.trans bv3, by rw [X6.warmed.alike.findClass, f6.1]; exact bf3, by rw [f6.2.2.1, bs3]; simp, fun j hj => by rw [f6.2.2.2 j, if_pos (by omega)]; rfl, kp3.put p6 (Nat.le_refl _)⟩, by rw [p6.2.2, bh3, hh0]; simp⟩, fun fs hl => c8.trans (X8.areturnOut hexec rfl hret rfl (hb hbytes d58) hl)⟩
end Cmp3
namespace CodL
def yN : MethodName := ⟨"java/lang/StringUTF16", "coderFromArrayLen", "([BI)B"⟩
abbrev yB : ByteArray := jdk_52_method_15_code
theorem d0 : decode yB 0 = .ok (.iload_n 1, 1) := by decide +kernel
theorem d1 : decode yB 1 = .ok (.aload_n 0, 1) := by decide +kernel
theorem d2 : decode yB 2 = .ok (.arraylength, 1) := by decide +kernel
theorem d3 : decode yB 3 = .ok (.isub, 1) := by decide +kernel
theorem d4 : decode yB 4 = .ok (.bipush 31, 2) := by decide +kernel
theorem d6 : decode yB 6 = .ok (.iushr, 1) := by decide +kernel
theorem d7 : decode yB 7 = .ok (.i2b, 1) := by decide +kernel
theorem d8 : decode yB 8 = .ok (.ireturn, 1) := by decide +kernel
def site : List Cond := []
def tab : Cond := tabOf yN yB 2 (some .byte) site
def P (d : Addr) (B : Cell) (args : Array Value) (s : State) : Prop := args = #[.ref d, .int (Int32.ofNat B.slots.size)] ∧ Arr .byte d B s
def E (r : Option Value) (s u : State) : Prop := XT.PureE (some (.int 0)) r s u
/-- an array as long as the number of chars: LATIN1 -/
theorem law (l : Launch) (d : Addr) (B : Cell) : Law l yN 2 2 0 0 yB 2 (some .byte) site (P d B) E [] 0 0 := by
  refine Law.of_walk (plainFor_of_name (by decide +kernel)) (by decide +kernel) (by decide +kernel) (by decide) (fun _ _ h => by rw [h.1]; rfl) (fun _ U U' hal hh h => ⟨h.1, h.2.mv hal hh⟩) (fun r U U' V V' h1 hal h2 h => XT.PureE.mv r U U' V V' h1 hal h2 h) ?_
  intro p e s m args below meth c s₁ X0 hexec hbytes hml hret hlk hnm hown hh0 W hP
  obtain ⟨rfl, hB⟩ := hP
  have hB0 := hB.mv X0.warmed.alike hh0
  have c1 : Steps p.tables e below (s₁.setTop (entryFrame m #[.ref d, .int (Int32.ofNat B.slots.size)] 2)) (s₁.setTop (mkF m 0 #[.val (.ref d), .val (.int (Int32.ofNat B.slots.size))] [])) := entry rfl
  have c2 : Steps p.tables e below (s₁.setTop (entryFrame m #[.ref d, .int (Int32.ofNat B.slots.size)] 2)) (s₁.setTop (mkF m 2 #[.val (.ref d), .val (.int (Int32.ofNat B.slots.size))] [.ref d, .int (Int32.ofNat B.slots.size)])) := c1.trans (by
    refine XS.iloadN X0.here hexec rfl (hb hbytes d0) rfl ?_
    refine XS.aloadN X0.here hexec rfl (hb hbytes d1) rfl rfl ?_
    exact Steps.refl _)
  have c3 : Steps p.tables e below (s₁.setTop (entryFrame m #[.ref d, .int (Int32.ofNat B.slots.size)] 2)) (s₁.setTop (mkF m 8 #[.val (.ref d), .val (.int (Int32.ofNat B.slots.size))] [.int (lo8 (ushr (Int32.ofNat B.slots.size - Int32.ofNat B.slots.size) 31))])) := c2.trans (by
    refine X0.alen hexec hB0 rfl rfl (hb hbytes d2) ?_
    refine XS.isub X0.here hexec rfl (hb hbytes d3) rfl ?_
    refine bipushV X0.here hexec rfl 31 (hb hbytes d4) (by decide) ?_
    refine iushr X0.here hexec rfl (hb hbytes d6) rfl ?_
    refine i2b X0.here hexec rfl (hb hbytes d7) rfl ?_
    exact Steps.refl _)
  have e0 : lo8 (ushr (Int32.ofNat B.slots.size - Int32.ofNat B.slots.size) 31) = 0 := by rw [Int32.sub_self]; decide
  rw [e0] at c3
  exact ⟨s₁, some (.int 0), _, _, _, X0, rfl, rfl, rfl, (fun h => by cases h), ⟨rfl, hh0⟩, fun fs hl => c3.trans (X0.ireturnOut hexec hret rfl (Or.inr (Or.inr (Or.inl rfl))) (hb hbytes d8) hl)⟩
end CodL
/-- the String at a is Latin-1 over a new byte[] (the heap's one new cell): the low bytes of the len chars of A from o on; every cell but a is kept -/
def Got (a : Addr) (D : Cell) (fV fC : Field) (A : Cell) (o len : Nat) (r : Option Value) (s u : State) : Prop := r = none ∧ ∃ D' V : Cell, Blank "java/lang/String" a D' u ∧ Same D D' [fV.slot, fC.slot] ∧ D'.slots[fV.slot]? = some (.ref s.heap.size) ∧ D'.slots[fC.slot]? = some (.int 0) ∧ Arr .byte s.heap.size V u ∧ V.vm = .none ∧ u.vm.findClass "[B" = some V.cls ∧ V.slots.size = len ∧ (∀ j, j < len → V.slots[j]? = some (.int (lo8 (cv A (o + j))))) ∧ (∀ (y : Addr) (c : Cell), y ≠ a → s.heap[y]? = some c → u.heap[y]? = some c) ∧ u.heap.size = s.heap.size + 1
theorem Got.mv {a : Addr} {D A : Cell} {fV fC : Field} {o len : Nat} : ∀ r (U U' V V' : State), U'.heap = U.heap → V.vm.Alike V'.vm → V'.heap = V.heap → Got a D fV fC A o len r U V → Got a D fV fC A o len r U' V' :=
  fun r U U' V V' h1 hal h2 ⟨e0, D', X, a1, a2, a3, a4, a5, a6, a7, a8, a9, a10, a11⟩ => ⟨e0, D', X, a1.mv hal h2, a2, by rw [h1]; exact a3, a4, by rw [h1]; exact a5.mv hal h2, a6, by rw [hal.findClass]; exact a7, a8, a9, by rw [h1, h2]; exact a10, by rw [h1, h2]; exact a11⟩
namespace New4
def yN : MethodName := ⟨"java/lang/String", "<init>", "([CIILjava/lang/Void;)V"⟩
abbrev yB : ByteArray := jdk_42_method_149_code
theorem d0 : decode yB 0 = .ok (.aload_n 0, 1) := by decide +kernel
theorem d1 : decode yB 1 = .ok (.invokespecial 1, 3) := by decide +kernel
theorem d4 : decode yB 4 = .ok (.iload_n 3, 1) := by decide +kernel
theorem d5 : decode yB 5 = .ok (.ifCond (.ne) 22, 3) := by decide +kernel
theorem d27 : decode yB 27 = .ok (.getstatic 38, 3) := by decide +kernel
theorem d30 : decode yB 30 = .ok (.ifCond (.eq) 28, 3) := by decide +kernel
theorem d33 : decode yB 33 = .ok (.aload_n 1, 1) := by decide +kernel
theorem d34 : decode yB 34 = .ok (.iload_n 2, 1) := by decide +kernel
theorem d35 : decode yB 35 = .ok (.iload_n 3, 1) := by decide +kernel
theorem d36 : decode yB 36 = .ok (.invokestatic 177, 3) := by decide +kernel
theorem d39 : decode yB 39 = .ok (.astore 5, 2) := by decide +kernel
theorem d41 : decode yB 41 = .ok (.aload_n 0, 1) := by decide +kernel
theorem d42 : decode yB 42 = .ok (.aload 5, 2) := by decide +kernel
theorem d44 : decode yB 44 = .ok (.iload_n 3, 1) := by decide +kernel
theorem d45 : decode yB 45 = .ok (.invokestatic 47, 3) := by decide +kernel
theorem d48 : decode yB 48 = .ok (.putfield 15, 3) := by decide +kernel
theorem d51 : decode yB 51 = .ok (.aload_n 0, 1) := by decide +kernel
theorem d52 : decode yB 52 = .ok (.aload 5, 2) := by decide +kernel
theorem d54 : decode yB 54 = .ok (.putfield 9, 3) := by decide +kernel
theorem d57 : decode yB 57 = .ok (.return_, 1) := by decide +kernel
def site : List Cond := [.fieldLink "java/lang/String" 38 "java/lang/String" "COMPACT_STRINGS" "Z", Cmp3.tab, CodL.tab, .laysFinal "java/lang/String" "java/lang/String" "value" "[B", .fieldLink "java/lang/String" 9 "java/lang/String" "value" "[B", .laysFinal "java/lang/String" "java/lang/String" "coder" "B", .fieldLink "java/lang/String" 15 "java/lang/String" "coder" "B"] ++ objW "java/lang/String" 1 ++ staticW "java/lang/String" 177 Cmp3.yN ++ staticW "java/lang/String" 47 CodL.yN
def tab : Cond := tabOf yN yB 6 none site
def P (a : Addr) (D : Cell) (fV fC : Field) (b : Addr) (A : Cell) (z : Int32) (o len : Nat) (args : Array Value) (s : State) : Prop := args = #[.ref a, .ref b, .int (Int32.ofNat o), .int (Int32.ofNat len), .null] ∧ Blank "java/lang/String" a D s ∧ Found "java/lang/String" "value" "[B" fV s ∧ Found "java/lang/String" "coder" "B" fC s ∧ Ch b A s ∧ StaticIs s "java/lang/String" "COMPACT_STRINGS" "Z" (.int z) ∧ ¬ z = 0 ∧ 0 < len ∧ o + len ≤ A.slots.size ∧ len ≤ 536870912 ∧ ∀ i, i < len → ¬ 255 < cv A (o + i)
def E (a : Addr) (D : Cell) (fV fC : Field) (A : Cell) (o len : Nat) (r : Option Value) (s u : State) : Prop := Got a D fV fC A o len r s u
/-- len > 0, no char of the range above 255: a Latin-1 String of their low bytes -/
theorem law (l : Launch) (a : Addr) (D : Cell) (fV fC : Field) (b : Addr) (A : Cell) (z : Int32) (o len : Nat) : Law l yN 5 4 2 35 yB 6 none site (P a D fV fC b A z o len) (E a D fV fC A o len) [⟨a, fC.slot⟩, ⟨a, fV.slot⟩] 1 len := by
  refine Law.of_walk (plainFor_of_name (by decide +kernel)) (by decide +kernel) (by decide +kernel) (by decide) (fun _ _ h => by rw [h.1]; rfl) (fun _ U U' hal hh h => ⟨h.1, h.2.1.mv hal hh, h.2.2.1.al hal, h.2.2.2.1.al hal, h.2.2.2.2.1.mv hal hh, h.2.2.2.2.2.1.there hal hh, h.2.2.2.2.2.2⟩) (fun r U U' V V' h1 hal h2 h => Got.mv r U U' V V' h1 hal h2 h) ?_
  intro p e s m args below meth c s₁ X0 hexec hbytes hml hret hlk hnm hown hh0 W hP
  obtain ⟨rfl, hB, f1, f2, hA, s1, hz, l0, l1, l2, hp⟩ := hP
  have a31 := hA.1.2.2.2
  have c1 : Steps p.tables e below (s₁.setTop (entryFrame m #[.ref a, .ref b, .int (Int32.ofNat o), .int (Int32.ofNat len), .null] 6)) (s₁.setTop (mkF m 0 #[.val (.ref a), .val (.ref b), .val (.int (Int32.ofNat o)), .val (.int (Int32.ofNat len)), .val .null, .unset] [])) := entry rfl
  have c2 : Steps p.tables e below (s₁.setTop (entryFrame m #[.ref a, .ref b, .int (Int32.ofNat o), .int (Int32.ofNat len), .null] 6)) (s₁.setTop (mkF m 1 #[.val (.ref a), .val (.ref b), .val (.int (Int32.ofNat o)), .val (.int (Int32.ofNat len)), .val .null, .unset] [.ref a])) := c1.trans (by
    refine XS.aloadN X0.here hexec rfl (hb hbytes d0) rfl rfl ?_
    exact Steps.refl _)
  obtain ⟨T3, X3, q3, st3⟩ := X0.oinit hexec hown (wks W (objW "java/lang/String" 1)) (g := (mkF m 1 #[.val (.ref a), .val (.ref b), .val (.int (Int32.ofNat o)), .val (.int (Int32.ofNat len)), .val .null, .unset] [.ref a])) rfl (by rw [hml]; rfl) (rest := []) rfl (hb hbytes d1) (W := 0) (by show 2 * 0 + 0 ≤ _; decide) (Nat.le_of_ble_eq_true rfl) (Nat.le_of_ble_eq_true rfl)
  have hh3 := q3.trans hh0
  have c4 : Steps p.tables e below (s₁.setTop (entryFrame m #[.ref a, .ref b, .int (Int32.ofNat o), .int (Int32.ofNat len), .null] 6)) (T3.setTop (mkF m 27 #[.val (.ref a), .val (.ref b), .val (.int (Int32.ofNat o)), .val (.int (Int32.ofNat len)), .val .null, .unset] [])) := (c2.trans (st3 _ (Steps.refl _))).trans (by
    refine XS.iloadN X3.here hexec rfl (hb hbytes d4) rfl ?_
    refine XS.ifYes X3.here hexec rfl (pc0 := 5) rfl (hb hbytes d5) rfl (i0_ne_t (nz32 (by omega) l0)) (by decide) rfl ?_
    exact Steps.refl _)
  obtain ⟨T5, X5, q5, st5⟩ := X3.sget hexec hown (wk W (.fieldLink "java/lang/String" 38 "java/lang/String" "COMPACT_STRINGS" "Z")) s1 (fun _ _ h => by rw [hh3]; exact h) (g := (mkF m 27 #[.val (.ref a), .val (.ref b), .val (.int (Int32.ofNat o)), .val (.int (Int32.ofNat len)), .val .null, .unset] [])) rfl (hb hbytes d27)
  have hh5 := q5.trans hh3
  have c6 : Steps p.tables e below (s₁.setTop (entryFrame m #[.ref a, .ref b, .int (Int32.ofNat o), .int (Int32.ofNat len), .null] 6)) (T5.setTop (mkF m 30 #[.val (.ref a), .val (.ref b), .val (.int (Int32.ofNat o)), .val (.int (Int32.ofNat len)), .val .null, .unset] [.int z])) := c4.trans (st5 _ (Steps.refl _))
  have c7 : Steps p.tables e below (s₁.setTop (entryFrame m #[.ref a, .ref b, .int (Int32.ofNat o), .int (Int32.ofNat len), .null] 6)) (T5.setTop (mkF m 36 #[.val (.ref a), .val (.ref b), .val (.int (Int32.ofNat o)), .val (.int (Int32.ofNat len)), .val .null, .unset] [.int (Int32.ofNat len), .int (Int32.ofNat o), .ref b])) := c6.trans (by
    refine XS.ifNo X5.here hexec rfl (hb hbytes d30) rfl (i0_eq_f hz) ?_
    refine XS.aloadN X5.here hexec rfl (hb hbytes d33) rfl rfl ?_
    refine XS.iloadN X5.here hexec rfl (hb hbytes d34) rfl ?_
    refine XS.iloadN X5.here hexec rfl (hb hbytes d35) rfl ?_
    exact Steps.refl _)
  obtain ⟨v8, T8, X8, E8, g8⟩ := X5.callS hexec (Cmp3.law l b A o len) hown (wks W (staticW "java/lang/String" 177 Cmp3.yN)) (wk W Cmp3.tab) (W := 0) (Nat.le_of_ble_eq_true rfl) (Nat.le_of_ble_eq_true rfl) (Nat.le_refl _) (by show 0 + len ≤ len; omega) (g := (mkF m 36 #[.val (.ref a), .val (.ref b), .val (.int (Int32.ofNat o)), .val (.int (Int32.ofNat len)), .val .null, .unset] [.int (Int32.ofNat len), .int (Int32.ofNat o), .ref b])) rfl (by rw [hml]; rfl) c7 (argsL := [.ref b, .int (Int32.ofNat o), .int (Int32.ofNat len)]) (rest := []) rfl rfl (by show 2 * 0 + 0 ≤ _; decide) (hb hbytes d36) (⟨rfl, hA.mv X5.warmed.alike hh5, l1, l2, hp⟩)
  obtain ⟨e8, z8⟩ := E8
  obtain ⟨rfl, N, n1, n2, n3, n4, n5, n6⟩ := NewArr.mv _ T5 s _ _ hh5.symm (Vm.Alike.refl _) rfl e8
  rw [hh5] at z8
  have hB1 := hB.keep X8.warmed.alike (n6 _ _ hB.1)
  have hne : s.heap.size ≠ a := (Nat.ne_of_lt (Array.getElem?_eq_some_iff.mp hB.1).1).symm
  have c9 : Steps p.tables e below (s₁.setTop (entryFrame m #[.ref a, .ref b, .int (Int32.ofNat o), .int (Int32.ofNat len), .null] 6)) (T8.setTop (mkF m 39 #[.val (.ref a), .val (.ref b), .val (.int (Int32.ofNat o)), .val (.int (Int32.ofNat len)), .val .null, .unset] [.ref s.heap.size])) := g8
  have c10 : Steps p.tables e below (s₁.setTop (entryFrame m #[.ref a, .ref b, .int (Int32.ofNat o), .int (Int32.ofNat len), .null] 6)) (T8.setTop (mkF m 45 #[.val (.ref a), .val (.ref b), .val (.int (Int32.ofNat o)), .val (.int (Int32.ofNat len)), .val .null, .val (.ref s.heap.size)] [.int (Int32.ofNat N.slots.size), .ref s.heap.size, .ref a])) := by
    have hc : Steps p.tables e below (s₁.setTop (entryFrame m #[.ref a, .ref b, .int (Int32.ofNat o), .int (Int32.ofNat len), .null] 6)) (T8.setTop (mkF m 45 #[.val (.ref a), .val (.ref b), .val (.int (Int32.ofNat o)), .val (.int (Int32.ofNat len)), .val .null, .val (.ref s.heap.size)] [.int (Int32.ofNat len), .ref s.heap.size, .ref a])) := c9.trans (by
      refine XS.astore X8.here hexec rfl (hb hbytes d39) rfl rfl rfl ?_
      refine XS.aloadN X8.here hexec rfl (hb hbytes d41) rfl rfl ?_
      refine XS.aload X8.here hexec rfl (hb hbytes d42) rfl rfl ?_
      refine XS.iloadN X8.here hexec rfl (hb hbytes d44) rfl ?_
      exact Steps.refl _)
    rw [n4]; exact hc
  obtain ⟨v11, T11, X11, E11, g11⟩ := X8.callS hexec (CodL.law l s.heap.size N) hown (wks W (staticW "java/lang/String" 47 CodL.yN)) (wk W CodL.tab) (W := 1) (Nat.le_of_ble_eq_true rfl) (Nat.le_of_ble_eq_true rfl) (Nat.le_refl _) (by show 0 + len + 0 ≤ len; omega) (g := (mkF m 45 #[.val (.ref a), .val (.ref b), .val (.int (Int32.ofNat o)), .val (.int (Int32.ofNat len)), .val .null, .val (.ref s.heap.size)] [.int (Int32.ofNat N.slots.size), .ref s.heap.size, .ref a])) rfl (by rw [hml]; rfl) c10 (argsL := [.ref s.heap.size, .int (Int32.ofNat N.slots.size)]) (rest := [.ref a]) rfl rfl (by show 2 * 0 + (1 + 0) ≤ _; decide) (hb hbytes d45) (⟨rfl, n1⟩)
  obtain ⟨rfl, q11⟩ := E11
  have hB11 := hB1.mv (X8.warmed.alike.symm.trans X11.warmed.alike) q11
  have c12 : Steps p.tables e below (s₁.setTop (entryFrame m #[.ref a, .ref b, .int (Int32.ofNat o), .int (Int32.ofNat len), .null] 6)) (T11.setTop (mkF m 48 #[.val (.ref a), .val (.ref b), .val (.int (Int32.ofNat o)), .val (.int (Int32.ofNat len)), .val .null, .val (.ref s.heap.size)] [.int 0, .ref a])) := g11
  obtain ⟨T13, X13, p13, bl13, sl13, st13⟩ := X11.finit hexec hown (wk W (.fieldLink "java/lang/String" 15 "java/lang/String" "coder" "B")) (Or.inr ⟨_, (wk W (.laysFinal "java/lang/String" "java/lang/String" "coder" "B"))⟩) (Or.inl ⟨rfl, hnm⟩) f2 (Or.inl rfl) hB11 (t := .byte) (by decide +kernel) rfl (g := (mkF m 48 #[.val (.ref a), .val (.ref b), .val (.int (Int32.ofNat o)), .val (.int (Int32.ofNat len)), .val .null, .val (.ref s.heap.size)] [.int 0, .ref a])) rfl (rest := []) rfl (hb hbytes d48)
  have c14 : Steps p.tables e below (s₁.setTop (entryFrame m #[.ref a, .ref b, .int (Int32.ofNat o), .int (Int32.ofNat len), .null] 6)) (T13.setTop (mkF m 54 #[.val (.ref a), .val (.ref b), .val (.int (Int32.ofNat o)), .val (.int (Int32.ofNat len)), .val .null, .val (.ref s.heap.size)] [.ref s.heap.size, .ref a])) := (c12.trans (st13 _ (Steps.refl _))).trans (by
    refine XS.aloadN X13.here hexec rfl (hb hbytes d51) rfl rfl ?_
    refine XS.aload X13.here hexec rfl (hb hbytes d52) rfl rfl ?_
    exact Steps.refl _)
  obtain ⟨T15, X15, p15, bl15, sl15, st15⟩ := X13.finit hexec hown (wk W (.fieldLink "java/lang/String" 9 "java/lang/String" "value" "[B")) (Or.inr ⟨_, (wk W (.laysFinal "java/lang/String" "java/lang/String" "value" "[B"))⟩) (Or.inl ⟨rfl, hnm⟩) f1 (Or.inl rfl) bl13 (t := (.array .byte)) (by decide +kernel) rfl (g := (mkF m 54 #[.val (.ref a), .val (.ref b), .val (.int (Int32.ofNat o)), .val (.int (Int32.ofNat len)), .val .null, .val (.ref s.heap.size)] [.ref s.heap.size, .ref a])) rfl (rest := []) rfl (hb hbytes d54)
  have c16 : Steps p.tables e below (s₁.setTop (entryFrame m #[.ref a, .ref b, .int (Int32.ofNat o), .int (Int32.ofNat len), .null] 6)) (T15.setTop (mkF m 57 #[.val (.ref a), .val (.ref b), .val (.int (Int32.ofNat o)), .val (.int (Int32.ofNat len)), .val .null, .val (.ref s.heap.size)] [])) := c14.trans (st15 _ (Steps.refl _))
  have ap := apart (Or.inr ⟨_, (wk W (.laysFinal "java/lang/String" "java/lang/String" "value" "[B"))⟩) (Or.inr ⟨_, (wk W (.laysFinal "java/lang/String" "java/lang/String" "coder" "B"))⟩) f1 f2 (t₁ := .array .byte) (t₂ := .byte) (by decide +kernel) (by decide +kernel) (by decide)
  have al := X8.warmed.alike.symm.trans X15.warmed.alike
  have n7 : T11.heap[s.heap.size]? = some N := by rw [q11]; exact n1.1
  exact ⟨T15, none, _, _, _, X15, by simp, rfl, by omega, (fun _ => rfl), ⟨rfl, _, N, bl15, ((Same.refl D _).set _ (by simp)).set _ (by simp), sl15, (Cell.slots_setSlot_ne _ ap).trans sl13, n1.keep al (p15.other hne (p13.other hne n7)), n2, by rw [al.findClass]; exact n3, n4, n5, fun y c h1 h2 => p15.other h1 (p13.other h1 (by rw [q11]; exact n6 y c h2)), by rw [p15.2.2, p13.2.2, q11]; exact z8⟩, fun fs hl => c16.trans (X15.returnOut hexec hret (hb hbytes d57) hl)⟩
end New4
namespace New1
def yN : MethodName := ⟨"java/lang/String", "<init>", "([C)V"⟩
abbrev yB : ByteArray := jdk_42_method_3_code
theorem d0 : decode yB 0 = .ok (.aload_n 0, 1) := by decide +kernel
theorem d1 : decode yB 1 = .ok (.aload_n 1, 1) := by decide +kernel
theorem d2 : decode yB 2 = .ok (.iconst 0, 1) := by decide +kernel
theorem d3 : decode yB 3 = .ok (.aload_n 1, 1) := by decide +kernel
theorem d4 : decode yB 4 = .ok (.arraylength, 1) := by decide +kernel
theorem d5 : decode yB 5 = .ok (.aconst_null, 1) := by decide +kernel
theorem d6 : decode yB 6 = .ok (.invokespecial 27, 3) := by decide +kernel
theorem d9 : decode yB 9 = .ok (.return_, 1) := by decide +kernel
def site : List Cond := [New4.tab] ++ initW "java/lang/String" 27 New4.yN
def tab : Cond := tabOf yN yB 2 none site
def P (a : Addr) (D : Cell) (fV fC : Field) (b : Addr) (A : Cell) (z : Int32) (args : Array Value) (s : State) : Prop := args = #[.ref a, .ref b] ∧ Blank "java/lang/String" a D s ∧ Found "java/lang/String" "value" "[B" fV s ∧ Found "java/lang/String" "coder" "B" fC s ∧ Ch b A s ∧ StaticIs s "java/lang/String" "COMPACT_STRINGS" "Z" (.int z) ∧ ¬ z = 0 ∧ 0 < A.slots.size ∧ A.slots.size ≤ 536870912 ∧ ∀ i, i < A.slots.size → ¬ 255 < cv A i
def E (a : Addr) (D : Cell) (fV fC : Field) (A : Cell) (r : Option Value) (s u : State) : Prop := Got a D fV fC A 0 A.slots.size r s u
/-- new String(chars), not empty, no char above 255: a Latin-1 String of their low bytes -/
theorem law (l : Launch) (a : Addr) (D : Cell) (fV fC : Field) (b : Addr) (A : Cell) (z : Int32) : Law l yN 2 1 3 52 yB 2 none site (P a D fV fC b A z) (E a D fV fC A) [⟨a, fC.slot⟩, ⟨a, fV.slot⟩] 1 A.slots.size := by
  refine Law.of_walk (plainFor_of_name (by decide +kernel)) (by decide +kernel) (by decide +kernel) (by decide) (fun _ _ h => by rw [h.1]; rfl) (fun _ U U' hal hh h => ⟨h.1, h.2.1.mv hal hh, h.2.2.1.al hal, h.2.2.2.1.al hal, h.2.2.2.2.1.mv hal hh, h.2.2.2.2.2.1.there hal hh, h.2.2.2.2.2.2⟩) (fun r U U' V V' h1 hal h2 h => Got.mv r U U' V V' h1 hal h2 h) ?_
  intro p e s m args below meth c s₁ X0 hexec hbytes hml hret hlk hnm hown hh0 W hP
  obtain ⟨rfl, hB, f1, f2, hA, s1, hz, l0, l2, hp⟩ := hP
  have c1 : Steps p.tables e below (s₁.setTop (entryFrame m #[.ref a, .ref b] 2)) (s₁.setTop (mkF m 0 #[.val (.ref a), .val (.ref b)] [])) := entry rfl
  have c2 : Steps p.tables e below (s₁.setTop (entryFrame m #[.ref a, .ref b] 2)) (s₁.setTop (mkF m 6 #[.val (.ref a), .val (.ref b)] [.null, .int (Int32.ofNat A.slots.size), .int 0, .ref b, .ref a])) := c1.trans (by
    refine XS.aloadN X0.here hexec rfl (hb hbytes d0) rfl rfl ?_
    refine XS.aloadN X0.here hexec rfl (hb hbytes d1) rfl rfl ?_
    refine iconstV X0.here hexec rfl 0 (hb hbytes d2) (by decide) ?_
    refine XS.aloadN X0.here hexec rfl (hb hbytes d3) rfl rfl ?_
    refine X0.alen hexec (hA.1.mv X0.warmed.alike hh0) rfl rfl (hb hbytes d4) ?_
    refine XS.aconstNull X0.here hexec rfl (hb hbytes d5) ?_
    exact Steps.refl _)
  obtain ⟨v3, T3, X3, E3, g3⟩ := X0.callN hexec (New4.law l a D fV fC b A z 0 A.slots.size) rfl hown (wks W (initW "java/lang/String" 27 New4.yN)) (W New4.tab (by simp only [site, List.mem_cons, List.mem_append, true_or, or_true])) (W := 0) (Nat.le_of_ble_eq_true rfl) (Nat.le_of_ble_eq_true rfl) (Nat.le_refl _) (by show 0 + A.slots.size ≤ A.slots.size; omega) (g := (mkF m 6 #[.val (.ref a), .val (.ref b)] [.null, .int (Int32.ofNat A.slots.size), .int (Int32.ofNat 0), .ref b, .ref a])) rfl (by rw [hml]; rfl) c2 (argsL := [.ref b, .int (Int32.ofNat 0), .int (Int32.ofNat A.slots.size), .null]) (rest := []) rfl rfl (by show 2 * 0 + 0 ≤ _; decide) (hb hbytes d6) (⟨rfl, hB.mv X0.warmed.alike hh0, f1.al X0.warmed.alike, f2.al X0.warmed.alike, hA.mv X0.warmed.alike hh0, s1.there X0.warmed.alike hh0, hz, l0, by omega, l2, fun i hi => by rw [Nat.zero_add]; exact hp i hi⟩)
  have e0 := Got.mv _ s₁ s _ _ hh0.symm (Vm.Alike.refl _) rfl E3
  obtain rfl := e0.1
  have c4 : Steps p.tables e below (s₁.setTop (entryFrame m #[.ref a, .ref b] 2)) (T3.setTop (mkF m 9 #[.val (.ref a), .val (.ref b)] [])) := g3
  exact ⟨T3, none, _, _, _, X3, by simp, rfl, by omega, (fun _ => rfl), e0, fun fs hl => c4.trans (X3.returnOut hexec hret (hb hbytes d9) hl)⟩
theorem pays {l : Launch} {R : Room} {p : Program} {e : Env} {below : List Frame} {s : State} {sargs : Array Value} {len W : Nat} (a : Addr) (D : Cell) (fV fC : Field) (b : Addr) (A : Cell) (z : Int32) (htab : tab.before sargs s = true) (hfr : 4 ≤ R.frames) (hlo : W + 65 ≤ R.locals) :
    Back l R p e below s sargs yN len W (fun A₁ a₁ => A₁.cells + 1 ≤ R.cells ∧ A₁.slots + A.slots.size ≤ R.slots ∧ P a D fV fC b A z a₁ A₁.U) (fun A₁ _ v₁ B₁ => E a D fV fC A v₁ A₁.U B₁.U ∧ B₁.locs = A₁.locs ++ [⟨a, fC.slot⟩, ⟨a, fV.slot⟩] ∧ B₁.cells = A₁.cells + 1 ∧ B₁.slots = A₁.slots + A.slots.size) :=
  (law l a D fV fC b A z).pays htab hfr (by omega)
end New1
/-- the byte, read back as charAt reads it, is the char -/
theorem lo8_mask {x : Int32} (h0 : ¬ x < 0) (h1 : ¬ 255 < x) : lo8 x &&& 255 = x := by
  have t : ∀ k : Fin 256, lo8 (Int32.ofNat k.val) &&& 255 = Int32.ofNat k.val := by decide +kernel
  rw [Int32.lt_iff_toInt_lt] at h0 h1
  have e0 : (0 : Int32).toInt = 0 := rfl
  have e1 : (255 : Int32).toInt = 255 := rfl
  obtain ⟨k, hk⟩ : ∃ k : Nat, x.toInt = k := ⟨x.toInt.toNat, by omega⟩
  have hx : x = Int32.ofNat k := Int32.toInt_inj.mp (by rw [hk, Int32.toInt_ofNat_small (by omega)])
  rw [hx]
  exact t ⟨k, by omega⟩
end StrChars
namespace StrChars.Road
open Jvm Sem ClassFile Op Lib Jvm.Stand Jvm.Free Jvm.Free.XT
open Jvm.Lib.Cold (StaticIs)
abbrev ST : String := "java/lang/String"
/-- every table word that New1's law asks, flat -/
abbrev words : List Jvm.Cond := [.code New1.yN New1.yB 2 none, .initialized ST, .methodLink ST 27 New4.yN, .instanceMethod New4.yN,
  .code New4.yN New4.yB 6 none, .fieldLink ST 38 ST "COMPACT_STRINGS" "Z", .laysFinal ST ST "value" "[B", .fieldLink ST 9 ST "value" "[B", .laysFinal ST ST "coder" "B", .fieldLink ST 15 ST "coder" "B",
  .methodLink ST 1 Lib.objectInit, .instanceMethod Lib.objectInit, .code Lib.objectInit ⟨#[0xb1]⟩ 1 none, .methodLink ST 177 Cmp3.yN, .static Cmp3.yN, .methodLink ST 47 CodL.yN, .static CodL.yN,
  .code Cmp3.yN Cmp3.yB 6 (some (.array .byte)), .initialized U16, .arrayClass .byte, .methodLink U16 115 Cmp5.yN, .static Cmp5.yN, .code Cmp5.yN Cmp5.yB 7 (some .int), .code CodL.yN CodL.yB 2 (some .byte)]
theorem tab_of {a : Array Value} {s : State} (h : ∀ w ∈ words, w.before a s = true) : New1.tab.before a s = true := by
  have h5 : Cmp5.tab.before a s = true := unparts (wk h (.code Cmp5.yN Cmp5.yB 7 (some .int))) (wks h (.initialized Cmp5.yN.cls :: Cmp5.site))
  have hc : CodL.tab.before a s = true := unparts (wk h (.code CodL.yN CodL.yB 2 (some .byte))) (wks h (.initialized CodL.yN.cls :: CodL.site))
  have q5 : ∀ w ∈ Cmp5.tab :: words, w.before a s = true := fun w hw => (List.mem_cons.mp hw).elim (fun e => e ▸ h5) (h w)
  have h3 : Cmp3.tab.before a s = true := unparts (wk q5 (.code Cmp3.yN Cmp3.yB 6 (some (.array .byte)))) (wks q5 (.initialized Cmp3.yN.cls :: Cmp3.site))
  have q3 : ∀ w ∈ Cmp3.tab :: CodL.tab :: words, w.before a s = true := fun w hw => (List.mem_cons.mp hw).elim (fun e => e ▸ h3) fun hw => (List.mem_cons.mp hw).elim (fun e => e ▸ hc) (h w)
  have h4 : New4.tab.before a s = true := unparts (wk q3 (.code New4.yN New4.yB 6 none)) (wks q3 (.initialized New4.yN.cls :: New4.site))
  have q4 : ∀ w ∈ New4.tab :: words, w.before a s = true := fun w hw => (List.mem_cons.mp hw).elim (fun e => e ▸ h4) (h w)
  exact unparts (wk q4 (.code New1.yN New1.yB 2 none)) (wks q4 (.initialized New1.yN.cls :: New1.site))
/-- the words ride from the start Z to the walk's own state -/
theorem moved {Z s : State} {a0 args : Array Value} (hZ : Z.Warmed39 s.vm) (hw : ∀ d ∈ words, d.before a0 Z = true) : ∀ d ∈ words, d.before args s = true := fun d hd => by
  have q := hw d hd
  have t : ∀ d ∈ words, d = .arrayClass .byte ∨ (d.onTables && d.keepsFace) = true := by decide +kernel
  rcases t d hd with rfl | t
  · exact RoadKit.mvA hZ q
  · exact RoadKit.mv hZ q t
/-- WHAT COMES BACK, over the tables of the start Z: h the heap at the call, h' behind it -/
def Q (Z : State) (x : Addr) (A : Cell) (h : Heap) (v : Option Value) (h' : Heap) (L : List Loc) : Prop := v = none ∧ (∀ y ∈ L, y.base = x) ∧ RoadKit.Keep h h' [x] ∧ h'.size = h.size + 1 ∧ RoadKit.Exa Z h' x ST ∧ RoadKit.Fld Z h' x ST "value" "[B" (.ref h.size) ∧ RoadKit.Fld Z h' x ST "coder" "B" (.int 0) ∧
  (∃ V : Cell, RoadKit.Arr Z h' h.size V .byte ∧ V.vm = .none ∧ Z.vm.findClass "[B" = some V.cls ∧ V.slots.size = A.slots.size ∧ ∀ j, j < A.slots.size → V.slots[j]? = some (.int (lo8 (cv A j)))) ∧
  ∀ (O n d : String) (w : Value), RoadKit.Fld Z h x O n d w → RoadKit.slotOf Z O n d ≠ RoadKit.slotOf Z ST "value" "[B" → RoadKit.slotOf Z O n d ≠ RoadKit.slotOf Z ST "coder" "B" → RoadKit.Fld Z h' x O n d w
/-- **new String(chars) AT A CALL, IN THE ROAD'S FORM**: for specialBack behind newO: x the fresh String, b the char[] with the cell A -/
theorem back {p : Program} {l : Launch} {e : Env} {R : Room} {s : State} {args : Array Value} {below : List Frame} {len W : Nat} {Z : State} {a0 : Array Value} {h : Heap} (hZ : Z.Warmed39 s.vm) (hw : ∀ d ∈ words, d.before a0 Z = true) {kI : Nat} (wi : (Jvm.Cond.instantiable ST kI).before a0 Z = true)
    {x b : Addr} {A : Cell} {z : Int32} {v0 c0 : Value} (E : RoadKit.Exa Z h x ST) (V : RoadKit.Fld Z h x ST "value" "[B" v0) (C : RoadKit.Fld Z h x ST "coder" "B" c0) (K : RoadKit.Arr Z h b A .char) (hty : Typed .char A) (S : RoadKit.Sta Z h ST "COMPACT_STRINGS" "Z" (.int z)) (hz : ¬ z = 0)
    (l0 : 0 < A.slots.size) (l2 : A.slots.size ≤ 536870912) (hp : ∀ i, i < A.slots.size → ¬ 255 < cv A i) (hfr : 4 ≤ R.frames) (hlo : W + 65 ≤ R.locals) :
    Back l R p e below s args New1.yN len W (fun P a => a = #[.ref x, .ref b] ∧ P.U.heap = h ∧ P.cells + 1 ≤ R.cells ∧ P.slots + A.slots.size ≤ R.slots)
      (fun P _ v B => ∃ L, Q Z x A h v B.U.heap L ∧ B.locs = P.locs ++ L ∧ B.cells = P.cells + 1 ∧ B.slots = P.slots + A.slots.size) := by
  intro m meth c P g ig mk a X hg hsize hdg hW hn hp'
  obtain ⟨rfl, rfl, r1, r2⟩ := hp'
  have al : Z.vm.Alike P.U.vm := hZ.alike.trans X.warmed.alike
  obtain ⟨D, cfV, kV, iV, fV, hD, gV, stV, knV, obV, asV, slV⟩ := id V
  obtain ⟨D', cfC, kC, iC, fC, hD', gC, stC, -, -, asC, slC⟩ := id C
  cases hD.symm.trans hD'
  obtain ⟨D2, kD, e1, e2, e3, e4, e5⟩ := id E
  cases hD.symm.trans e1
  obtain ⟨c2, k2, i1, i2, i3, -⟩ := Cond.instantiable_spec wi
  cases e2.symm.trans i1
  cases e3.symm.trans i2
  obtain ⟨kU, u1, u2⟩ := al.2.2 _ _ e3
  have hB : Blank ST x D P.U := ⟨hD, ⟨knV, fun q hq => by rw [hq] at obV; cases obV⟩, by rw [al.findClass]; exact e2, kU, u1, by rw [u2]; exact i3, by rw [u2]; exact e5 i3⟩
  have F1 : Found ST "value" "[B" fV P.U := ⟨SBG.found_only al ⟨cfV, kV, iV, gV⟩, stV⟩
  have F2 : Found ST "coder" "B" fC P.U := ⟨SBG.found_only al ⟨cfC, kC, iC, gC⟩, stC⟩
  have hA : Ch b A P.U := ⟨⟨K.1, State.isArrayOf_alike al K.2.1, K.2.2, by omega⟩, hty⟩
  have hS : StaticIs P.U ST "COMPACT_STRINGS" "Z" (.int z) := by
    obtain ⟨cfS, iS, kS, fS, st, cS, t1, t2, t3, t4, t5, t6, t7⟩ := S
    exact StaticIs.there (s := { Z with heap := P.U.heap }) ⟨cfS, iS, kS, fS, st, cS, t1, t2, t3, t4, t5, (fun q => by rw [q] at t6; cases t6), t7⟩ al rfl
  obtain ⟨v, B, X', ⟨⟨hv, E', V', q1, q2, q3, q4, q5, q6, q7, q8, q9, q10, q11⟩, hl, hc, hs⟩, st⟩ := New1.pays x D fV fC b A z (tab_of (moved hZ hw)) hfr hlo m meth c P g ig mk _ X hg hsize hdg hW hn ⟨r1, r2, rfl, hB, F1, F2, hA, hS, hz, l0, l2, hp⟩
  have al' : Z.vm.Alike B.U.vm := hZ.alike.trans X'.warmed.alike
  have hsz : E'.slots.size = D.slots.size := by
    obtain ⟨-, -, -, kB, w1, w2, w3⟩ := q1
    obtain ⟨kB', y1, y2⟩ := al'.2.2 _ _ e3
    rw [q2.2.1] at w1
    cases w1.symm.trans y1
    rw [w3, e5 i3, y2]
  refine ⟨v, B, X', ⟨_, ⟨hv, ?_, ⟨by omega, fun y cy hy hn' => q10 y cy (by simpa using hn') hy, fun y cy hy => ?_⟩, q11, ⟨E', _, q1.1, by rw [q2.2.1]; exact e2, by rw [q2.2.1]; exact e3, by rw [q2.1]; exact obV, fun _ => by rw [hsz]; exact e5 i3⟩,
    ⟨E', cfV, kV, iV, fV, q1.1, gV, stV, by rw [q2.1]; exact knV, by rw [q2.1]; exact obV, by rw [q2.2.1]; exact asV, q3⟩, ⟨E', cfC, kC, iC, fC, q1.1, gC, stC, by rw [q2.1]; exact knV, by rw [q2.1]; exact obV, by rw [q2.2.1]; exact asC, q4⟩,
    ⟨V', ⟨q5.1, State.isArrayOf_alike al'.symm q5.2.1, q5.2.2.1⟩, q6, by rw [← al'.findClass]; exact q7, q8, fun j hj => by have := q9 j hj; rwa [Nat.zero_add] at this⟩, fun O n d w F n1 n2 => ?_⟩, hl, hc, hs⟩, st⟩
  · intro y hy
    simp only [List.mem_cons, List.not_mem_nil, or_false] at hy
    rcases hy with rfl | rfl <;> rfl
  · by_cases q : y = x
    · subst q
      cases hD.symm.trans hy
      exact ⟨E', q1.1, q2.2.1, q2.1, hsz⟩
    · exact ⟨cy, q10 y cy q hy, rfl, rfl, rfl⟩
  · obtain ⟨D3, cf, k, i, f, g1, g2, g3, g4, g5, g6, g7⟩ := F
    cases hD.symm.trans g1
    simp only [RoadKit.slotOf, g2, gV, gC, Option.map_some, Option.getD_some] at n1 n2
    exact ⟨E', cf, k, i, f, q1.1, g2, g3, by rw [q2.1]; exact g4, by rw [q2.1]; exact g5, by rw [q2.2.1]; exact g6, by rw [q2.2.2 f.slot (by simp [n1, n2])]; exact g7⟩
end StrChars.Road
namespace StrChars.Road
open Jvm Sem ClassFile Op Lib Jvm.Stand Jvm.Free Jvm.Free.XT
/-- WHAT COMES BACK, the byte[] as a list of values -/
def QA (Z : State) (x : Addr) (zn : Int32) (cs : List Int32) (h : Heap) (v : Option Value) (h' : Heap) (L : List Loc) : Prop := v = none ∧ (∀ y ∈ L, y.base = x) ∧ RoadKit.Keep h h' [x] ∧ h'.size = h.size + 1 ∧ RoadKit.Exa Z h' x ST ∧ RoadKit.Fld Z h' x ST "value" "[B" (.ref h.size) ∧ RoadKit.Fld Z h' x ST "coder" "B" (.int 0) ∧
  (∃ kb, Z.vm.findClass "[B" = some kb ∧ RoadKit.Arv Z h' h.size kb .byte zn (cs.map fun c => .int (lo8 c)) (.int 0)) ∧
  ∀ (O n d : String) (w : Value), RoadKit.Fld Z h x O n d w → RoadKit.slotOf Z O n d ≠ RoadKit.slotOf Z ST "value" "[B" → RoadKit.slotOf Z O n d ≠ RoadKit.slotOf Z ST "coder" "B" → RoadKit.Fld Z h' x O n d w
/-- **new String(chars) AT A CALL, THE ARRAYS AS LISTS**: the char[] at b holds cs, not empty, no char above 255 -/
theorem backArv {p : Program} {l : Launch} {e : Env} {R : Room} {s : State} {args : Array Value} {below : List Frame} {len W : Nat} {Z : State} {a0 : Array Value} {h : Heap} (hZ : Z.Warmed39 s.vm) (hw : ∀ d ∈ words, d.before a0 Z = true) {kI : Nat} (wi : (Jvm.Cond.instantiable ST kI).before a0 Z = true)
    {x b : Addr} {k : ClassId} {zn z : Int32} {cs : List Int32} {dv v0 c0 : Value} (E : RoadKit.Exa Z h x ST) (V : RoadKit.Fld Z h x ST "value" "[B" v0) (C : RoadKit.Fld Z h x ST "coder" "B" c0) (K : RoadKit.Arv Z h b k .char zn (cs.map Value.int) dv) (S : RoadKit.Sta Z h ST "COMPACT_STRINGS" "Z" (.int z)) (hz : ¬ z = 0)
    (hlen : zn.toNatClampNeg = cs.length) (h0 : 0 < cs.length) (hbig : cs.length ≤ 536870912) (hall : ∀ c ∈ cs, ¬ 255 < c) (hfr : 4 ≤ R.frames) (hlo : W + 65 ≤ R.locals) :
    Back l R p e below s args New1.yN len W (fun P a => a = #[.ref x, .ref b] ∧ P.U.heap = h ∧ P.cells + 1 ≤ R.cells ∧ P.slots + cs.length ≤ R.slots)
      (fun P _ v B => ∃ L, QA Z x zn cs h v B.U.heap L ∧ B.locs = P.locs ++ L ∧ B.cells = P.cells + 1 ∧ B.slots = P.slots + cs.length) := by
  obtain ⟨A, K1, K2, K3, K4, K5, K6⟩ := K
  have e : A.slots.size = cs.length := K3.trans hlen
  have hat : ∀ (i : Nat) (hi : i < cs.length), A.slots[i]? = some (.int cs[i]) := fun i hi => by rw [K5 i (by omega)]; simp [List.getD_eq_getElem?_getD, hi]
  have hcv : ∀ (i : Nat) (hi : i < cs.length), cv A i = cs[i] := fun i hi => by unfold cv; rw [hat i hi]
  have hty : Typed .char A := fun i v hv => by
    have hi : i < A.slots.size := (Array.getElem?_eq_some_iff.mp hv).1
    have q := K5 i hi
    rw [hv] at q
    rw [Option.some.inj q]
    exact K6 i hi
  refine Back.mono (back hZ hw wi E V C K1 hty S hz (by omega) (by omega) (fun i hi => by rw [hcv i (by omega)]; exact hall _ (List.getElem_mem _)) hfr hlo) (fun P a hp => ⟨hp.1, hp.2.1, hp.2.2.1, by rw [e]; exact hp.2.2.2⟩) (fun P a v B hp hq => ?_)
  obtain ⟨L, ⟨q1, q2, q3, q4, q5, q6, q7, ⟨V', v1, v2, v3, v4, v5⟩, q9⟩, hl, hc, hs⟩ := hq
  refine ⟨L, ⟨q1, q2, q3, q4, q5, q6, q7, ⟨V'.cls, v3, V', v1, rfl, by rw [v4, e, hlen], K4, fun i hi => ?_, fun i hi => ?_⟩, q9⟩, hl, hc, by rw [hs, e]⟩
  · have hi' : i < cs.length := by omega
    rw [v5 i (by omega), hcv i hi']; simp [List.getD_eq_getElem?_getD, hi']
  · have hi' : i < cs.length := by omega
    simp only [List.getD_eq_getElem?_getD, List.getElem?_map, List.getElem?_eq_getElem hi', Option.map_some, Option.getD_some]
    exact fits_lo8 _
end StrChars.Road
namespace StrChars.Road
open Jvm Sem ClassFile Op Lib Jvm.Stand Jvm.Free Jvm.Free.XT
/-- WHAT COMES BACK, in the writer's own shape -/
def QV (Z : State) (x : Addr) (N : Int32) (bs : List Int32) (h : Heap) (n0 : Nat) (v : Option Value) (h' : Heap) (L : List Loc) : Prop := v = none ∧ RoadKit.Fr n0 L ∧ RoadKit.Keep h h' [x] ∧ RoadKit.Exa Z h' x ST ∧ RoadKit.Fld Z h' x ST "coder" "B" (.int 0) ∧
  ∃ (t : Addr) (kb : ClassId), n0 ≤ t ∧ h.size ≤ t ∧ ¬ t = x ∧ RoadKit.Fld Z h' x ST "value" "[B" (.ref t) ∧ RoadKit.Arv Z h' t kb .byte N (bs.map Value.int) (.int 0)
/-- **new String(chars) AT A CALL, FOR THE WRITER**: a char[] of n known ints, each 0 to 255 -/
theorem backV {p : Program} {l : Launch} {e : Env} {R : Room} {s : State} {args : Array Value} {below : List Frame} {len W : Nat} {Z : State} {a0 : Array Value} {h : Heap} (hZ : Z.Warmed39 s.vm) (hw : ∀ d ∈ words, d.before a0 Z = true) {kI : Nat} (wi : (Jvm.Cond.instantiable ST kI).before a0 Z = true)
    {x b : Addr} {kC : ClassId} {cs bs : List Int32} {d v0 c0 : Value} {z N : Int32} {n n0 : Nat} (hx0 : n0 ≤ x) (hh0 : n0 ≤ h.size) (E : RoadKit.Exa Z h x ST) (V : RoadKit.Fld Z h x ST "value" "[B" v0) (C : RoadKit.Fld Z h x ST "coder" "B" c0) (K : RoadKit.Arv Z h b kC .char N (cs.map Value.int) d) (S : RoadKit.Sta Z h ST "COMPACT_STRINGS" "Z" (.int z)) (hz : ¬ z = 0)
    (hn : cs.length = n) (hN : N = Int32.ofNat n) (l0 : 0 < n) (l2 : n ≤ 4000) (hp : ∀ c ∈ cs, ¬ c < 0 ∧ ¬ (255 : Int32) < c) (hb : bs = cs.map (fun c => c.toInt8.toInt32)) (hfr : 4 ≤ R.frames) (hlo : W + 65 ≤ R.locals) :
    Back l R p e below s args (⟨"java/lang/String", "<init>", "([C)V"⟩ : MethodName) len W (fun P a => a = #[.ref x, .ref b] ∧ P.U.heap = h ∧ P.cells + 1 ≤ R.cells ∧ P.slots + n ≤ R.slots)
      (fun P _ v B => ∃ L, QV Z x N bs h n0 v B.U.heap L ∧ B.locs = P.locs ++ L ∧ B.cells = P.cells + 1 ∧ B.slots = P.slots + n) := by
  subst hn hN hb
  refine Back.mono (backArv hZ hw wi E V C K S hz (n32 (by omega)) l0 (by omega) (fun c hc => (hp c hc).2) hfr hlo) (fun P a hp => hp) (fun P a v B hp hq => ?_)
  obtain ⟨L, ⟨q1, q2, q3, q4, q5, q6, q7, ⟨kb, v1, v2⟩, q9⟩, hl, hc, hs⟩ := hq
  exact ⟨L, ⟨q1, fun y hy => by rw [q2 y hy]; exact hx0, q3, q5, q7, h.size, kb, hh0, Nat.le_refl _, Nat.ne_of_gt E.lt, q6, by rw [List.map_map]; exact v2⟩, hl, hc, hs⟩
end StrChars.Road
namespace StrChars
open Jvm Sem ClassFile Op Lib Jvm.Stand Jvm.Free.XT Jvm.Free.ALB Jvm.Free.JM Jvm.Free
open Jvm.Lib.Cold (StaticIs)
def hi8 (x : Int32) : Int32 := lo8 (x >>> ((8 : Int32) &&& 31))
/-- what StringUTF16.getChar makes of two bytes -/
def pairCh (u v : Int32) : Int32 := (((u &&& 255) <<< ((0 : Int32) &&& 31)) ||| ((v &&& 255) <<< ((8 : Int32) &&& 31))).toUInt32.toUInt16.toUInt32.toInt32
theorem lo8_and (x : Int32) : (lo8 x &&& 255).toBitVec.toNat = x.toBitVec.toNat % 256 := by
  have h : (lo8 x).toBitVec = (x.toBitVec.signExtend 8).signExtend 32 := by rw [lo8, Int8.toBitVec_toInt32, Int32.toBitVec_toInt8]
  rw [Int32.toBitVec_and, BitVec.toNat_and, h]
  have e : ((x.toBitVec.signExtend 8).signExtend 32).toNat % 256 = x.toBitVec.toNat % 256 := by
    rw [BitVec.toNat_signExtend]
    have hlt := x.toBitVec.isLt
    simp only [BitVec.toNat_setWidth, BitVec.toNat_signExtend]
    split <;> split <;> omega
  rw [← e]
  exact Nat.and_two_pow_sub_one_eq_mod _ 8
theorem pair_says {c : Int32} (h0 : ¬ c < 0) (h1 : ¬ 65535 < c) : pairCh (lo8 c) (hi8 c) = c := by
  rw [Int32.lt_iff_toInt_lt] at h0 h1
  have e0 : (0 : Int32).toInt = 0 := rfl
  have e1 : (65535 : Int32).toInt = 65535 := rfl
  have hc : c.toInt = c.toBitVec.toNat := by
    have := c.toBitVec.isLt
    have e : c.toInt = c.toBitVec.toInt := rfl
    rw [e] at h0 h1
    rw [e]
    rw [BitVec.toInt_eq_toNat_cond] at h0 h1 ⊢
    split at h0 <;> split <;> omega
  have hn : c.toBitVec.toNat < 65536 := by omega
  have a1 := lo8_and c
  have a2 : (hi8 c &&& 255).toBitVec.toNat = c.toBitVec.toNat / 256 := by
    rw [hi8, lo8_and]
    have e : ((8 : Int32) &&& 31) = 8 := by decide
    rw [e, Int32.toBitVec_shiftRight]
    have e2 : ((8 : Int32).toBitVec.smod 32) = 8#32 := by decide
    rw [e2, BitVec.sshiftRight_eq', BitVec.toNat_sshiftRight_of_msb_false (by rw [BitVec.msb_eq_false_iff_two_mul_lt]; omega)]
    show c.toBitVec.toNat >>> 8 % 256 = _
    rw [Nat.shiftRight_eq_div_pow]
    omega
  unfold pairCh
  apply Int32.toBitVec_inj.mp
  apply BitVec.eq_of_toNat_eq
  have f0 : ((0 : Int32) &&& 31) = 0 := by decide
  have f8 : ((8 : Int32) &&& 31) = 8 := by decide
  rw [f0, f8]
  have g : (((lo8 c &&& 255) <<< (0 : Int32)) ||| ((hi8 c &&& 255) <<< (8 : Int32))).toBitVec.toNat = c.toBitVec.toNat := by
    rw [Int32.toBitVec_or, Int32.toBitVec_shiftLeft, Int32.toBitVec_shiftLeft]
    have s0 : ((0 : Int32).toBitVec.smod 32) = 0#32 := by decide
    have s8 : ((8 : Int32).toBitVec.smod 32) = 8#32 := by decide
    rw [s0, s8, BitVec.toNat_or]
    simp only [BitVec.shiftLeft_eq', BitVec.toNat_shiftLeft, a1, a2]
    show (c.toBitVec.toNat % 256) <<< 0 % 2 ^ 32 ||| (c.toBitVec.toNat / 256) <<< 8 % 2 ^ 32 = _
    rw [Nat.shiftLeft_zero, Nat.mod_eq_of_lt (show c.toBitVec.toNat % 256 < 2 ^ 32 by omega), Nat.mod_eq_of_lt (show (c.toBitVec.toNat / 256) <<< 8 < 2 ^ 32 by rw [Nat.shiftLeft_eq]; omega), Nat.or_comm, ← Nat.shiftLeft_add_eq_or_of_lt (by omega), Nat.shiftLeft_eq]
    omega
  show BitVec.toNat (((((lo8 c &&& 255) <<< (0 : Int32)) ||| ((hi8 c &&& 255) <<< (8 : Int32))).toBitVec.setWidth 16).setWidth 32) = _
  rw [BitVec.toNat_setWidth, BitVec.toNat_setWidth, g]
  omega
end StrChars
namespace StrChars
open Jvm Sem ClassFile Op Lib Jvm.Stand Jvm.Free.XT Jvm.Free.ALB Jvm.Free.JM Jvm.Free
open Jvm.Lib.Cold (StaticIs)
/-- the array's cell V codes the n chars f 0 .. f (n - 1) by the coder cd, as the JDK does: coder 1 just where some char is above 255 -/
def Cod (cd : Int32) (n : Nat) (f : Nat → Int32) (V : Cell) : Prop := (cd = 0 ∧ V.slots.size = n ∧ ∀ j, j < n → V.slots[j]? = some (.int (lo8 (f j))) ∧ ¬ 255 < f j) ∨ (cd = 1 ∧ V.slots.size = 2 * n ∧ (∀ j, j < n → V.slots[2 * j]? = some (.int (lo8 (f j))) ∧ V.slots[2 * j + 1]? = some (.int (hi8 (f j)))) ∧ ∃ j, j < n ∧ 255 < f j)
/-- **x is a String of the n chars f 0 .. f (n - 1)**, Latin-1 or UTF-16; its array at t has the cell V -/
def Txt (x t : Addr) (V : Cell) (cd : Int32) (n : Nat) (f : Nat → Int32) (U : State) : Prop := Exact "java/lang/String" x U ∧ Has x "java/lang/String" "value" "[B" (.ref t) U ∧ Has x "java/lang/String" "coder" "B" (.int cd) U ∧ XT.Arr .byte t V U ∧ Cod cd n f V ∧ ∀ j, j < n → ¬ f j < 0 ∧ ¬ 65535 < f j
theorem Txt.mv {x t : Addr} {V : Cell} {cd : Int32} {n : Nat} {f : Nat → Int32} {U U' : State} (h : Txt x t V cd n f U) (hal : U.vm.Alike U'.vm) (hh : U'.heap = U.heap) : Txt x t V cd n f U' := ⟨h.1.mv hal hh, h.2.1.mv hal hh, h.2.2.1.mv hal hh, h.2.2.2.1.mv hal hh, h.2.2.2.2⟩
end StrChars
namespace StrChars.Road
open Jvm Sem ClassFile Op Lib Jvm.Stand Jvm.Free Jvm.Free.XT
open Jvm.Lib.Cold (StaticIs)
theorem consq {a : Array Value} {s : State} {c : Jvm.Cond} {L : List Jvm.Cond} (h0 : c.before a s = true) (h : ∀ w ∈ L, w.before a s = true) : ∀ w ∈ c :: L, w.before a s = true := fun w hw => (List.mem_cons.mp hw).elim (fun e => e ▸ h0) (h w)
/-- the bytes of the chars cs, low before high -/
def wideBytes : List Int32 → List Value
  | [] => []
  | c :: cs => .int (lo8 c) :: .int (hi8 c) :: wideBytes cs
theorem wide_lo (d : Value) : ∀ (cs : List Int32) (j : Nat), j < cs.length → (wideBytes cs).getD (2 * j) d = .int (lo8 (cs.getD j 0))
  | [], j, h => absurd h (Nat.not_lt_zero j)
  | c :: cs, 0, _ => rfl
  | c :: cs, j + 1, h => by
    have q := wide_lo d cs j (by simpa using h)
    rw [show 2 * (j + 1) = 2 * j + 1 + 1 from by omega]
    simpa [wideBytes] using q
theorem wide_hi (d : Value) : ∀ (cs : List Int32) (j : Nat), j < cs.length → (wideBytes cs).getD (2 * j + 1) d = .int (hi8 (cs.getD j 0))
  | [], j, h => absurd h (Nat.not_lt_zero j)
  | c :: cs, 0, _ => rfl
  | c :: cs, j + 1, h => by
    have q := wide_hi d cs j (by simpa using h)
    rw [show 2 * (j + 1) + 1 = 2 * j + 1 + 1 + 1 from by omega]
    simpa [wideBytes] using q
theorem low_at (d : Value) (cs : List Int32) (j : Nat) (h : j < cs.length) : (cs.map fun c => Value.int (lo8 c)).getD j d = .int (lo8 (cs.getD j 0)) := by
  simp [List.getD_eq_getElem?_getD, h]
/-- an array of N2 bytes vs codes the chars cs by the coder cd -/
def CodA (cs : List Int32) (cd N2 : Int32) (vs : List Value) : Prop := (cd = 0 ∧ N2 = Int32.ofNat cs.length ∧ vs = (cs.map fun c => Value.int (lo8 c)) ∧ ∀ c ∈ cs, ¬ 255 < c) ∨ (cd = 1 ∧ N2 = Int32.ofNat (2 * cs.length) ∧ vs = wideBytes cs ∧ ∃ c ∈ cs, 255 < c)
theorem CodA.cod {cs : List Int32} {cd N2 : Int32} {vs : List Value} {V : Cell} (h : CodA cs cd N2 vs) (hn : 2 * cs.length < 2 ^ 31) (hs : V.slots.size = N2.toNatClampNeg) (hv : RoadKit.Has V vs (.int 0)) : Cod cd cs.length (fun j => cs.getD j 0) V := by
  rcases h with ⟨rfl, rfl, rfl, h⟩ | ⟨rfl, rfl, rfl, c, hc, hw⟩
  · rw [n32 (by omega)] at hs
    exact Or.inl ⟨rfl, hs, fun j hj => ⟨by rw [hv j (by omega), low_at _ _ _ hj], by
      have e : cs.getD j 0 = cs[j] := by simp [List.getD_eq_getElem?_getD, hj]
      show ¬ 255 < cs.getD j 0
      rw [e]; exact h _ (List.getElem_mem _)⟩⟩
  · rw [n32 (by omega)] at hs
    obtain ⟨j, hj, rfl⟩ := List.getElem_of_mem hc
    exact Or.inr ⟨rfl, hs, fun j hj => ⟨by rw [hv _ (by omega), wide_lo _ _ _ hj], by rw [hv _ (by omega), wide_hi _ _ _ hj]⟩, j, hj, by
      have e : cs.getD j 0 = cs[j] := by simp [List.getD_eq_getElem?_getD, hj]
      show 255 < cs.getD j 0
      rw [e]; exact hw⟩
/-- an object of exactly java/lang/String, its two fields found: as the laws ask it -/
theorem strObj {Z U : State} {a0 : Array Value} {kI : Nat} (wi : (Jvm.Cond.instantiable ST kI).before a0 Z = true) (al : Z.vm.Alike U.vm) {x : Addr} {v0 c0 : Value} (E : RoadKit.Exa Z U.heap x ST) (V : RoadKit.Fld Z U.heap x ST "value" "[B" v0) (C : RoadKit.Fld Z U.heap x ST "coder" "B" c0) :
    ∃ (D : Cell) (fV fC : Field), Blank ST x D U ∧ Found ST "value" "[B" fV U ∧ Found ST "coder" "B" fC U ∧ D.slots[fV.slot]? = some v0 ∧ D.slots[fC.slot]? = some c0 ∧ RoadKit.slotOf Z ST "value" "[B" = fV.slot ∧ RoadKit.slotOf Z ST "coder" "B" = fC.slot := by
  obtain ⟨D, cfV, kV, iV, fV, hD, gV, stV, knV, obV, asV, slV⟩ := V
  obtain ⟨D', cfC, kC, iC, fC, hD', gC, stC, -, -, asC, slC⟩ := C
  cases hD.symm.trans hD'
  obtain ⟨D2, kD, e1, e2, e3, e4, e5⟩ := E
  cases hD.symm.trans e1
  obtain ⟨c2, k2, i1, i2, i3, -⟩ := Cond.instantiable_spec wi
  cases e2.symm.trans i1
  cases e3.symm.trans i2
  obtain ⟨kU, u1, u2⟩ := al.2.2 _ _ e3
  exact ⟨D, fV, fC, ⟨hD, ⟨knV, fun q hq => by rw [hq] at obV; cases obV⟩, by rw [al.findClass]; exact e2, kU, u1, by rw [u2]; exact i3, by rw [u2]; exact e5 i3⟩, ⟨SBG.found_only al ⟨cfV, kV, iV, gV⟩, stV⟩, ⟨SBG.found_only al ⟨cfC, kC, iC, gC⟩, stC⟩, slV, slC, by simp [RoadKit.slotOf, gV], by simp [RoadKit.slotOf, gC]⟩
theorem sta_is {Z U : State} (al : Z.vm.Alike U.vm) {C n d : String} {v : Value} (S : RoadKit.Sta Z U.heap C n d v) : StaticIs U C n d v := by
  obtain ⟨cfS, iS, kS, fS, st, cS, t1, t2, t3, t4, t5, t6, t7⟩ := S
  exact StaticIs.there (s := { Z with heap := U.heap }) ⟨cfS, iS, kS, fS, st, cS, t1, t2, t3, t4, t5, (fun q => by rw [q] at t6; cases t6), t7⟩ al rfl
end StrChars.Road
namespace StrChars
open Jvm Sem ClassFile Op Lib Jvm.Stand Jvm.Free.XT Jvm.Free.ALB Jvm.Free.JM Jvm.Free
open Jvm.Lib.Cold (StaticIs)
/-- what place i of a byte[]'s cell holds -/
def yv (A : Cell) (i : Nat) : Int32 := match A.slots[i]? with | some (.int x) => x | _ => 0
theorem yv_get {a : Addr} {A : Cell} {U : State} (h : XT.Arr .byte a A U) (ht : Typed .byte A) {i : Nat} (hi : i < A.slots.size) : A.slots[i]? = some (.int (yv A i)) := by
  have e := Array.getElem?_eq_getElem hi
  have f := ht i _ e
  unfold yv; rw [e]
  generalize A.slots[i] = v at f
  cases v <;> simp [fits] at f ⊢
/-- the two arrays are equal, place for place -/
def EqC (A B : Cell) : Prop := A.slots.size = B.slots.size ∧ ∀ i, i < A.slots.size → yv A i = yv B i
/-- a boolean that says whether p -/
def Says01 (q : Prop) (r : Option Value) (s u : State) : Prop := ∃ v : Int32, r = some (.int v) ∧ u.heap = s.heap ∧ ((v = 1 ∧ q) ∨ (v = 0 ∧ ¬ q))
theorem Says01.mv {q : Prop} : ∀ r (U U' V V' : State), U'.heap = U.heap → V.vm.Alike V'.vm → V'.heap = V.heap → Says01 q r U V → Says01 q r U' V' :=
  fun r U U' V V' h1 _ h2 ⟨v, a, b, c⟩ => ⟨v, a, by rw [h1, h2]; exact b, c⟩
namespace LEq
def yN : MethodName := ⟨"java/lang/StringLatin1", "equals", "([B[B)Z"⟩
abbrev yB : ByteArray := jdk_43_method_13_code
theorem d0 : decode yB 0 = .ok (.aload_n 0, 1) := by decide +kernel
theorem d1 : decode yB 1 = .ok (.arraylength, 1) := by decide +kernel
theorem d2 : decode yB 2 = .ok (.aload_n 1, 1) := by decide +kernel
theorem d3 : decode yB 3 = .ok (.arraylength, 1) := by decide +kernel
theorem d4 : decode yB 4 = .ok (.if_icmp (.ne) 30, 3) := by decide +kernel
theorem d7 : decode yB 7 = .ok (.iconst 0, 1) := by decide +kernel
theorem d8 : decode yB 8 = .ok (.istore_n 2, 1) := by decide +kernel
theorem d9 : decode yB 9 = .ok (.iload_n 2, 1) := by decide +kernel
theorem d10 : decode yB 10 = .ok (.aload_n 0, 1) := by decide +kernel
theorem d11 : decode yB 11 = .ok (.arraylength, 1) := by decide +kernel
theorem d12 : decode yB 12 = .ok (.if_icmp (.ge) 20, 3) := by decide +kernel
theorem d15 : decode yB 15 = .ok (.aload_n 0, 1) := by decide +kernel
theorem d16 : decode yB 16 = .ok (.iload_n 2, 1) := by decide +kernel
theorem d17 : decode yB 17 = .ok (.baload, 1) := by decide +kernel
theorem d18 : decode yB 18 = .ok (.aload_n 1, 1) := by decide +kernel
theorem d19 : decode yB 19 = .ok (.iload_n 2, 1) := by decide +kernel
theorem d20 : decode yB 20 = .ok (.baload, 1) := by decide +kernel
theorem d21 : decode yB 21 = .ok (.if_icmp (.eq) 5, 3) := by decide +kernel
theorem d24 : decode yB 24 = .ok (.iconst 0, 1) := by decide +kernel
theorem d25 : decode yB 25 = .ok (.ireturn, 1) := by decide +kernel
theorem d26 : decode yB 26 = .ok (.iinc 2 1, 3) := by decide +kernel
theorem d29 : decode yB 29 = .ok (.goto (-20), 3) := by decide +kernel
theorem d32 : decode yB 32 = .ok (.iconst 1, 1) := by decide +kernel
theorem d33 : decode yB 33 = .ok (.ireturn, 1) := by decide +kernel
theorem d34 : decode yB 34 = .ok (.iconst 0, 1) := by decide +kernel
theorem d35 : decode yB 35 = .ok (.ireturn, 1) := by decide +kernel
def site : List Cond := []
def tab : Cond := tabOf yN yB 3 (some .boolean) site
def P (a : Addr) (A : Cell) (b : Addr) (B : Cell) (args : Array Value) (s : State) : Prop := args = #[.ref a, .ref b] ∧ XT.Arr .byte a A s ∧ Typed .byte A ∧ XT.Arr .byte b B s ∧ Typed .byte B
/-- whether two byte[] are equal, place for place -/
theorem law (l : Launch) (a : Addr) (A : Cell) (b : Addr) (B : Cell) : Law l yN 2 2 0 0 yB 3 (some .boolean) site (P a A b B) (Says01 (EqC A B)) [] 0 0 := by
  refine Law.of_walk (plainFor_of_name (by decide +kernel)) (by decide +kernel) (by decide +kernel) (by decide) (fun _ _ h => by rw [h.1]; rfl) (fun _ U U' hal hh h => ⟨h.1, h.2.1.mv hal hh, h.2.2.1, h.2.2.2.1.mv hal hh, h.2.2.2.2⟩) (fun r U U' V V' h1 hal h2 h => Says01.mv r U U' V V' h1 hal h2 h) ?_
  intro p e s m args below meth c s₁ X0 hexec hbytes hml hret hlk hnm hown hh0 W hP
  obtain ⟨rfl, hA, tA, hB, tB⟩ := hP
  have a31 := hA.2.2.2
  have b31 := hB.2.2.2
  have hA0 := hA.mv X0.warmed.alike hh0
  have hB0 := hB.mv X0.warmed.alike hh0
  have c1 : Steps p.tables e below (s₁.setTop (entryFrame m #[.ref a, .ref b] 3)) (s₁.setTop (mkF m 0 #[.val (.ref a), .val (.ref b), .unset] [])) := entry rfl
  have c2 : Steps p.tables e below (s₁.setTop (entryFrame m #[.ref a, .ref b] 3)) (s₁.setTop (mkF m 4 #[.val (.ref a), .val (.ref b), .unset] [.int (Int32.ofNat B.slots.size), .int (Int32.ofNat A.slots.size)])) := c1.trans (by
    refine XS.aloadN X0.here hexec rfl (hb hbytes d0) rfl rfl ?_
    refine X0.alen hexec hA0 rfl rfl (hb hbytes d1) ?_
    refine XS.aloadN X0.here hexec rfl (hb hbytes d2) rfl rfl ?_
    refine X0.alen hexec hB0 rfl rfl (hb hbytes d3) ?_
    exact Steps.refl _)
  by_cases hs : A.slots.size = B.slots.size
  · have c3 : Steps p.tables e below (s₁.setTop (entryFrame m #[.ref a, .ref b] 3)) (s₁.setTop (mkF m 9 #[.val (.ref a), .val (.ref b), .val (.int 0)] [])) := c2.trans (by
      refine XS.icmpNo X0.here hexec rfl (hb hbytes d4) rfl (ii_ne_f (by rw [hs])) ?_
      refine iconstV X0.here hexec rfl 0 (hb hbytes d7) (by decide) ?_
      refine XS.istoreN X0.here hexec rfl (hb hbytes d8) rfl rfl ?_
      exact Steps.refl _)
    have loop : ∀ (r i : Nat), i + r = A.slots.size → (∀ j, j < i → yv A j = yv B j) → Steps p.tables e below (s₁.setTop (entryFrame m #[.ref a, .ref b] 3)) (s₁.setTop (mkF m 9 #[.val (.ref a), .val (.ref b), .val (.int (Int32.ofNat i))] [])) → ∃ (pc : Nat) (Ls : Array Slot) (v : Int32), (pc = 25 ∨ pc = 33) ∧ ((v = 1 ∧ EqC A B) ∨ (v = 0 ∧ ¬ EqC A B)) ∧ Steps p.tables e below (s₁.setTop (entryFrame m #[.ref a, .ref b] 3)) (s₁.setTop (mkF m pc Ls [.int v])) := by
      intro r
      induction r with
      | zero =>
        intro i hi he cl
        exact ⟨33, _, 1, Or.inr rfl, Or.inl ⟨rfl, hs, fun j hj => he j (by omega)⟩, cl.trans (by
          refine XS.iloadN X0.here hexec rfl (hb hbytes d9) rfl ?_
          refine XS.aloadN X0.here hexec rfl (hb hbytes d10) rfl rfl ?_
          refine X0.alen hexec hA0 rfl rfl (hb hbytes d11) ?_
          refine XS.icmpYes X0.here hexec rfl (pc0 := 12) rfl (hb hbytes d12) rfl (ii_ge_t (nlt32 (by omega) (by omega))) (by decide) rfl ?_
          refine iconstV X0.here hexec rfl 1 (hb hbytes d32) (by decide) ?_
          exact Steps.refl _)⟩
      | succ r ih =>
        intro i hi he cl
        have c4 : Steps p.tables e below (s₁.setTop (entryFrame m #[.ref a, .ref b] 3)) (s₁.setTop (mkF m 21 #[.val (.ref a), .val (.ref b), .val (.int (Int32.ofNat i))] [.int (yv B i), .int (yv A i)])) := cl.trans (by
          refine XS.iloadN X0.here hexec rfl (hb hbytes d9) rfl ?_
          refine XS.aloadN X0.here hexec rfl (hb hbytes d10) rfl rfl ?_
          refine X0.alen hexec hA0 rfl rfl (hb hbytes d11) ?_
          refine XS.icmpNo X0.here hexec rfl (hb hbytes d12) rfl (ii_ge_f (lt32 (by omega) (by omega))) ?_
          refine XS.aloadN X0.here hexec rfl (hb hbytes d15) rfl rfl ?_
          refine XS.iloadN X0.here hexec rfl (hb hbytes d16) rfl ?_
          refine X0.aget hexec hA0 rfl (yv_get hA tA (i := i) (by omega)) rfl rfl (hb hbytes d17) ?_
          refine XS.aloadN X0.here hexec rfl (hb hbytes d18) rfl rfl ?_
          refine XS.iloadN X0.here hexec rfl (hb hbytes d19) rfl ?_
          refine X0.aget hexec hB0 rfl (yv_get hB tB (i := i) (by omega)) rfl rfl (hb hbytes d20) ?_
          exact Steps.refl _)
        by_cases hv : yv A i = yv B i
        · have c5 : Steps p.tables e below (s₁.setTop (entryFrame m #[.ref a, .ref b] 3)) (s₁.setTop (mkF m 9 #[.val (.ref a), .val (.ref b), .val (.int (Int32.ofNat i + 1))] [])) := c4.trans (by
            refine XS.icmpYes X0.here hexec rfl (pc0 := 21) rfl (hb hbytes d21) rfl (ii_eq_t hv) (by decide) rfl ?_
            refine iincV X0.here hexec rfl 1 (hb hbytes d26) (by decide) rfl rfl ?_
            refine XS.goto X0.here hexec rfl (pc0 := 29) rfl (hb hbytes d29) (by decide) rfl ?_
            exact Steps.refl _)
          rw [succ32] at c5
          exact ih (i + 1) (by omega) (fun j hj => by
            by_cases e : j = i
            · rw [e]; exact hv
            · exact he j (by omega)) c5
        · exact ⟨25, _, 0, Or.inl rfl, Or.inr ⟨rfl, fun q => hv (q.2 i (by omega))⟩, c4.trans (by
            refine XS.icmpNo X0.here hexec rfl (hb hbytes d21) rfl (ii_eq_f hv) ?_
            refine iconstV X0.here hexec rfl 0 (hb hbytes d24) (by decide) ?_
            exact Steps.refl _)⟩
    obtain ⟨pc, Ls, v, hpc, hv, cz⟩ := loop A.slots.size 0 (by omega) (fun j hj => absurd hj (Nat.not_lt_zero j)) c3
    have nv : narrow .boolean (.int v) = .int v := by rcases hv with ⟨rfl, -⟩ | ⟨rfl, -⟩ <;> rfl
    rcases hpc with rfl | rfl
    · exact ⟨s₁, some (.int v), _, _, _, X0, rfl, rfl, rfl, (fun h => by cases h), ⟨v, rfl, hh0, hv⟩, fun fs hl => cz.trans (X0.ireturnOut hexec hret nv (Or.inr (Or.inl rfl)) (hb hbytes d25) hl)⟩
    · exact ⟨s₁, some (.int v), _, _, _, X0, rfl, rfl, rfl, (fun h => by cases h), ⟨v, rfl, hh0, hv⟩, fun fs hl => cz.trans (X0.ireturnOut hexec hret nv (Or.inr (Or.inl rfl)) (hb hbytes d33) hl)⟩
  · have c3 : Steps p.tables e below (s₁.setTop (entryFrame m #[.ref a, .ref b] 3)) (s₁.setTop (mkF m 35 #[.val (.ref a), .val (.ref b), .unset] [.int 0])) := c2.trans (by
      refine XS.icmpYes X0.here hexec rfl (pc0 := 4) rfl (hb hbytes d4) rfl (ii_ne_t (ne32 a31 b31 hs)) (by decide) rfl ?_
      refine iconstV X0.here hexec rfl 0 (hb hbytes d34) (by decide) ?_
      exact Steps.refl _)
    exact ⟨s₁, some (.int 0), _, _, _, X0, rfl, rfl, rfl, (fun h => by cases h), ⟨0, rfl, hh0, Or.inr ⟨rfl, fun q => hs q.1⟩⟩, fun fs hl => c3.trans (X0.ireturnOut hexec hret rfl (Or.inr (Or.inl rfl)) (hb hbytes d35) hl)⟩
end LEq
theorem Cod.ty {cd : Int32} {n : Nat} {f : Nat → Int32} {V : Cell} (h : Cod cd n f V) : Typed .byte V := fun i v hv => by
  have hi : i < V.slots.size := (Array.getElem?_eq_some_iff.mp hv).1
  rcases h with ⟨-, k1, k2⟩ | ⟨-, k1, k2, -⟩
  · rw [(k2 i (by omega)).1] at hv; cases hv; exact fits_lo8 _
  · rcases Nat.mod_two_eq_zero_or_one i with e | e
    · obtain ⟨j, rfl⟩ : ∃ j, i = 2 * j := ⟨i / 2, by omega⟩
      rw [(k2 j (by omega)).1] at hv; cases hv; exact fits_lo8 _
    · obtain ⟨j, rfl⟩ : ∃ j, i = 2 * j + 1 := ⟨i / 2, by omega⟩
      rw [(k2 j (by omega)).2] at hv; cases hv; exact fits_lo8 _
/-- the same text -/
def SameT (n : Nat) (f : Nat → Int32) (k : Nat) (g : Nat → Int32) : Prop := n = k ∧ ∀ j, j < n → f j = g j
theorem lo8_inj {x y : Int32} (h0 : ¬ x < 0) (h1 : ¬ 255 < x) (k0 : ¬ y < 0) (k1 : ¬ 255 < y) (h : lo8 x = lo8 y) : x = y := by
  rw [← lo8_mask h0 h1, ← lo8_mask k0 k1, h]
/-- arrays coded by one coder are equal just where the texts are -/
theorem Cod.eqv {cd : Int32} {n k : Nat} {f g : Nat → Int32} {V V' : Cell} (h : Cod cd n f V) (h' : Cod cd k g V') (hf : ∀ j, j < n → ¬ f j < 0 ∧ ¬ 65535 < f j) (hg : ∀ j, j < k → ¬ g j < 0 ∧ ¬ 65535 < g j) : EqC V V' ↔ SameT n f k g := by
  have yvv : ∀ {W : Cell} {i : Nat} {x : Int32}, W.slots[i]? = some (.int x) → yv W i = x := fun q => by unfold yv; rw [q]
  rcases h with ⟨rfl, k1, k2⟩ | ⟨rfl, k1, k2, -⟩
  · rcases h' with ⟨-, m1, m2⟩ | ⟨e, -⟩
    · constructor
      · rintro ⟨e1, e2⟩
        refine ⟨by omega, fun j hj => ?_⟩
        have q := e2 j (by omega)
        rw [yvv (k2 j hj).1, yvv (m2 j (by omega)).1] at q
        exact lo8_inj (hf j hj).1 (k2 j hj).2 (hg j (by omega)).1 (m2 j (by omega)).2 q
      · rintro ⟨rfl, e2⟩
        refine ⟨by omega, fun j hj => ?_⟩
        rw [yvv (k2 j (by omega)).1, yvv (m2 j (by omega)).1, e2 j (by omega)]
    · exact absurd e (by decide)
  · rcases h' with ⟨e, -⟩ | ⟨-, m1, m2, -⟩
    · exact absurd e (by decide)
    · constructor
      · rintro ⟨e1, e2⟩
        refine ⟨by omega, fun j hj => ?_⟩
        have q1 := e2 (2 * j) (by omega)
        have q2 := e2 (2 * j + 1) (by omega)
        rw [yvv (k2 j hj).1, yvv (m2 j (by omega)).1] at q1
        rw [yvv (k2 j hj).2, yvv (m2 j (by omega)).2] at q2
        rw [← pair_says (hf j hj).1 (hf j hj).2, ← pair_says (hg j (by omega)).1 (hg j (by omega)).2, q1, q2]
      · rintro ⟨rfl, e2⟩
        refine ⟨by omega, fun i hi => ?_⟩
        rcases Nat.mod_two_eq_zero_or_one i with e | e
        · obtain ⟨j, rfl⟩ : ∃ j, i = 2 * j := ⟨i / 2, by omega⟩
          rw [yvv (k2 j (by omega)).1, yvv (m2 j (by omega)).1, e2 j (by omega)]
        · obtain ⟨j, rfl⟩ : ∃ j, i = 2 * j + 1 := ⟨i / 2, by omega⟩
          rw [yvv (k2 j (by omega)).2, yvv (m2 j (by omega)).2, e2 j (by omega)]
/-- two codings differ: so do the texts -/
theorem Cod.dif {cd cd' : Int32} {n k : Nat} {f g : Nat → Int32} {V V' : Cell} (h : Cod cd n f V) (h' : Cod cd' k g V') (hne : ¬ cd = cd') : ¬ SameT n f k g := by
  rintro ⟨rfl, e⟩
  rcases h with ⟨rfl, -, k2⟩ | ⟨rfl, -, -, j, hj, hw⟩
  · rcases h' with ⟨rfl, -⟩ | ⟨-, -, -, j, hj, hw⟩
    · exact hne rfl
    · exact (k2 j hj).2 (by rw [e j hj]; exact hw)
  · rcases h' with ⟨-, -, m2⟩ | ⟨rfl, -⟩
    · exact (m2 j hj).2 (by rw [← e j hj]; exact hw)
    · exact hne rfl
/-- an object of exactly C is an instance of C -/
theorem cinst {p : Program} {l : Launch} {e : Env} {R : Room} {s : State} {m : MethodId} {args : Array Value} {below : List Frame} {meth : Method} {c : Code} {T : State} {locs : List Loc} {cells slots : Nat} (X : Stand p l e R s m args below meth c T locs cells slots) (hexec : p.tables.exec = Jvm.exec) {own C : String} {index : Nat} (hown : s.vm.findClass own = some m.cls) (hlink : (Cond.classLink own index C).before args s = true) {a : Addr} (hE : Exact C a T)
    {g : JFrame} (hg : g.method = m) {rest : List Value} (hstack : g.stack = .ref a :: rest) (hdg : decode c.code g.pc = .ok (.instanceof index, 3)) :
    ∃ T', Stand p l e R s m args below meth c T' locs cells slots ∧ T'.heap = T.heap ∧ ∀ target, Steps p.tables e below (T'.setTop { g with pc := g.pc + 3, stack := .int 1 :: rest }) target → Steps p.tables e below (T.setTop g) target := by
  obtain ⟨cB, h1, D, h2, h3, h4⟩ := hE
  have h1' : s.vm.findClass C = some cB := by rw [← X.warmed.alike.findClass]; exact h1
  obtain ⟨vm', X', st⟩ := X.instanceofYes hexec hown hlink h2 h4 h1' (by rw [h3]; exact Jvm.Free.SB.assignable_self _ _) hg hstack hdg
  exact ⟨_, X', rfl, st⟩
theorem cself {p : Program} {l : Launch} {e : Env} {R : Room} {s : State} {m : MethodId} {args : Array Value} {below : List Frame} {meth : Method} {c : Code} {T : State} {locs : List Loc} {cells slots : Nat} (X : Stand p l e R s m args below meth c T locs cells slots) (hexec : p.tables.exec = Jvm.exec) {own C : String} {index : Nat} (hown : s.vm.findClass own = some m.cls) (hlink : (Cond.classLink own index C).before args s = true) {a : Addr} (hE : Exact C a T)
    {g : JFrame} (hg : g.method = m) {rest : List Value} (hstack : g.stack = .ref a :: rest) (hdg : decode c.code g.pc = .ok (.checkcast index, 3)) :
    ∃ T', Stand p l e R s m args below meth c T' locs cells slots ∧ T'.heap = T.heap ∧ ∀ target, Steps p.tables e below (T'.setTop { g with pc := g.pc + 3, stack := .ref a :: rest }) target → Steps p.tables e below (T.setTop g) target := by
  obtain ⟨cB, h1, D, h2, h3, h4⟩ := hE
  have h1' : s.vm.findClass C = some cB := by rw [← X.warmed.alike.findClass]; exact h1
  obtain ⟨vm', X', st⟩ := X.checkcastYes hexec hown hlink h2 h4 h1' (by rw [h3]; exact Jvm.Free.SB.assignable_self _ _) hg hstack hdg
  exact ⟨_, X', rfl, fun t h => st t (by rw [← hstack] at h; exact h)⟩
namespace SEq
def yN : MethodName := ⟨"java/lang/String", "equals", "(Ljava/lang/Object;)Z"⟩
abbrev yB : ByteArray := jdk_42_method_66_code
theorem d0 : decode yB 0 = .ok (.aload_n 0, 1) := by decide +kernel
theorem d1 : decode yB 1 = .ok (.aload_n 1, 1) := by decide +kernel
theorem d2 : decode yB 2 = .ok (.if_acmp (.ne) 5, 3) := by decide +kernel
theorem d5 : decode yB 5 = .ok (.iconst 1, 1) := by decide +kernel
theorem d6 : decode yB 6 = .ok (.ireturn, 1) := by decide +kernel
theorem d7 : decode yB 7 = .ok (.aload_n 1, 1) := by decide +kernel
theorem d8 : decode yB 8 = .ok (.instanceof 10, 3) := by decide +kernel
theorem d11 : decode yB 11 = .ok (.ifCond (.eq) 43, 3) := by decide +kernel
theorem d14 : decode yB 14 = .ok (.aload_n 1, 1) := by decide +kernel
theorem d15 : decode yB 15 = .ok (.checkcast 10, 3) := by decide +kernel
theorem d18 : decode yB 18 = .ok (.astore_n 2, 1) := by decide +kernel
theorem d19 : decode yB 19 = .ok (.getstatic 38, 3) := by decide +kernel
theorem d22 : decode yB 22 = .ok (.ifCond (.eq) 14, 3) := by decide +kernel
theorem d25 : decode yB 25 = .ok (.aload_n 0, 1) := by decide +kernel
theorem d26 : decode yB 26 = .ok (.getfield 15, 3) := by decide +kernel
theorem d29 : decode yB 29 = .ok (.aload_n 2, 1) := by decide +kernel
theorem d30 : decode yB 30 = .ok (.getfield 15, 3) := by decide +kernel
theorem d33 : decode yB 33 = .ok (.if_icmp (.ne) 21, 3) := by decide +kernel
theorem d36 : decode yB 36 = .ok (.aload_n 0, 1) := by decide +kernel
theorem d37 : decode yB 37 = .ok (.getfield 9, 3) := by decide +kernel
theorem d40 : decode yB 40 = .ok (.aload_n 2, 1) := by decide +kernel
theorem d41 : decode yB 41 = .ok (.getfield 9, 3) := by decide +kernel
theorem d44 : decode yB 44 = .ok (.invokestatic 541, 3) := by decide +kernel
theorem d47 : decode yB 47 = .ok (.ifCond (.eq) 7, 3) := by decide +kernel
theorem d50 : decode yB 50 = .ok (.iconst 1, 1) := by decide +kernel
theorem d51 : decode yB 51 = .ok (.goto 4, 3) := by decide +kernel
theorem d54 : decode yB 54 = .ok (.iconst 0, 1) := by decide +kernel
theorem d55 : decode yB 55 = .ok (.ireturn, 1) := by decide +kernel
def site : List Cond := [.classLink "java/lang/String" 10 "java/lang/String", .fieldLink "java/lang/String" 38 "java/lang/String" "COMPACT_STRINGS" "Z", .fieldLink "java/lang/String" 15 "java/lang/String" "coder" "B", .fieldLink "java/lang/String" 9 "java/lang/String" "value" "[B", LEq.tab] ++ staticW "java/lang/String" 541 LEq.yN
def tab : Cond := tabOf yN yB 3 (some .boolean) site
def P (x t : Addr) (V : Cell) (cd : Int32) (n : Nat) (f : Nat → Int32) (y t' : Addr) (V' : Cell) (cd' : Int32) (k : Nat) (g : Nat → Int32) (z : Int32) (args : Array Value) (s : State) : Prop := args = #[.ref x, .ref y] ∧ Txt x t V cd n f s ∧ Txt y t' V' cd' k g s ∧ StaticIs s "java/lang/String" "COMPACT_STRINGS" "Z" (.int z) ∧ ¬ z = 0
/-- equals(Object) of two Strings: whether the texts are the same -/
theorem law (l : Launch) (x t : Addr) (V : Cell) (cd : Int32) (n : Nat) (f : Nat → Int32) (y t' : Addr) (V' : Cell) (cd' : Int32) (k : Nat) (g : Nat → Int32) (z : Int32) : Law l yN 2 1 1 14 yB 3 (some .boolean) site (P x t V cd n f y t' V' cd' k g z) (Says01 (SameT n f k g)) [] 0 0 := by
  refine Law.of_walk (plainFor_of_name (by decide +kernel)) (by decide +kernel) (by decide +kernel) (by decide) (fun _ _ h => by rw [h.1]; rfl) (fun _ U U' hal hh h => ⟨h.1, h.2.1.mv hal hh, h.2.2.1.mv hal hh, h.2.2.2.1.there hal hh, h.2.2.2.2⟩) (fun r U U' V V' h1 hal h2 h => Says01.mv r U U' V V' h1 hal h2 h) ?_
  intro p e s m args below meth c s₁ X0 hexec hbytes hml hret hlk hnm hown hh0 W hP
  obtain ⟨rfl, hx, hy, s1, hz⟩ := hP
  have c1 : Steps p.tables e below (s₁.setTop (entryFrame m #[.ref x, .ref y] 3)) (s₁.setTop (mkF m 2 #[.val (.ref x), .val (.ref y), .unset] [.ref y, .ref x])) := Steps.trans (entry rfl) (by
    show Steps p.tables e below (s₁.setTop (mkF m 0 #[.val (.ref x), .val (.ref y), .unset] [])) _
    refine XS.aloadN X0.here hexec rfl (hb hbytes d0) rfl rfl ?_
    refine XS.aloadN X0.here hexec rfl (hb hbytes d1) rfl rfl ?_
    exact Steps.refl _)
  by_cases hxy : x = y
  · have c2 : Steps p.tables e below (s₁.setTop (entryFrame m #[.ref x, .ref y] 3)) (s₁.setTop (mkF m 6 #[.val (.ref x), .val (.ref y), .unset] [.int 1])) := c1.trans (by
      refine acmpNo X0.here hexec rfl (hb hbytes d2) rfl rfl rfl (by simp [acmp, hxy]) ?_
      refine iconstV X0.here hexec rfl 1 (hb hbytes d5) (by decide) ?_
      exact Steps.refl _)
    subst hxy
    have ec : cd = cd' := by
      obtain ⟨D, fd, a1, a2, a3⟩ := hx.2.2.1
      obtain ⟨D', fd', b1, b2, b3⟩ := hy.2.2.1
      cases a1.symm.trans b1
      obtain ⟨q1, q2, q3, q4⟩ := a2.1
      obtain ⟨r1, r2, r3, r4⟩ := b2.1
      cases q4.symm.trans r4
      cases a3.symm.trans b3; rfl
    have et : t = t' := by
      obtain ⟨D, fd, a1, a2, a3⟩ := hx.2.1
      obtain ⟨D', fd', b1, b2, b3⟩ := hy.2.1
      cases a1.symm.trans b1
      obtain ⟨q1, q2, q3, q4⟩ := a2.1
      obtain ⟨r1, r2, r3, r4⟩ := b2.1
      cases q4.symm.trans r4
      cases a3.symm.trans b3; rfl
    subst ec et
    have ev : V = V' := by cases hx.2.2.2.1.1.symm.trans hy.2.2.2.1.1; rfl
    subst ev
    have hs : SameT n f k g := (Cod.eqv hx.2.2.2.2.1 hy.2.2.2.2.1 hx.2.2.2.2.2 hy.2.2.2.2.2).mp ⟨rfl, fun _ _ => rfl⟩
    exact ⟨s₁, some (.int 1), _, _, _, X0, rfl, rfl, rfl, (fun h => by cases h), ⟨1, rfl, hh0, Or.inl ⟨rfl, hs⟩⟩, fun fs hl => c2.trans (X0.ireturnOut hexec hret rfl (Or.inr (Or.inl rfl)) (hb hbytes d6) hl)⟩
  · have c2 : Steps p.tables e below (s₁.setTop (entryFrame m #[.ref x, .ref y] 3)) (s₁.setTop (mkF m 8 #[.val (.ref x), .val (.ref y), .unset] [.ref y])) := c1.trans (by
      refine acmpYes X0.here hexec rfl (pc0 := 2) rfl (hb hbytes d2) rfl rfl rfl (by simp [acmp, hxy]) (by decide) rfl ?_
      refine XS.aloadN X0.here hexec rfl (hb hbytes d7) rfl rfl ?_
      exact Steps.refl _)
    obtain ⟨T3, X3, q3, st3⟩ := cinst X0 hexec hown (wk W (.classLink "java/lang/String" 10 "java/lang/String")) (hy.mv X0.warmed.alike hh0).1 (g := (mkF m 8 #[.val (.ref x), .val (.ref y), .unset] [.ref y])) rfl (rest := []) rfl (hb hbytes d8)
    have hh3 := q3.trans hh0
    have c4 : Steps p.tables e below (s₁.setTop (entryFrame m #[.ref x, .ref y] 3)) (T3.setTop (mkF m 15 #[.val (.ref x), .val (.ref y), .unset] [.ref y])) := (c2.trans (st3 _ (Steps.refl _))).trans (by
      refine XS.ifNo X3.here hexec rfl (hb hbytes d11) rfl (i0_eq_f (by decide)) ?_
      refine XS.aloadN X3.here hexec rfl (hb hbytes d14) rfl rfl ?_
      exact Steps.refl _)
    obtain ⟨T5, X5, q5, st5⟩ := cself X3 hexec hown (wk W (.classLink "java/lang/String" 10 "java/lang/String")) (hy.mv X3.warmed.alike hh3).1 (g := (mkF m 15 #[.val (.ref x), .val (.ref y), .unset] [.ref y])) rfl (rest := []) rfl (hb hbytes d15)
    have hh5 := q5.trans hh3
    have c6 : Steps p.tables e below (s₁.setTop (entryFrame m #[.ref x, .ref y] 3)) (T5.setTop (mkF m 19 #[.val (.ref x), .val (.ref y), .val (.ref y)] [])) := (c4.trans (st5 _ (Steps.refl _))).trans (by
      refine XS.astoreN X5.here hexec rfl (hb hbytes d18) rfl rfl rfl ?_
      exact Steps.refl _)
    obtain ⟨T7, X7, q7, st7⟩ := X5.sget hexec hown (wk W (.fieldLink "java/lang/String" 38 "java/lang/String" "COMPACT_STRINGS" "Z")) s1 (fun _ _ h => by rw [hh5]; exact h) (g := (mkF m 19 #[.val (.ref x), .val (.ref y), .val (.ref y)] [])) rfl (hb hbytes d19)
    have hh7 := q7.trans hh5
    have c8 : Steps p.tables e below (s₁.setTop (entryFrame m #[.ref x, .ref y] 3)) (T7.setTop (mkF m 26 #[.val (.ref x), .val (.ref y), .val (.ref y)] [.ref x])) := (c6.trans (st7 _ (Steps.refl _))).trans (by
      refine XS.ifNo X7.here hexec rfl (hb hbytes d22) rfl (i0_eq_f hz) ?_
      refine XS.aloadN X7.here hexec rfl (hb hbytes d25) rfl rfl ?_
      exact Steps.refl _)
    obtain ⟨T9, X9, q9, st9⟩ := X7.hget hexec hown (wk W (.fieldLink "java/lang/String" 15 "java/lang/String" "coder" "B")) (hx.mv X7.warmed.alike hh7).2.2.1 (g := (mkF m 26 #[.val (.ref x), .val (.ref y), .val (.ref y)] [.ref x])) rfl (rest := []) rfl (hb hbytes d26)
    have hh9 := q9.trans hh7
    have c10 : Steps p.tables e below (s₁.setTop (entryFrame m #[.ref x, .ref y] 3)) (T9.setTop (mkF m 30 #[.val (.ref x), .val (.ref y), .val (.ref y)] [.ref y, .int cd])) := (c8.trans (st9 _ (Steps.refl _))).trans (by
      refine XS.aloadN X9.here hexec rfl (hb hbytes d29) rfl rfl ?_
      exact Steps.refl _)
    obtain ⟨T11, X11, q11, st11⟩ := X9.hget hexec hown (wk W (.fieldLink "java/lang/String" 15 "java/lang/String" "coder" "B")) (hy.mv X9.warmed.alike hh9).2.2.1 (g := (mkF m 30 #[.val (.ref x), .val (.ref y), .val (.ref y)] [.ref y, .int cd])) rfl (rest := [.int cd]) rfl (hb hbytes d30)
    have hh11 := q11.trans hh9
    have c12 : Steps p.tables e below (s₁.setTop (entryFrame m #[.ref x, .ref y] 3)) (T11.setTop (mkF m 33 #[.val (.ref x), .val (.ref y), .val (.ref y)] [.int cd', .int cd])) := c10.trans (st11 _ (Steps.refl _))
    by_cases hcd : cd = cd'
    · subst hcd
      have c13 : Steps p.tables e below (s₁.setTop (entryFrame m #[.ref x, .ref y] 3)) (T11.setTop (mkF m 37 #[.val (.ref x), .val (.ref y), .val (.ref y)] [.ref x])) := c12.trans (by
        refine XS.icmpNo X11.here hexec rfl (hb hbytes d33) rfl (ii_ne_f rfl) ?_
        refine XS.aloadN X11.here hexec rfl (hb hbytes d36) rfl rfl ?_
        exact Steps.refl _)
      obtain ⟨T14, X14, q14, st14⟩ := X11.hget hexec hown (wk W (.fieldLink "java/lang/String" 9 "java/lang/String" "value" "[B")) (hx.mv X11.warmed.alike hh11).2.1 (g := (mkF m 37 #[.val (.ref x), .val (.ref y), .val (.ref y)] [.ref x])) rfl (rest := []) rfl (hb hbytes d37)
      have hh14 := q14.trans hh11
      have c15 : Steps p.tables e below (s₁.setTop (entryFrame m #[.ref x, .ref y] 3)) (T14.setTop (mkF m 41 #[.val (.ref x), .val (.ref y), .val (.ref y)] [.ref y, .ref t])) := (c13.trans (st14 _ (Steps.refl _))).trans (by
        refine XS.aloadN X14.here hexec rfl (hb hbytes d40) rfl rfl ?_
        exact Steps.refl _)
      obtain ⟨T16, X16, q16, st16⟩ := X14.hget hexec hown (wk W (.fieldLink "java/lang/String" 9 "java/lang/String" "value" "[B")) (hy.mv X14.warmed.alike hh14).2.1 (g := (mkF m 41 #[.val (.ref x), .val (.ref y), .val (.ref y)] [.ref y, .ref t])) rfl (rest := [.ref t]) rfl (hb hbytes d41)
      have hh16 := q16.trans hh14
      have c17 : Steps p.tables e below (s₁.setTop (entryFrame m #[.ref x, .ref y] 3)) (T16.setTop (mkF m 44 #[.val (.ref x), .val (.ref y), .val (.ref y)] [.ref t', .ref t])) := c15.trans (st16 _ (Steps.refl _))
      obtain ⟨v18, T18, X18, E18, g18⟩ := X16.callS hexec (LEq.law l t V t' V') hown (wks W (staticW "java/lang/String" 541 LEq.yN)) (wk W LEq.tab) (W := 0) (Nat.le_of_ble_eq_true rfl) (Nat.le_of_ble_eq_true rfl) (Nat.le_refl _) (Nat.le_refl _) (g := (mkF m 44 #[.val (.ref x), .val (.ref y), .val (.ref y)] [.ref t', .ref t])) rfl (by rw [hml]; rfl) c17 (argsL := [.ref t, .ref t']) (rest := []) rfl rfl (by show 2 * 0 + 0 ≤ _; decide) (hb hbytes d44) (⟨rfl, hx.2.2.2.1.mv X16.warmed.alike hh16, hx.2.2.2.2.1.ty, hy.2.2.2.1.mv X16.warmed.alike hh16, hy.2.2.2.2.1.ty⟩)
      obtain ⟨v, rfl, q18, hv⟩ := E18
      have iff := Cod.eqv hx.2.2.2.2.1 hy.2.2.2.2.1 hx.2.2.2.2.2 hy.2.2.2.2.2
      rcases hv with ⟨rfl, he⟩ | ⟨rfl, he⟩
      · have c19 : Steps p.tables e below (s₁.setTop (entryFrame m #[.ref x, .ref y] 3)) (T18.setTop (mkF m 55 #[.val (.ref x), .val (.ref y), .val (.ref y)] [.int 1])) := Steps.trans g18 (by
          refine XS.ifNo X18.here hexec rfl (hb hbytes d47) rfl (i0_eq_f (by decide)) ?_
          refine iconstV X18.here hexec rfl 1 (hb hbytes d50) (by decide) ?_
          refine XS.goto X18.here hexec rfl (pc0 := 51) rfl (hb hbytes d51) (by decide) rfl ?_
          exact Steps.refl _)
        exact ⟨T18, some (.int 1), _, _, _, X18, rfl, rfl, rfl, (fun h => by cases h), ⟨1, rfl, q18.trans hh16, Or.inl ⟨rfl, iff.mp he⟩⟩, fun fs hl => c19.trans (X18.ireturnOut hexec hret rfl (Or.inr (Or.inl rfl)) (hb hbytes d55) hl)⟩
      · have c19 : Steps p.tables e below (s₁.setTop (entryFrame m #[.ref x, .ref y] 3)) (T18.setTop (mkF m 55 #[.val (.ref x), .val (.ref y), .val (.ref y)] [.int 0])) := Steps.trans g18 (by
          refine XS.ifYes X18.here hexec rfl (pc0 := 47) rfl (hb hbytes d47) rfl (i0_eq_t rfl) (by decide) rfl ?_
          refine iconstV X18.here hexec rfl 0 (hb hbytes d54) (by decide) ?_
          exact Steps.refl _)
        exact ⟨T18, some (.int 0), _, _, _, X18, rfl, rfl, rfl, (fun h => by cases h), ⟨0, rfl, q18.trans hh16, Or.inr ⟨rfl, fun q => he (iff.mpr q)⟩⟩, fun fs hl => c19.trans (X18.ireturnOut hexec hret rfl (Or.inr (Or.inl rfl)) (hb hbytes d55) hl)⟩
    · have c13 : Steps p.tables e below (s₁.setTop (entryFrame m #[.ref x, .ref y] 3)) (T11.setTop (mkF m 55 #[.val (.ref x), .val (.ref y), .val (.ref y)] [.int 0])) := c12.trans (by
        refine XS.icmpYes X11.here hexec rfl (pc0 := 33) rfl (hb hbytes d33) rfl (ii_ne_t hcd) (by decide) rfl ?_
        refine iconstV X11.here hexec rfl 0 (hb hbytes d54) (by decide) ?_
        exact Steps.refl _)
      exact ⟨T11, some (.int 0), _, _, _, X11, rfl, rfl, rfl, (fun h => by cases h), ⟨0, rfl, hh11, Or.inr ⟨rfl, Cod.dif hx.2.2.2.2.1 hy.2.2.2.2.1 hcd⟩⟩, fun fs hl => c13.trans (X11.ireturnOut hexec hret rfl (Or.inr (Or.inl rfl)) (hb hbytes d55) hl)⟩
theorem pays {l : Launch} {R : Room} {p : Program} {e : Env} {below : List Frame} {s : State} {sargs : Array Value} {len W : Nat} (x t : Addr) (V : Cell) (cd : Int32) (n : Nat) (f : Nat → Int32) (y t' : Addr) (V' : Cell) (cd' : Int32) (k : Nat) (g : Nat → Int32) (z : Int32) (htab : tab.before sargs s = true) (hfr : 2 ≤ R.frames) (hlo : W + 28 ≤ R.locals) :
    Back l R p e below s sargs yN len W (fun A₁ a₁ => A₁.cells + 0 ≤ R.cells ∧ A₁.slots + 0 ≤ R.slots ∧ P x t V cd n f y t' V' cd' k g z a₁ A₁.U) (fun A₁ _ v₁ B₁ => Says01 (SameT n f k g) v₁ A₁.U B₁.U ∧ B₁.locs = A₁.locs ++ [] ∧ B₁.cells = A₁.cells + 0 ∧ B₁.slots = A₁.slots + 0) :=
  (law l x t V cd n f y t' V' cd' k g z).pays htab hfr (by omega)
end SEq
end StrChars
namespace StrChars.Road
open Jvm Sem ClassFile Op Lib Jvm.Stand Jvm.Free Jvm.Free.XT
open Jvm.Lib.Cold (StaticIs)
/-- the words of String.equals(Object) -/
abbrev wordsEq : List Jvm.Cond := [.code SEq.yN SEq.yB 3 (some .boolean), .initialized ST, .classLink ST 10 ST, .fieldLink ST 38 ST "COMPACT_STRINGS" "Z", .fieldLink ST 15 ST "coder" "B", .fieldLink ST 9 ST "value" "[B", .methodLink ST 541 LEq.yN, .static LEq.yN, .code LEq.yN LEq.yB 3 (some .boolean), .initialized "java/lang/StringLatin1"]
theorem tabEq_of {a : Array Value} {s : State} (h : ∀ w ∈ wordsEq, w.before a s = true) : SEq.tab.before a s = true := by
  have hl : LEq.tab.before a s = true := unparts (wk h (.code LEq.yN LEq.yB 3 (some .boolean))) (wks h (.initialized LEq.yN.cls :: LEq.site))
  have q := consq hl h
  exact unparts (wk q (.code SEq.yN SEq.yB 3 (some .boolean))) (wks q (.initialized SEq.yN.cls :: SEq.site))
theorem movedEq {Z s : State} {a0 args : Array Value} (hZ : Z.Warmed39 s.vm) (hw : ∀ d ∈ wordsEq, d.before a0 Z = true) : ∀ d ∈ wordsEq, d.before args s = true := fun d hd => by
  have t : ∀ d ∈ wordsEq, (d.onTables && d.keepsFace) = true := by decide +kernel
  exact RoadKit.mv hZ (hw d hd) (t d hd)
/-- the road's facts of a String, as the laws ask it -/
theorem txt_of {Z U : State} {a0 : Array Value} {kI : Nat} (wi : (Jvm.Cond.instantiable ST kI).before a0 Z = true) (al : Z.vm.Alike U.vm) {x t : Addr} {kb : ClassId} {cs : List Int32} {cd N2 : Int32} {vs : List Value} (E : RoadKit.Exa Z U.heap x ST) (V : RoadKit.Fld Z U.heap x ST "value" "[B" (.ref t)) (C : RoadKit.Fld Z U.heap x ST "coder" "B" (.int cd)) (K : RoadKit.Arv Z U.heap t kb .byte N2 vs (.int 0)) (hc : CodA cs cd N2 vs) (hb : ∀ c ∈ cs, ¬ c < 0 ∧ ¬ (65535 : Int32) < c) (l2 : cs.length ≤ 4000) :
    ∃ A, Txt x t A cd cs.length (fun j => cs.getD j 0) U := by
  obtain ⟨A, K1, K2, K3, K4, K5, K6⟩ := K
  have hcod := hc.cod (by omega) K3 K5
  obtain ⟨D, fV, fC, hB, F1, F2, g1, g2, -, -⟩ := strObj wi al E V C
  exact ⟨A, ⟨_, hB.2.2.1, D, hB.1, rfl, by cases q : D.vm <;> first | rfl | exact absurd q (hB.2.1.2 _)⟩, Has.of hB F1 g1, Has.of hB F2 g2, ⟨K1.1, State.isArrayOf_alike al K1.2.1, K1.2.2, by rcases hcod with ⟨-, q, -⟩ | ⟨-, q, -⟩ <;> omega⟩, hcod, fun j hj => by
    have e : cs.getD j 0 = cs[j] := by simp [List.getD_eq_getElem?_getD, hj]
    show ¬ cs.getD j 0 < 0 ∧ ¬ 65535 < cs.getD j 0
    rw [e]; exact hb _ (List.getElem_mem _)⟩
theorem same_list (cs ds : List Int32) : SameT cs.length (fun j => cs.getD j 0) ds.length (fun j => ds.getD j 0) ↔ cs = ds := by
  constructor
  · rintro ⟨e, q⟩
    refine List.ext_getElem e fun j h1 h2 => ?_
    have := q j h1
    simpa [List.getD_eq_getElem?_getD, h1, h2] using this
  · rintro rfl
    exact ⟨rfl, fun _ _ => rfl⟩
/-- **equals(Object) OF TWO SUCH STRINGS**: 1 just where the chars are the same -/
theorem eqW {p : Program} {l : Launch} {e : Env} {R : Room} {s : State} {args : Array Value} {below : List Frame} {len W : Nat} {Z : State} {a0 : Array Value} {h : Heap} (hZ : Z.Warmed39 s.vm) (hw : ∀ d ∈ wordsEq, d.before a0 Z = true) {kI : Nat} (wi : (Jvm.Cond.instantiable ST kI).before a0 Z = true)
    {x t : Addr} {kb : ClassId} {cs : List Int32} {cd N2 : Int32} {vs : List Value} (E : RoadKit.Exa Z h x ST) (V : RoadKit.Fld Z h x ST "value" "[B" (.ref t)) (C : RoadKit.Fld Z h x ST "coder" "B" (.int cd)) (K : RoadKit.Arv Z h t kb .byte N2 vs (.int 0)) (hc : CodA cs cd N2 vs) (hb : ∀ c ∈ cs, ¬ c < 0 ∧ ¬ (65535 : Int32) < c) (l2 : cs.length ≤ 4000)
    {y t' : Addr} {kb' : ClassId} {ds : List Int32} {cd' N2' : Int32} {vs' : List Value} (E' : RoadKit.Exa Z h y ST) (V' : RoadKit.Fld Z h y ST "value" "[B" (.ref t')) (C' : RoadKit.Fld Z h y ST "coder" "B" (.int cd')) (K' : RoadKit.Arv Z h t' kb' .byte N2' vs' (.int 0)) (hc' : CodA ds cd' N2' vs') (hb' : ∀ c ∈ ds, ¬ c < 0 ∧ ¬ (65535 : Int32) < c) (l2' : ds.length ≤ 4000)
    {z : Int32} (S : RoadKit.Sta Z h ST "COMPACT_STRINGS" "Z" (.int z)) (hz : ¬ z = 0) (hfr : 2 ≤ R.frames) (hlo : W + 28 ≤ R.locals) :
    Back l R p e below s args (⟨"java/lang/String", "equals", "(Ljava/lang/Object;)Z"⟩ : MethodName) len W (fun P a => a = #[.ref x, .ref y] ∧ P.U.heap = h ∧ P.cells + 0 ≤ R.cells ∧ P.slots + 0 ≤ R.slots)
      (fun P _ v B => ∃ L, (((v = some (.int 1) ∧ cs = ds) ∨ (v = some (.int 0) ∧ ¬ cs = ds)) ∧ L = [] ∧ B.U.heap = h) ∧ B.locs = P.locs ++ L ∧ B.cells = P.cells + 0 ∧ B.slots = P.slots + 0) := by
  intro m meth c P g ig mk a X hg hsize hdg hW hn hp'
  obtain ⟨rfl, rfl, r1, r2⟩ := hp'
  have al : Z.vm.Alike P.U.vm := hZ.alike.trans X.warmed.alike
  obtain ⟨A, hx⟩ := txt_of wi al E V C K hc hb l2
  obtain ⟨A', hy⟩ := txt_of wi al E' V' C' K' hc' hb' l2'
  obtain ⟨v, B, X', ⟨⟨w, hv, hh, hq⟩, hl, hk, hs⟩, st⟩ := SEq.pays x t A cd cs.length (fun j => cs.getD j 0) y t' A' cd' ds.length (fun j => ds.getD j 0) z (tabEq_of (movedEq hZ hw)) hfr hlo m meth c P g ig mk _ X hg hsize hdg hW hn ⟨r1, r2, rfl, hx, hy, sta_is al S, hz⟩
  refine ⟨v, B, X', ⟨[], ⟨?_, rfl, hh⟩, hl, hk, hs⟩, st⟩
  rcases hq with ⟨rfl, q⟩ | ⟨rfl, q⟩
  · exact Or.inl ⟨hv, (same_list cs ds).mp q⟩
  · exact Or.inr ⟨hv, fun e => q ((same_list cs ds).mpr e)⟩
end StrChars.Road
namespace StrChars.Road
open Jvm Sem ClassFile Op Lib Jvm.Stand Jvm.Free Jvm.Free.XT
open Jvm.Lib.Cold (StaticIs)
/-- what backV says of its String, as the contracts of this text ask it: cs's low bytes, coder 0 -/
theorem codOf {cs : List Int32} {n : Nat} (hn : cs.length = n) (hb : ∀ c ∈ cs, ¬ 255 < c) : CodA cs 0 (Int32.ofNat n) ((cs.map lo8).map Value.int) := Or.inl ⟨rfl, by rw [hn], by simp [List.map_map, Function.comp_def], hb⟩
end StrChars.Road
end Jvm.Pilot.@@N@@
namespace Jvm.Pilot.@@N@@
open Jvm Jvm.ClassFile Sem Op Lib Jvm.Free Jvm.Stand Jvm.LawKit Jvm.RoadKit Bundle Jvm.Pilot.@@N@@.Jvm.D
def own_b (P : Prop) [Decidable P] : Int32 := if P then (1 : Int32) else (0 : Int32)
theorem own_bt {P : Prop} [Decidable P] (h : P) : own_b P = (1 : Int32) := if_pos h
theorem own_bf {P : Prop} [Decidable P] (h : ¬ P) : own_b P = (0 : Int32) := if_neg h
theorem own_btn {P : Prop} [Decidable P] (h : P) : ¬ (own_b P = (0 : Int32)) := by rw [own_bt h]; decide
theorem own_bfn {P : Prop} [Decidable P] (h : ¬ P) : ¬ (own_b P = (1 : Int32)) := by rw [own_bf h]; decide
theorem own_b_congr {P Q : Prop} [Decidable P] [Decidable Q] (h : P ↔ Q) : own_b P = own_b Q := by
  by_cases q : P
  · rw [own_bt q, own_bt (h.mp q)]
  · rw [own_bf q, own_bf fun z => q (h.mpr z)]
theorem own_eqI {args : Array Value} {s : State} {t : Term} {k : Int32} (h : (Jvm.Cond.eq t (.int k)).value args s none s [] = some true) : t.eval args s none [] s = some (.int k) := by
  obtain ⟨x, y, h1, h2, -, h4⟩ := cmp_v (Or.inl h)
  cases Option.some.inj (h2.symm.trans (Term.int_eval k))
  obtain ⟨z, rfl⟩ := h4
  rw [h1, gotT (Cond.eq_ints h1 h2) h]
theorem own_eqR {args : Array Value} {s : State} {t u : Term} {y : Addr} (hu : u.eval args s none [] s = some (.ref y)) (h : (Jvm.Cond.eq t u).value args s none s [] = some true) : t.eval args s none [] s = some (.ref y) := by
  obtain ⟨x, y', h1, h2, -, h4⟩ := cmp_v (Or.inl h)
  cases Option.some.inj (h2.symm.trans hu)
  rw [h1, gotT (eq_R h1 h2 h4.2 rfl) h]
theorem own_len {args : Array Value} {s : State} {t : Term} {a : Addr} {cl : Cell} {ty : FieldType} {k : Int32} (ev : t.eval args s none [] s = some (.ref a)) (A : Arr s s.heap a cl ty) (h : (Term.length t).eval args s none [] s = some (.int k)) : cl.slots.size < 2 ^ 31 ∧ cl.slots.size.toInt32 = k := by
  have ha : s.arrayAt? a = some cl := A.fin (Vm.Alike.refl _)
  by_cases hl : cl.slots.size < 2 ^ 31
  · rw [len_f ev ha hl] at h
    exact ⟨hl, by simpa using h⟩
  · simp [Term.eval, ev, ha, hl] at h
theorem own_eqL {args : Array Value} {s : State} {t : Term} {k : Int64} (h : (Jvm.Cond.eq t (.long k)).value args s none s [] = some true) : t.eval args s none [] s = some (.long k) := by
  obtain ⟨x, y, h1, h2, -, h4⟩ := cmp_v (Or.inl h)
  cases Option.some.inj (h2.symm.trans (long_at k))
  obtain ⟨z, rfl⟩ := h4
  rw [h1, gotT (eq_L h1 h2) h]
theorem own_chr (x : Int32) : ¬ ((x &&& (255 : Int32)).toUInt32.toUInt16.toUInt32.toInt32).toUInt32.toUInt16.toUInt32.toInt32 < 0 ∧ ¬ (255 : Int32) < ((x &&& (255 : Int32)).toUInt32.toUInt16.toUInt32.toInt32).toUInt32.toUInt16.toUInt32.toInt32 := by
  have h1 := c_and x 255 (by decide)
  have h2 := c_i2c (x &&& (255 : Int32))
  have h3 := c_i2c ((x &&& (255 : Int32)).toUInt32.toUInt16.toUInt32.toInt32)
  have e1 : (255 : Int32).toInt = 255 := by decide
  have e0 : (0 : Int32).toInt = 0 := by decide
  simp only [Int32.lt_iff_toInt_lt, e1, e0] at *
  omega
theorem own_up (cs : List Int32) (h : ∀ c ∈ cs, ¬ c < 0 ∧ ¬ (255 : Int32) < c) : ∀ c ∈ cs, ¬ c < 0 ∧ ¬ (65535 : Int32) < c := fun c hc => ⟨(h c hc).1, fun q => (h c hc).2 (by rw [Int32.lt_iff_toInt_lt] at q ⊢; have e1 : (65535 : Int32).toInt = 65535 := rfl; have e2 : (255 : Int32).toInt = 255 := rfl; omega)⟩
set_option maxRecDepth 65536 in
theorem own_hws {Z : State} {a0 : Array Value} (hw : ∀ d ∈ tables_1, d.before a0 Z = true) : ∀ d ∈ StrChars.Road.words, d.before a0 Z = true := fun d hd => hw d ((by decide +kernel : ∀ d ∈ StrChars.Road.words, d ∈ tables_1) d hd)
set_option maxRecDepth 65536 in
theorem own_heq {Z : State} {a0 : Array Value} (hw : ∀ d ∈ tables_1, d.before a0 Z = true) : ∀ d ∈ StrChars.Road.wordsEq, d.before a0 Z = true := fun d hd => hw d ((by decide +kernel : ∀ d ∈ StrChars.Road.wordsEq, d ∈ tables_1) d hd)

theorem d8_0 : decode prog_3_method_1_code 0 = .ok (.getstatic 13, 3) := by decide +kernel
theorem d8_3 : decode prog_3_method_1_code 3 = .ok (.invokevirtual 17, 3) := by decide +kernel
theorem d8_6 : decode prog_3_method_1_code 6 = .ok (.checkcast 18, 3) := by decide +kernel
theorem d8_9 : decode prog_3_method_1_code 9 = .ok (.areturn, 1) := by decide +kernel
theorem pn_com_example_kompas_kompas_eval_Label : plainName "com/example/kompas/kompas/eval/Label" = true := by first | (simp [plainName, overriddenIn]; done) | decide +kernel
theorem ef8 (m : MethodId)  : entryFrame m #[] 0 = mkF m 0 #[] [] := by first | (simp [entryFrame, mkF, argsToLocals, Value.category]; done) | rfl
def Q8 (Z : State) (st__VALUES : Addr) (k_st__VALUES : ClassId) (st_EXACT : Addr) (st_PARTIAL : Addr) (st_IRRELEVANT : Addr) (h0 : Heap) (n0 : Nat) (v : Option Value) (h : Heap) (L : List Loc) : Prop := ∃ (b : Addr), v = some (.ref b) ∧ Fr n0 L ∧ Keep h0 h [] ∧ h0.size ≤ b ∧ Exa Z h b "[Lcom/example/kompas/kompas/eval/Label;" ∧ Arv Z h b k_st__VALUES (.object "com/example/kompas/kompas/eval/Label") (3 : Int32) [(.ref st_EXACT), (.ref st_PARTIAL), (.ref st_IRRELEVANT)] .null
set_option maxRecDepth 65536 in
set_option maxHeartbeats 40000000 in
theorem rm8 (l : Launch) (Z : State) (a0 : Array Value) (hw : ∀ d ∈ tables_1, d.before a0 Z = true) (ws : List Jvm.Cond) (st__VALUES : Addr) (k_st__VALUES : ClassId) (st_EXACT : Addr) (st_PARTIAL : Addr) (st_IRRELEVANT : Addr) (h0 : Heap) (n0 : Nat) (Z0 : n0 ≤ h0.size) (O0 : Old Z n0 h0) (V_vals : Arv Z h0 st__VALUES k_st__VALUES (.object "com/example/kompas/kompas/eval/Label") (3 : Int32) [(.ref st_EXACT), (.ref st_PARTIAL), (.ref st_IRRELEVANT)] .null) (E_vals : Exa Z h0 st__VALUES "[Lcom/example/kompas/kompas/eval/Label;") (S__VALUES : Sta Z Z.heap "com/example/kompas/kompas/eval/Label" "$VALUES" "[Lcom/example/kompas/kompas/eval/Label;" (.ref st__VALUES)) :
    MetFree l (⟨"com/example/kompas/kompas/eval/Label", "values", "()[Lcom/example/kompas/kompas/eval/Label;"⟩ : MethodName) (head1 (Jvm.Cond.code (⟨"com/example/kompas/kompas/eval/Label", "values", "()[Lcom/example/kompas/kompas/eval/Label;"⟩ : MethodName) prog_3_method_1_code 0 (some (.array (.object "com/example/kompas/kompas/eval/Label"))) :: ws) ({ frames := 1, cells := 1, slots := 3, locals := 14 } : Room)) (fun a U => a = #[] ∧ Z.Warmed39 U.vm ∧ U.heap = h0) (fun _ _ _ _ _ => True) (fun _ U o U' => ∃ v L, o = .returned v ∧ Q8 Z st__VALUES k_st__VALUES st_EXACT st_PARTIAL st_IRRELEVANT h0 n0 v U'.heap L ∧ FrameEnd U o U' L ({ frames := 1, cells := 1, slots := 3, locals := 14 } : Room).cells ({ frames := 1, cells := 1, slots := 3, locals := 14 } : Room).slots) := by
  refine MetFree.of_bodySF (plainFor_of_name pn_com_example_kompas_kompas_eval_Label) hisR ?_
  intro p e s m args below meth c s₁ Bd hml0 hP hK
  obtain ⟨rfl, hZ, hh⟩ := hP
  have hx := Bd.exec
  have hby := Bd.bytes
  have hml : c.maxLocals = 0 := hml0
  have hown : s.vm.findClass "com/example/kompas/kompas/eval/Label" = some m.cls := findClass_of_methodNamed Bd.named
  have hnm := (name_of_methodNamed Bd.named Bd.method).1
  have X0 : Stand p l e ({ frames := 1, cells := 1, slots := 3, locals := 14 } : Room) s m #[] below meth c s₁ [] 0 0 := Stand.of_body Bd
  have e0 : s₁.heap = h0 := by rw [← hh, Bd.state]; rfl
  have N0 := Fr.nil n0
  have K0 : Keep h0 h0 [] := Keep.refl _ _
  have pre0 : ∀ t, Steps p.tables e below (s₁.setTop (mkF m 0 #[] [])) t → Steps p.tables e below (s₁.setTop (entryFrame m #[] 0)) t := fun t k => castTop (ef8 m ) k
  obtain ⟨T1, X1, e1, st1⟩ := getS2 X0 hx hZ hown (host := "") (Or.inl (hw _ (List.mem_of_getElem? (i := 40) rfl))) Via.refl e0 (S__VALUES.ext O0.2) (g := (mkF m 0 #[] [])) rfl (hb hby d8_0)
  obtain ⟨T2, h2, X2, e2, E2, A2, C2, st2⟩ := cloneH X1 hx hZ hown (hw _ (List.mem_of_getElem? (i := 42) rfl)) (hw _ (List.mem_of_getElem? (i := 43) rfl)) (hw _ (List.mem_of_getElem? (i := 47) rfl)) (hw _ (List.mem_of_getElem? (i := 45) rfl)) (hw _ (List.mem_of_getElem? (i := 46) rfl)) (hw _ (List.mem_of_getElem? (i := 48) rfl)) e1 (hs := []) (Arv.arh V_vals) E_vals (g := (mkF m 3 #[] [(.ref st__VALUES)])) rfl (by rw [hml]; rfl) rfl (hb hby d8_3) (by decide) (W := 0) (by show 2 * 0 + _ ≤ _; exact Nat.le_of_eq rfl) (by decide) (cap := 3) (by decide) (by decide) (by decide)
  obtain ⟨b2, g2⟩ : ∃ z, z = h0.size := ⟨_, rfl⟩
  rw [← g2] at A2 C2 st2
  have O2 : Old Z n0 h2 := O0.ext E2
  have Z2 : n0 ≤ h2.size := Nat.le_trans Z0 E2.1
  have K2 : Keep h0 h2 [] := K0.ext E2
  have g_b2 : n0 ≤ b2 := Nat.le_trans Z0 (Nat.le_of_eq g2.symm)
  have sz_b2 : h0.size ≤ b2 := Nat.le_trans K0.1 (Nat.le_of_eq g2.symm)
  have V2 : Arv Z h2 b2 k_st__VALUES (.object "com/example/kompas/kompas/eval/Label") (3 : Int32) [(.ref st_EXACT), (.ref st_PARTIAL), (.ref st_IRRELEVANT)] .null := A2
  obtain ⟨T3, X3, e3, st3⟩ := castY X2 hx hZ hown (hw _ (List.mem_of_getElem? (i := 52) rfl)) e2 (Ins.self C2) (g := (mkF m 6 #[] [(.ref b2)])) rfl rfl (hb hby d8_6)
  obtain ⟨fs, hr, hrun, hended, hW, hsame⟩ := X3.leave (v := some (.ref b2)) (fun h => by rw [Bd.returns] at h; cases h)
  refine ⟨_, _, pre0 _ ?_, hrun, hended, _, _, rfl, ?_, ⟨_, rfl⟩, hW, hsame.mono (by decide) (by decide)⟩
  · show Steps p.tables e below (s₁.setTop (mkF m 0 #[] [])) _
    refine st1 _ ?_
    show Steps p.tables e below (T1.setTop (mkF m 3 #[] [(.ref st__VALUES)])) _
    refine st2 _ ?_
    show Steps p.tables e below (T2.setTop (mkF m 6 #[] [(.ref b2)])) _
    refine st3 _ ?_
    show Steps p.tables e below (T3.setTop (mkF m 9 #[] [(.ref b2)])) _
    jvm_step X3.here [X3.here.top, hx, (hb hby d8_9), X3.method', Bd.returns, Value.isRef, FieldType.isReference]
    first | (intro acts; rw [hr _ acts rfl rfl rfl]) | rw [hr _ _ rfl rfl rfl]
    exact Steps.refl _
  · show Q8 Z st__VALUES k_st__VALUES st_EXACT st_PARTIAL st_IRRELEVANT h0 n0 _ T3.heap _
    rw [e3]
    exact ⟨b2, rfl, N0, K2, sz_b2, C2, V2⟩
theorem d11_0 : decode prog_3_method_4_code 0 = .ok (.aload_n 0, 1) := by decide +kernel
theorem d11_1 : decode prog_3_method_4_code 1 = .ok (.getfield 36, 3) := by decide +kernel
theorem d11_4 : decode prog_3_method_4_code 4 = .ok (.ireturn, 1) := by decide +kernel
theorem ef11 (m : MethodId) (tz : Addr) : entryFrame m #[(.ref tz)] 1 = mkF m 0 #[.val (.ref tz)] [] := by first | (simp [entryFrame, mkF, argsToLocals, Value.category]; done) | rfl
def Q11 (Z : State) (tz : Addr) (tz_gain : Int32) (h0 : Heap) (n0 : Nat) (v : Option Value) (h : Heap) (L : List Loc) : Prop := v = some (.int tz_gain) ∧ Fr n0 L ∧ h = h0
set_option maxRecDepth 65536 in
set_option maxHeartbeats 40000000 in
theorem rm11 (l : Launch) (Z : State) (a0 : Array Value) (hw : ∀ d ∈ tables_1, d.before a0 Z = true) (ws : List Jvm.Cond) (tz : Addr) (tz_gain : Int32) (h0 : Heap) (n0 : Nat) (Z0 : n0 ≤ h0.size) (O0 : Old Z n0 h0) (F_tz_gain : Fld Z h0 tz "com/example/kompas/kompas/eval/Label" "gain" "I" (.int tz_gain)) :
    MetFree l (⟨"com/example/kompas/kompas/eval/Label", "gain", "()I"⟩ : MethodName) (head1 (Jvm.Cond.code (⟨"com/example/kompas/kompas/eval/Label", "gain", "()I"⟩ : MethodName) prog_3_method_4_code 1 (some .int) :: ws) ({ frames := 0, cells := 0, slots := 0, locals := 0 } : Room)) (fun a U => a = #[(.ref tz)] ∧ Z.Warmed39 U.vm ∧ U.heap = h0) (fun _ _ _ _ _ => True) (fun _ U o U' => ∃ v L, o = .returned v ∧ Q11 Z tz tz_gain h0 n0 v U'.heap L ∧ FrameEnd U o U' L ({ frames := 0, cells := 0, slots := 0, locals := 0 } : Room).cells ({ frames := 0, cells := 0, slots := 0, locals := 0 } : Room).slots) := by
  refine MetFree.of_bodySF (plainFor_of_name pn_com_example_kompas_kompas_eval_Label) hisR ?_
  intro p e s m args below meth c s₁ Bd hml0 hP hK
  obtain ⟨rfl, hZ, hh⟩ := hP
  have hx := Bd.exec
  have hby := Bd.bytes
  have hml : c.maxLocals = 1 := hml0
  have hown : s.vm.findClass "com/example/kompas/kompas/eval/Label" = some m.cls := findClass_of_methodNamed Bd.named
  have hnm := (name_of_methodNamed Bd.named Bd.method).1
  have X0 : Stand p l e ({ frames := 0, cells := 0, slots := 0, locals := 0 } : Room) s m #[(.ref tz)] below meth c s₁ [] 0 0 := Stand.of_body Bd
  have e0 : s₁.heap = h0 := by rw [← hh, Bd.state]; rfl
  have N0 := Fr.nil n0
  have K0 : Keep h0 h0 [] := Keep.refl _ _
  have pre0 : ∀ t, Steps p.tables e below (s₁.setTop (mkF m 0 #[.val (.ref tz)] [])) t → Steps p.tables e below (s₁.setTop (entryFrame m #[(.ref tz)] 1)) t := fun t k => castTop (ef11 m tz) k
  obtain ⟨T4, X4, e4, st4⟩ := getF X0 hx hZ hown (host := "") (Or.inl (hw _ (List.mem_of_getElem? (i := 71) rfl))) Via.refl e0 F_tz_gain (g := (mkF m 1 #[.val (.ref tz)] [(.ref tz)])) rfl rfl (hb hby d11_1)
  obtain ⟨fs, hr, hrun, hended, hW, hsame⟩ := X4.leave (v := some (.int tz_gain)) (fun h => by rw [Bd.returns] at h; cases h)
  refine ⟨_, _, pre0 _ ?_, hrun, hended, _, _, rfl, ?_, ⟨_, rfl⟩, hW, hsame.mono (by decide) (by decide)⟩
  · show Steps p.tables e below (s₁.setTop (mkF m 0 #[.val (.ref tz)] [])) _
    refine XS.aloadN X0.here hx rfl (hb hby d11_0) rfl rfl ?_
    show Steps p.tables e below (s₁.setTop (mkF m 1 #[.val (.ref tz)] [(.ref tz)])) _
    refine st4 _ ?_
    show Steps p.tables e below (T4.setTop (mkF m 4 #[.val (.ref tz)] [(.int tz_gain)])) _
    exact retI X4 hx Bd.returns (hb hby d11_4) hr
  · show Q11 Z tz tz_gain h0 n0 _ T4.heap _
    rw [e4]
    exact ⟨rfl, N0, rfl⟩
theorem pd_0 : parseMethodDescriptor "()[Lcom/example/kompas/kompas/eval/Label;" = some ⟨[], some (.array (.object "com/example/kompas/kompas/eval/Label"))⟩ := by decide +kernel
theorem d7_0 : decode prog_3_method_5_code 0 = .ok (.invokestatic 40, 3) := by decide +kernel
theorem d7_3 : decode prog_3_method_5_code 3 = .ok (.astore_n 1, 1) := by decide +kernel
theorem d7_4 : decode prog_3_method_5_code 4 = .ok (.aload_n 1, 1) := by decide +kernel
theorem d7_5 : decode prog_3_method_5_code 5 = .ok (.arraylength, 1) := by decide +kernel
theorem d7_6 : decode prog_3_method_5_code 6 = .ok (.istore_n 2, 1) := by decide +kernel
theorem d7_7 : decode prog_3_method_5_code 7 = .ok (.iconst 0, 1) := by decide +kernel
theorem d7_8 : decode prog_3_method_5_code 8 = .ok (.istore_n 3, 1) := by decide +kernel
theorem d7_9 : decode prog_3_method_5_code 9 = .ok (.iload_n 3, 1) := by decide +kernel
theorem d7_10 : decode prog_3_method_5_code 10 = .ok (.iload_n 2, 1) := by decide +kernel
theorem d7_11 : decode prog_3_method_5_code 11 = .ok (.if_icmp .ge 29, 3) := by decide +kernel
theorem d7_14 : decode prog_3_method_5_code 14 = .ok (.aload_n 1, 1) := by decide +kernel
theorem d7_15 : decode prog_3_method_5_code 15 = .ok (.iload_n 3, 1) := by decide +kernel
theorem d7_16 : decode prog_3_method_5_code 16 = .ok (.aaload, 1) := by decide +kernel
theorem d7_17 : decode prog_3_method_5_code 17 = .ok (.astore 4, 2) := by decide +kernel
theorem d7_19 : decode prog_3_method_5_code 19 = .ok (.aload 4, 2) := by decide +kernel
theorem d7_21 : decode prog_3_method_5_code 21 = .ok (.getfield 32, 3) := by decide +kernel
theorem d7_24 : decode prog_3_method_5_code 24 = .ok (.aload_n 0, 1) := by decide +kernel
theorem pd_1 : parseMethodDescriptor "(Ljava/lang/Object;)Z" = some ⟨[(.object "java/lang/Object")], some .boolean⟩ := by decide +kernel
theorem d7_25 : decode prog_3_method_5_code 25 = .ok (.invokevirtual 44, 3) := by decide +kernel
theorem d7_28 : decode prog_3_method_5_code 28 = .ok (.ifCond .eq 6, 3) := by decide +kernel
theorem d7_31 : decode prog_3_method_5_code 31 = .ok (.aload 4, 2) := by decide +kernel
theorem d7_33 : decode prog_3_method_5_code 33 = .ok (.areturn, 1) := by decide +kernel
theorem ef7_0 (m : MethodId) (x1 : Addr) : entryFrame m #[(.ref x1)] 5 = mkF m 0 #[.val (.ref x1), .unset, .unset, .unset, .unset] [] := by first | (simp [entryFrame, mkF, argsToLocals, Value.category]; done) | rfl
def Q7_0 (Z : State) (x1 : Addr) (st__VALUES : Addr) (k_st__VALUES : ClassId) (st_EXACT : Addr) (st_PARTIAL : Addr) (st_IRRELEVANT : Addr) (st_EXACT_text : Addr) (st_EXACT_text_value : Addr) (k_st_EXACT_text_value : ClassId) (x1_value : Addr) (kx : ClassId) (st_COMPACT_STRINGS : Int32) (h0 : Heap) (n0 : Nat) (v : Option Value) (h : Heap) (L : List Loc) : Prop := v = some (.ref st_EXACT) ∧ Fr n0 L ∧ Keep h0 h []
set_option maxRecDepth 65536 in
set_option maxHeartbeats 40000000 in
theorem rm7_0 (l : Launch) (Z : State) (a0 : Array Value) (hw : ∀ d ∈ tables_1, d.before a0 Z = true) (ws : List Jvm.Cond) (x1 : Addr) (st__VALUES : Addr) (k_st__VALUES : ClassId) (st_EXACT : Addr) (st_PARTIAL : Addr) (st_IRRELEVANT : Addr) (st_EXACT_text : Addr) (st_EXACT_text_value : Addr) (k_st_EXACT_text_value : ClassId) (x1_value : Addr) (kx : ClassId) (st_COMPACT_STRINGS : Int32) (h0 : Heap) (n0 : Nat) (Z0 : n0 ≤ h0.size) (O0 : Old Z n0 h0) (V_vals : Arv Z h0 st__VALUES k_st__VALUES (.object "com/example/kompas/kompas/eval/Label") (3 : Int32) [(.ref st_EXACT), (.ref st_PARTIAL), (.ref st_IRRELEVANT)] .null) (E_vals : Exa Z h0 st__VALUES "[Lcom/example/kompas/kompas/eval/Label;") (F_st_EXACT_text : Fld Z h0 st_EXACT "com/example/kompas/kompas/eval/Label" "text" "Ljava/lang/String;" (.ref st_EXACT_text)) (E_st_EXACT_text : Exa Z h0 st_EXACT_text "java/lang/String") (F_st_EXACT_text_value : Fld Z h0 st_EXACT_text "java/lang/String" "value" "[B" (.ref st_EXACT_text_value)) (F_st_EXACT_text_coder : Fld Z h0 st_EXACT_text "java/lang/String" "coder" "B" (.int (0 : Int32))) (V_st_EXACT_text_value : Arv Z h0 st_EXACT_text_value k_st_EXACT_text_value .byte (5 : Int32) [(.int (69 : Int32)), (.int (120 : Int32)), (.int (97 : Int32)), (.int (99 : Int32)), (.int (116 : Int32))] (.int (0 : Int32))) (E_x1 : Exa Z h0 x1 "java/lang/String") (F_x1_value : Fld Z h0 x1 "java/lang/String" "value" "[B" (.ref x1_value)) (F_x1_coder : Fld Z h0 x1 "java/lang/String" "coder" "B" (.int (0 : Int32))) (V_x1 : Arv Z h0 x1_value kx .byte (5 : Int32) (((([(69 : Int32), (120 : Int32), (97 : Int32), (99 : Int32), (116 : Int32)] : List Int32)).map (fun c => c.toInt8.toInt32)).map Value.int) (.int 0)) (S__VALUES : Sta Z Z.heap "com/example/kompas/kompas/eval/Label" "$VALUES" "[Lcom/example/kompas/kompas/eval/Label;" (.ref st__VALUES)) (S_COMPACT_STRINGS : Sta Z Z.heap "java/lang/String" "COMPACT_STRINGS" "Z" (.int st_COMPACT_STRINGS)) (hcomp : ¬ (st_COMPACT_STRINGS = (0 : Int32))) :
    MetFree l (⟨"com/example/kompas/kompas/eval/Label", "parse", "(Ljava/lang/String;)Lcom/example/kompas/kompas/eval/Label;"⟩ : MethodName) (head1 (Jvm.Cond.code (⟨"com/example/kompas/kompas/eval/Label", "parse", "(Ljava/lang/String;)Lcom/example/kompas/kompas/eval/Label;"⟩ : MethodName) prog_3_method_5_code 5 (some (.object "com/example/kompas/kompas/eval/Label")) :: ws) ({ frames := 2, cells := 1, slots := 3, locals := 28 } : Room)) (fun a U => a = #[(.ref x1)] ∧ Z.Warmed39 U.vm ∧ U.heap = h0) (fun _ _ _ _ _ => True) (fun _ U o U' => ∃ v L, o = .returned v ∧ Q7_0 Z x1 st__VALUES k_st__VALUES st_EXACT st_PARTIAL st_IRRELEVANT st_EXACT_text st_EXACT_text_value k_st_EXACT_text_value x1_value kx st_COMPACT_STRINGS h0 n0 v U'.heap L ∧ FrameEnd U o U' L ({ frames := 2, cells := 1, slots := 3, locals := 28 } : Room).cells ({ frames := 2, cells := 1, slots := 3, locals := 28 } : Room).slots) := by
  refine MetFree.of_bodySF (plainFor_of_name pn_com_example_kompas_kompas_eval_Label) hisR ?_
  intro p e s m args below meth c s₁ Bd hml0 hP hK
  obtain ⟨rfl, hZ, hh⟩ := hP
  have hx := Bd.exec
  have hby := Bd.bytes
  have hml : c.maxLocals = 5 := hml0
  have hown : s.vm.findClass "com/example/kompas/kompas/eval/Label" = some m.cls := findClass_of_methodNamed Bd.named
  have hnm := (name_of_methodNamed Bd.named Bd.method).1
  have X0 : Stand p l e ({ frames := 2, cells := 1, slots := 3, locals := 28 } : Room) s m #[(.ref x1)] below meth c s₁ [] 0 0 := Stand.of_body Bd
  have e0 : s₁.heap = h0 := by rw [← hh, Bd.state]; rfl
  have N0 := Fr.nil n0
  have K0 : Keep h0 h0 [] := Keep.refl _ _
  have pre0 : ∀ t, Steps p.tables e below (s₁.setTop (mkF m 0 #[.val (.ref x1), .unset, .unset, .unset, .unset] [])) t → Steps p.tables e below (s₁.setTop (entryFrame m #[(.ref x1)] 5)) t := fun t k => castTop (ef7_0 m x1) k
  have hpx : ∀ c ∈ ([(69 : Int32), (120 : Int32), (97 : Int32), (99 : Int32), (116 : Int32)] : List Int32), ¬ c < 0 ∧ ¬ (255 : Int32) < c := by decide +kernel
  obtain ⟨_, _, ⟨T5, L5, k5, n5⟩, -, X5, ⟨Lc5, hQ5, l5, y5, z5⟩, st5⟩ := Jvm.LawKit.callS X0 hx (y := (⟨"com/example/kompas/kompas/eval/Label", "values", "()[Lcom/example/kompas/kompas/eval/Label;"⟩ : MethodName)) hown (mvT hZ (hw _ (List.mem_of_getElem? (i := 37) rfl))) (mvT hZ (hw _ (List.mem_of_getElem? (i := 38) rfl))) (mvT hZ (hw _ (List.mem_of_getElem? (i := 32) rfl))) (mvT hZ (hw _ (List.mem_of_getElem? (i := 39) rfl))) (by decide) (backOf (W := 0) (rm8 l Z a0 hw [] st__VALUES k_st__VALUES st_EXACT st_PARTIAL st_IRRELEVANT h0 n0 Z0 O0 V_vals E_vals S__VALUES) hZ (hw _ (List.mem_of_getElem? (i := 39) rfl)) (hw _ (List.mem_of_getElem? (i := 32) rfl)) (by decide) (by decide)) (g := (mkF m 0 #[.val (.ref x1), .unset, .unset, .unset, .unset] [])) rfl (by rw [hml]; rfl) (argsL := []) (rest := []) (lenOf pd_0 rfl) rfl (by show 2 * 0 + _ ≤ _; exact Nat.le_of_eq rfl) (hb hby d7_0) (fun _ _ => ⟨rfl, e0, (by decide : 0 + 1 ≤ _), (by decide : 0 + 3 ≤ _)⟩)
  dsimp only [Pt.U, Pt.locs, Pt.cells, Pt.slots] at X5 l5 y5 z5 st5 hQ5
  subst l5 y5 z5
  obtain ⟨b_5, rfl, N5q, KK5, Q5_0, Q5_1, Q5_2⟩ := hQ5
  have N5 := Fr.app N0 N5q
  have O5 : Old Z n0 T5.heap := O0.keep KK5 all0
  have Z5 : n0 ≤ T5.heap.size := Nat.le_trans Z0 KK5.1
  have K5 : Keep h0 T5.heap [] := K0.trans KK5 all0
  have g_b_5 : n0 ≤ b_5 := Nat.le_trans Z0 Q5_0
  have sz_b_5 : h0.size ≤ b_5 := Nat.le_trans K0.1 Q5_0
  obtain ⟨cl_a6, Ar_a6, -, S_a6, N_a6, -, -⟩ := id Q5_2
  obtain ⟨cl_a7, Ar_a7, -, S_a7, N_a7, H_a7, -⟩ := id Q5_2
  have hin_a7 : ¬ ((0 : Int32) < 0 ∨ cl_a7.slots.size ≤ ((0 : Int32)).toNatClampNeg) := inb_of S_a7 ⟨by decide, by decide⟩
  have hat_a7 : cl_a7.slots[((0 : Int32)).toNatClampNeg]? = some (.ref st_EXACT) := H_a7.at hin_a7 rfl
  have F8 : Fld Z T5.heap st_EXACT "com/example/kompas/kompas/eval/Label" "text" "Ljava/lang/String;" (.ref st_EXACT_text) := (F_st_EXACT_text.keep KK5 nin0)
  obtain ⟨T9, X9, e9, st9⟩ := getF X5 hx hZ hown (host := "") (Or.inl (hw _ (List.mem_of_getElem? (i := 54) rfl))) Via.refl rfl F8 (g := (mkF m 21 #[.val (.ref x1), .val (.ref b_5), .val (.int (3 : Int32)), .val (.int (0 : Int32)), .val (.ref st_EXACT)] [(.ref st_EXACT)])) rfl rfl (hb hby d7_21)
  have C10 : Exa Z T5.heap st_EXACT_text "java/lang/String" := (E_st_EXACT_text.keep KK5)
  have F11 : Fld Z T5.heap st_EXACT_text "java/lang/String" "value" "[B" (.ref st_EXACT_text_value) := (F_st_EXACT_text_value.keep KK5 nin0)
  have F12 : Fld Z T5.heap st_EXACT_text "java/lang/String" "coder" "B" (.int (0 : Int32)) := (F_st_EXACT_text_coder.keep KK5 nin0)
  have V13 : Arv Z T5.heap st_EXACT_text_value k_st_EXACT_text_value .byte (5 : Int32) [(.int (69 : Int32)), (.int (120 : Int32)), (.int (97 : Int32)), (.int (99 : Int32)), (.int (116 : Int32))] (.int (0 : Int32)) := (V_st_EXACT_text_value.keep KK5 nin0)
  have cd14 : StrChars.Road.CodA ([(69 : Int32), (120 : Int32), (97 : Int32), (99 : Int32), (116 : Int32)] : List Int32) 0 (5 : Int32) [(.int (69 : Int32)), (.int (120 : Int32)), (.int (97 : Int32)), (.int (99 : Int32)), (.int (116 : Int32))] := Or.inl ⟨rfl, by decide +kernel, by decide +kernel, by decide +kernel⟩
  have hb15 : ∀ c ∈ ([(69 : Int32), (120 : Int32), (97 : Int32), (99 : Int32), (116 : Int32)] : List Int32), ¬ c < 0 ∧ ¬ (65535 : Int32) < c := by decide +kernel
  have C16 : Exa Z T5.heap x1 "java/lang/String" := (E_x1.keep KK5)
  have F17 : Fld Z T5.heap x1 "java/lang/String" "value" "[B" (.ref x1_value) := (F_x1_value.keep KK5 nin0)
  have F18 : Fld Z T5.heap x1 "java/lang/String" "coder" "B" (.int (0 : Int32)) := (F_x1_coder.keep KK5 nin0)
  have V19 : Arv Z T5.heap x1_value kx .byte (5 : Int32) (((([(69 : Int32), (120 : Int32), (97 : Int32), (99 : Int32), (116 : Int32)] : List Int32)).map (fun c => c.toInt8.toInt32)).map Value.int) (.int 0) := (V_x1.keep KK5 nin0)
  have cd20 : StrChars.Road.CodA ([(69 : Int32), (120 : Int32), (97 : Int32), (99 : Int32), (116 : Int32)] : List Int32) 0 (5 : Int32) (((([(69 : Int32), (120 : Int32), (97 : Int32), (99 : Int32), (116 : Int32)] : List Int32)).map (fun c => c.toInt8.toInt32)).map Value.int) := StrChars.Road.codOf (n := 5) rfl (fun c hc => (hpx c hc).2)
  have hb21 : ∀ c ∈ ([(69 : Int32), (120 : Int32), (97 : Int32), (99 : Int32), (116 : Int32)] : List Int32), ¬ c < 0 ∧ ¬ (65535 : Int32) < c := own_up _ hpx
  obtain ⟨cq22, kq22, q22a, q22b, q22c⟩ := isOf hZ e9 C10
  obtain ⟨_, _, ⟨T22, L22, k22, n22⟩, -, X22, ⟨Lc22, hQ22, l22, y22, z22⟩, st22⟩ := X9.virtualBack hx (y := (⟨"java/lang/String", "equals", "(Ljava/lang/Object;)Z"⟩ : MethodName)) (z := (⟨"java/lang/String", "equals", "(Ljava/lang/Object;)Z"⟩ : MethodName)) hown (mvT hZ (hw _ (List.mem_of_getElem? (i := 56) rfl))) (mvT hZ (hw _ (List.mem_of_getElem? (i := 57) rfl))) (notFace_of_selects (args := #[]) (mvT hZ (hw _ (List.mem_of_getElem? (i := 59) rfl)))) (mvT hZ (hw _ (List.mem_of_getElem? (i := 59) rfl))) (mvT hZ (hw _ (List.mem_of_getElem? (i := 58) rfl))) (by decide) (StrChars.Road.eqW (W := 0) hZ (own_heq hw) (kI := 4) (hw _ (List.mem_of_getElem? (i := 2) rfl)) C10 F11 F12 V13 cd14 hb15 (Nat.le_of_ble_eq_true rfl) C16 F17 F18 V19 cd20 hb21 (Nat.le_of_ble_eq_true rfl) (S_COMPACT_STRINGS.ext O5.2) hcomp (by decide) (by decide)) q22a q22c (g := (mkF m 25 #[.val (.ref x1), .val (.ref b_5), .val (.int (3 : Int32)), .val (.int (0 : Int32)), .val (.ref st_EXACT)] [(.ref x1), (.ref st_EXACT_text)])) rfl (by rw [hml]; rfl) (Steps.refl _) (argsL := [(.ref x1)]) (rest := []) (lenOf pd_1 rfl) rfl (by show 2 * 0 + _ ≤ _; exact Nat.le_of_eq rfl) (hb hby d7_25) (fun _ _ => ⟨rfl, e9, (by decide : 1 + 0 ≤ _), (by decide : 3 + 0 ≤ _)⟩)
  dsimp only [Pt.U, Pt.locs, Pt.cells, Pt.slots] at X22 l22 y22 z22 st22 hQ22
  subst l22 y22 z22
  obtain ⟨hv22, rfl, eh22⟩ := hQ22
  have N22 := Fr.app N5 (Fr.nil n0)
  obtain ⟨rfl, -⟩ : _ ∧ _ := hv22.resolve_right (fun q => q.2 rfl)
  obtain ⟨fs, hr, hrun, hended, hW, hsame⟩ := X22.leave (v := some (.ref st_EXACT)) (fun h => by rw [Bd.returns] at h; cases h)
  refine ⟨_, _, pre0 _ ?_, hrun, hended, _, _, rfl, ?_, ⟨_, rfl⟩, hW, hsame.mono (by decide) (by decide)⟩
  · show Steps p.tables e below (s₁.setTop (mkF m 0 #[.val (.ref x1), .unset, .unset, .unset, .unset] [])) _
    refine st5 _ ?_
    show Steps p.tables e below (T5.setTop (mkF m 3 #[.val (.ref x1), .unset, .unset, .unset, .unset] [(.ref b_5)])) _
    refine XS.astoreN X5.here hx rfl (hb hby d7_3) rfl rfl (l' := #[.val (.ref x1), .val (.ref b_5), .unset, .unset, .unset]) rfl ?_
    show Steps p.tables e below (T5.setTop (mkF m 4 #[.val (.ref x1), .val (.ref b_5), .unset, .unset, .unset] [])) _
    refine XS.aloadN X5.here hx rfl (hb hby d7_4) rfl rfl ?_
    show Steps p.tables e below (T5.setTop (mkF m 5 #[.val (.ref x1), .val (.ref b_5), .unset, .unset, .unset] [(.ref b_5)])) _
    refine X5.arraylength hx Ar_a6.1 (State.isArrayOf_alike hZ.alike Ar_a6.2.1) (g := (mkF m 5 #[.val (.ref x1), .val (.ref b_5), .unset, .unset, .unset] [(.ref b_5)])) rfl rfl (hb hby d7_5) _ ?_
    rw [len_of S_a6 N_a6]
    show Steps p.tables e below (T5.setTop (mkF m 6 #[.val (.ref x1), .val (.ref b_5), .unset, .unset, .unset] [(.int (3 : Int32))])) _
    refine XS.istoreN X5.here hx rfl (hb hby d7_6) rfl (l' := #[.val (.ref x1), .val (.ref b_5), .val (.int (3 : Int32)), .unset, .unset]) rfl ?_
    show Steps p.tables e below (T5.setTop (mkF m 7 #[.val (.ref x1), .val (.ref b_5), .val (.int (3 : Int32)), .unset, .unset] [])) _
    refine XS.iconst X5.here hx rfl (hb hby d7_7) ?_
    show Steps p.tables e below (T5.setTop (mkF m 8 #[.val (.ref x1), .val (.ref b_5), .val (.int (3 : Int32)), .unset, .unset] [(.int (0 : Int32))])) _
    refine XS.istoreN X5.here hx rfl (hb hby d7_8) rfl (l' := #[.val (.ref x1), .val (.ref b_5), .val (.int (3 : Int32)), .val (.int (0 : Int32)), .unset]) rfl ?_
    show Steps p.tables e below (T5.setTop (mkF m 9 #[.val (.ref x1), .val (.ref b_5), .val (.int (3 : Int32)), .val (.int (0 : Int32)), .unset] [])) _
    refine XS.iloadN X5.here hx rfl (hb hby d7_9) rfl ?_
    show Steps p.tables e below (T5.setTop (mkF m 10 #[.val (.ref x1), .val (.ref b_5), .val (.int (3 : Int32)), .val (.int (0 : Int32)), .unset] [(.int (0 : Int32))])) _
    refine XS.iloadN X5.here hx rfl (hb hby d7_10) rfl ?_
    show Steps p.tables e below (T5.setTop (mkF m 11 #[.val (.ref x1), .val (.ref b_5), .val (.int (3 : Int32)), .val (.int (0 : Int32)), .unset] [(.int (3 : Int32)), (.int (0 : Int32))])) _
    refine XS.icmpNo X5.here hx rfl (hb hby d7_11) rfl (tlt (by decide : (0 : Int32) < (3 : Int32))).2.1 ?_
    show Steps p.tables e below (T5.setTop (mkF m 14 #[.val (.ref x1), .val (.ref b_5), .val (.int (3 : Int32)), .val (.int (0 : Int32)), .unset] [])) _
    refine XS.aloadN X5.here hx rfl (hb hby d7_14) rfl rfl ?_
    show Steps p.tables e below (T5.setTop (mkF m 15 #[.val (.ref x1), .val (.ref b_5), .val (.int (3 : Int32)), .val (.int (0 : Int32)), .unset] [(.ref b_5)])) _
    refine XS.iloadN X5.here hx rfl (hb hby d7_15) rfl ?_
    show Steps p.tables e below (T5.setTop (mkF m 16 #[.val (.ref x1), .val (.ref b_5), .val (.int (3 : Int32)), .val (.int (0 : Int32)), .unset] [(.int (0 : Int32)), (.ref b_5)])) _
    refine X5.aaload hx (j := (0 : Int32)) (v := (.ref st_EXACT)) Ar_a7.1 (State.isArrayOf_alike hZ.alike Ar_a7.2.1) rfl Ar_a7.2.2 hin_a7 hat_a7 (g := (mkF m 16 #[.val (.ref x1), .val (.ref b_5), .val (.int (3 : Int32)), .val (.int (0 : Int32)), .unset] [(.int (0 : Int32)), (.ref b_5)])) rfl rfl (hb hby d7_16) _ ?_
    show Steps p.tables e below (T5.setTop (mkF m 17 #[.val (.ref x1), .val (.ref b_5), .val (.int (3 : Int32)), .val (.int (0 : Int32)), .unset] [(.ref st_EXACT)])) _
    refine XS.astore X5.here hx rfl (hb hby d7_17) rfl rfl (l' := #[.val (.ref x1), .val (.ref b_5), .val (.int (3 : Int32)), .val (.int (0 : Int32)), .val (.ref st_EXACT)]) rfl ?_
    show Steps p.tables e below (T5.setTop (mkF m 19 #[.val (.ref x1), .val (.ref b_5), .val (.int (3 : Int32)), .val (.int (0 : Int32)), .val (.ref st_EXACT)] [])) _
    refine XS.aload X5.here hx rfl (hb hby d7_19) rfl rfl ?_
    show Steps p.tables e below (T5.setTop (mkF m 21 #[.val (.ref x1), .val (.ref b_5), .val (.int (3 : Int32)), .val (.int (0 : Int32)), .val (.ref st_EXACT)] [(.ref st_EXACT)])) _
    refine st9 _ ?_
    show Steps p.tables e below (T9.setTop (mkF m 24 #[.val (.ref x1), .val (.ref b_5), .val (.int (3 : Int32)), .val (.int (0 : Int32)), .val (.ref st_EXACT)] [(.ref st_EXACT_text)])) _
    refine XS.aloadN X9.here hx rfl (hb hby d7_24) rfl rfl ?_
    show Steps p.tables e below (T9.setTop (mkF m 25 #[.val (.ref x1), .val (.ref b_5), .val (.int (3 : Int32)), .val (.int (0 : Int32)), .val (.ref st_EXACT)] [(.ref x1), (.ref st_EXACT_text)])) _
    refine st22.trans ?_
    show Steps p.tables e below (T22.setTop (mkF m 28 #[.val (.ref x1), .val (.ref b_5), .val (.int (3 : Int32)), .val (.int (0 : Int32)), .val (.ref st_EXACT)] [(.int (1 : Int32))])) _
    refine XS.ifNo X22.here hx rfl (hb hby d7_28) rfl ((if0 _ _).trans (feq (by decide : ¬ ((1 : Int32) = (0 : Int32)))).1) ?_
    show Steps p.tables e below (T22.setTop (mkF m 31 #[.val (.ref x1), .val (.ref b_5), .val (.int (3 : Int32)), .val (.int (0 : Int32)), .val (.ref st_EXACT)] [])) _
    refine XS.aload X22.here hx rfl (hb hby d7_31) rfl rfl ?_
    show Steps p.tables e below (T22.setTop (mkF m 33 #[.val (.ref x1), .val (.ref b_5), .val (.int (3 : Int32)), .val (.int (0 : Int32)), .val (.ref st_EXACT)] [(.ref st_EXACT)])) _
    jvm_step X22.here [X22.here.top, hx, (hb hby d7_33), X22.method', Bd.returns, Value.isRef, FieldType.isReference]
    first | (intro acts; rw [hr _ acts rfl rfl rfl]) | rw [hr _ _ rfl rfl rfl]
    exact Steps.refl _
  · show Q7_0 Z x1 st__VALUES k_st__VALUES st_EXACT st_PARTIAL st_IRRELEVANT st_EXACT_text st_EXACT_text_value k_st_EXACT_text_value x1_value kx st_COMPACT_STRINGS h0 n0 _ T22.heap _
    rw [eh22]
    exact ⟨rfl, N22, K5⟩
theorem d7_34 : decode prog_3_method_5_code 34 = .ok (.iinc 3 1, 3) := by decide +kernel
theorem d7_37 : decode prog_3_method_5_code 37 = .ok (.goto (-28), 3) := by decide +kernel
theorem ef7_1 (m : MethodId) (x1 : Addr) : entryFrame m #[(.ref x1)] 5 = mkF m 0 #[.val (.ref x1), .unset, .unset, .unset, .unset] [] := by first | (simp [entryFrame, mkF, argsToLocals, Value.category]; done) | rfl
def Q7_1 (Z : State) (x1 : Addr) (st__VALUES : Addr) (k_st__VALUES : ClassId) (st_EXACT : Addr) (st_PARTIAL : Addr) (st_IRRELEVANT : Addr) (st_EXACT_text : Addr) (st_EXACT_text_value : Addr) (k_st_EXACT_text_value : ClassId) (st_PARTIAL_text : Addr) (st_PARTIAL_text_value : Addr) (k_st_PARTIAL_text_value : ClassId) (x1_value : Addr) (kx : ClassId) (st_COMPACT_STRINGS : Int32) (h0 : Heap) (n0 : Nat) (v : Option Value) (h : Heap) (L : List Loc) : Prop := v = some (.ref st_PARTIAL) ∧ Fr n0 L ∧ Keep h0 h []
set_option maxRecDepth 65536 in
set_option maxHeartbeats 40000000 in
theorem rm7_1 (l : Launch) (Z : State) (a0 : Array Value) (hw : ∀ d ∈ tables_1, d.before a0 Z = true) (ws : List Jvm.Cond) (x1 : Addr) (st__VALUES : Addr) (k_st__VALUES : ClassId) (st_EXACT : Addr) (st_PARTIAL : Addr) (st_IRRELEVANT : Addr) (st_EXACT_text : Addr) (st_EXACT_text_value : Addr) (k_st_EXACT_text_value : ClassId) (st_PARTIAL_text : Addr) (st_PARTIAL_text_value : Addr) (k_st_PARTIAL_text_value : ClassId) (x1_value : Addr) (kx : ClassId) (st_COMPACT_STRINGS : Int32) (h0 : Heap) (n0 : Nat) (Z0 : n0 ≤ h0.size) (O0 : Old Z n0 h0) (V_vals : Arv Z h0 st__VALUES k_st__VALUES (.object "com/example/kompas/kompas/eval/Label") (3 : Int32) [(.ref st_EXACT), (.ref st_PARTIAL), (.ref st_IRRELEVANT)] .null) (E_vals : Exa Z h0 st__VALUES "[Lcom/example/kompas/kompas/eval/Label;") (F_st_EXACT_text : Fld Z h0 st_EXACT "com/example/kompas/kompas/eval/Label" "text" "Ljava/lang/String;" (.ref st_EXACT_text)) (E_st_EXACT_text : Exa Z h0 st_EXACT_text "java/lang/String") (F_st_EXACT_text_value : Fld Z h0 st_EXACT_text "java/lang/String" "value" "[B" (.ref st_EXACT_text_value)) (F_st_EXACT_text_coder : Fld Z h0 st_EXACT_text "java/lang/String" "coder" "B" (.int (0 : Int32))) (V_st_EXACT_text_value : Arv Z h0 st_EXACT_text_value k_st_EXACT_text_value .byte (5 : Int32) [(.int (69 : Int32)), (.int (120 : Int32)), (.int (97 : Int32)), (.int (99 : Int32)), (.int (116 : Int32))] (.int (0 : Int32))) (F_st_PARTIAL_text : Fld Z h0 st_PARTIAL "com/example/kompas/kompas/eval/Label" "text" "Ljava/lang/String;" (.ref st_PARTIAL_text)) (E_st_PARTIAL_text : Exa Z h0 st_PARTIAL_text "java/lang/String") (F_st_PARTIAL_text_value : Fld Z h0 st_PARTIAL_text "java/lang/String" "value" "[B" (.ref st_PARTIAL_text_value)) (F_st_PARTIAL_text_coder : Fld Z h0 st_PARTIAL_text "java/lang/String" "coder" "B" (.int (0 : Int32))) (V_st_PARTIAL_text_value : Arv Z h0 st_PARTIAL_text_value k_st_PARTIAL_text_value .byte (7 : Int32) [(.int (80 : Int32)), (.int (97 : Int32)), (.int (114 : Int32)), (.int (116 : Int32)), (.int (105 : Int32)), (.int (97 : Int32)), (.int (108 : Int32))] (.int (0 : Int32))) (E_x1 : Exa Z h0 x1 "java/lang/String") (F_x1_value : Fld Z h0 x1 "java/lang/String" "value" "[B" (.ref x1_value)) (F_x1_coder : Fld Z h0 x1 "java/lang/String" "coder" "B" (.int (0 : Int32))) (V_x1 : Arv Z h0 x1_value kx .byte (7 : Int32) (((([(80 : Int32), (97 : Int32), (114 : Int32), (116 : Int32), (105 : Int32), (97 : Int32), (108 : Int32)] : List Int32)).map (fun c => c.toInt8.toInt32)).map Value.int) (.int 0)) (S__VALUES : Sta Z Z.heap "com/example/kompas/kompas/eval/Label" "$VALUES" "[Lcom/example/kompas/kompas/eval/Label;" (.ref st__VALUES)) (S_COMPACT_STRINGS : Sta Z Z.heap "java/lang/String" "COMPACT_STRINGS" "Z" (.int st_COMPACT_STRINGS)) (hcomp : ¬ (st_COMPACT_STRINGS = (0 : Int32))) :
    MetFree l (⟨"com/example/kompas/kompas/eval/Label", "parse", "(Ljava/lang/String;)Lcom/example/kompas/kompas/eval/Label;"⟩ : MethodName) (head1 (Jvm.Cond.code (⟨"com/example/kompas/kompas/eval/Label", "parse", "(Ljava/lang/String;)Lcom/example/kompas/kompas/eval/Label;"⟩ : MethodName) prog_3_method_5_code 5 (some (.object "com/example/kompas/kompas/eval/Label")) :: ws) ({ frames := 2, cells := 1, slots := 3, locals := 28 } : Room)) (fun a U => a = #[(.ref x1)] ∧ Z.Warmed39 U.vm ∧ U.heap = h0) (fun _ _ _ _ _ => True) (fun _ U o U' => ∃ v L, o = .returned v ∧ Q7_1 Z x1 st__VALUES k_st__VALUES st_EXACT st_PARTIAL st_IRRELEVANT st_EXACT_text st_EXACT_text_value k_st_EXACT_text_value st_PARTIAL_text st_PARTIAL_text_value k_st_PARTIAL_text_value x1_value kx st_COMPACT_STRINGS h0 n0 v U'.heap L ∧ FrameEnd U o U' L ({ frames := 2, cells := 1, slots := 3, locals := 28 } : Room).cells ({ frames := 2, cells := 1, slots := 3, locals := 28 } : Room).slots) := by
  refine MetFree.of_bodySF (plainFor_of_name pn_com_example_kompas_kompas_eval_Label) hisR ?_
  intro p e s m args below meth c s₁ Bd hml0 hP hK
  obtain ⟨rfl, hZ, hh⟩ := hP
  have hx := Bd.exec
  have hby := Bd.bytes
  have hml : c.maxLocals = 5 := hml0
  have hown : s.vm.findClass "com/example/kompas/kompas/eval/Label" = some m.cls := findClass_of_methodNamed Bd.named
  have hnm := (name_of_methodNamed Bd.named Bd.method).1
  have X0 : Stand p l e ({ frames := 2, cells := 1, slots := 3, locals := 28 } : Room) s m #[(.ref x1)] below meth c s₁ [] 0 0 := Stand.of_body Bd
  have e0 : s₁.heap = h0 := by rw [← hh, Bd.state]; rfl
  have N0 := Fr.nil n0
  have K0 : Keep h0 h0 [] := Keep.refl _ _
  have pre0 : ∀ t, Steps p.tables e below (s₁.setTop (mkF m 0 #[.val (.ref x1), .unset, .unset, .unset, .unset] [])) t → Steps p.tables e below (s₁.setTop (entryFrame m #[(.ref x1)] 5)) t := fun t k => castTop (ef7_1 m x1) k
  have hpx : ∀ c ∈ ([(80 : Int32), (97 : Int32), (114 : Int32), (116 : Int32), (105 : Int32), (97 : Int32), (108 : Int32)] : List Int32), ¬ c < 0 ∧ ¬ (255 : Int32) < c := by decide +kernel
  obtain ⟨_, _, ⟨T23, L23, k23, n23⟩, -, X23, ⟨Lc23, hQ23, l23, y23, z23⟩, st23⟩ := Jvm.LawKit.callS X0 hx (y := (⟨"com/example/kompas/kompas/eval/Label", "values", "()[Lcom/example/kompas/kompas/eval/Label;"⟩ : MethodName)) hown (mvT hZ (hw _ (List.mem_of_getElem? (i := 37) rfl))) (mvT hZ (hw _ (List.mem_of_getElem? (i := 38) rfl))) (mvT hZ (hw _ (List.mem_of_getElem? (i := 32) rfl))) (mvT hZ (hw _ (List.mem_of_getElem? (i := 39) rfl))) (by decide) (backOf (W := 0) (rm8 l Z a0 hw [] st__VALUES k_st__VALUES st_EXACT st_PARTIAL st_IRRELEVANT h0 n0 Z0 O0 V_vals E_vals S__VALUES) hZ (hw _ (List.mem_of_getElem? (i := 39) rfl)) (hw _ (List.mem_of_getElem? (i := 32) rfl)) (by decide) (by decide)) (g := (mkF m 0 #[.val (.ref x1), .unset, .unset, .unset, .unset] [])) rfl (by rw [hml]; rfl) (argsL := []) (rest := []) (lenOf pd_0 rfl) rfl (by show 2 * 0 + _ ≤ _; exact Nat.le_of_eq rfl) (hb hby d7_0) (fun _ _ => ⟨rfl, e0, (by decide : 0 + 1 ≤ _), (by decide : 0 + 3 ≤ _)⟩)
  dsimp only [Pt.U, Pt.locs, Pt.cells, Pt.slots] at X23 l23 y23 z23 st23 hQ23
  subst l23 y23 z23
  obtain ⟨b_23, rfl, N23q, KK23, Q23_0, Q23_1, Q23_2⟩ := hQ23
  have N23 := Fr.app N0 N23q
  have O23 : Old Z n0 T23.heap := O0.keep KK23 all0
  have Z23 : n0 ≤ T23.heap.size := Nat.le_trans Z0 KK23.1
  have K23 : Keep h0 T23.heap [] := K0.trans KK23 all0
  have g_b_23 : n0 ≤ b_23 := Nat.le_trans Z0 Q23_0
  have sz_b_23 : h0.size ≤ b_23 := Nat.le_trans K0.1 Q23_0
  obtain ⟨cl_a24, Ar_a24, -, S_a24, N_a24, -, -⟩ := id Q23_2
  obtain ⟨cl_a25, Ar_a25, -, S_a25, N_a25, H_a25, -⟩ := id Q23_2
  have hin_a25 : ¬ ((0 : Int32) < 0 ∨ cl_a25.slots.size ≤ ((0 : Int32)).toNatClampNeg) := inb_of S_a25 ⟨by decide, by decide⟩
  have hat_a25 : cl_a25.slots[((0 : Int32)).toNatClampNeg]? = some (.ref st_EXACT) := H_a25.at hin_a25 rfl
  have F26 : Fld Z T23.heap st_EXACT "com/example/kompas/kompas/eval/Label" "text" "Ljava/lang/String;" (.ref st_EXACT_text) := (F_st_EXACT_text.keep KK23 nin0)
  obtain ⟨T27, X27, e27, st27⟩ := getF X23 hx hZ hown (host := "") (Or.inl (hw _ (List.mem_of_getElem? (i := 54) rfl))) Via.refl rfl F26 (g := (mkF m 21 #[.val (.ref x1), .val (.ref b_23), .val (.int (3 : Int32)), .val (.int (0 : Int32)), .val (.ref st_EXACT)] [(.ref st_EXACT)])) rfl rfl (hb hby d7_21)
  have C28 : Exa Z T23.heap st_EXACT_text "java/lang/String" := (E_st_EXACT_text.keep KK23)
  have F29 : Fld Z T23.heap st_EXACT_text "java/lang/String" "value" "[B" (.ref st_EXACT_text_value) := (F_st_EXACT_text_value.keep KK23 nin0)
  have F30 : Fld Z T23.heap st_EXACT_text "java/lang/String" "coder" "B" (.int (0 : Int32)) := (F_st_EXACT_text_coder.keep KK23 nin0)
  have V31 : Arv Z T23.heap st_EXACT_text_value k_st_EXACT_text_value .byte (5 : Int32) [(.int (69 : Int32)), (.int (120 : Int32)), (.int (97 : Int32)), (.int (99 : Int32)), (.int (116 : Int32))] (.int (0 : Int32)) := (V_st_EXACT_text_value.keep KK23 nin0)
  have cd32 : StrChars.Road.CodA ([(69 : Int32), (120 : Int32), (97 : Int32), (99 : Int32), (116 : Int32)] : List Int32) 0 (5 : Int32) [(.int (69 : Int32)), (.int (120 : Int32)), (.int (97 : Int32)), (.int (99 : Int32)), (.int (116 : Int32))] := Or.inl ⟨rfl, by decide +kernel, by decide +kernel, by decide +kernel⟩
  have hb33 : ∀ c ∈ ([(69 : Int32), (120 : Int32), (97 : Int32), (99 : Int32), (116 : Int32)] : List Int32), ¬ c < 0 ∧ ¬ (65535 : Int32) < c := by decide +kernel
  have C34 : Exa Z T23.heap x1 "java/lang/String" := (E_x1.keep KK23)
  have F35 : Fld Z T23.heap x1 "java/lang/String" "value" "[B" (.ref x1_value) := (F_x1_value.keep KK23 nin0)
  have F36 : Fld Z T23.heap x1 "java/lang/String" "coder" "B" (.int (0 : Int32)) := (F_x1_coder.keep KK23 nin0)
  have V37 : Arv Z T23.heap x1_value kx .byte (7 : Int32) (((([(80 : Int32), (97 : Int32), (114 : Int32), (116 : Int32), (105 : Int32), (97 : Int32), (108 : Int32)] : List Int32)).map (fun c => c.toInt8.toInt32)).map Value.int) (.int 0) := (V_x1.keep KK23 nin0)
  have cd38 : StrChars.Road.CodA ([(80 : Int32), (97 : Int32), (114 : Int32), (116 : Int32), (105 : Int32), (97 : Int32), (108 : Int32)] : List Int32) 0 (7 : Int32) (((([(80 : Int32), (97 : Int32), (114 : Int32), (116 : Int32), (105 : Int32), (97 : Int32), (108 : Int32)] : List Int32)).map (fun c => c.toInt8.toInt32)).map Value.int) := StrChars.Road.codOf (n := 7) rfl (fun c hc => (hpx c hc).2)
  have hb39 : ∀ c ∈ ([(80 : Int32), (97 : Int32), (114 : Int32), (116 : Int32), (105 : Int32), (97 : Int32), (108 : Int32)] : List Int32), ¬ c < 0 ∧ ¬ (65535 : Int32) < c := own_up _ hpx
  obtain ⟨cq40, kq40, q40a, q40b, q40c⟩ := isOf hZ e27 C28
  obtain ⟨_, _, ⟨T40, L40, k40, n40⟩, -, X40, ⟨Lc40, hQ40, l40, y40, z40⟩, st40⟩ := X27.virtualBack hx (y := (⟨"java/lang/String", "equals", "(Ljava/lang/Object;)Z"⟩ : MethodName)) (z := (⟨"java/lang/String", "equals", "(Ljava/lang/Object;)Z"⟩ : MethodName)) hown (mvT hZ (hw _ (List.mem_of_getElem? (i := 56) rfl))) (mvT hZ (hw _ (List.mem_of_getElem? (i := 57) rfl))) (notFace_of_selects (args := #[]) (mvT hZ (hw _ (List.mem_of_getElem? (i := 59) rfl)))) (mvT hZ (hw _ (List.mem_of_getElem? (i := 59) rfl))) (mvT hZ (hw _ (List.mem_of_getElem? (i := 58) rfl))) (by decide) (StrChars.Road.eqW (W := 0) hZ (own_heq hw) (kI := 4) (hw _ (List.mem_of_getElem? (i := 2) rfl)) C28 F29 F30 V31 cd32 hb33 (Nat.le_of_ble_eq_true rfl) C34 F35 F36 V37 cd38 hb39 (Nat.le_of_ble_eq_true rfl) (S_COMPACT_STRINGS.ext O23.2) hcomp (by decide) (by decide)) q40a q40c (g := (mkF m 25 #[.val (.ref x1), .val (.ref b_23), .val (.int (3 : Int32)), .val (.int (0 : Int32)), .val (.ref st_EXACT)] [(.ref x1), (.ref st_EXACT_text)])) rfl (by rw [hml]; rfl) (Steps.refl _) (argsL := [(.ref x1)]) (rest := []) (lenOf pd_1 rfl) rfl (by show 2 * 0 + _ ≤ _; exact Nat.le_of_eq rfl) (hb hby d7_25) (fun _ _ => ⟨rfl, e27, (by decide : 1 + 0 ≤ _), (by decide : 3 + 0 ≤ _)⟩)
  dsimp only [Pt.U, Pt.locs, Pt.cells, Pt.slots] at X40 l40 y40 z40 st40 hQ40
  subst l40 y40 z40
  obtain ⟨hv40, rfl, eh40⟩ := hQ40
  have N40 := Fr.app N23 (Fr.nil n0)
  obtain ⟨rfl, -⟩ : _ ∧ _ := hv40.resolve_left (fun q => (by decide : ¬ (([(69 : Int32), (120 : Int32), (97 : Int32), (99 : Int32), (116 : Int32)] : List Int32) = ([(80 : Int32), (97 : Int32), (114 : Int32), (116 : Int32), (105 : Int32), (97 : Int32), (108 : Int32)] : List Int32))) q.2)
  obtain ⟨cl_a41, Ar_a41, -, S_a41, N_a41, H_a41, -⟩ := id Q23_2
  have hin_a41 : ¬ (((0 : Int32) + (1 : Int32)) < 0 ∨ cl_a41.slots.size ≤ (((0 : Int32) + (1 : Int32))).toNatClampNeg) := inb_of S_a41 ⟨by decide, by decide⟩
  have hat_a41 : cl_a41.slots[(((0 : Int32) + (1 : Int32))).toNatClampNeg]? = some (.ref st_PARTIAL) := H_a41.at hin_a41 rfl
  have F42 : Fld Z T23.heap st_PARTIAL "com/example/kompas/kompas/eval/Label" "text" "Ljava/lang/String;" (.ref st_PARTIAL_text) := (F_st_PARTIAL_text.keep KK23 nin0)
  obtain ⟨T43, X43, e43, st43⟩ := getF X40 hx hZ hown (host := "") (Or.inl (hw _ (List.mem_of_getElem? (i := 54) rfl))) Via.refl eh40 F42 (g := (mkF m 21 #[.val (.ref x1), .val (.ref b_23), .val (.int (3 : Int32)), .val (.int ((0 : Int32) + (1 : Int32))), .val (.ref st_PARTIAL)] [(.ref st_PARTIAL)])) rfl rfl (hb hby d7_21)
  have C44 : Exa Z T23.heap st_PARTIAL_text "java/lang/String" := (E_st_PARTIAL_text.keep KK23)
  have F45 : Fld Z T23.heap st_PARTIAL_text "java/lang/String" "value" "[B" (.ref st_PARTIAL_text_value) := (F_st_PARTIAL_text_value.keep KK23 nin0)
  have F46 : Fld Z T23.heap st_PARTIAL_text "java/lang/String" "coder" "B" (.int (0 : Int32)) := (F_st_PARTIAL_text_coder.keep KK23 nin0)
  have V47 : Arv Z T23.heap st_PARTIAL_text_value k_st_PARTIAL_text_value .byte (7 : Int32) [(.int (80 : Int32)), (.int (97 : Int32)), (.int (114 : Int32)), (.int (116 : Int32)), (.int (105 : Int32)), (.int (97 : Int32)), (.int (108 : Int32))] (.int (0 : Int32)) := (V_st_PARTIAL_text_value.keep KK23 nin0)
  have cd48 : StrChars.Road.CodA ([(80 : Int32), (97 : Int32), (114 : Int32), (116 : Int32), (105 : Int32), (97 : Int32), (108 : Int32)] : List Int32) 0 (7 : Int32) [(.int (80 : Int32)), (.int (97 : Int32)), (.int (114 : Int32)), (.int (116 : Int32)), (.int (105 : Int32)), (.int (97 : Int32)), (.int (108 : Int32))] := Or.inl ⟨rfl, by decide +kernel, by decide +kernel, by decide +kernel⟩
  have hb49 : ∀ c ∈ ([(80 : Int32), (97 : Int32), (114 : Int32), (116 : Int32), (105 : Int32), (97 : Int32), (108 : Int32)] : List Int32), ¬ c < 0 ∧ ¬ (65535 : Int32) < c := by decide +kernel
  obtain ⟨cq50, kq50, q50a, q50b, q50c⟩ := isOf hZ e43 C44
  obtain ⟨_, _, ⟨T50, L50, k50, n50⟩, -, X50, ⟨Lc50, hQ50, l50, y50, z50⟩, st50⟩ := X43.virtualBack hx (y := (⟨"java/lang/String", "equals", "(Ljava/lang/Object;)Z"⟩ : MethodName)) (z := (⟨"java/lang/String", "equals", "(Ljava/lang/Object;)Z"⟩ : MethodName)) hown (mvT hZ (hw _ (List.mem_of_getElem? (i := 56) rfl))) (mvT hZ (hw _ (List.mem_of_getElem? (i := 57) rfl))) (notFace_of_selects (args := #[]) (mvT hZ (hw _ (List.mem_of_getElem? (i := 59) rfl)))) (mvT hZ (hw _ (List.mem_of_getElem? (i := 59) rfl))) (mvT hZ (hw _ (List.mem_of_getElem? (i := 58) rfl))) (by decide) (StrChars.Road.eqW (W := 0) hZ (own_heq hw) (kI := 4) (hw _ (List.mem_of_getElem? (i := 2) rfl)) C44 F45 F46 V47 cd48 hb49 (Nat.le_of_ble_eq_true rfl) C34 F35 F36 V37 cd38 hb39 (Nat.le_of_ble_eq_true rfl) (S_COMPACT_STRINGS.ext O23.2) hcomp (by decide) (by decide)) q50a q50c (g := (mkF m 25 #[.val (.ref x1), .val (.ref b_23), .val (.int (3 : Int32)), .val (.int ((0 : Int32) + (1 : Int32))), .val (.ref st_PARTIAL)] [(.ref x1), (.ref st_PARTIAL_text)])) rfl (by rw [hml]; rfl) (Steps.refl _) (argsL := [(.ref x1)]) (rest := []) (lenOf pd_1 rfl) rfl (by show 2 * 0 + _ ≤ _; exact Nat.le_of_eq rfl) (hb hby d7_25) (fun _ _ => ⟨rfl, e43, (by decide : 1 + 0 ≤ _), (by decide : 3 + 0 ≤ _)⟩)
  dsimp only [Pt.U, Pt.locs, Pt.cells, Pt.slots] at X50 l50 y50 z50 st50 hQ50
  subst l50 y50 z50
  obtain ⟨hv50, rfl, eh50⟩ := hQ50
  have N50 := Fr.app N40 (Fr.nil n0)
  obtain ⟨rfl, -⟩ : _ ∧ _ := hv50.resolve_right (fun q => q.2 rfl)
  obtain ⟨fs, hr, hrun, hended, hW, hsame⟩ := X50.leave (v := some (.ref st_PARTIAL)) (fun h => by rw [Bd.returns] at h; cases h)
  refine ⟨_, _, pre0 _ ?_, hrun, hended, _, _, rfl, ?_, ⟨_, rfl⟩, hW, hsame.mono (by decide) (by decide)⟩
  · show Steps p.tables e below (s₁.setTop (mkF m 0 #[.val (.ref x1), .unset, .unset, .unset, .unset] [])) _
    refine st23 _ ?_
    show Steps p.tables e below (T23.setTop (mkF m 3 #[.val (.ref x1), .unset, .unset, .unset, .unset] [(.ref b_23)])) _
    refine XS.astoreN X23.here hx rfl (hb hby d7_3) rfl rfl (l' := #[.val (.ref x1), .val (.ref b_23), .unset, .unset, .unset]) rfl ?_
    show Steps p.tables e below (T23.setTop (mkF m 4 #[.val (.ref x1), .val (.ref b_23), .unset, .unset, .unset] [])) _
    refine XS.aloadN X23.here hx rfl (hb hby d7_4) rfl rfl ?_
    show Steps p.tables e below (T23.setTop (mkF m 5 #[.val (.ref x1), .val (.ref b_23), .unset, .unset, .unset] [(.ref b_23)])) _
    refine X23.arraylength hx Ar_a24.1 (State.isArrayOf_alike hZ.alike Ar_a24.2.1) (g := (mkF m 5 #[.val (.ref x1), .val (.ref b_23), .unset, .unset, .unset] [(.ref b_23)])) rfl rfl (hb hby d7_5) _ ?_
    rw [len_of S_a24 N_a24]
    show Steps p.tables e below (T23.setTop (mkF m 6 #[.val (.ref x1), .val (.ref b_23), .unset, .unset, .unset] [(.int (3 : Int32))])) _
    refine XS.istoreN X23.here hx rfl (hb hby d7_6) rfl (l' := #[.val (.ref x1), .val (.ref b_23), .val (.int (3 : Int32)), .unset, .unset]) rfl ?_
    show Steps p.tables e below (T23.setTop (mkF m 7 #[.val (.ref x1), .val (.ref b_23), .val (.int (3 : Int32)), .unset, .unset] [])) _
    refine XS.iconst X23.here hx rfl (hb hby d7_7) ?_
    show Steps p.tables e below (T23.setTop (mkF m 8 #[.val (.ref x1), .val (.ref b_23), .val (.int (3 : Int32)), .unset, .unset] [(.int (0 : Int32))])) _
    refine XS.istoreN X23.here hx rfl (hb hby d7_8) rfl (l' := #[.val (.ref x1), .val (.ref b_23), .val (.int (3 : Int32)), .val (.int (0 : Int32)), .unset]) rfl ?_
    show Steps p.tables e below (T23.setTop (mkF m 9 #[.val (.ref x1), .val (.ref b_23), .val (.int (3 : Int32)), .val (.int (0 : Int32)), .unset] [])) _
    refine XS.iloadN X23.here hx rfl (hb hby d7_9) rfl ?_
    show Steps p.tables e below (T23.setTop (mkF m 10 #[.val (.ref x1), .val (.ref b_23), .val (.int (3 : Int32)), .val (.int (0 : Int32)), .unset] [(.int (0 : Int32))])) _
    refine XS.iloadN X23.here hx rfl (hb hby d7_10) rfl ?_
    show Steps p.tables e below (T23.setTop (mkF m 11 #[.val (.ref x1), .val (.ref b_23), .val (.int (3 : Int32)), .val (.int (0 : Int32)), .unset] [(.int (3 : Int32)), (.int (0 : Int32))])) _
    refine XS.icmpNo X23.here hx rfl (hb hby d7_11) rfl (tlt (by decide : (0 : Int32) < (3 : Int32))).2.1 ?_
    show Steps p.tables e below (T23.setTop (mkF m 14 #[.val (.ref x1), .val (.ref b_23), .val (.int (3 : Int32)), .val (.int (0 : Int32)), .unset] [])) _
    refine XS.aloadN X23.here hx rfl (hb hby d7_14) rfl rfl ?_
    show Steps p.tables e below (T23.setTop (mkF m 15 #[.val (.ref x1), .val (.ref b_23), .val (.int (3 : Int32)), .val (.int (0 : Int32)), .unset] [(.ref b_23)])) _
    refine XS.iloadN X23.here hx rfl (hb hby d7_15) rfl ?_
    show Steps p.tables e below (T23.setTop (mkF m 16 #[.val (.ref x1), .val (.ref b_23), .val (.int (3 : Int32)), .val (.int (0 : Int32)), .unset] [(.int (0 : Int32)), (.ref b_23)])) _
    refine X23.aaload hx (j := (0 : Int32)) (v := (.ref st_EXACT)) Ar_a25.1 (State.isArrayOf_alike hZ.alike Ar_a25.2.1) rfl Ar_a25.2.2 hin_a25 hat_a25 (g := (mkF m 16 #[.val (.ref x1), .val (.ref b_23), .val (.int (3 : Int32)), .val (.int (0 : Int32)), .unset] [(.int (0 : Int32)), (.ref b_23)])) rfl rfl (hb hby d7_16) _ ?_
    show Steps p.tables e below (T23.setTop (mkF m 17 #[.val (.ref x1), .val (.ref b_23), .val (.int (3 : Int32)), .val (.int (0 : Int32)), .unset] [(.ref st_EXACT)])) _
    refine XS.astore X23.here hx rfl (hb hby d7_17) rfl rfl (l' := #[.val (.ref x1), .val (.ref b_23), .val (.int (3 : Int32)), .val (.int (0 : Int32)), .val (.ref st_EXACT)]) rfl ?_
    show Steps p.tables e below (T23.setTop (mkF m 19 #[.val (.ref x1), .val (.ref b_23), .val (.int (3 : Int32)), .val (.int (0 : Int32)), .val (.ref st_EXACT)] [])) _
    refine XS.aload X23.here hx rfl (hb hby d7_19) rfl rfl ?_
    show Steps p.tables e below (T23.setTop (mkF m 21 #[.val (.ref x1), .val (.ref b_23), .val (.int (3 : Int32)), .val (.int (0 : Int32)), .val (.ref st_EXACT)] [(.ref st_EXACT)])) _
    refine st27 _ ?_
    show Steps p.tables e below (T27.setTop (mkF m 24 #[.val (.ref x1), .val (.ref b_23), .val (.int (3 : Int32)), .val (.int (0 : Int32)), .val (.ref st_EXACT)] [(.ref st_EXACT_text)])) _
    refine XS.aloadN X27.here hx rfl (hb hby d7_24) rfl rfl ?_
    show Steps p.tables e below (T27.setTop (mkF m 25 #[.val (.ref x1), .val (.ref b_23), .val (.int (3 : Int32)), .val (.int (0 : Int32)), .val (.ref st_EXACT)] [(.ref x1), (.ref st_EXACT_text)])) _
    refine st40.trans ?_
    show Steps p.tables e below (T40.setTop (mkF m 28 #[.val (.ref x1), .val (.ref b_23), .val (.int (3 : Int32)), .val (.int (0 : Int32)), .val (.ref st_EXACT)] [(.int (0 : Int32))])) _
    refine XS.ifYes X40.here hx rfl (pc0 := 28) (pc' := 34) rfl (hb hby d7_28) rfl ((if0 _ _).trans (teq (by decide : (0 : Int32) = (0 : Int32))).1) (by decide) (by decide) ?_
    show Steps p.tables e below (T40.setTop (mkF m 34 #[.val (.ref x1), .val (.ref b_23), .val (.int (3 : Int32)), .val (.int (0 : Int32)), .val (.ref st_EXACT)] [])) _
    refine XS.iinc X40.here hx rfl (hb hby d7_34) rfl (l' := #[.val (.ref x1), .val (.ref b_23), .val (.int (3 : Int32)), .val (.int ((0 : Int32) + (1 : Int32))), .val (.ref st_EXACT)]) rfl ?_
    show Steps p.tables e below (T40.setTop (mkF m 37 #[.val (.ref x1), .val (.ref b_23), .val (.int (3 : Int32)), .val (.int ((0 : Int32) + (1 : Int32))), .val (.ref st_EXACT)] [])) _
    refine XS.goto X40.here hx rfl (pc0 := 37) (pc' := 9) rfl (hb hby d7_37) (by decide) (by decide) ?_
    show Steps p.tables e below (T40.setTop (mkF m 9 #[.val (.ref x1), .val (.ref b_23), .val (.int (3 : Int32)), .val (.int ((0 : Int32) + (1 : Int32))), .val (.ref st_EXACT)] [])) _
    refine XS.iloadN X40.here hx rfl (hb hby d7_9) rfl ?_
    show Steps p.tables e below (T40.setTop (mkF m 10 #[.val (.ref x1), .val (.ref b_23), .val (.int (3 : Int32)), .val (.int ((0 : Int32) + (1 : Int32))), .val (.ref st_EXACT)] [(.int ((0 : Int32) + (1 : Int32)))])) _
    refine XS.iloadN X40.here hx rfl (hb hby d7_10) rfl ?_
    show Steps p.tables e below (T40.setTop (mkF m 11 #[.val (.ref x1), .val (.ref b_23), .val (.int (3 : Int32)), .val (.int ((0 : Int32) + (1 : Int32))), .val (.ref st_EXACT)] [(.int (3 : Int32)), (.int ((0 : Int32) + (1 : Int32)))])) _
    refine XS.icmpNo X40.here hx rfl (hb hby d7_11) rfl (tlt (by decide : ((0 : Int32) + (1 : Int32)) < (3 : Int32))).2.1 ?_
    show Steps p.tables e below (T40.setTop (mkF m 14 #[.val (.ref x1), .val (.ref b_23), .val (.int (3 : Int32)), .val (.int ((0 : Int32) + (1 : Int32))), .val (.ref st_EXACT)] [])) _
    refine XS.aloadN X40.here hx rfl (hb hby d7_14) rfl rfl ?_
    show Steps p.tables e below (T40.setTop (mkF m 15 #[.val (.ref x1), .val (.ref b_23), .val (.int (3 : Int32)), .val (.int ((0 : Int32) + (1 : Int32))), .val (.ref st_EXACT)] [(.ref b_23)])) _
    refine XS.iloadN X40.here hx rfl (hb hby d7_15) rfl ?_
    show Steps p.tables e below (T40.setTop (mkF m 16 #[.val (.ref x1), .val (.ref b_23), .val (.int (3 : Int32)), .val (.int ((0 : Int32) + (1 : Int32))), .val (.ref st_EXACT)] [(.int ((0 : Int32) + (1 : Int32))), (.ref b_23)])) _
    refine X40.aaload hx (j := ((0 : Int32) + (1 : Int32))) (v := (.ref st_PARTIAL)) (by rw [eh40]; exact Ar_a41.1) (State.isArrayOf_alike hZ.alike Ar_a41.2.1) rfl Ar_a41.2.2 hin_a41 hat_a41 (g := (mkF m 16 #[.val (.ref x1), .val (.ref b_23), .val (.int (3 : Int32)), .val (.int ((0 : Int32) + (1 : Int32))), .val (.ref st_EXACT)] [(.int ((0 : Int32) + (1 : Int32))), (.ref b_23)])) rfl rfl (hb hby d7_16) _ ?_
    show Steps p.tables e below (T40.setTop (mkF m 17 #[.val (.ref x1), .val (.ref b_23), .val (.int (3 : Int32)), .val (.int ((0 : Int32) + (1 : Int32))), .val (.ref st_EXACT)] [(.ref st_PARTIAL)])) _
    refine XS.astore X40.here hx rfl (hb hby d7_17) rfl rfl (l' := #[.val (.ref x1), .val (.ref b_23), .val (.int (3 : Int32)), .val (.int ((0 : Int32) + (1 : Int32))), .val (.ref st_PARTIAL)]) rfl ?_
    show Steps p.tables e below (T40.setTop (mkF m 19 #[.val (.ref x1), .val (.ref b_23), .val (.int (3 : Int32)), .val (.int ((0 : Int32) + (1 : Int32))), .val (.ref st_PARTIAL)] [])) _
    refine XS.aload X40.here hx rfl (hb hby d7_19) rfl rfl ?_
    show Steps p.tables e below (T40.setTop (mkF m 21 #[.val (.ref x1), .val (.ref b_23), .val (.int (3 : Int32)), .val (.int ((0 : Int32) + (1 : Int32))), .val (.ref st_PARTIAL)] [(.ref st_PARTIAL)])) _
    refine st43 _ ?_
    show Steps p.tables e below (T43.setTop (mkF m 24 #[.val (.ref x1), .val (.ref b_23), .val (.int (3 : Int32)), .val (.int ((0 : Int32) + (1 : Int32))), .val (.ref st_PARTIAL)] [(.ref st_PARTIAL_text)])) _
    refine XS.aloadN X43.here hx rfl (hb hby d7_24) rfl rfl ?_
    show Steps p.tables e below (T43.setTop (mkF m 25 #[.val (.ref x1), .val (.ref b_23), .val (.int (3 : Int32)), .val (.int ((0 : Int32) + (1 : Int32))), .val (.ref st_PARTIAL)] [(.ref x1), (.ref st_PARTIAL_text)])) _
    refine st50.trans ?_
    show Steps p.tables e below (T50.setTop (mkF m 28 #[.val (.ref x1), .val (.ref b_23), .val (.int (3 : Int32)), .val (.int ((0 : Int32) + (1 : Int32))), .val (.ref st_PARTIAL)] [(.int (1 : Int32))])) _
    refine XS.ifNo X50.here hx rfl (hb hby d7_28) rfl ((if0 _ _).trans (feq (by decide : ¬ ((1 : Int32) = (0 : Int32)))).1) ?_
    show Steps p.tables e below (T50.setTop (mkF m 31 #[.val (.ref x1), .val (.ref b_23), .val (.int (3 : Int32)), .val (.int ((0 : Int32) + (1 : Int32))), .val (.ref st_PARTIAL)] [])) _
    refine XS.aload X50.here hx rfl (hb hby d7_31) rfl rfl ?_
    show Steps p.tables e below (T50.setTop (mkF m 33 #[.val (.ref x1), .val (.ref b_23), .val (.int (3 : Int32)), .val (.int ((0 : Int32) + (1 : Int32))), .val (.ref st_PARTIAL)] [(.ref st_PARTIAL)])) _
    jvm_step X50.here [X50.here.top, hx, (hb hby d7_33), X50.method', Bd.returns, Value.isRef, FieldType.isReference]
    first | (intro acts; rw [hr _ acts rfl rfl rfl]) | rw [hr _ _ rfl rfl rfl]
    exact Steps.refl _
  · show Q7_1 Z x1 st__VALUES k_st__VALUES st_EXACT st_PARTIAL st_IRRELEVANT st_EXACT_text st_EXACT_text_value k_st_EXACT_text_value st_PARTIAL_text st_PARTIAL_text_value k_st_PARTIAL_text_value x1_value kx st_COMPACT_STRINGS h0 n0 _ T50.heap _
    rw [eh50]
    exact ⟨rfl, N50, K23⟩
theorem ef7_2 (m : MethodId) (x1 : Addr) : entryFrame m #[(.ref x1)] 5 = mkF m 0 #[.val (.ref x1), .unset, .unset, .unset, .unset] [] := by first | (simp [entryFrame, mkF, argsToLocals, Value.category]; done) | rfl
def Q7_2 (Z : State) (x1 : Addr) (st__VALUES : Addr) (k_st__VALUES : ClassId) (st_EXACT : Addr) (st_PARTIAL : Addr) (st_IRRELEVANT : Addr) (st_EXACT_text : Addr) (st_EXACT_text_value : Addr) (k_st_EXACT_text_value : ClassId) (st_PARTIAL_text : Addr) (st_PARTIAL_text_value : Addr) (k_st_PARTIAL_text_value : ClassId) (st_IRRELEVANT_text : Addr) (st_IRRELEVANT_text_value : Addr) (k_st_IRRELEVANT_text_value : ClassId) (x1_value : Addr) (kx : ClassId) (st_COMPACT_STRINGS : Int32) (h0 : Heap) (n0 : Nat) (v : Option Value) (h : Heap) (L : List Loc) : Prop := v = some (.ref st_IRRELEVANT) ∧ Fr n0 L ∧ Keep h0 h []
set_option maxRecDepth 65536 in
set_option maxHeartbeats 40000000 in
theorem rm7_2 (l : Launch) (Z : State) (a0 : Array Value) (hw : ∀ d ∈ tables_1, d.before a0 Z = true) (ws : List Jvm.Cond) (x1 : Addr) (st__VALUES : Addr) (k_st__VALUES : ClassId) (st_EXACT : Addr) (st_PARTIAL : Addr) (st_IRRELEVANT : Addr) (st_EXACT_text : Addr) (st_EXACT_text_value : Addr) (k_st_EXACT_text_value : ClassId) (st_PARTIAL_text : Addr) (st_PARTIAL_text_value : Addr) (k_st_PARTIAL_text_value : ClassId) (st_IRRELEVANT_text : Addr) (st_IRRELEVANT_text_value : Addr) (k_st_IRRELEVANT_text_value : ClassId) (x1_value : Addr) (kx : ClassId) (st_COMPACT_STRINGS : Int32) (h0 : Heap) (n0 : Nat) (Z0 : n0 ≤ h0.size) (O0 : Old Z n0 h0) (V_vals : Arv Z h0 st__VALUES k_st__VALUES (.object "com/example/kompas/kompas/eval/Label") (3 : Int32) [(.ref st_EXACT), (.ref st_PARTIAL), (.ref st_IRRELEVANT)] .null) (E_vals : Exa Z h0 st__VALUES "[Lcom/example/kompas/kompas/eval/Label;") (F_st_EXACT_text : Fld Z h0 st_EXACT "com/example/kompas/kompas/eval/Label" "text" "Ljava/lang/String;" (.ref st_EXACT_text)) (E_st_EXACT_text : Exa Z h0 st_EXACT_text "java/lang/String") (F_st_EXACT_text_value : Fld Z h0 st_EXACT_text "java/lang/String" "value" "[B" (.ref st_EXACT_text_value)) (F_st_EXACT_text_coder : Fld Z h0 st_EXACT_text "java/lang/String" "coder" "B" (.int (0 : Int32))) (V_st_EXACT_text_value : Arv Z h0 st_EXACT_text_value k_st_EXACT_text_value .byte (5 : Int32) [(.int (69 : Int32)), (.int (120 : Int32)), (.int (97 : Int32)), (.int (99 : Int32)), (.int (116 : Int32))] (.int (0 : Int32))) (F_st_PARTIAL_text : Fld Z h0 st_PARTIAL "com/example/kompas/kompas/eval/Label" "text" "Ljava/lang/String;" (.ref st_PARTIAL_text)) (E_st_PARTIAL_text : Exa Z h0 st_PARTIAL_text "java/lang/String") (F_st_PARTIAL_text_value : Fld Z h0 st_PARTIAL_text "java/lang/String" "value" "[B" (.ref st_PARTIAL_text_value)) (F_st_PARTIAL_text_coder : Fld Z h0 st_PARTIAL_text "java/lang/String" "coder" "B" (.int (0 : Int32))) (V_st_PARTIAL_text_value : Arv Z h0 st_PARTIAL_text_value k_st_PARTIAL_text_value .byte (7 : Int32) [(.int (80 : Int32)), (.int (97 : Int32)), (.int (114 : Int32)), (.int (116 : Int32)), (.int (105 : Int32)), (.int (97 : Int32)), (.int (108 : Int32))] (.int (0 : Int32))) (F_st_IRRELEVANT_text : Fld Z h0 st_IRRELEVANT "com/example/kompas/kompas/eval/Label" "text" "Ljava/lang/String;" (.ref st_IRRELEVANT_text)) (E_st_IRRELEVANT_text : Exa Z h0 st_IRRELEVANT_text "java/lang/String") (F_st_IRRELEVANT_text_value : Fld Z h0 st_IRRELEVANT_text "java/lang/String" "value" "[B" (.ref st_IRRELEVANT_text_value)) (F_st_IRRELEVANT_text_coder : Fld Z h0 st_IRRELEVANT_text "java/lang/String" "coder" "B" (.int (0 : Int32))) (V_st_IRRELEVANT_text_value : Arv Z h0 st_IRRELEVANT_text_value k_st_IRRELEVANT_text_value .byte (10 : Int32) [(.int (73 : Int32)), (.int (114 : Int32)), (.int (114 : Int32)), (.int (101 : Int32)), (.int (108 : Int32)), (.int (101 : Int32)), (.int (118 : Int32)), (.int (97 : Int32)), (.int (110 : Int32)), (.int (116 : Int32))] (.int (0 : Int32))) (E_x1 : Exa Z h0 x1 "java/lang/String") (F_x1_value : Fld Z h0 x1 "java/lang/String" "value" "[B" (.ref x1_value)) (F_x1_coder : Fld Z h0 x1 "java/lang/String" "coder" "B" (.int (0 : Int32))) (V_x1 : Arv Z h0 x1_value kx .byte (10 : Int32) (((([(73 : Int32), (114 : Int32), (114 : Int32), (101 : Int32), (108 : Int32), (101 : Int32), (118 : Int32), (97 : Int32), (110 : Int32), (116 : Int32)] : List Int32)).map (fun c => c.toInt8.toInt32)).map Value.int) (.int 0)) (S__VALUES : Sta Z Z.heap "com/example/kompas/kompas/eval/Label" "$VALUES" "[Lcom/example/kompas/kompas/eval/Label;" (.ref st__VALUES)) (S_COMPACT_STRINGS : Sta Z Z.heap "java/lang/String" "COMPACT_STRINGS" "Z" (.int st_COMPACT_STRINGS)) (hcomp : ¬ (st_COMPACT_STRINGS = (0 : Int32))) :
    MetFree l (⟨"com/example/kompas/kompas/eval/Label", "parse", "(Ljava/lang/String;)Lcom/example/kompas/kompas/eval/Label;"⟩ : MethodName) (head1 (Jvm.Cond.code (⟨"com/example/kompas/kompas/eval/Label", "parse", "(Ljava/lang/String;)Lcom/example/kompas/kompas/eval/Label;"⟩ : MethodName) prog_3_method_5_code 5 (some (.object "com/example/kompas/kompas/eval/Label")) :: ws) ({ frames := 2, cells := 1, slots := 3, locals := 28 } : Room)) (fun a U => a = #[(.ref x1)] ∧ Z.Warmed39 U.vm ∧ U.heap = h0) (fun _ _ _ _ _ => True) (fun _ U o U' => ∃ v L, o = .returned v ∧ Q7_2 Z x1 st__VALUES k_st__VALUES st_EXACT st_PARTIAL st_IRRELEVANT st_EXACT_text st_EXACT_text_value k_st_EXACT_text_value st_PARTIAL_text st_PARTIAL_text_value k_st_PARTIAL_text_value st_IRRELEVANT_text st_IRRELEVANT_text_value k_st_IRRELEVANT_text_value x1_value kx st_COMPACT_STRINGS h0 n0 v U'.heap L ∧ FrameEnd U o U' L ({ frames := 2, cells := 1, slots := 3, locals := 28 } : Room).cells ({ frames := 2, cells := 1, slots := 3, locals := 28 } : Room).slots) := by
  refine MetFree.of_bodySF (plainFor_of_name pn_com_example_kompas_kompas_eval_Label) hisR ?_
  intro p e s m args below meth c s₁ Bd hml0 hP hK
  obtain ⟨rfl, hZ, hh⟩ := hP
  have hx := Bd.exec
  have hby := Bd.bytes
  have hml : c.maxLocals = 5 := hml0
  have hown : s.vm.findClass "com/example/kompas/kompas/eval/Label" = some m.cls := findClass_of_methodNamed Bd.named
  have hnm := (name_of_methodNamed Bd.named Bd.method).1
  have X0 : Stand p l e ({ frames := 2, cells := 1, slots := 3, locals := 28 } : Room) s m #[(.ref x1)] below meth c s₁ [] 0 0 := Stand.of_body Bd
  have e0 : s₁.heap = h0 := by rw [← hh, Bd.state]; rfl
  have N0 := Fr.nil n0
  have K0 : Keep h0 h0 [] := Keep.refl _ _
  have pre0 : ∀ t, Steps p.tables e below (s₁.setTop (mkF m 0 #[.val (.ref x1), .unset, .unset, .unset, .unset] [])) t → Steps p.tables e below (s₁.setTop (entryFrame m #[(.ref x1)] 5)) t := fun t k => castTop (ef7_2 m x1) k
  have hpx : ∀ c ∈ ([(73 : Int32), (114 : Int32), (114 : Int32), (101 : Int32), (108 : Int32), (101 : Int32), (118 : Int32), (97 : Int32), (110 : Int32), (116 : Int32)] : List Int32), ¬ c < 0 ∧ ¬ (255 : Int32) < c := by decide +kernel
  obtain ⟨_, _, ⟨T51, L51, k51, n51⟩, -, X51, ⟨Lc51, hQ51, l51, y51, z51⟩, st51⟩ := Jvm.LawKit.callS X0 hx (y := (⟨"com/example/kompas/kompas/eval/Label", "values", "()[Lcom/example/kompas/kompas/eval/Label;"⟩ : MethodName)) hown (mvT hZ (hw _ (List.mem_of_getElem? (i := 37) rfl))) (mvT hZ (hw _ (List.mem_of_getElem? (i := 38) rfl))) (mvT hZ (hw _ (List.mem_of_getElem? (i := 32) rfl))) (mvT hZ (hw _ (List.mem_of_getElem? (i := 39) rfl))) (by decide) (backOf (W := 0) (rm8 l Z a0 hw [] st__VALUES k_st__VALUES st_EXACT st_PARTIAL st_IRRELEVANT h0 n0 Z0 O0 V_vals E_vals S__VALUES) hZ (hw _ (List.mem_of_getElem? (i := 39) rfl)) (hw _ (List.mem_of_getElem? (i := 32) rfl)) (by decide) (by decide)) (g := (mkF m 0 #[.val (.ref x1), .unset, .unset, .unset, .unset] [])) rfl (by rw [hml]; rfl) (argsL := []) (rest := []) (lenOf pd_0 rfl) rfl (by show 2 * 0 + _ ≤ _; exact Nat.le_of_eq rfl) (hb hby d7_0) (fun _ _ => ⟨rfl, e0, (by decide : 0 + 1 ≤ _), (by decide : 0 + 3 ≤ _)⟩)
  dsimp only [Pt.U, Pt.locs, Pt.cells, Pt.slots] at X51 l51 y51 z51 st51 hQ51
  subst l51 y51 z51
  obtain ⟨b_51, rfl, N51q, KK51, Q51_0, Q51_1, Q51_2⟩ := hQ51
  have N51 := Fr.app N0 N51q
  have O51 : Old Z n0 T51.heap := O0.keep KK51 all0
  have Z51 : n0 ≤ T51.heap.size := Nat.le_trans Z0 KK51.1
  have K51 : Keep h0 T51.heap [] := K0.trans KK51 all0
  have g_b_51 : n0 ≤ b_51 := Nat.le_trans Z0 Q51_0
  have sz_b_51 : h0.size ≤ b_51 := Nat.le_trans K0.1 Q51_0
  obtain ⟨cl_a52, Ar_a52, -, S_a52, N_a52, -, -⟩ := id Q51_2
  obtain ⟨cl_a53, Ar_a53, -, S_a53, N_a53, H_a53, -⟩ := id Q51_2
  have hin_a53 : ¬ ((0 : Int32) < 0 ∨ cl_a53.slots.size ≤ ((0 : Int32)).toNatClampNeg) := inb_of S_a53 ⟨by decide, by decide⟩
  have hat_a53 : cl_a53.slots[((0 : Int32)).toNatClampNeg]? = some (.ref st_EXACT) := H_a53.at hin_a53 rfl
  have F54 : Fld Z T51.heap st_EXACT "com/example/kompas/kompas/eval/Label" "text" "Ljava/lang/String;" (.ref st_EXACT_text) := (F_st_EXACT_text.keep KK51 nin0)
  obtain ⟨T55, X55, e55, st55⟩ := getF X51 hx hZ hown (host := "") (Or.inl (hw _ (List.mem_of_getElem? (i := 54) rfl))) Via.refl rfl F54 (g := (mkF m 21 #[.val (.ref x1), .val (.ref b_51), .val (.int (3 : Int32)), .val (.int (0 : Int32)), .val (.ref st_EXACT)] [(.ref st_EXACT)])) rfl rfl (hb hby d7_21)
  have C56 : Exa Z T51.heap st_EXACT_text "java/lang/String" := (E_st_EXACT_text.keep KK51)
  have F57 : Fld Z T51.heap st_EXACT_text "java/lang/String" "value" "[B" (.ref st_EXACT_text_value) := (F_st_EXACT_text_value.keep KK51 nin0)
  have F58 : Fld Z T51.heap st_EXACT_text "java/lang/String" "coder" "B" (.int (0 : Int32)) := (F_st_EXACT_text_coder.keep KK51 nin0)
  have V59 : Arv Z T51.heap st_EXACT_text_value k_st_EXACT_text_value .byte (5 : Int32) [(.int (69 : Int32)), (.int (120 : Int32)), (.int (97 : Int32)), (.int (99 : Int32)), (.int (116 : Int32))] (.int (0 : Int32)) := (V_st_EXACT_text_value.keep KK51 nin0)
  have cd60 : StrChars.Road.CodA ([(69 : Int32), (120 : Int32), (97 : Int32), (99 : Int32), (116 : Int32)] : List Int32) 0 (5 : Int32) [(.int (69 : Int32)), (.int (120 : Int32)), (.int (97 : Int32)), (.int (99 : Int32)), (.int (116 : Int32))] := Or.inl ⟨rfl, by decide +kernel, by decide +kernel, by decide +kernel⟩
  have hb61 : ∀ c ∈ ([(69 : Int32), (120 : Int32), (97 : Int32), (99 : Int32), (116 : Int32)] : List Int32), ¬ c < 0 ∧ ¬ (65535 : Int32) < c := by decide +kernel
  have C62 : Exa Z T51.heap x1 "java/lang/String" := (E_x1.keep KK51)
  have F63 : Fld Z T51.heap x1 "java/lang/String" "value" "[B" (.ref x1_value) := (F_x1_value.keep KK51 nin0)
  have F64 : Fld Z T51.heap x1 "java/lang/String" "coder" "B" (.int (0 : Int32)) := (F_x1_coder.keep KK51 nin0)
  have V65 : Arv Z T51.heap x1_value kx .byte (10 : Int32) (((([(73 : Int32), (114 : Int32), (114 : Int32), (101 : Int32), (108 : Int32), (101 : Int32), (118 : Int32), (97 : Int32), (110 : Int32), (116 : Int32)] : List Int32)).map (fun c => c.toInt8.toInt32)).map Value.int) (.int 0) := (V_x1.keep KK51 nin0)
  have cd66 : StrChars.Road.CodA ([(73 : Int32), (114 : Int32), (114 : Int32), (101 : Int32), (108 : Int32), (101 : Int32), (118 : Int32), (97 : Int32), (110 : Int32), (116 : Int32)] : List Int32) 0 (10 : Int32) (((([(73 : Int32), (114 : Int32), (114 : Int32), (101 : Int32), (108 : Int32), (101 : Int32), (118 : Int32), (97 : Int32), (110 : Int32), (116 : Int32)] : List Int32)).map (fun c => c.toInt8.toInt32)).map Value.int) := StrChars.Road.codOf (n := 10) rfl (fun c hc => (hpx c hc).2)
  have hb67 : ∀ c ∈ ([(73 : Int32), (114 : Int32), (114 : Int32), (101 : Int32), (108 : Int32), (101 : Int32), (118 : Int32), (97 : Int32), (110 : Int32), (116 : Int32)] : List Int32), ¬ c < 0 ∧ ¬ (65535 : Int32) < c := own_up _ hpx
  obtain ⟨cq68, kq68, q68a, q68b, q68c⟩ := isOf hZ e55 C56
  obtain ⟨_, _, ⟨T68, L68, k68, n68⟩, -, X68, ⟨Lc68, hQ68, l68, y68, z68⟩, st68⟩ := X55.virtualBack hx (y := (⟨"java/lang/String", "equals", "(Ljava/lang/Object;)Z"⟩ : MethodName)) (z := (⟨"java/lang/String", "equals", "(Ljava/lang/Object;)Z"⟩ : MethodName)) hown (mvT hZ (hw _ (List.mem_of_getElem? (i := 56) rfl))) (mvT hZ (hw _ (List.mem_of_getElem? (i := 57) rfl))) (notFace_of_selects (args := #[]) (mvT hZ (hw _ (List.mem_of_getElem? (i := 59) rfl)))) (mvT hZ (hw _ (List.mem_of_getElem? (i := 59) rfl))) (mvT hZ (hw _ (List.mem_of_getElem? (i := 58) rfl))) (by decide) (StrChars.Road.eqW (W := 0) hZ (own_heq hw) (kI := 4) (hw _ (List.mem_of_getElem? (i := 2) rfl)) C56 F57 F58 V59 cd60 hb61 (Nat.le_of_ble_eq_true rfl) C62 F63 F64 V65 cd66 hb67 (Nat.le_of_ble_eq_true rfl) (S_COMPACT_STRINGS.ext O51.2) hcomp (by decide) (by decide)) q68a q68c (g := (mkF m 25 #[.val (.ref x1), .val (.ref b_51), .val (.int (3 : Int32)), .val (.int (0 : Int32)), .val (.ref st_EXACT)] [(.ref x1), (.ref st_EXACT_text)])) rfl (by rw [hml]; rfl) (Steps.refl _) (argsL := [(.ref x1)]) (rest := []) (lenOf pd_1 rfl) rfl (by show 2 * 0 + _ ≤ _; exact Nat.le_of_eq rfl) (hb hby d7_25) (fun _ _ => ⟨rfl, e55, (by decide : 1 + 0 ≤ _), (by decide : 3 + 0 ≤ _)⟩)
  dsimp only [Pt.U, Pt.locs, Pt.cells, Pt.slots] at X68 l68 y68 z68 st68 hQ68
  subst l68 y68 z68
  obtain ⟨hv68, rfl, eh68⟩ := hQ68
  have N68 := Fr.app N51 (Fr.nil n0)
  obtain ⟨rfl, -⟩ : _ ∧ _ := hv68.resolve_left (fun q => (by decide : ¬ (([(69 : Int32), (120 : Int32), (97 : Int32), (99 : Int32), (116 : Int32)] : List Int32) = ([(73 : Int32), (114 : Int32), (114 : Int32), (101 : Int32), (108 : Int32), (101 : Int32), (118 : Int32), (97 : Int32), (110 : Int32), (116 : Int32)] : List Int32))) q.2)
  obtain ⟨cl_a69, Ar_a69, -, S_a69, N_a69, H_a69, -⟩ := id Q51_2
  have hin_a69 : ¬ (((0 : Int32) + (1 : Int32)) < 0 ∨ cl_a69.slots.size ≤ (((0 : Int32) + (1 : Int32))).toNatClampNeg) := inb_of S_a69 ⟨by decide, by decide⟩
  have hat_a69 : cl_a69.slots[(((0 : Int32) + (1 : Int32))).toNatClampNeg]? = some (.ref st_PARTIAL) := H_a69.at hin_a69 rfl
  have F70 : Fld Z T51.heap st_PARTIAL "com/example/kompas/kompas/eval/Label" "text" "Ljava/lang/String;" (.ref st_PARTIAL_text) := (F_st_PARTIAL_text.keep KK51 nin0)
  obtain ⟨T71, X71, e71, st71⟩ := getF X68 hx hZ hown (host := "") (Or.inl (hw _ (List.mem_of_getElem? (i := 54) rfl))) Via.refl eh68 F70 (g := (mkF m 21 #[.val (.ref x1), .val (.ref b_51), .val (.int (3 : Int32)), .val (.int ((0 : Int32) + (1 : Int32))), .val (.ref st_PARTIAL)] [(.ref st_PARTIAL)])) rfl rfl (hb hby d7_21)
  have C72 : Exa Z T51.heap st_PARTIAL_text "java/lang/String" := (E_st_PARTIAL_text.keep KK51)
  have F73 : Fld Z T51.heap st_PARTIAL_text "java/lang/String" "value" "[B" (.ref st_PARTIAL_text_value) := (F_st_PARTIAL_text_value.keep KK51 nin0)
  have F74 : Fld Z T51.heap st_PARTIAL_text "java/lang/String" "coder" "B" (.int (0 : Int32)) := (F_st_PARTIAL_text_coder.keep KK51 nin0)
  have V75 : Arv Z T51.heap st_PARTIAL_text_value k_st_PARTIAL_text_value .byte (7 : Int32) [(.int (80 : Int32)), (.int (97 : Int32)), (.int (114 : Int32)), (.int (116 : Int32)), (.int (105 : Int32)), (.int (97 : Int32)), (.int (108 : Int32))] (.int (0 : Int32)) := (V_st_PARTIAL_text_value.keep KK51 nin0)
  have cd76 : StrChars.Road.CodA ([(80 : Int32), (97 : Int32), (114 : Int32), (116 : Int32), (105 : Int32), (97 : Int32), (108 : Int32)] : List Int32) 0 (7 : Int32) [(.int (80 : Int32)), (.int (97 : Int32)), (.int (114 : Int32)), (.int (116 : Int32)), (.int (105 : Int32)), (.int (97 : Int32)), (.int (108 : Int32))] := Or.inl ⟨rfl, by decide +kernel, by decide +kernel, by decide +kernel⟩
  have hb77 : ∀ c ∈ ([(80 : Int32), (97 : Int32), (114 : Int32), (116 : Int32), (105 : Int32), (97 : Int32), (108 : Int32)] : List Int32), ¬ c < 0 ∧ ¬ (65535 : Int32) < c := by decide +kernel
  obtain ⟨cq78, kq78, q78a, q78b, q78c⟩ := isOf hZ e71 C72
  obtain ⟨_, _, ⟨T78, L78, k78, n78⟩, -, X78, ⟨Lc78, hQ78, l78, y78, z78⟩, st78⟩ := X71.virtualBack hx (y := (⟨"java/lang/String", "equals", "(Ljava/lang/Object;)Z"⟩ : MethodName)) (z := (⟨"java/lang/String", "equals", "(Ljava/lang/Object;)Z"⟩ : MethodName)) hown (mvT hZ (hw _ (List.mem_of_getElem? (i := 56) rfl))) (mvT hZ (hw _ (List.mem_of_getElem? (i := 57) rfl))) (notFace_of_selects (args := #[]) (mvT hZ (hw _ (List.mem_of_getElem? (i := 59) rfl)))) (mvT hZ (hw _ (List.mem_of_getElem? (i := 59) rfl))) (mvT hZ (hw _ (List.mem_of_getElem? (i := 58) rfl))) (by decide) (StrChars.Road.eqW (W := 0) hZ (own_heq hw) (kI := 4) (hw _ (List.mem_of_getElem? (i := 2) rfl)) C72 F73 F74 V75 cd76 hb77 (Nat.le_of_ble_eq_true rfl) C62 F63 F64 V65 cd66 hb67 (Nat.le_of_ble_eq_true rfl) (S_COMPACT_STRINGS.ext O51.2) hcomp (by decide) (by decide)) q78a q78c (g := (mkF m 25 #[.val (.ref x1), .val (.ref b_51), .val (.int (3 : Int32)), .val (.int ((0 : Int32) + (1 : Int32))), .val (.ref st_PARTIAL)] [(.ref x1), (.ref st_PARTIAL_text)])) rfl (by rw [hml]; rfl) (Steps.refl _) (argsL := [(.ref x1)]) (rest := []) (lenOf pd_1 rfl) rfl (by show 2 * 0 + _ ≤ _; exact Nat.le_of_eq rfl) (hb hby d7_25) (fun _ _ => ⟨rfl, e71, (by decide : 1 + 0 ≤ _), (by decide : 3 + 0 ≤ _)⟩)
  dsimp only [Pt.U, Pt.locs, Pt.cells, Pt.slots] at X78 l78 y78 z78 st78 hQ78
  subst l78 y78 z78
  obtain ⟨hv78, rfl, eh78⟩ := hQ78
  have N78 := Fr.app N68 (Fr.nil n0)
  obtain ⟨rfl, -⟩ : _ ∧ _ := hv78.resolve_left (fun q => (by decide : ¬ (([(80 : Int32), (97 : Int32), (114 : Int32), (116 : Int32), (105 : Int32), (97 : Int32), (108 : Int32)] : List Int32) = ([(73 : Int32), (114 : Int32), (114 : Int32), (101 : Int32), (108 : Int32), (101 : Int32), (118 : Int32), (97 : Int32), (110 : Int32), (116 : Int32)] : List Int32))) q.2)
  obtain ⟨cl_a79, Ar_a79, -, S_a79, N_a79, H_a79, -⟩ := id Q51_2
  have hin_a79 : ¬ ((((0 : Int32) + (1 : Int32)) + (1 : Int32)) < 0 ∨ cl_a79.slots.size ≤ ((((0 : Int32) + (1 : Int32)) + (1 : Int32))).toNatClampNeg) := inb_of S_a79 ⟨by decide, by decide⟩
  have hat_a79 : cl_a79.slots[((((0 : Int32) + (1 : Int32)) + (1 : Int32))).toNatClampNeg]? = some (.ref st_IRRELEVANT) := H_a79.at hin_a79 rfl
  have F80 : Fld Z T51.heap st_IRRELEVANT "com/example/kompas/kompas/eval/Label" "text" "Ljava/lang/String;" (.ref st_IRRELEVANT_text) := (F_st_IRRELEVANT_text.keep KK51 nin0)
  obtain ⟨T81, X81, e81, st81⟩ := getF X78 hx hZ hown (host := "") (Or.inl (hw _ (List.mem_of_getElem? (i := 54) rfl))) Via.refl eh78 F80 (g := (mkF m 21 #[.val (.ref x1), .val (.ref b_51), .val (.int (3 : Int32)), .val (.int (((0 : Int32) + (1 : Int32)) + (1 : Int32))), .val (.ref st_IRRELEVANT)] [(.ref st_IRRELEVANT)])) rfl rfl (hb hby d7_21)
  have C82 : Exa Z T51.heap st_IRRELEVANT_text "java/lang/String" := (E_st_IRRELEVANT_text.keep KK51)
  have F83 : Fld Z T51.heap st_IRRELEVANT_text "java/lang/String" "value" "[B" (.ref st_IRRELEVANT_text_value) := (F_st_IRRELEVANT_text_value.keep KK51 nin0)
  have F84 : Fld Z T51.heap st_IRRELEVANT_text "java/lang/String" "coder" "B" (.int (0 : Int32)) := (F_st_IRRELEVANT_text_coder.keep KK51 nin0)
  have V85 : Arv Z T51.heap st_IRRELEVANT_text_value k_st_IRRELEVANT_text_value .byte (10 : Int32) [(.int (73 : Int32)), (.int (114 : Int32)), (.int (114 : Int32)), (.int (101 : Int32)), (.int (108 : Int32)), (.int (101 : Int32)), (.int (118 : Int32)), (.int (97 : Int32)), (.int (110 : Int32)), (.int (116 : Int32))] (.int (0 : Int32)) := (V_st_IRRELEVANT_text_value.keep KK51 nin0)
  have cd86 : StrChars.Road.CodA ([(73 : Int32), (114 : Int32), (114 : Int32), (101 : Int32), (108 : Int32), (101 : Int32), (118 : Int32), (97 : Int32), (110 : Int32), (116 : Int32)] : List Int32) 0 (10 : Int32) [(.int (73 : Int32)), (.int (114 : Int32)), (.int (114 : Int32)), (.int (101 : Int32)), (.int (108 : Int32)), (.int (101 : Int32)), (.int (118 : Int32)), (.int (97 : Int32)), (.int (110 : Int32)), (.int (116 : Int32))] := Or.inl ⟨rfl, by decide +kernel, by decide +kernel, by decide +kernel⟩
  have hb87 : ∀ c ∈ ([(73 : Int32), (114 : Int32), (114 : Int32), (101 : Int32), (108 : Int32), (101 : Int32), (118 : Int32), (97 : Int32), (110 : Int32), (116 : Int32)] : List Int32), ¬ c < 0 ∧ ¬ (65535 : Int32) < c := by decide +kernel
  obtain ⟨cq88, kq88, q88a, q88b, q88c⟩ := isOf hZ e81 C82
  obtain ⟨_, _, ⟨T88, L88, k88, n88⟩, -, X88, ⟨Lc88, hQ88, l88, y88, z88⟩, st88⟩ := X81.virtualBack hx (y := (⟨"java/lang/String", "equals", "(Ljava/lang/Object;)Z"⟩ : MethodName)) (z := (⟨"java/lang/String", "equals", "(Ljava/lang/Object;)Z"⟩ : MethodName)) hown (mvT hZ (hw _ (List.mem_of_getElem? (i := 56) rfl))) (mvT hZ (hw _ (List.mem_of_getElem? (i := 57) rfl))) (notFace_of_selects (args := #[]) (mvT hZ (hw _ (List.mem_of_getElem? (i := 59) rfl)))) (mvT hZ (hw _ (List.mem_of_getElem? (i := 59) rfl))) (mvT hZ (hw _ (List.mem_of_getElem? (i := 58) rfl))) (by decide) (StrChars.Road.eqW (W := 0) hZ (own_heq hw) (kI := 4) (hw _ (List.mem_of_getElem? (i := 2) rfl)) C82 F83 F84 V85 cd86 hb87 (Nat.le_of_ble_eq_true rfl) C62 F63 F64 V65 cd66 hb67 (Nat.le_of_ble_eq_true rfl) (S_COMPACT_STRINGS.ext O51.2) hcomp (by decide) (by decide)) q88a q88c (g := (mkF m 25 #[.val (.ref x1), .val (.ref b_51), .val (.int (3 : Int32)), .val (.int (((0 : Int32) + (1 : Int32)) + (1 : Int32))), .val (.ref st_IRRELEVANT)] [(.ref x1), (.ref st_IRRELEVANT_text)])) rfl (by rw [hml]; rfl) (Steps.refl _) (argsL := [(.ref x1)]) (rest := []) (lenOf pd_1 rfl) rfl (by show 2 * 0 + _ ≤ _; exact Nat.le_of_eq rfl) (hb hby d7_25) (fun _ _ => ⟨rfl, e81, (by decide : 1 + 0 ≤ _), (by decide : 3 + 0 ≤ _)⟩)
  dsimp only [Pt.U, Pt.locs, Pt.cells, Pt.slots] at X88 l88 y88 z88 st88 hQ88
  subst l88 y88 z88
  obtain ⟨hv88, rfl, eh88⟩ := hQ88
  have N88 := Fr.app N78 (Fr.nil n0)
  obtain ⟨rfl, -⟩ : _ ∧ _ := hv88.resolve_right (fun q => q.2 rfl)
  obtain ⟨fs, hr, hrun, hended, hW, hsame⟩ := X88.leave (v := some (.ref st_IRRELEVANT)) (fun h => by rw [Bd.returns] at h; cases h)
  refine ⟨_, _, pre0 _ ?_, hrun, hended, _, _, rfl, ?_, ⟨_, rfl⟩, hW, hsame.mono (by decide) (by decide)⟩
  · show Steps p.tables e below (s₁.setTop (mkF m 0 #[.val (.ref x1), .unset, .unset, .unset, .unset] [])) _
    refine st51 _ ?_
    show Steps p.tables e below (T51.setTop (mkF m 3 #[.val (.ref x1), .unset, .unset, .unset, .unset] [(.ref b_51)])) _
    refine XS.astoreN X51.here hx rfl (hb hby d7_3) rfl rfl (l' := #[.val (.ref x1), .val (.ref b_51), .unset, .unset, .unset]) rfl ?_
    show Steps p.tables e below (T51.setTop (mkF m 4 #[.val (.ref x1), .val (.ref b_51), .unset, .unset, .unset] [])) _
    refine XS.aloadN X51.here hx rfl (hb hby d7_4) rfl rfl ?_
    show Steps p.tables e below (T51.setTop (mkF m 5 #[.val (.ref x1), .val (.ref b_51), .unset, .unset, .unset] [(.ref b_51)])) _
    refine X51.arraylength hx Ar_a52.1 (State.isArrayOf_alike hZ.alike Ar_a52.2.1) (g := (mkF m 5 #[.val (.ref x1), .val (.ref b_51), .unset, .unset, .unset] [(.ref b_51)])) rfl rfl (hb hby d7_5) _ ?_
    rw [len_of S_a52 N_a52]
    show Steps p.tables e below (T51.setTop (mkF m 6 #[.val (.ref x1), .val (.ref b_51), .unset, .unset, .unset] [(.int (3 : Int32))])) _
    refine XS.istoreN X51.here hx rfl (hb hby d7_6) rfl (l' := #[.val (.ref x1), .val (.ref b_51), .val (.int (3 : Int32)), .unset, .unset]) rfl ?_
    show Steps p.tables e below (T51.setTop (mkF m 7 #[.val (.ref x1), .val (.ref b_51), .val (.int (3 : Int32)), .unset, .unset] [])) _
    refine XS.iconst X51.here hx rfl (hb hby d7_7) ?_
    show Steps p.tables e below (T51.setTop (mkF m 8 #[.val (.ref x1), .val (.ref b_51), .val (.int (3 : Int32)), .unset, .unset] [(.int (0 : Int32))])) _
    refine XS.istoreN X51.here hx rfl (hb hby d7_8) rfl (l' := #[.val (.ref x1), .val (.ref b_51), .val (.int (3 : Int32)), .val (.int (0 : Int32)), .unset]) rfl ?_
    show Steps p.tables e below (T51.setTop (mkF m 9 #[.val (.ref x1), .val (.ref b_51), .val (.int (3 : Int32)), .val (.int (0 : Int32)), .unset] [])) _
    refine XS.iloadN X51.here hx rfl (hb hby d7_9) rfl ?_
    show Steps p.tables e below (T51.setTop (mkF m 10 #[.val (.ref x1), .val (.ref b_51), .val (.int (3 : Int32)), .val (.int (0 : Int32)), .unset] [(.int (0 : Int32))])) _
    refine XS.iloadN X51.here hx rfl (hb hby d7_10) rfl ?_
    show Steps p.tables e below (T51.setTop (mkF m 11 #[.val (.ref x1), .val (.ref b_51), .val (.int (3 : Int32)), .val (.int (0 : Int32)), .unset] [(.int (3 : Int32)), (.int (0 : Int32))])) _
    refine XS.icmpNo X51.here hx rfl (hb hby d7_11) rfl (tlt (by decide : (0 : Int32) < (3 : Int32))).2.1 ?_
    show Steps p.tables e below (T51.setTop (mkF m 14 #[.val (.ref x1), .val (.ref b_51), .val (.int (3 : Int32)), .val (.int (0 : Int32)), .unset] [])) _
    refine XS.aloadN X51.here hx rfl (hb hby d7_14) rfl rfl ?_
    show Steps p.tables e below (T51.setTop (mkF m 15 #[.val (.ref x1), .val (.ref b_51), .val (.int (3 : Int32)), .val (.int (0 : Int32)), .unset] [(.ref b_51)])) _
    refine XS.iloadN X51.here hx rfl (hb hby d7_15) rfl ?_
    show Steps p.tables e below (T51.setTop (mkF m 16 #[.val (.ref x1), .val (.ref b_51), .val (.int (3 : Int32)), .val (.int (0 : Int32)), .unset] [(.int (0 : Int32)), (.ref b_51)])) _
    refine X51.aaload hx (j := (0 : Int32)) (v := (.ref st_EXACT)) Ar_a53.1 (State.isArrayOf_alike hZ.alike Ar_a53.2.1) rfl Ar_a53.2.2 hin_a53 hat_a53 (g := (mkF m 16 #[.val (.ref x1), .val (.ref b_51), .val (.int (3 : Int32)), .val (.int (0 : Int32)), .unset] [(.int (0 : Int32)), (.ref b_51)])) rfl rfl (hb hby d7_16) _ ?_
    show Steps p.tables e below (T51.setTop (mkF m 17 #[.val (.ref x1), .val (.ref b_51), .val (.int (3 : Int32)), .val (.int (0 : Int32)), .unset] [(.ref st_EXACT)])) _
    refine XS.astore X51.here hx rfl (hb hby d7_17) rfl rfl (l' := #[.val (.ref x1), .val (.ref b_51), .val (.int (3 : Int32)), .val (.int (0 : Int32)), .val (.ref st_EXACT)]) rfl ?_
    show Steps p.tables e below (T51.setTop (mkF m 19 #[.val (.ref x1), .val (.ref b_51), .val (.int (3 : Int32)), .val (.int (0 : Int32)), .val (.ref st_EXACT)] [])) _
    refine XS.aload X51.here hx rfl (hb hby d7_19) rfl rfl ?_
    show Steps p.tables e below (T51.setTop (mkF m 21 #[.val (.ref x1), .val (.ref b_51), .val (.int (3 : Int32)), .val (.int (0 : Int32)), .val (.ref st_EXACT)] [(.ref st_EXACT)])) _
    refine st55 _ ?_
    show Steps p.tables e below (T55.setTop (mkF m 24 #[.val (.ref x1), .val (.ref b_51), .val (.int (3 : Int32)), .val (.int (0 : Int32)), .val (.ref st_EXACT)] [(.ref st_EXACT_text)])) _
    refine XS.aloadN X55.here hx rfl (hb hby d7_24) rfl rfl ?_
    show Steps p.tables e below (T55.setTop (mkF m 25 #[.val (.ref x1), .val (.ref b_51), .val (.int (3 : Int32)), .val (.int (0 : Int32)), .val (.ref st_EXACT)] [(.ref x1), (.ref st_EXACT_text)])) _
    refine st68.trans ?_
    show Steps p.tables e below (T68.setTop (mkF m 28 #[.val (.ref x1), .val (.ref b_51), .val (.int (3 : Int32)), .val (.int (0 : Int32)), .val (.ref st_EXACT)] [(.int (0 : Int32))])) _
    refine XS.ifYes X68.here hx rfl (pc0 := 28) (pc' := 34) rfl (hb hby d7_28) rfl ((if0 _ _).trans (teq (by decide : (0 : Int32) = (0 : Int32))).1) (by decide) (by decide) ?_
    show Steps p.tables e below (T68.setTop (mkF m 34 #[.val (.ref x1), .val (.ref b_51), .val (.int (3 : Int32)), .val (.int (0 : Int32)), .val (.ref st_EXACT)] [])) _
    refine XS.iinc X68.here hx rfl (hb hby d7_34) rfl (l' := #[.val (.ref x1), .val (.ref b_51), .val (.int (3 : Int32)), .val (.int ((0 : Int32) + (1 : Int32))), .val (.ref st_EXACT)]) rfl ?_
    show Steps p.tables e below (T68.setTop (mkF m 37 #[.val (.ref x1), .val (.ref b_51), .val (.int (3 : Int32)), .val (.int ((0 : Int32) + (1 : Int32))), .val (.ref st_EXACT)] [])) _
    refine XS.goto X68.here hx rfl (pc0 := 37) (pc' := 9) rfl (hb hby d7_37) (by decide) (by decide) ?_
    show Steps p.tables e below (T68.setTop (mkF m 9 #[.val (.ref x1), .val (.ref b_51), .val (.int (3 : Int32)), .val (.int ((0 : Int32) + (1 : Int32))), .val (.ref st_EXACT)] [])) _
    refine XS.iloadN X68.here hx rfl (hb hby d7_9) rfl ?_
    show Steps p.tables e below (T68.setTop (mkF m 10 #[.val (.ref x1), .val (.ref b_51), .val (.int (3 : Int32)), .val (.int ((0 : Int32) + (1 : Int32))), .val (.ref st_EXACT)] [(.int ((0 : Int32) + (1 : Int32)))])) _
    refine XS.iloadN X68.here hx rfl (hb hby d7_10) rfl ?_
    show Steps p.tables e below (T68.setTop (mkF m 11 #[.val (.ref x1), .val (.ref b_51), .val (.int (3 : Int32)), .val (.int ((0 : Int32) + (1 : Int32))), .val (.ref st_EXACT)] [(.int (3 : Int32)), (.int ((0 : Int32) + (1 : Int32)))])) _
    refine XS.icmpNo X68.here hx rfl (hb hby d7_11) rfl (tlt (by decide : ((0 : Int32) + (1 : Int32)) < (3 : Int32))).2.1 ?_
    show Steps p.tables e below (T68.setTop (mkF m 14 #[.val (.ref x1), .val (.ref b_51), .val (.int (3 : Int32)), .val (.int ((0 : Int32) + (1 : Int32))), .val (.ref st_EXACT)] [])) _
    refine XS.aloadN X68.here hx rfl (hb hby d7_14) rfl rfl ?_
    show Steps p.tables e below (T68.setTop (mkF m 15 #[.val (.ref x1), .val (.ref b_51), .val (.int (3 : Int32)), .val (.int ((0 : Int32) + (1 : Int32))), .val (.ref st_EXACT)] [(.ref b_51)])) _
    refine XS.iloadN X68.here hx rfl (hb hby d7_15) rfl ?_
    show Steps p.tables e below (T68.setTop (mkF m 16 #[.val (.ref x1), .val (.ref b_51), .val (.int (3 : Int32)), .val (.int ((0 : Int32) + (1 : Int32))), .val (.ref st_EXACT)] [(.int ((0 : Int32) + (1 : Int32))), (.ref b_51)])) _
    refine X68.aaload hx (j := ((0 : Int32) + (1 : Int32))) (v := (.ref st_PARTIAL)) (by rw [eh68]; exact Ar_a69.1) (State.isArrayOf_alike hZ.alike Ar_a69.2.1) rfl Ar_a69.2.2 hin_a69 hat_a69 (g := (mkF m 16 #[.val (.ref x1), .val (.ref b_51), .val (.int (3 : Int32)), .val (.int ((0 : Int32) + (1 : Int32))), .val (.ref st_EXACT)] [(.int ((0 : Int32) + (1 : Int32))), (.ref b_51)])) rfl rfl (hb hby d7_16) _ ?_
    show Steps p.tables e below (T68.setTop (mkF m 17 #[.val (.ref x1), .val (.ref b_51), .val (.int (3 : Int32)), .val (.int ((0 : Int32) + (1 : Int32))), .val (.ref st_EXACT)] [(.ref st_PARTIAL)])) _
    refine XS.astore X68.here hx rfl (hb hby d7_17) rfl rfl (l' := #[.val (.ref x1), .val (.ref b_51), .val (.int (3 : Int32)), .val (.int ((0 : Int32) + (1 : Int32))), .val (.ref st_PARTIAL)]) rfl ?_
    show Steps p.tables e below (T68.setTop (mkF m 19 #[.val (.ref x1), .val (.ref b_51), .val (.int (3 : Int32)), .val (.int ((0 : Int32) + (1 : Int32))), .val (.ref st_PARTIAL)] [])) _
    refine XS.aload X68.here hx rfl (hb hby d7_19) rfl rfl ?_
    show Steps p.tables e below (T68.setTop (mkF m 21 #[.val (.ref x1), .val (.ref b_51), .val (.int (3 : Int32)), .val (.int ((0 : Int32) + (1 : Int32))), .val (.ref st_PARTIAL)] [(.ref st_PARTIAL)])) _
    refine st71 _ ?_
    show Steps p.tables e below (T71.setTop (mkF m 24 #[.val (.ref x1), .val (.ref b_51), .val (.int (3 : Int32)), .val (.int ((0 : Int32) + (1 : Int32))), .val (.ref st_PARTIAL)] [(.ref st_PARTIAL_text)])) _
    refine XS.aloadN X71.here hx rfl (hb hby d7_24) rfl rfl ?_
    show Steps p.tables e below (T71.setTop (mkF m 25 #[.val (.ref x1), .val (.ref b_51), .val (.int (3 : Int32)), .val (.int ((0 : Int32) + (1 : Int32))), .val (.ref st_PARTIAL)] [(.ref x1), (.ref st_PARTIAL_text)])) _
    refine st78.trans ?_
    show Steps p.tables e below (T78.setTop (mkF m 28 #[.val (.ref x1), .val (.ref b_51), .val (.int (3 : Int32)), .val (.int ((0 : Int32) + (1 : Int32))), .val (.ref st_PARTIAL)] [(.int (0 : Int32))])) _
    refine XS.ifYes X78.here hx rfl (pc0 := 28) (pc' := 34) rfl (hb hby d7_28) rfl ((if0 _ _).trans (teq (by decide : (0 : Int32) = (0 : Int32))).1) (by decide) (by decide) ?_
    show Steps p.tables e below (T78.setTop (mkF m 34 #[.val (.ref x1), .val (.ref b_51), .val (.int (3 : Int32)), .val (.int ((0 : Int32) + (1 : Int32))), .val (.ref st_PARTIAL)] [])) _
    refine XS.iinc X78.here hx rfl (hb hby d7_34) rfl (l' := #[.val (.ref x1), .val (.ref b_51), .val (.int (3 : Int32)), .val (.int (((0 : Int32) + (1 : Int32)) + (1 : Int32))), .val (.ref st_PARTIAL)]) rfl ?_
    show Steps p.tables e below (T78.setTop (mkF m 37 #[.val (.ref x1), .val (.ref b_51), .val (.int (3 : Int32)), .val (.int (((0 : Int32) + (1 : Int32)) + (1 : Int32))), .val (.ref st_PARTIAL)] [])) _
    refine XS.goto X78.here hx rfl (pc0 := 37) (pc' := 9) rfl (hb hby d7_37) (by decide) (by decide) ?_
    show Steps p.tables e below (T78.setTop (mkF m 9 #[.val (.ref x1), .val (.ref b_51), .val (.int (3 : Int32)), .val (.int (((0 : Int32) + (1 : Int32)) + (1 : Int32))), .val (.ref st_PARTIAL)] [])) _
    refine XS.iloadN X78.here hx rfl (hb hby d7_9) rfl ?_
    show Steps p.tables e below (T78.setTop (mkF m 10 #[.val (.ref x1), .val (.ref b_51), .val (.int (3 : Int32)), .val (.int (((0 : Int32) + (1 : Int32)) + (1 : Int32))), .val (.ref st_PARTIAL)] [(.int (((0 : Int32) + (1 : Int32)) + (1 : Int32)))])) _
    refine XS.iloadN X78.here hx rfl (hb hby d7_10) rfl ?_
    show Steps p.tables e below (T78.setTop (mkF m 11 #[.val (.ref x1), .val (.ref b_51), .val (.int (3 : Int32)), .val (.int (((0 : Int32) + (1 : Int32)) + (1 : Int32))), .val (.ref st_PARTIAL)] [(.int (3 : Int32)), (.int (((0 : Int32) + (1 : Int32)) + (1 : Int32)))])) _
    refine XS.icmpNo X78.here hx rfl (hb hby d7_11) rfl (tlt (by decide : (((0 : Int32) + (1 : Int32)) + (1 : Int32)) < (3 : Int32))).2.1 ?_
    show Steps p.tables e below (T78.setTop (mkF m 14 #[.val (.ref x1), .val (.ref b_51), .val (.int (3 : Int32)), .val (.int (((0 : Int32) + (1 : Int32)) + (1 : Int32))), .val (.ref st_PARTIAL)] [])) _
    refine XS.aloadN X78.here hx rfl (hb hby d7_14) rfl rfl ?_
    show Steps p.tables e below (T78.setTop (mkF m 15 #[.val (.ref x1), .val (.ref b_51), .val (.int (3 : Int32)), .val (.int (((0 : Int32) + (1 : Int32)) + (1 : Int32))), .val (.ref st_PARTIAL)] [(.ref b_51)])) _
    refine XS.iloadN X78.here hx rfl (hb hby d7_15) rfl ?_
    show Steps p.tables e below (T78.setTop (mkF m 16 #[.val (.ref x1), .val (.ref b_51), .val (.int (3 : Int32)), .val (.int (((0 : Int32) + (1 : Int32)) + (1 : Int32))), .val (.ref st_PARTIAL)] [(.int (((0 : Int32) + (1 : Int32)) + (1 : Int32))), (.ref b_51)])) _
    refine X78.aaload hx (j := (((0 : Int32) + (1 : Int32)) + (1 : Int32))) (v := (.ref st_IRRELEVANT)) (by rw [eh78]; exact Ar_a79.1) (State.isArrayOf_alike hZ.alike Ar_a79.2.1) rfl Ar_a79.2.2 hin_a79 hat_a79 (g := (mkF m 16 #[.val (.ref x1), .val (.ref b_51), .val (.int (3 : Int32)), .val (.int (((0 : Int32) + (1 : Int32)) + (1 : Int32))), .val (.ref st_PARTIAL)] [(.int (((0 : Int32) + (1 : Int32)) + (1 : Int32))), (.ref b_51)])) rfl rfl (hb hby d7_16) _ ?_
    show Steps p.tables e below (T78.setTop (mkF m 17 #[.val (.ref x1), .val (.ref b_51), .val (.int (3 : Int32)), .val (.int (((0 : Int32) + (1 : Int32)) + (1 : Int32))), .val (.ref st_PARTIAL)] [(.ref st_IRRELEVANT)])) _
    refine XS.astore X78.here hx rfl (hb hby d7_17) rfl rfl (l' := #[.val (.ref x1), .val (.ref b_51), .val (.int (3 : Int32)), .val (.int (((0 : Int32) + (1 : Int32)) + (1 : Int32))), .val (.ref st_IRRELEVANT)]) rfl ?_
    show Steps p.tables e below (T78.setTop (mkF m 19 #[.val (.ref x1), .val (.ref b_51), .val (.int (3 : Int32)), .val (.int (((0 : Int32) + (1 : Int32)) + (1 : Int32))), .val (.ref st_IRRELEVANT)] [])) _
    refine XS.aload X78.here hx rfl (hb hby d7_19) rfl rfl ?_
    show Steps p.tables e below (T78.setTop (mkF m 21 #[.val (.ref x1), .val (.ref b_51), .val (.int (3 : Int32)), .val (.int (((0 : Int32) + (1 : Int32)) + (1 : Int32))), .val (.ref st_IRRELEVANT)] [(.ref st_IRRELEVANT)])) _
    refine st81 _ ?_
    show Steps p.tables e below (T81.setTop (mkF m 24 #[.val (.ref x1), .val (.ref b_51), .val (.int (3 : Int32)), .val (.int (((0 : Int32) + (1 : Int32)) + (1 : Int32))), .val (.ref st_IRRELEVANT)] [(.ref st_IRRELEVANT_text)])) _
    refine XS.aloadN X81.here hx rfl (hb hby d7_24) rfl rfl ?_
    show Steps p.tables e below (T81.setTop (mkF m 25 #[.val (.ref x1), .val (.ref b_51), .val (.int (3 : Int32)), .val (.int (((0 : Int32) + (1 : Int32)) + (1 : Int32))), .val (.ref st_IRRELEVANT)] [(.ref x1), (.ref st_IRRELEVANT_text)])) _
    refine st88.trans ?_
    show Steps p.tables e below (T88.setTop (mkF m 28 #[.val (.ref x1), .val (.ref b_51), .val (.int (3 : Int32)), .val (.int (((0 : Int32) + (1 : Int32)) + (1 : Int32))), .val (.ref st_IRRELEVANT)] [(.int (1 : Int32))])) _
    refine XS.ifNo X88.here hx rfl (hb hby d7_28) rfl ((if0 _ _).trans (feq (by decide : ¬ ((1 : Int32) = (0 : Int32)))).1) ?_
    show Steps p.tables e below (T88.setTop (mkF m 31 #[.val (.ref x1), .val (.ref b_51), .val (.int (3 : Int32)), .val (.int (((0 : Int32) + (1 : Int32)) + (1 : Int32))), .val (.ref st_IRRELEVANT)] [])) _
    refine XS.aload X88.here hx rfl (hb hby d7_31) rfl rfl ?_
    show Steps p.tables e below (T88.setTop (mkF m 33 #[.val (.ref x1), .val (.ref b_51), .val (.int (3 : Int32)), .val (.int (((0 : Int32) + (1 : Int32)) + (1 : Int32))), .val (.ref st_IRRELEVANT)] [(.ref st_IRRELEVANT)])) _
    jvm_step X88.here [X88.here.top, hx, (hb hby d7_33), X88.method', Bd.returns, Value.isRef, FieldType.isReference]
    first | (intro acts; rw [hr _ acts rfl rfl rfl]) | rw [hr _ _ rfl rfl rfl]
    exact Steps.refl _
  · show Q7_2 Z x1 st__VALUES k_st__VALUES st_EXACT st_PARTIAL st_IRRELEVANT st_EXACT_text st_EXACT_text_value k_st_EXACT_text_value st_PARTIAL_text st_PARTIAL_text_value k_st_PARTIAL_text_value st_IRRELEVANT_text st_IRRELEVANT_text_value k_st_IRRELEVANT_text_value x1_value kx st_COMPACT_STRINGS h0 n0 _ T88.heap _
    rw [eh88]
    exact ⟨rfl, N88, K51⟩
theorem pd_2 : parseMethodDescriptor "([C)V" = some ⟨[(.array .char)], none⟩ := by decide +kernel
theorem pd_3 : parseMethodDescriptor "(Ljava/lang/String;)Lcom/example/kompas/kompas/eval/Label;" = some ⟨[(.object "java/lang/String")], some (.object "com/example/kompas/kompas/eval/Label")⟩ := by decide +kernel
theorem pd_4 : parseMethodDescriptor "()I" = some ⟨[], some .int⟩ := by decide +kernel
theorem pn_com_example_kompas_kompas_eval_LabelParsePinLaw : plainName "com/example/kompas/kompas/eval/LabelParsePinLaw" = true := by first | (simp [plainName, overriddenIn]; done) | decide +kernel
theorem ef0 (m : MethodId) (x1 : Int32) : entryFrame m #[(.int x1)] maxLocals = mkF m 0 #[.val (.int x1), .unset, .unset, .unset, .unset, .unset] [] := by first | (simp [entryFrame, mkF, argsToLocals, Value.category, maxLocals]; done) | rfl
def Q0 (Z : State) (x1 : Int32) (st__VALUES : Addr) (st_EXACT : Addr) (st_EXACT_text : Addr) (st_EXACT_text_value : Addr) (k_st_EXACT_text_value : ClassId) (st_PARTIAL : Addr) (st_PARTIAL_text : Addr) (st_PARTIAL_text_value : Addr) (k_st_PARTIAL_text_value : ClassId) (st_IRRELEVANT : Addr) (st_IRRELEVANT_text : Addr) (st_IRRELEVANT_text_value : Addr) (k_st_IRRELEVANT_text_value : ClassId) (k_st__VALUES : ClassId) (st_COMPACT_STRINGS : Int32) (h0 : Heap) (n0 : Nat) (v : Option Value) (h : Heap) (L : List Loc) : Prop := v = some (.int (1 : Int32)) ∧ Fr n0 L ∧ Keep h0 h []
set_option maxRecDepth 65536 in
set_option maxHeartbeats 40000000 in
theorem rm0 (l : Launch) (Z : State) (a0 : Array Value) (hw : ∀ d ∈ tables_1, d.before a0 Z = true) (ws : List Jvm.Cond) (x1 : Int32) (st__VALUES : Addr) (st_EXACT : Addr) (st_EXACT_text : Addr) (st_EXACT_text_value : Addr) (k_st_EXACT_text_value : ClassId) (st_PARTIAL : Addr) (st_PARTIAL_text : Addr) (st_PARTIAL_text_value : Addr) (k_st_PARTIAL_text_value : ClassId) (st_IRRELEVANT : Addr) (st_IRRELEVANT_text : Addr) (st_IRRELEVANT_text_value : Addr) (k_st_IRRELEVANT_text_value : ClassId) (k_st__VALUES : ClassId) (st_COMPACT_STRINGS : Int32) (h0 : Heap) (n0 : Nat) (Z0 : n0 ≤ h0.size) (O0 : Old Z n0 h0) (S__VALUES : Sta Z Z.heap "com/example/kompas/kompas/eval/Label" "$VALUES" "[Lcom/example/kompas/kompas/eval/Label;" (.ref st__VALUES)) (EZ_st__VALUES : Exa Z Z.heap st__VALUES "[Lcom/example/kompas/kompas/eval/Label;") (S_EXACT : Sta Z Z.heap "com/example/kompas/kompas/eval/Label" "EXACT" "Lcom/example/kompas/kompas/eval/Label;" (.ref st_EXACT)) (EZ_st_EXACT : Exa Z Z.heap st_EXACT "com/example/kompas/kompas/eval/Label") (FZ_st_EXACT_text : Fld Z Z.heap st_EXACT "com/example/kompas/kompas/eval/Label" "text" "Ljava/lang/String;" (.ref st_EXACT_text)) (FZ_st_EXACT_gain : Fld Z Z.heap st_EXACT "com/example/kompas/kompas/eval/Label" "gain" "I" (.int (2 : Int32))) (EZ_st_EXACT_text : Exa Z Z.heap st_EXACT_text "java/lang/String") (FZ_st_EXACT_text_value : Fld Z Z.heap st_EXACT_text "java/lang/String" "value" "[B" (.ref st_EXACT_text_value)) (FZ_st_EXACT_text_coder : Fld Z Z.heap st_EXACT_text "java/lang/String" "coder" "B" (.int (0 : Int32))) (VZ_st_EXACT_text_value : Arv Z Z.heap st_EXACT_text_value k_st_EXACT_text_value .byte (5 : Int32) [(.int (69 : Int32)), (.int (120 : Int32)), (.int (97 : Int32)), (.int (99 : Int32)), (.int (116 : Int32))] (.int (0 : Int32))) (S_PARTIAL : Sta Z Z.heap "com/example/kompas/kompas/eval/Label" "PARTIAL" "Lcom/example/kompas/kompas/eval/Label;" (.ref st_PARTIAL)) (EZ_st_PARTIAL : Exa Z Z.heap st_PARTIAL "com/example/kompas/kompas/eval/Label") (FZ_st_PARTIAL_text : Fld Z Z.heap st_PARTIAL "com/example/kompas/kompas/eval/Label" "text" "Ljava/lang/String;" (.ref st_PARTIAL_text)) (FZ_st_PARTIAL_gain : Fld Z Z.heap st_PARTIAL "com/example/kompas/kompas/eval/Label" "gain" "I" (.int (1 : Int32))) (EZ_st_PARTIAL_text : Exa Z Z.heap st_PARTIAL_text "java/lang/String") (FZ_st_PARTIAL_text_value : Fld Z Z.heap st_PARTIAL_text "java/lang/String" "value" "[B" (.ref st_PARTIAL_text_value)) (FZ_st_PARTIAL_text_coder : Fld Z Z.heap st_PARTIAL_text "java/lang/String" "coder" "B" (.int (0 : Int32))) (VZ_st_PARTIAL_text_value : Arv Z Z.heap st_PARTIAL_text_value k_st_PARTIAL_text_value .byte (7 : Int32) [(.int (80 : Int32)), (.int (97 : Int32)), (.int (114 : Int32)), (.int (116 : Int32)), (.int (105 : Int32)), (.int (97 : Int32)), (.int (108 : Int32))] (.int (0 : Int32))) (S_IRRELEVANT : Sta Z Z.heap "com/example/kompas/kompas/eval/Label" "IRRELEVANT" "Lcom/example/kompas/kompas/eval/Label;" (.ref st_IRRELEVANT)) (EZ_st_IRRELEVANT : Exa Z Z.heap st_IRRELEVANT "com/example/kompas/kompas/eval/Label") (FZ_st_IRRELEVANT_text : Fld Z Z.heap st_IRRELEVANT "com/example/kompas/kompas/eval/Label" "text" "Ljava/lang/String;" (.ref st_IRRELEVANT_text)) (FZ_st_IRRELEVANT_gain : Fld Z Z.heap st_IRRELEVANT "com/example/kompas/kompas/eval/Label" "gain" "I" (.int (0 : Int32))) (EZ_st_IRRELEVANT_text : Exa Z Z.heap st_IRRELEVANT_text "java/lang/String") (FZ_st_IRRELEVANT_text_value : Fld Z Z.heap st_IRRELEVANT_text "java/lang/String" "value" "[B" (.ref st_IRRELEVANT_text_value)) (FZ_st_IRRELEVANT_text_coder : Fld Z Z.heap st_IRRELEVANT_text "java/lang/String" "coder" "B" (.int (0 : Int32))) (VZ_st_IRRELEVANT_text_value : Arv Z Z.heap st_IRRELEVANT_text_value k_st_IRRELEVANT_text_value .byte (10 : Int32) [(.int (73 : Int32)), (.int (114 : Int32)), (.int (114 : Int32)), (.int (101 : Int32)), (.int (108 : Int32)), (.int (101 : Int32)), (.int (118 : Int32)), (.int (97 : Int32)), (.int (110 : Int32)), (.int (116 : Int32))] (.int (0 : Int32))) (VZ_st__VALUES : Arv Z Z.heap st__VALUES k_st__VALUES (.object "com/example/kompas/kompas/eval/Label") (3 : Int32) [(.ref st_EXACT), (.ref st_PARTIAL), (.ref st_IRRELEVANT)] .null) (S_COMPACT_STRINGS : Sta Z Z.heap "java/lang/String" "COMPACT_STRINGS" "Z" (.int st_COMPACT_STRINGS)) (hcomp : ¬ (st_COMPACT_STRINGS = (0 : Int32))) :
    MetFree l x (head1 (Jvm.Cond.code x code maxLocals ret :: ws) room_1) (fun a U => a = #[(.int x1)] ∧ Z.Warmed39 U.vm ∧ U.heap = h0) (fun _ _ _ _ _ => True) (fun _ U o U' => ∃ v L, o = .returned v ∧ Q0 Z x1 st__VALUES st_EXACT st_EXACT_text st_EXACT_text_value k_st_EXACT_text_value st_PARTIAL st_PARTIAL_text st_PARTIAL_text_value k_st_PARTIAL_text_value st_IRRELEVANT st_IRRELEVANT_text st_IRRELEVANT_text_value k_st_IRRELEVANT_text_value k_st__VALUES st_COMPACT_STRINGS h0 n0 v U'.heap L ∧ FrameEnd U o U' L room_1.cells room_1.slots) := by
  refine MetFree.of_bodySF (plainFor_of_name pn_com_example_kompas_kompas_eval_LabelParsePinLaw) hisR ?_
  intro p e s m args below meth c s₁ Bd hml0 hP hK
  obtain ⟨rfl, hZ, hh⟩ := hP
  have hx := Bd.exec
  have hby := Bd.bytes
  have hml : c.maxLocals = 6 := hml0
  have hown : s.vm.findClass "com/example/kompas/kompas/eval/LabelParsePinLaw" = some m.cls := findClass_of_methodNamed Bd.named
  have hnm := (name_of_methodNamed Bd.named Bd.method).1
  have X0 : Stand p l e room_1 s m #[(.int x1)] below meth c s₁ [] 0 0 := Stand.of_body Bd
  have e0 : s₁.heap = h0 := by rw [← hh, Bd.state]; rfl
  have N0 := Fr.nil n0
  have K0 : Keep h0 h0 [] := Keep.refl _ _
  have pre0 : ∀ t, Steps p.tables e below (s₁.setTop (mkF m 0 #[.val (.int x1), .unset, .unset, .unset, .unset, .unset] [])) t → Steps p.tables e below (s₁.setTop (entryFrame m #[(.int x1)] maxLocals)) t := fun t k => castTop (ef0 m x1) k
  have C89 : Exa Z h0 st__VALUES "[Lcom/example/kompas/kompas/eval/Label;" := EZ_st__VALUES.ext O0.2
  have C90 : Exa Z h0 st_EXACT "com/example/kompas/kompas/eval/Label" := EZ_st_EXACT.ext O0.2
  have F91 : Fld Z h0 st_EXACT "com/example/kompas/kompas/eval/Label" "text" "Ljava/lang/String;" (.ref st_EXACT_text) := FZ_st_EXACT_text.ext O0.2
  have F92 : Fld Z h0 st_EXACT "com/example/kompas/kompas/eval/Label" "gain" "I" (.int (2 : Int32)) := FZ_st_EXACT_gain.ext O0.2
  have C93 : Exa Z h0 st_EXACT_text "java/lang/String" := EZ_st_EXACT_text.ext O0.2
  have F94 : Fld Z h0 st_EXACT_text "java/lang/String" "value" "[B" (.ref st_EXACT_text_value) := FZ_st_EXACT_text_value.ext O0.2
  have F95 : Fld Z h0 st_EXACT_text "java/lang/String" "coder" "B" (.int (0 : Int32)) := FZ_st_EXACT_text_coder.ext O0.2
  have V96 : Arv Z h0 st_EXACT_text_value k_st_EXACT_text_value .byte (5 : Int32) [(.int (69 : Int32)), (.int (120 : Int32)), (.int (97 : Int32)), (.int (99 : Int32)), (.int (116 : Int32))] (.int (0 : Int32)) := VZ_st_EXACT_text_value.ext O0.2
  have C97 : Exa Z h0 st_PARTIAL "com/example/kompas/kompas/eval/Label" := EZ_st_PARTIAL.ext O0.2
  have F98 : Fld Z h0 st_PARTIAL "com/example/kompas/kompas/eval/Label" "text" "Ljava/lang/String;" (.ref st_PARTIAL_text) := FZ_st_PARTIAL_text.ext O0.2
  have F99 : Fld Z h0 st_PARTIAL "com/example/kompas/kompas/eval/Label" "gain" "I" (.int (1 : Int32)) := FZ_st_PARTIAL_gain.ext O0.2
  have C100 : Exa Z h0 st_PARTIAL_text "java/lang/String" := EZ_st_PARTIAL_text.ext O0.2
  have F101 : Fld Z h0 st_PARTIAL_text "java/lang/String" "value" "[B" (.ref st_PARTIAL_text_value) := FZ_st_PARTIAL_text_value.ext O0.2
  have F102 : Fld Z h0 st_PARTIAL_text "java/lang/String" "coder" "B" (.int (0 : Int32)) := FZ_st_PARTIAL_text_coder.ext O0.2
  have V103 : Arv Z h0 st_PARTIAL_text_value k_st_PARTIAL_text_value .byte (7 : Int32) [(.int (80 : Int32)), (.int (97 : Int32)), (.int (114 : Int32)), (.int (116 : Int32)), (.int (105 : Int32)), (.int (97 : Int32)), (.int (108 : Int32))] (.int (0 : Int32)) := VZ_st_PARTIAL_text_value.ext O0.2
  have C104 : Exa Z h0 st_IRRELEVANT "com/example/kompas/kompas/eval/Label" := EZ_st_IRRELEVANT.ext O0.2
  have F105 : Fld Z h0 st_IRRELEVANT "com/example/kompas/kompas/eval/Label" "text" "Ljava/lang/String;" (.ref st_IRRELEVANT_text) := FZ_st_IRRELEVANT_text.ext O0.2
  have F106 : Fld Z h0 st_IRRELEVANT "com/example/kompas/kompas/eval/Label" "gain" "I" (.int (0 : Int32)) := FZ_st_IRRELEVANT_gain.ext O0.2
  have C107 : Exa Z h0 st_IRRELEVANT_text "java/lang/String" := EZ_st_IRRELEVANT_text.ext O0.2
  have F108 : Fld Z h0 st_IRRELEVANT_text "java/lang/String" "value" "[B" (.ref st_IRRELEVANT_text_value) := FZ_st_IRRELEVANT_text_value.ext O0.2
  have F109 : Fld Z h0 st_IRRELEVANT_text "java/lang/String" "coder" "B" (.int (0 : Int32)) := FZ_st_IRRELEVANT_text_coder.ext O0.2
  have V110 : Arv Z h0 st_IRRELEVANT_text_value k_st_IRRELEVANT_text_value .byte (10 : Int32) [(.int (73 : Int32)), (.int (114 : Int32)), (.int (114 : Int32)), (.int (101 : Int32)), (.int (108 : Int32)), (.int (101 : Int32)), (.int (118 : Int32)), (.int (97 : Int32)), (.int (110 : Int32)), (.int (116 : Int32))] (.int (0 : Int32)) := VZ_st_IRRELEVANT_text_value.ext O0.2
  have V111 : Arv Z h0 st__VALUES k_st__VALUES (.object "com/example/kompas/kompas/eval/Label") (3 : Int32) [(.ref st_EXACT), (.ref st_PARTIAL), (.ref st_IRRELEVANT)] .null := VZ_st__VALUES.ext O0.2
  have pre112 : ∀ t, Steps p.tables e below (s₁.setTop (mkF m 8 #[.val (.int x1), .val (.int ((x1 &&& (2147483647 : Int32)) % (3 : Int32))), .unset, .unset, .unset, .unset] [(.int ((x1 &&& (2147483647 : Int32)) % (3 : Int32)))])) t → Steps p.tables e below (s₁.setTop (entryFrame m #[(.int x1)] maxLocals)) t := by
    intro t kt
    refine pre0 t ?_
    show Steps p.tables e below (s₁.setTop (mkF m 0 #[.val (.int x1), .unset, .unset, .unset, .unset, .unset] [])) _
    refine XS.iloadN X0.here hx rfl (hb hby at_0) rfl ?_
    show Steps p.tables e below (s₁.setTop (mkF m 1 #[.val (.int x1), .unset, .unset, .unset, .unset, .unset] [(.int x1)])) _
    refine X0.ldcInt hx hown (mvT hZ (hw _ (List.mem_of_getElem? (i := 0) rfl))) (g := (mkF m 1 #[.val (.int x1), .unset, .unset, .unset, .unset, .unset] [(.int x1)])) rfl (hb hby at_1) _ ?_
    show Steps p.tables e below (s₁.setTop (mkF m 3 #[.val (.int x1), .unset, .unset, .unset, .unset, .unset] [(.int (2147483647 : Int32)), (.int x1)])) _
    refine XS.iand X0.here hx rfl (hb hby at_3) rfl ?_
    show Steps p.tables e below (s₁.setTop (mkF m 4 #[.val (.int x1), .unset, .unset, .unset, .unset, .unset] [(.int (x1 &&& (2147483647 : Int32)))])) _
    refine XS.iconst X0.here hx rfl (hb hby at_4) ?_
    show Steps p.tables e below (s₁.setTop (mkF m 5 #[.val (.int x1), .unset, .unset, .unset, .unset, .unset] [(.int (3 : Int32)), (.int (x1 &&& (2147483647 : Int32)))])) _
    refine iremM X0 hx rfl (hb hby at_5) rfl (by decide) ?_
    show Steps p.tables e below (s₁.setTop (mkF m 6 #[.val (.int x1), .unset, .unset, .unset, .unset, .unset] [(.int ((x1 &&& (2147483647 : Int32)) % (3 : Int32)))])) _
    refine XS.istoreN X0.here hx rfl (hb hby at_6) rfl (l' := #[.val (.int x1), .val (.int ((x1 &&& (2147483647 : Int32)) % (3 : Int32))), .unset, .unset, .unset, .unset]) rfl ?_
    show Steps p.tables e below (s₁.setTop (mkF m 7 #[.val (.int x1), .val (.int ((x1 &&& (2147483647 : Int32)) % (3 : Int32))), .unset, .unset, .unset, .unset] [])) _
    refine XS.iloadN X0.here hx rfl (hb hby at_7) rfl ?_
    exact kt
  by_cases hc8 : ((x1 &&& (2147483647 : Int32)) % (3 : Int32)) = (0 : Int32)
  · skip
    obtain ⟨T113, h113, X113, e113, E113, A113, D113, U113, st113⟩ := newO X0 hx hZ hown (hw _ (List.mem_of_getElem? (i := 1) rfl)) (hw _ (List.mem_of_getElem? (i := 2) rfl)) (hw _ (List.mem_of_getElem? (i := 3) rfl)) e0 (g := (mkF m 11 #[.val (.int x1), .val (.int ((x1 &&& (2147483647 : Int32)) % (3 : Int32))), .unset, .unset, .unset, .unset] [])) rfl (hb hby at_11) (by decide) (by decide)
    obtain ⟨b113, g113⟩ : ∃ z, z = h0.size := ⟨_, rfl⟩
    rw [← g113] at A113 D113 st113
    have O113 : Old Z n0 h113 := O0.ext E113
    have Z113 : n0 ≤ h113.size := Nat.le_trans Z0 E113.1
    have K113 : Keep h0 h113 [] := K0.ext E113
    have g_b113 : n0 ≤ b113 := Nat.le_trans Z0 (Nat.le_of_eq g113.symm)
    have sz_b113 : h0.size ≤ b113 := Nat.le_trans K0.1 (Nat.le_of_eq g113.symm)
    have F_b113_coder : Fld Z h113 b113 "java/lang/String" "coder" "B" (.int (0 : Int32)) := D113 (Or.inr (hw _ (List.mem_of_getElem? (i := 28) rfl))) (ty := .byte) (by decide)
    have F_b113_value : Fld Z h113 b113 "java/lang/String" "value" "[B" .null := D113 (Or.inr (hw _ (List.mem_of_getElem? (i := 30) rfl))) (ty := (.array .byte)) (by decide)
    obtain ⟨T114, h114, k114, X114, e114, E114, A114, st114⟩ := newP X113 hx hZ (hw _ (List.mem_of_getElem? (i := 4) rfl)) e113 (g := (mkF m 16 #[.val (.int x1), .val (.int ((x1 &&& (2147483647 : Int32)) % (3 : Int32))), .unset, .unset, .unset, .unset] [(.int (5 : Int32)), (.ref b113), (.ref b113)])) rfl (hb hby at_16) rfl (by decide) (cap := 5) (by decide) (by decide) (by decide) (by decide)
    obtain ⟨b114, g114⟩ : ∃ z, z = h113.size := ⟨_, rfl⟩
    rw [← g114] at A114 st114
    have O114 : Old Z n0 h114 := O113.ext E114
    have Z114 : n0 ≤ h114.size := Nat.le_trans Z113 E114.1
    have K114 : Keep h0 h114 [] := K113.ext E114
    have g_b114 : n0 ≤ b114 := Nat.le_trans Z113 (Nat.le_of_eq g114.symm)
    have sz_b114 : h0.size ≤ b114 := Nat.le_trans K113.1 (Nat.le_of_eq g114.symm)
    have V114 : Arv Z h114 b114 k114 .char (5 : Int32) [(.int (0 : Int32)), (.int (0 : Int32)), (.int (0 : Int32)), (.int (0 : Int32)), (.int (0 : Int32))] (.int (0 : Int32)) := (Arv.new A114 (by decide)).pad (pad_rep [] (.int (0 : Int32)) 5)
    obtain ⟨cl_a115, Ar_a115, q_a115, S_a115, N_a115, H_a115, G_a115⟩ := id V114
    have hin_a115 : ¬ ((0 : Int32) < 0 ∨ cl_a115.slots.size ≤ ((0 : Int32)).toNatClampNeg) := inb_of S_a115 ⟨by decide, by decide⟩
    obtain ⟨T116, h116, X116, e116, W116, st116⟩ := stC X114 hx hZ e114 Ar_a115 (j := (0 : Int32)) hin_a115 (g := (mkF m 22 #[.val (.int x1), .val (.int ((x1 &&& (2147483647 : Int32)) % (3 : Int32))), .unset, .unset, .unset, .unset] [(.int (69 : Int32)), (.int (0 : Int32)), (.ref b114), (.ref b114), (.ref b113), (.ref b113)])) rfl rfl (hb hby at_22)
    have O116 : Old Z n0 h116 := O114.wr W116 g_b114
    have Z116 : n0 ≤ h116.size := Nat.le_trans Z114 (Keep.of_wr W116).1
    have K116 : Keep h0 h116 [] := K114.wr W116 (Or.inr sz_b114)
    have N116 := Fr.snoc X116 N0 g_b114
    have V116 : Arv Z h116 b114 k114 .char (5 : Int32) [(.int (69 : Int32)), (.int (0 : Int32)), (.int (0 : Int32)), (.int (0 : Int32)), (.int (0 : Int32))] (.int (0 : Int32)) := Arv.set Ar_a115 q_a115 S_a115 N_a115 H_a115 G_a115 (fits_nar_char _) W116 0 rfl (Nat.le_of_ble_eq_true rfl)
    obtain ⟨cl_a117, Ar_a117, q_a117, S_a117, N_a117, H_a117, G_a117⟩ := id V116
    have hin_a117 : ¬ ((1 : Int32) < 0 ∨ cl_a117.slots.size ≤ ((1 : Int32)).toNatClampNeg) := inb_of S_a117 ⟨by decide, by decide⟩
    obtain ⟨T118, h118, X118, e118, W118, st118⟩ := stC X116 hx hZ e116 Ar_a117 (j := (1 : Int32)) hin_a117 (g := (mkF m 27 #[.val (.int x1), .val (.int ((x1 &&& (2147483647 : Int32)) % (3 : Int32))), .unset, .unset, .unset, .unset] [(.int (120 : Int32)), (.int (1 : Int32)), (.ref b114), (.ref b114), (.ref b113), (.ref b113)])) rfl rfl (hb hby at_27)
    have O118 : Old Z n0 h118 := O116.wr W118 g_b114
    have Z118 : n0 ≤ h118.size := Nat.le_trans Z116 (Keep.of_wr W118).1
    have K118 : Keep h0 h118 [] := K116.wr W118 (Or.inr sz_b114)
    have N118 := Fr.snoc X118 N116 g_b114
    have V118 : Arv Z h118 b114 k114 .char (5 : Int32) [(.int (69 : Int32)), (.int (120 : Int32)), (.int (0 : Int32)), (.int (0 : Int32)), (.int (0 : Int32))] (.int (0 : Int32)) := Arv.set Ar_a117 q_a117 S_a117 N_a117 H_a117 G_a117 (fits_nar_char _) W118 1 rfl (Nat.le_of_ble_eq_true rfl)
    obtain ⟨cl_a119, Ar_a119, q_a119, S_a119, N_a119, H_a119, G_a119⟩ := id V118
    have hin_a119 : ¬ ((2 : Int32) < 0 ∨ cl_a119.slots.size ≤ ((2 : Int32)).toNatClampNeg) := inb_of S_a119 ⟨by decide, by decide⟩
    obtain ⟨T120, h120, X120, e120, W120, st120⟩ := stC X118 hx hZ e118 Ar_a119 (j := (2 : Int32)) hin_a119 (g := (mkF m 32 #[.val (.int x1), .val (.int ((x1 &&& (2147483647 : Int32)) % (3 : Int32))), .unset, .unset, .unset, .unset] [(.int (97 : Int32)), (.int (2 : Int32)), (.ref b114), (.ref b114), (.ref b113), (.ref b113)])) rfl rfl (hb hby at_32)
    have O120 : Old Z n0 h120 := O118.wr W120 g_b114
    have Z120 : n0 ≤ h120.size := Nat.le_trans Z118 (Keep.of_wr W120).1
    have K120 : Keep h0 h120 [] := K118.wr W120 (Or.inr sz_b114)
    have N120 := Fr.snoc X120 N118 g_b114
    have V120 : Arv Z h120 b114 k114 .char (5 : Int32) [(.int (69 : Int32)), (.int (120 : Int32)), (.int (97 : Int32)), (.int (0 : Int32)), (.int (0 : Int32))] (.int (0 : Int32)) := Arv.set Ar_a119 q_a119 S_a119 N_a119 H_a119 G_a119 (fits_nar_char _) W120 2 rfl (Nat.le_of_ble_eq_true rfl)
    obtain ⟨cl_a121, Ar_a121, q_a121, S_a121, N_a121, H_a121, G_a121⟩ := id V120
    have hin_a121 : ¬ ((3 : Int32) < 0 ∨ cl_a121.slots.size ≤ ((3 : Int32)).toNatClampNeg) := inb_of S_a121 ⟨by decide, by decide⟩
    obtain ⟨T122, h122, X122, e122, W122, st122⟩ := stC X120 hx hZ e120 Ar_a121 (j := (3 : Int32)) hin_a121 (g := (mkF m 37 #[.val (.int x1), .val (.int ((x1 &&& (2147483647 : Int32)) % (3 : Int32))), .unset, .unset, .unset, .unset] [(.int (99 : Int32)), (.int (3 : Int32)), (.ref b114), (.ref b114), (.ref b113), (.ref b113)])) rfl rfl (hb hby at_37)
    have O122 : Old Z n0 h122 := O120.wr W122 g_b114
    have Z122 : n0 ≤ h122.size := Nat.le_trans Z120 (Keep.of_wr W122).1
    have K122 : Keep h0 h122 [] := K120.wr W122 (Or.inr sz_b114)
    have N122 := Fr.snoc X122 N120 g_b114
    have V122 : Arv Z h122 b114 k114 .char (5 : Int32) [(.int (69 : Int32)), (.int (120 : Int32)), (.int (97 : Int32)), (.int (99 : Int32)), (.int (0 : Int32))] (.int (0 : Int32)) := Arv.set Ar_a121 q_a121 S_a121 N_a121 H_a121 G_a121 (fits_nar_char _) W122 3 rfl (Nat.le_of_ble_eq_true rfl)
    obtain ⟨cl_a123, Ar_a123, q_a123, S_a123, N_a123, H_a123, G_a123⟩ := id V122
    have hin_a123 : ¬ ((4 : Int32) < 0 ∨ cl_a123.slots.size ≤ ((4 : Int32)).toNatClampNeg) := inb_of S_a123 ⟨by decide, by decide⟩
    obtain ⟨T124, h124, X124, e124, W124, st124⟩ := stC X122 hx hZ e122 Ar_a123 (j := (4 : Int32)) hin_a123 (g := (mkF m 42 #[.val (.int x1), .val (.int ((x1 &&& (2147483647 : Int32)) % (3 : Int32))), .unset, .unset, .unset, .unset] [(.int (116 : Int32)), (.int (4 : Int32)), (.ref b114), (.ref b114), (.ref b113), (.ref b113)])) rfl rfl (hb hby at_42)
    have O124 : Old Z n0 h124 := O122.wr W124 g_b114
    have Z124 : n0 ≤ h124.size := Nat.le_trans Z122 (Keep.of_wr W124).1
    have K124 : Keep h0 h124 [] := K122.wr W124 (Or.inr sz_b114)
    have N124 := Fr.snoc X124 N122 g_b114
    have V124 : Arv Z h124 b114 k114 .char (5 : Int32) [(.int (69 : Int32)), (.int (120 : Int32)), (.int (97 : Int32)), (.int (99 : Int32)), (.int (116 : Int32))] (.int (0 : Int32)) := Arv.set Ar_a123 q_a123 S_a123 N_a123 H_a123 G_a123 (fits_nar_char _) W124 4 rfl (Nat.le_of_ble_eq_true rfl)
    have C125 : Exa Z h124 b113 "java/lang/String" := ((((((A113.ext E114).wr W116).wr W118).wr W120).wr W122).wr W124)
    have F126 : Fld Z h124 b113 "java/lang/String" "value" "[B" .null := ((((((F_b113_value.ext E114).other W116 (Or.inl (Nat.ne_of_lt (Nat.lt_of_lt_of_le A113.lt (Nat.le_of_eq g114.symm))))).other W118 (Or.inl (Nat.ne_of_lt (Nat.lt_of_lt_of_le A113.lt (Nat.le_of_eq g114.symm))))).other W120 (Or.inl (Nat.ne_of_lt (Nat.lt_of_lt_of_le A113.lt (Nat.le_of_eq g114.symm))))).other W122 (Or.inl (Nat.ne_of_lt (Nat.lt_of_lt_of_le A113.lt (Nat.le_of_eq g114.symm))))).other W124 (Or.inl (Nat.ne_of_lt (Nat.lt_of_lt_of_le A113.lt (Nat.le_of_eq g114.symm)))))
    have F127 : Fld Z h124 b113 "java/lang/String" "coder" "B" (.int (0 : Int32)) := ((((((F_b113_coder.ext E114).other W116 (Or.inl (Nat.ne_of_lt (Nat.lt_of_lt_of_le A113.lt (Nat.le_of_eq g114.symm))))).other W118 (Or.inl (Nat.ne_of_lt (Nat.lt_of_lt_of_le A113.lt (Nat.le_of_eq g114.symm))))).other W120 (Or.inl (Nat.ne_of_lt (Nat.lt_of_lt_of_le A113.lt (Nat.le_of_eq g114.symm))))).other W122 (Or.inl (Nat.ne_of_lt (Nat.lt_of_lt_of_le A113.lt (Nat.le_of_eq g114.symm))))).other W124 (Or.inl (Nat.ne_of_lt (Nat.lt_of_lt_of_le A113.lt (Nat.le_of_eq g114.symm)))))
    have hp128 : ∀ c ∈ ([(69 : Int32), (120 : Int32), (97 : Int32), (99 : Int32), (116 : Int32)] : List Int32), ¬ c < 0 ∧ ¬ (255 : Int32) < c := by
      intro c hc
      simp only [List.mem_cons, List.not_mem_nil, or_false] at hc
      rcases hc with rfl | rfl | rfl | rfl | rfl
      · decide
      · decide
      · decide
      · decide
      · decide
    obtain ⟨_, _, ⟨T129, L129, k129, n129⟩, -, X129, ⟨Lc129, hQ129, l129, y129, z129⟩, st129⟩ := X124.specialBack hx (y := (⟨"java/lang/String", "<init>", "([C)V"⟩ : MethodName)) rfl hown (mvT hZ (hw _ (List.mem_of_getElem? (i := 5) rfl))) (mvT hZ (hw _ (List.mem_of_getElem? (i := 6) rfl))) (mvT hZ (hw _ (List.mem_of_getElem? (i := 7) rfl))) (by decide) (StrChars.Road.backV (W := 1) hZ (own_hws hw) (kI := 4) (hw _ (List.mem_of_getElem? (i := 2) rfl)) (cs := ([(69 : Int32), (120 : Int32), (97 : Int32), (99 : Int32), (116 : Int32)] : List Int32)) (bs := ([(69 : Int32), (120 : Int32), (97 : Int32), (99 : Int32), (116 : Int32)] : List Int32).map (fun c => c.toInt8.toInt32)) (n := 5) g_b113 Z124 C125 F126 F127 V124 (S_COMPACT_STRINGS.ext O124.2) hcomp rfl rfl (by decide) (by decide) hp128 rfl (by decide) (by decide)) (g := (mkF m 43 #[.val (.int x1), .val (.int ((x1 &&& (2147483647 : Int32)) % (3 : Int32))), .unset, .unset, .unset, .unset] [(.ref b114), (.ref b113), (.ref b113)])) rfl (by rw [hml]; rfl) (Steps.refl _) (a := b113) (argsL := [(.ref b114)]) (rest := [(.ref b113)]) (lenOf pd_2 rfl) rfl (by show 2 * 0 + _ ≤ _; exact Nat.le_of_eq rfl) (hb hby at_43) (fun _ _ => ⟨rfl, e124, (by decide : 2 + 1 ≤ _), (by decide : 9 + 5 ≤ _)⟩)
    dsimp only [Pt.U, Pt.locs, Pt.cells, Pt.slots] at X129 l129 y129 z129 st129 hQ129
    subst l129 y129 z129
    obtain ⟨rfl, N129q, KK129, E129, C129, t129, kb129, g_t129, s129, ne129, V129, A129⟩ := hQ129
    have N129 := Fr.app N124 N129q
    have O129 : Old Z n0 T129.heap := O124.keep KK129 (allS g_b113 all0)
    have Z129 : n0 ≤ T129.heap.size := Nat.le_trans Z124 KK129.1
    have K129 : Keep h0 T129.heap [] := K124.trans KK129 (allS (Or.inr sz_b113) all0)
    have sz_t129 : h0.size ≤ t129 := Nat.le_trans K124.1 s129
    obtain ⟨T130, X130, e130, st130⟩ := getS2 X129 hx hZ hown (host := "") (Or.inl (hw _ (List.mem_of_getElem? (i := 31) rfl))) Via.refl rfl (S_EXACT.ext O129.2) (g := (mkF m 47 #[.val (.int x1), .val (.int ((x1 &&& (2147483647 : Int32)) % (3 : Int32))), .val (.ref b113), .unset, .unset, .unset] [])) rfl (hb hby at_47)
    have F131 : Fld Z T129.heap st_EXACT "com/example/kompas/kompas/eval/Label" "text" "Ljava/lang/String;" (.ref st_EXACT_text) := (FZ_st_EXACT_text.ext O129.2)
    have F132 : Fld Z T129.heap st_EXACT_text "java/lang/String" "value" "[B" (.ref st_EXACT_text_value) := (FZ_st_EXACT_text_value.ext O129.2)
    have F133 : Fld Z T129.heap st_EXACT_text "java/lang/String" "coder" "B" (.int (0 : Int32)) := (FZ_st_EXACT_text_coder.ext O129.2)
    have V134 : Arv Z T129.heap st__VALUES k_st__VALUES (.object "com/example/kompas/kompas/eval/Label") (3 : Int32) [(.ref st_EXACT), (.ref st_PARTIAL), (.ref st_IRRELEVANT)] .null := (VZ_st__VALUES.ext O129.2)
    have C135 : Exa Z T129.heap st__VALUES "[Lcom/example/kompas/kompas/eval/Label;" := (EZ_st__VALUES.ext O129.2)
    have C136 : Exa Z T129.heap st_EXACT_text "java/lang/String" := (EZ_st_EXACT_text.ext O129.2)
    have V137 : Arv Z T129.heap st_EXACT_text_value k_st_EXACT_text_value .byte (5 : Int32) [(.int (69 : Int32)), (.int (120 : Int32)), (.int (97 : Int32)), (.int (99 : Int32)), (.int (116 : Int32))] (.int (0 : Int32)) := (VZ_st_EXACT_text_value.ext O129.2)
    obtain ⟨_, _, ⟨T138, L138, k138, n138⟩, -, X138, ⟨Lc138, hQ138, l138, y138, z138⟩, st138⟩ := Jvm.LawKit.callS X130 hx (y := (⟨"com/example/kompas/kompas/eval/Label", "parse", "(Ljava/lang/String;)Lcom/example/kompas/kompas/eval/Label;"⟩ : MethodName)) hown (mvT hZ (hw _ (List.mem_of_getElem? (i := 34) rfl))) (mvT hZ (hw _ (List.mem_of_getElem? (i := 35) rfl))) (mvT hZ (hw _ (List.mem_of_getElem? (i := 32) rfl))) (mvT hZ (hw _ (List.mem_of_getElem? (i := 36) rfl))) (by decide) (backOf (W := 0) (rm7_0 l Z a0 hw [] b113 st__VALUES k_st__VALUES st_EXACT st_PARTIAL st_IRRELEVANT st_EXACT_text st_EXACT_text_value k_st_EXACT_text_value t129 kb129 st_COMPACT_STRINGS T129.heap n0 Z129 O129 V134 C135 F131 C136 F132 F133 V137 E129 V129 C129 A129 S__VALUES S_COMPACT_STRINGS hcomp) hZ (hw _ (List.mem_of_getElem? (i := 36) rfl)) (hw _ (List.mem_of_getElem? (i := 32) rfl)) (by decide) (by decide)) (g := (mkF m 194 #[.val (.int x1), .val (.int ((x1 &&& (2147483647 : Int32)) % (3 : Int32))), .val (.ref b113), .val (.ref st_EXACT), .val (.int (2 : Int32)), .unset] [(.ref b113)])) rfl (by rw [hml]; rfl) (argsL := [(.ref b113)]) (rest := []) (lenOf pd_3 rfl) rfl (by show 2 * 0 + _ ≤ _; exact Nat.le_of_eq rfl) (hb hby at_194) (fun _ _ => ⟨rfl, e130, (by decide : 3 + 1 ≤ _), (by decide : 14 + 3 ≤ _)⟩)
    dsimp only [Pt.U, Pt.locs, Pt.cells, Pt.slots] at X138 l138 y138 z138 st138 hQ138
    subst l138 y138 z138
    obtain ⟨rfl, N138q, KK138⟩ := hQ138
    have N138 := Fr.app N129 N138q
    have O138 : Old Z n0 T138.heap := O129.keep KK138 all0
    have Z138 : n0 ≤ T138.heap.size := Nat.le_trans Z129 KK138.1
    have K138 : Keep h0 T138.heap [] := K129.trans KK138 all0
    have F139 : Fld Z T138.heap st_EXACT "com/example/kompas/kompas/eval/Label" "gain" "I" (.int (2 : Int32)) := (FZ_st_EXACT_gain.ext O138.2)
    have C141 : Exa Z T138.heap st_EXACT "com/example/kompas/kompas/eval/Label" := (EZ_st_EXACT.ext O138.2)
    obtain ⟨cq140, kq140, q140a, q140b, q140c⟩ := isOf hZ rfl C141
    obtain ⟨_, _, ⟨T140, L140, k140, n140⟩, -, X140, ⟨Lc140, hQ140, l140, y140, z140⟩, st140⟩ := X138.virtualBack hx (y := (⟨"com/example/kompas/kompas/eval/Label", "gain", "()I"⟩ : MethodName)) (z := (⟨"com/example/kompas/kompas/eval/Label", "gain", "()I"⟩ : MethodName)) hown (mvT hZ (hw _ (List.mem_of_getElem? (i := 66) rfl))) (mvT hZ (hw _ (List.mem_of_getElem? (i := 67) rfl))) (notFace_of_selects (args := #[]) (mvT hZ (hw _ (List.mem_of_getElem? (i := 69) rfl)))) (mvT hZ (hw _ (List.mem_of_getElem? (i := 69) rfl))) (mvT hZ (hw _ (List.mem_of_getElem? (i := 68) rfl))) (by decide) (backOf (W := 0) (rm11 l Z a0 hw [] st_EXACT (2 : Int32) T138.heap n0 Z138 O138 F139) hZ (hw _ (List.mem_of_getElem? (i := 70) rfl)) (hw _ (List.mem_of_getElem? (i := 32) rfl)) (by decide) (by decide)) q140a q140c (g := (mkF m 207 #[.val (.int x1), .val (.int ((x1 &&& (2147483647 : Int32)) % (3 : Int32))), .val (.ref b113), .val (.ref st_EXACT), .val (.int (2 : Int32)), .val (.ref st_EXACT)] [(.ref st_EXACT)])) rfl (by rw [hml]; rfl) (Steps.refl _) (argsL := []) (rest := []) (lenOf pd_4 rfl) rfl (by show 2 * 0 + _ ≤ _; exact Nat.le_of_eq rfl) (hb hby at_207) (fun _ _ => ⟨rfl, rfl, (by decide : 4 + 0 ≤ _), (by decide : 17 + 0 ≤ _)⟩)
    dsimp only [Pt.U, Pt.locs, Pt.cells, Pt.slots] at X140 l140 y140 z140 st140 hQ140
    subst l140 y140 z140
    obtain ⟨rfl, N140q, eh140⟩ := hQ140
    have N140 := Fr.app N138 N140q
    obtain ⟨fs, hr, hrun, hended, hW, hsame⟩ := X140.leave (v := some (.int (1 : Int32))) (fun h => by rw [Bd.returns] at h; cases h)
    refine ⟨_, _, pre112 _ ?_, hrun, hended, _, _, rfl, ?_, ⟨_, rfl⟩, hW, hsame.mono (by decide) (by decide)⟩
    · show Steps p.tables e below (s₁.setTop (mkF m 8 #[.val (.int x1), .val (.int ((x1 &&& (2147483647 : Int32)) % (3 : Int32))), .unset, .unset, .unset, .unset] [(.int ((x1 &&& (2147483647 : Int32)) % (3 : Int32)))])) _
      refine XS.ifNo X0.here hx rfl (hb hby at_8) rfl ((if0 _ _).trans (teq hc8).2) ?_
      show Steps p.tables e below (s₁.setTop (mkF m 11 #[.val (.int x1), .val (.int ((x1 &&& (2147483647 : Int32)) % (3 : Int32))), .unset, .unset, .unset, .unset] [])) _
      refine st113 _ ?_
      show Steps p.tables e below (T113.setTop (mkF m 14 #[.val (.int x1), .val (.int ((x1 &&& (2147483647 : Int32)) % (3 : Int32))), .unset, .unset, .unset, .unset] [(.ref b113)])) _
      refine XS.dup X113.here hx rfl (hb hby at_14) rfl rfl ?_
      show Steps p.tables e below (T113.setTop (mkF m 15 #[.val (.int x1), .val (.int ((x1 &&& (2147483647 : Int32)) % (3 : Int32))), .unset, .unset, .unset, .unset] [(.ref b113), (.ref b113)])) _
      refine XS.iconst X113.here hx rfl (hb hby at_15) ?_
      show Steps p.tables e below (T113.setTop (mkF m 16 #[.val (.int x1), .val (.int ((x1 &&& (2147483647 : Int32)) % (3 : Int32))), .unset, .unset, .unset, .unset] [(.int (5 : Int32)), (.ref b113), (.ref b113)])) _
      refine st114 _ ?_
      show Steps p.tables e below (T114.setTop (mkF m 18 #[.val (.int x1), .val (.int ((x1 &&& (2147483647 : Int32)) % (3 : Int32))), .unset, .unset, .unset, .unset] [(.ref b114), (.ref b113), (.ref b113)])) _
      refine XS.dup X114.here hx rfl (hb hby at_18) rfl rfl ?_
      show Steps p.tables e below (T114.setTop (mkF m 19 #[.val (.int x1), .val (.int ((x1 &&& (2147483647 : Int32)) % (3 : Int32))), .unset, .unset, .unset, .unset] [(.ref b114), (.ref b114), (.ref b113), (.ref b113)])) _
      refine XS.iconst X114.here hx rfl (hb hby at_19) ?_
      show Steps p.tables e below (T114.setTop (mkF m 20 #[.val (.int x1), .val (.int ((x1 &&& (2147483647 : Int32)) % (3 : Int32))), .unset, .unset, .unset, .unset] [(.int (0 : Int32)), (.ref b114), (.ref b114), (.ref b113), (.ref b113)])) _
      refine XS.bipush X114.here hx rfl (hb hby at_20) ?_
      show Steps p.tables e below (T114.setTop (mkF m 22 #[.val (.int x1), .val (.int ((x1 &&& (2147483647 : Int32)) % (3 : Int32))), .unset, .unset, .unset, .unset] [(.int (69 : Int32)), (.int (0 : Int32)), (.ref b114), (.ref b114), (.ref b113), (.ref b113)])) _
      refine st116 _ ?_
      show Steps p.tables e below (T116.setTop (mkF m 23 #[.val (.int x1), .val (.int ((x1 &&& (2147483647 : Int32)) % (3 : Int32))), .unset, .unset, .unset, .unset] [(.ref b114), (.ref b113), (.ref b113)])) _
      refine XS.dup X116.here hx rfl (hb hby at_23) rfl rfl ?_
      show Steps p.tables e below (T116.setTop (mkF m 24 #[.val (.int x1), .val (.int ((x1 &&& (2147483647 : Int32)) % (3 : Int32))), .unset, .unset, .unset, .unset] [(.ref b114), (.ref b114), (.ref b113), (.ref b113)])) _
      refine XS.iconst X116.here hx rfl (hb hby at_24) ?_
      show Steps p.tables e below (T116.setTop (mkF m 25 #[.val (.int x1), .val (.int ((x1 &&& (2147483647 : Int32)) % (3 : Int32))), .unset, .unset, .unset, .unset] [(.int (1 : Int32)), (.ref b114), (.ref b114), (.ref b113), (.ref b113)])) _
      refine XS.bipush X116.here hx rfl (hb hby at_25) ?_
      show Steps p.tables e below (T116.setTop (mkF m 27 #[.val (.int x1), .val (.int ((x1 &&& (2147483647 : Int32)) % (3 : Int32))), .unset, .unset, .unset, .unset] [(.int (120 : Int32)), (.int (1 : Int32)), (.ref b114), (.ref b114), (.ref b113), (.ref b113)])) _
      refine st118 _ ?_
      show Steps p.tables e below (T118.setTop (mkF m 28 #[.val (.int x1), .val (.int ((x1 &&& (2147483647 : Int32)) % (3 : Int32))), .unset, .unset, .unset, .unset] [(.ref b114), (.ref b113), (.ref b113)])) _
      refine XS.dup X118.here hx rfl (hb hby at_28) rfl rfl ?_
      show Steps p.tables e below (T118.setTop (mkF m 29 #[.val (.int x1), .val (.int ((x1 &&& (2147483647 : Int32)) % (3 : Int32))), .unset, .unset, .unset, .unset] [(.ref b114), (.ref b114), (.ref b113), (.ref b113)])) _
      refine XS.iconst X118.here hx rfl (hb hby at_29) ?_
      show Steps p.tables e below (T118.setTop (mkF m 30 #[.val (.int x1), .val (.int ((x1 &&& (2147483647 : Int32)) % (3 : Int32))), .unset, .unset, .unset, .unset] [(.int (2 : Int32)), (.ref b114), (.ref b114), (.ref b113), (.ref b113)])) _
      refine XS.bipush X118.here hx rfl (hb hby at_30) ?_
      show Steps p.tables e below (T118.setTop (mkF m 32 #[.val (.int x1), .val (.int ((x1 &&& (2147483647 : Int32)) % (3 : Int32))), .unset, .unset, .unset, .unset] [(.int (97 : Int32)), (.int (2 : Int32)), (.ref b114), (.ref b114), (.ref b113), (.ref b113)])) _
      refine st120 _ ?_
      show Steps p.tables e below (T120.setTop (mkF m 33 #[.val (.int x1), .val (.int ((x1 &&& (2147483647 : Int32)) % (3 : Int32))), .unset, .unset, .unset, .unset] [(.ref b114), (.ref b113), (.ref b113)])) _
      refine XS.dup X120.here hx rfl (hb hby at_33) rfl rfl ?_
      show Steps p.tables e below (T120.setTop (mkF m 34 #[.val (.int x1), .val (.int ((x1 &&& (2147483647 : Int32)) % (3 : Int32))), .unset, .unset, .unset, .unset] [(.ref b114), (.ref b114), (.ref b113), (.ref b113)])) _
      refine XS.iconst X120.here hx rfl (hb hby at_34) ?_
      show Steps p.tables e below (T120.setTop (mkF m 35 #[.val (.int x1), .val (.int ((x1 &&& (2147483647 : Int32)) % (3 : Int32))), .unset, .unset, .unset, .unset] [(.int (3 : Int32)), (.ref b114), (.ref b114), (.ref b113), (.ref b113)])) _
      refine XS.bipush X120.here hx rfl (hb hby at_35) ?_
      show Steps p.tables e below (T120.setTop (mkF m 37 #[.val (.int x1), .val (.int ((x1 &&& (2147483647 : Int32)) % (3 : Int32))), .unset, .unset, .unset, .unset] [(.int (99 : Int32)), (.int (3 : Int32)), (.ref b114), (.ref b114), (.ref b113), (.ref b113)])) _
      refine st122 _ ?_
      show Steps p.tables e below (T122.setTop (mkF m 38 #[.val (.int x1), .val (.int ((x1 &&& (2147483647 : Int32)) % (3 : Int32))), .unset, .unset, .unset, .unset] [(.ref b114), (.ref b113), (.ref b113)])) _
      refine XS.dup X122.here hx rfl (hb hby at_38) rfl rfl ?_
      show Steps p.tables e below (T122.setTop (mkF m 39 #[.val (.int x1), .val (.int ((x1 &&& (2147483647 : Int32)) % (3 : Int32))), .unset, .unset, .unset, .unset] [(.ref b114), (.ref b114), (.ref b113), (.ref b113)])) _
      refine XS.iconst X122.here hx rfl (hb hby at_39) ?_
      show Steps p.tables e below (T122.setTop (mkF m 40 #[.val (.int x1), .val (.int ((x1 &&& (2147483647 : Int32)) % (3 : Int32))), .unset, .unset, .unset, .unset] [(.int (4 : Int32)), (.ref b114), (.ref b114), (.ref b113), (.ref b113)])) _
      refine XS.bipush X122.here hx rfl (hb hby at_40) ?_
      show Steps p.tables e below (T122.setTop (mkF m 42 #[.val (.int x1), .val (.int ((x1 &&& (2147483647 : Int32)) % (3 : Int32))), .unset, .unset, .unset, .unset] [(.int (116 : Int32)), (.int (4 : Int32)), (.ref b114), (.ref b114), (.ref b113), (.ref b113)])) _
      refine st124 _ ?_
      show Steps p.tables e below (T124.setTop (mkF m 43 #[.val (.int x1), .val (.int ((x1 &&& (2147483647 : Int32)) % (3 : Int32))), .unset, .unset, .unset, .unset] [(.ref b114), (.ref b113), (.ref b113)])) _
      refine st129.trans ?_
      show Steps p.tables e below (T129.setTop (mkF m 46 #[.val (.int x1), .val (.int ((x1 &&& (2147483647 : Int32)) % (3 : Int32))), .unset, .unset, .unset, .unset] [(.ref b113)])) _
      refine XS.astoreN X129.here hx rfl (hb hby at_46) rfl rfl (l' := #[.val (.int x1), .val (.int ((x1 &&& (2147483647 : Int32)) % (3 : Int32))), .val (.ref b113), .unset, .unset, .unset]) rfl ?_
      show Steps p.tables e below (T129.setTop (mkF m 47 #[.val (.int x1), .val (.int ((x1 &&& (2147483647 : Int32)) % (3 : Int32))), .val (.ref b113), .unset, .unset, .unset] [])) _
      refine st130 _ ?_
      show Steps p.tables e below (T130.setTop (mkF m 50 #[.val (.int x1), .val (.int ((x1 &&& (2147483647 : Int32)) % (3 : Int32))), .val (.ref b113), .unset, .unset, .unset] [(.ref st_EXACT)])) _
      refine XS.astoreN X130.here hx rfl (hb hby at_50) rfl rfl (l' := #[.val (.int x1), .val (.int ((x1 &&& (2147483647 : Int32)) % (3 : Int32))), .val (.ref b113), .val (.ref st_EXACT), .unset, .unset]) rfl ?_
      show Steps p.tables e below (T130.setTop (mkF m 51 #[.val (.int x1), .val (.int ((x1 &&& (2147483647 : Int32)) % (3 : Int32))), .val (.ref b113), .val (.ref st_EXACT), .unset, .unset] [])) _
      refine XS.iconst X130.here hx rfl (hb hby at_51) ?_
      show Steps p.tables e below (T130.setTop (mkF m 52 #[.val (.int x1), .val (.int ((x1 &&& (2147483647 : Int32)) % (3 : Int32))), .val (.ref b113), .val (.ref st_EXACT), .unset, .unset] [(.int (2 : Int32))])) _
      refine XS.istore X130.here hx rfl (hb hby at_52) rfl (l' := #[.val (.int x1), .val (.int ((x1 &&& (2147483647 : Int32)) % (3 : Int32))), .val (.ref b113), .val (.ref st_EXACT), .val (.int (2 : Int32)), .unset]) rfl ?_
      show Steps p.tables e below (T130.setTop (mkF m 54 #[.val (.int x1), .val (.int ((x1 &&& (2147483647 : Int32)) % (3 : Int32))), .val (.ref b113), .val (.ref st_EXACT), .val (.int (2 : Int32)), .unset] [])) _
      refine XS.goto X130.here hx rfl (pc0 := 54) (pc' := 193) rfl (hb hby at_54) (by decide) (by decide) ?_
      show Steps p.tables e below (T130.setTop (mkF m 193 #[.val (.int x1), .val (.int ((x1 &&& (2147483647 : Int32)) % (3 : Int32))), .val (.ref b113), .val (.ref st_EXACT), .val (.int (2 : Int32)), .unset] [])) _
      refine XS.aloadN X130.here hx rfl (hb hby at_193) rfl rfl ?_
      show Steps p.tables e below (T130.setTop (mkF m 194 #[.val (.int x1), .val (.int ((x1 &&& (2147483647 : Int32)) % (3 : Int32))), .val (.ref b113), .val (.ref st_EXACT), .val (.int (2 : Int32)), .unset] [(.ref b113)])) _
      refine st138 _ ?_
      show Steps p.tables e below (T138.setTop (mkF m 197 #[.val (.int x1), .val (.int ((x1 &&& (2147483647 : Int32)) % (3 : Int32))), .val (.ref b113), .val (.ref st_EXACT), .val (.int (2 : Int32)), .unset] [(.ref st_EXACT)])) _
      refine XS.astore X138.here hx rfl (hb hby at_197) rfl rfl (l' := #[.val (.int x1), .val (.int ((x1 &&& (2147483647 : Int32)) % (3 : Int32))), .val (.ref b113), .val (.ref st_EXACT), .val (.int (2 : Int32)), .val (.ref st_EXACT)]) rfl ?_
      show Steps p.tables e below (T138.setTop (mkF m 199 #[.val (.int x1), .val (.int ((x1 &&& (2147483647 : Int32)) % (3 : Int32))), .val (.ref b113), .val (.ref st_EXACT), .val (.int (2 : Int32)), .val (.ref st_EXACT)] [])) _
      refine XS.aload X138.here hx rfl (hb hby at_199) rfl rfl ?_
      show Steps p.tables e below (T138.setTop (mkF m 201 #[.val (.int x1), .val (.int ((x1 &&& (2147483647 : Int32)) % (3 : Int32))), .val (.ref b113), .val (.ref st_EXACT), .val (.int (2 : Int32)), .val (.ref st_EXACT)] [(.ref st_EXACT)])) _
      refine XS.aloadN X138.here hx rfl (hb hby at_201) rfl rfl ?_
      show Steps p.tables e below (T138.setTop (mkF m 202 #[.val (.int x1), .val (.int ((x1 &&& (2147483647 : Int32)) % (3 : Int32))), .val (.ref b113), .val (.ref st_EXACT), .val (.int (2 : Int32)), .val (.ref st_EXACT)] [(.ref st_EXACT), (.ref st_EXACT)])) _
      refine Jvm.RoadKit.acmp (g := (mkF m 202 #[.val (.int x1), .val (.int ((x1 &&& (2147483647 : Int32)) % (3 : Int32))), .val (.ref b113), .val (.ref st_EXACT), .val (.int (2 : Int32)), .val (.ref st_EXACT)] [(.ref st_EXACT), (.ref st_EXACT)])) X138 hx rfl rfl rfl (pc0 := 202) (pc' := 205) (same := true) rfl (hb hby at_202) rfl (decide_eq_true rfl) (by decide) (by decide) ?_
      show Steps p.tables e below (T138.setTop (mkF m 205 #[.val (.int x1), .val (.int ((x1 &&& (2147483647 : Int32)) % (3 : Int32))), .val (.ref b113), .val (.ref st_EXACT), .val (.int (2 : Int32)), .val (.ref st_EXACT)] [])) _
      refine XS.aload X138.here hx rfl (hb hby at_205) rfl rfl ?_
      show Steps p.tables e below (T138.setTop (mkF m 207 #[.val (.int x1), .val (.int ((x1 &&& (2147483647 : Int32)) % (3 : Int32))), .val (.ref b113), .val (.ref st_EXACT), .val (.int (2 : Int32)), .val (.ref st_EXACT)] [(.ref st_EXACT)])) _
      refine st140.trans ?_
      show Steps p.tables e below (T140.setTop (mkF m 210 #[.val (.int x1), .val (.int ((x1 &&& (2147483647 : Int32)) % (3 : Int32))), .val (.ref b113), .val (.ref st_EXACT), .val (.int (2 : Int32)), .val (.ref st_EXACT)] [(.int (2 : Int32))])) _
      refine XS.iload X140.here hx rfl (hb hby at_210) rfl ?_
      show Steps p.tables e below (T140.setTop (mkF m 212 #[.val (.int x1), .val (.int ((x1 &&& (2147483647 : Int32)) % (3 : Int32))), .val (.ref b113), .val (.ref st_EXACT), .val (.int (2 : Int32)), .val (.ref st_EXACT)] [(.int (2 : Int32)), (.int (2 : Int32))])) _
      refine XS.icmpNo X140.here hx rfl (hb hby at_212) rfl (teq (by decide : (2 : Int32) = (2 : Int32))).2 ?_
      show Steps p.tables e below (T140.setTop (mkF m 215 #[.val (.int x1), .val (.int ((x1 &&& (2147483647 : Int32)) % (3 : Int32))), .val (.ref b113), .val (.ref st_EXACT), .val (.int (2 : Int32)), .val (.ref st_EXACT)] [])) _
      refine XS.iconst X140.here hx rfl (hb hby at_215) ?_
      show Steps p.tables e below (T140.setTop (mkF m 216 #[.val (.int x1), .val (.int ((x1 &&& (2147483647 : Int32)) % (3 : Int32))), .val (.ref b113), .val (.ref st_EXACT), .val (.int (2 : Int32)), .val (.ref st_EXACT)] [(.int (1 : Int32))])) _
      refine XS.goto X140.here hx rfl (pc0 := 216) (pc' := 220) rfl (hb hby at_216) (by decide) (by decide) ?_
      show Steps p.tables e below (T140.setTop (mkF m 220 #[.val (.int x1), .val (.int ((x1 &&& (2147483647 : Int32)) % (3 : Int32))), .val (.ref b113), .val (.ref st_EXACT), .val (.int (2 : Int32)), .val (.ref st_EXACT)] [(.int (1 : Int32))])) _
      exact retN X140 hx (t := .boolean) Bd.returns (by simp) (hb hby at_220) hr
    · show Q0 Z x1 st__VALUES st_EXACT st_EXACT_text st_EXACT_text_value k_st_EXACT_text_value st_PARTIAL st_PARTIAL_text st_PARTIAL_text_value k_st_PARTIAL_text_value st_IRRELEVANT st_IRRELEVANT_text st_IRRELEVANT_text_value k_st_IRRELEVANT_text_value k_st__VALUES st_COMPACT_STRINGS h0 n0 _ T140.heap _
      rw [eh140]
      exact ⟨rfl, N140, K138⟩
  · skip
    have pre142 : ∀ t, Steps p.tables e below (s₁.setTop (mkF m 59 #[.val (.int x1), .val (.int ((x1 &&& (2147483647 : Int32)) % (3 : Int32))), .unset, .unset, .unset, .unset] [(.int (1 : Int32)), (.int ((x1 &&& (2147483647 : Int32)) % (3 : Int32)))])) t → Steps p.tables e below (s₁.setTop (entryFrame m #[(.int x1)] maxLocals)) t := by
      intro t kt
      refine pre112 t ?_
      show Steps p.tables e below (s₁.setTop (mkF m 8 #[.val (.int x1), .val (.int ((x1 &&& (2147483647 : Int32)) % (3 : Int32))), .unset, .unset, .unset, .unset] [(.int ((x1 &&& (2147483647 : Int32)) % (3 : Int32)))])) _
      refine XS.ifYes X0.here hx rfl (pc0 := 8) (pc' := 57) rfl (hb hby at_8) rfl ((if0 _ _).trans (feq hc8).2) (by decide) (by decide) ?_
      show Steps p.tables e below (s₁.setTop (mkF m 57 #[.val (.int x1), .val (.int ((x1 &&& (2147483647 : Int32)) % (3 : Int32))), .unset, .unset, .unset, .unset] [])) _
      refine XS.iloadN X0.here hx rfl (hb hby at_57) rfl ?_
      show Steps p.tables e below (s₁.setTop (mkF m 58 #[.val (.int x1), .val (.int ((x1 &&& (2147483647 : Int32)) % (3 : Int32))), .unset, .unset, .unset, .unset] [(.int ((x1 &&& (2147483647 : Int32)) % (3 : Int32)))])) _
      refine XS.iconst X0.here hx rfl (hb hby at_58) ?_
      exact kt
    by_cases hc59 : ((x1 &&& (2147483647 : Int32)) % (3 : Int32)) = (1 : Int32)
    · skip
      obtain ⟨T143, h143, X143, e143, E143, A143, D143, U143, st143⟩ := newO X0 hx hZ hown (hw _ (List.mem_of_getElem? (i := 1) rfl)) (hw _ (List.mem_of_getElem? (i := 2) rfl)) (hw _ (List.mem_of_getElem? (i := 3) rfl)) e0 (g := (mkF m 62 #[.val (.int x1), .val (.int ((x1 &&& (2147483647 : Int32)) % (3 : Int32))), .unset, .unset, .unset, .unset] [])) rfl (hb hby at_62) (by decide) (by decide)
      obtain ⟨b143, g143⟩ : ∃ z, z = h0.size := ⟨_, rfl⟩
      rw [← g143] at A143 D143 st143
      have O143 : Old Z n0 h143 := O0.ext E143
      have Z143 : n0 ≤ h143.size := Nat.le_trans Z0 E143.1
      have K143 : Keep h0 h143 [] := K0.ext E143
      have g_b143 : n0 ≤ b143 := Nat.le_trans Z0 (Nat.le_of_eq g143.symm)
      have sz_b143 : h0.size ≤ b143 := Nat.le_trans K0.1 (Nat.le_of_eq g143.symm)
      have F_b143_coder : Fld Z h143 b143 "java/lang/String" "coder" "B" (.int (0 : Int32)) := D143 (Or.inr (hw _ (List.mem_of_getElem? (i := 28) rfl))) (ty := .byte) (by decide)
      have F_b143_value : Fld Z h143 b143 "java/lang/String" "value" "[B" .null := D143 (Or.inr (hw _ (List.mem_of_getElem? (i := 30) rfl))) (ty := (.array .byte)) (by decide)
      obtain ⟨T144, h144, k144, X144, e144, E144, A144, st144⟩ := newP X143 hx hZ (hw _ (List.mem_of_getElem? (i := 4) rfl)) e143 (g := (mkF m 68 #[.val (.int x1), .val (.int ((x1 &&& (2147483647 : Int32)) % (3 : Int32))), .unset, .unset, .unset, .unset] [(.int (7 : Int32)), (.ref b143), (.ref b143)])) rfl (hb hby at_68) rfl (by decide) (cap := 7) (by decide) (by decide) (by decide) (by decide)
      obtain ⟨b144, g144⟩ : ∃ z, z = h143.size := ⟨_, rfl⟩
      rw [← g144] at A144 st144
      have O144 : Old Z n0 h144 := O143.ext E144
      have Z144 : n0 ≤ h144.size := Nat.le_trans Z143 E144.1
      have K144 : Keep h0 h144 [] := K143.ext E144
      have g_b144 : n0 ≤ b144 := Nat.le_trans Z143 (Nat.le_of_eq g144.symm)
      have sz_b144 : h0.size ≤ b144 := Nat.le_trans K143.1 (Nat.le_of_eq g144.symm)
      have V144 : Arv Z h144 b144 k144 .char (7 : Int32) [(.int (0 : Int32)), (.int (0 : Int32)), (.int (0 : Int32)), (.int (0 : Int32)), (.int (0 : Int32)), (.int (0 : Int32)), (.int (0 : Int32))] (.int (0 : Int32)) := (Arv.new A144 (by decide)).pad (pad_rep [] (.int (0 : Int32)) 7)
      obtain ⟨cl_a145, Ar_a145, q_a145, S_a145, N_a145, H_a145, G_a145⟩ := id V144
      have hin_a145 : ¬ ((0 : Int32) < 0 ∨ cl_a145.slots.size ≤ ((0 : Int32)).toNatClampNeg) := inb_of S_a145 ⟨by decide, by decide⟩
      obtain ⟨T146, h146, X146, e146, W146, st146⟩ := stC X144 hx hZ e144 Ar_a145 (j := (0 : Int32)) hin_a145 (g := (mkF m 74 #[.val (.int x1), .val (.int ((x1 &&& (2147483647 : Int32)) % (3 : Int32))), .unset, .unset, .unset, .unset] [(.int (80 : Int32)), (.int (0 : Int32)), (.ref b144), (.ref b144), (.ref b143), (.ref b143)])) rfl rfl (hb hby at_74)
      have O146 : Old Z n0 h146 := O144.wr W146 g_b144
      have Z146 : n0 ≤ h146.size := Nat.le_trans Z144 (Keep.of_wr W146).1
      have K146 : Keep h0 h146 [] := K144.wr W146 (Or.inr sz_b144)
      have N146 := Fr.snoc X146 N0 g_b144
      have V146 : Arv Z h146 b144 k144 .char (7 : Int32) [(.int (80 : Int32)), (.int (0 : Int32)), (.int (0 : Int32)), (.int (0 : Int32)), (.int (0 : Int32)), (.int (0 : Int32)), (.int (0 : Int32))] (.int (0 : Int32)) := Arv.set Ar_a145 q_a145 S_a145 N_a145 H_a145 G_a145 (fits_nar_char _) W146 0 rfl (Nat.le_of_ble_eq_true rfl)
      obtain ⟨cl_a147, Ar_a147, q_a147, S_a147, N_a147, H_a147, G_a147⟩ := id V146
      have hin_a147 : ¬ ((1 : Int32) < 0 ∨ cl_a147.slots.size ≤ ((1 : Int32)).toNatClampNeg) := inb_of S_a147 ⟨by decide, by decide⟩
      obtain ⟨T148, h148, X148, e148, W148, st148⟩ := stC X146 hx hZ e146 Ar_a147 (j := (1 : Int32)) hin_a147 (g := (mkF m 79 #[.val (.int x1), .val (.int ((x1 &&& (2147483647 : Int32)) % (3 : Int32))), .unset, .unset, .unset, .unset] [(.int (97 : Int32)), (.int (1 : Int32)), (.ref b144), (.ref b144), (.ref b143), (.ref b143)])) rfl rfl (hb hby at_79)
      have O148 : Old Z n0 h148 := O146.wr W148 g_b144
      have Z148 : n0 ≤ h148.size := Nat.le_trans Z146 (Keep.of_wr W148).1
      have K148 : Keep h0 h148 [] := K146.wr W148 (Or.inr sz_b144)
      have N148 := Fr.snoc X148 N146 g_b144
      have V148 : Arv Z h148 b144 k144 .char (7 : Int32) [(.int (80 : Int32)), (.int (97 : Int32)), (.int (0 : Int32)), (.int (0 : Int32)), (.int (0 : Int32)), (.int (0 : Int32)), (.int (0 : Int32))] (.int (0 : Int32)) := Arv.set Ar_a147 q_a147 S_a147 N_a147 H_a147 G_a147 (fits_nar_char _) W148 1 rfl (Nat.le_of_ble_eq_true rfl)
      obtain ⟨cl_a149, Ar_a149, q_a149, S_a149, N_a149, H_a149, G_a149⟩ := id V148
      have hin_a149 : ¬ ((2 : Int32) < 0 ∨ cl_a149.slots.size ≤ ((2 : Int32)).toNatClampNeg) := inb_of S_a149 ⟨by decide, by decide⟩
      obtain ⟨T150, h150, X150, e150, W150, st150⟩ := stC X148 hx hZ e148 Ar_a149 (j := (2 : Int32)) hin_a149 (g := (mkF m 84 #[.val (.int x1), .val (.int ((x1 &&& (2147483647 : Int32)) % (3 : Int32))), .unset, .unset, .unset, .unset] [(.int (114 : Int32)), (.int (2 : Int32)), (.ref b144), (.ref b144), (.ref b143), (.ref b143)])) rfl rfl (hb hby at_84)
      have O150 : Old Z n0 h150 := O148.wr W150 g_b144
      have Z150 : n0 ≤ h150.size := Nat.le_trans Z148 (Keep.of_wr W150).1
      have K150 : Keep h0 h150 [] := K148.wr W150 (Or.inr sz_b144)
      have N150 := Fr.snoc X150 N148 g_b144
      have V150 : Arv Z h150 b144 k144 .char (7 : Int32) [(.int (80 : Int32)), (.int (97 : Int32)), (.int (114 : Int32)), (.int (0 : Int32)), (.int (0 : Int32)), (.int (0 : Int32)), (.int (0 : Int32))] (.int (0 : Int32)) := Arv.set Ar_a149 q_a149 S_a149 N_a149 H_a149 G_a149 (fits_nar_char _) W150 2 rfl (Nat.le_of_ble_eq_true rfl)
      obtain ⟨cl_a151, Ar_a151, q_a151, S_a151, N_a151, H_a151, G_a151⟩ := id V150
      have hin_a151 : ¬ ((3 : Int32) < 0 ∨ cl_a151.slots.size ≤ ((3 : Int32)).toNatClampNeg) := inb_of S_a151 ⟨by decide, by decide⟩
      obtain ⟨T152, h152, X152, e152, W152, st152⟩ := stC X150 hx hZ e150 Ar_a151 (j := (3 : Int32)) hin_a151 (g := (mkF m 89 #[.val (.int x1), .val (.int ((x1 &&& (2147483647 : Int32)) % (3 : Int32))), .unset, .unset, .unset, .unset] [(.int (116 : Int32)), (.int (3 : Int32)), (.ref b144), (.ref b144), (.ref b143), (.ref b143)])) rfl rfl (hb hby at_89)
      have O152 : Old Z n0 h152 := O150.wr W152 g_b144
      have Z152 : n0 ≤ h152.size := Nat.le_trans Z150 (Keep.of_wr W152).1
      have K152 : Keep h0 h152 [] := K150.wr W152 (Or.inr sz_b144)
      have N152 := Fr.snoc X152 N150 g_b144
      have V152 : Arv Z h152 b144 k144 .char (7 : Int32) [(.int (80 : Int32)), (.int (97 : Int32)), (.int (114 : Int32)), (.int (116 : Int32)), (.int (0 : Int32)), (.int (0 : Int32)), (.int (0 : Int32))] (.int (0 : Int32)) := Arv.set Ar_a151 q_a151 S_a151 N_a151 H_a151 G_a151 (fits_nar_char _) W152 3 rfl (Nat.le_of_ble_eq_true rfl)
      obtain ⟨cl_a153, Ar_a153, q_a153, S_a153, N_a153, H_a153, G_a153⟩ := id V152
      have hin_a153 : ¬ ((4 : Int32) < 0 ∨ cl_a153.slots.size ≤ ((4 : Int32)).toNatClampNeg) := inb_of S_a153 ⟨by decide, by decide⟩
      obtain ⟨T154, h154, X154, e154, W154, st154⟩ := stC X152 hx hZ e152 Ar_a153 (j := (4 : Int32)) hin_a153 (g := (mkF m 94 #[.val (.int x1), .val (.int ((x1 &&& (2147483647 : Int32)) % (3 : Int32))), .unset, .unset, .unset, .unset] [(.int (105 : Int32)), (.int (4 : Int32)), (.ref b144), (.ref b144), (.ref b143), (.ref b143)])) rfl rfl (hb hby at_94)
      have O154 : Old Z n0 h154 := O152.wr W154 g_b144
      have Z154 : n0 ≤ h154.size := Nat.le_trans Z152 (Keep.of_wr W154).1
      have K154 : Keep h0 h154 [] := K152.wr W154 (Or.inr sz_b144)
      have N154 := Fr.snoc X154 N152 g_b144
      have V154 : Arv Z h154 b144 k144 .char (7 : Int32) [(.int (80 : Int32)), (.int (97 : Int32)), (.int (114 : Int32)), (.int (116 : Int32)), (.int (105 : Int32)), (.int (0 : Int32)), (.int (0 : Int32))] (.int (0 : Int32)) := Arv.set Ar_a153 q_a153 S_a153 N_a153 H_a153 G_a153 (fits_nar_char _) W154 4 rfl (Nat.le_of_ble_eq_true rfl)
      obtain ⟨cl_a155, Ar_a155, q_a155, S_a155, N_a155, H_a155, G_a155⟩ := id V154
      have hin_a155 : ¬ ((5 : Int32) < 0 ∨ cl_a155.slots.size ≤ ((5 : Int32)).toNatClampNeg) := inb_of S_a155 ⟨by decide, by decide⟩
      obtain ⟨T156, h156, X156, e156, W156, st156⟩ := stC X154 hx hZ e154 Ar_a155 (j := (5 : Int32)) hin_a155 (g := (mkF m 99 #[.val (.int x1), .val (.int ((x1 &&& (2147483647 : Int32)) % (3 : Int32))), .unset, .unset, .unset, .unset] [(.int (97 : Int32)), (.int (5 : Int32)), (.ref b144), (.ref b144), (.ref b143), (.ref b143)])) rfl rfl (hb hby at_99)
      have O156 : Old Z n0 h156 := O154.wr W156 g_b144
      have Z156 : n0 ≤ h156.size := Nat.le_trans Z154 (Keep.of_wr W156).1
      have K156 : Keep h0 h156 [] := K154.wr W156 (Or.inr sz_b144)
      have N156 := Fr.snoc X156 N154 g_b144
      have V156 : Arv Z h156 b144 k144 .char (7 : Int32) [(.int (80 : Int32)), (.int (97 : Int32)), (.int (114 : Int32)), (.int (116 : Int32)), (.int (105 : Int32)), (.int (97 : Int32)), (.int (0 : Int32))] (.int (0 : Int32)) := Arv.set Ar_a155 q_a155 S_a155 N_a155 H_a155 G_a155 (fits_nar_char _) W156 5 rfl (Nat.le_of_ble_eq_true rfl)
      obtain ⟨cl_a157, Ar_a157, q_a157, S_a157, N_a157, H_a157, G_a157⟩ := id V156
      have hin_a157 : ¬ ((6 : Int32) < 0 ∨ cl_a157.slots.size ≤ ((6 : Int32)).toNatClampNeg) := inb_of S_a157 ⟨by decide, by decide⟩
      obtain ⟨T158, h158, X158, e158, W158, st158⟩ := stC X156 hx hZ e156 Ar_a157 (j := (6 : Int32)) hin_a157 (g := (mkF m 105 #[.val (.int x1), .val (.int ((x1 &&& (2147483647 : Int32)) % (3 : Int32))), .unset, .unset, .unset, .unset] [(.int (108 : Int32)), (.int (6 : Int32)), (.ref b144), (.ref b144), (.ref b143), (.ref b143)])) rfl rfl (hb hby at_105)
      have O158 : Old Z n0 h158 := O156.wr W158 g_b144
      have Z158 : n0 ≤ h158.size := Nat.le_trans Z156 (Keep.of_wr W158).1
      have K158 : Keep h0 h158 [] := K156.wr W158 (Or.inr sz_b144)
      have N158 := Fr.snoc X158 N156 g_b144
      have V158 : Arv Z h158 b144 k144 .char (7 : Int32) [(.int (80 : Int32)), (.int (97 : Int32)), (.int (114 : Int32)), (.int (116 : Int32)), (.int (105 : Int32)), (.int (97 : Int32)), (.int (108 : Int32))] (.int (0 : Int32)) := Arv.set Ar_a157 q_a157 S_a157 N_a157 H_a157 G_a157 (fits_nar_char _) W158 6 rfl (Nat.le_of_ble_eq_true rfl)
      have C159 : Exa Z h158 b143 "java/lang/String" := ((((((((A143.ext E144).wr W146).wr W148).wr W150).wr W152).wr W154).wr W156).wr W158)
      have F160 : Fld Z h158 b143 "java/lang/String" "value" "[B" .null := ((((((((F_b143_value.ext E144).other W146 (Or.inl (Nat.ne_of_lt (Nat.lt_of_lt_of_le A143.lt (Nat.le_of_eq g144.symm))))).other W148 (Or.inl (Nat.ne_of_lt (Nat.lt_of_lt_of_le A143.lt (Nat.le_of_eq g144.symm))))).other W150 (Or.inl (Nat.ne_of_lt (Nat.lt_of_lt_of_le A143.lt (Nat.le_of_eq g144.symm))))).other W152 (Or.inl (Nat.ne_of_lt (Nat.lt_of_lt_of_le A143.lt (Nat.le_of_eq g144.symm))))).other W154 (Or.inl (Nat.ne_of_lt (Nat.lt_of_lt_of_le A143.lt (Nat.le_of_eq g144.symm))))).other W156 (Or.inl (Nat.ne_of_lt (Nat.lt_of_lt_of_le A143.lt (Nat.le_of_eq g144.symm))))).other W158 (Or.inl (Nat.ne_of_lt (Nat.lt_of_lt_of_le A143.lt (Nat.le_of_eq g144.symm)))))
      have F161 : Fld Z h158 b143 "java/lang/String" "coder" "B" (.int (0 : Int32)) := ((((((((F_b143_coder.ext E144).other W146 (Or.inl (Nat.ne_of_lt (Nat.lt_of_lt_of_le A143.lt (Nat.le_of_eq g144.symm))))).other W148 (Or.inl (Nat.ne_of_lt (Nat.lt_of_lt_of_le A143.lt (Nat.le_of_eq g144.symm))))).other W150 (Or.inl (Nat.ne_of_lt (Nat.lt_of_lt_of_le A143.lt (Nat.le_of_eq g144.symm))))).other W152 (Or.inl (Nat.ne_of_lt (Nat.lt_of_lt_of_le A143.lt (Nat.le_of_eq g144.symm))))).other W154 (Or.inl (Nat.ne_of_lt (Nat.lt_of_lt_of_le A143.lt (Nat.le_of_eq g144.symm))))).other W156 (Or.inl (Nat.ne_of_lt (Nat.lt_of_lt_of_le A143.lt (Nat.le_of_eq g144.symm))))).other W158 (Or.inl (Nat.ne_of_lt (Nat.lt_of_lt_of_le A143.lt (Nat.le_of_eq g144.symm)))))
      have hp162 : ∀ c ∈ ([(80 : Int32), (97 : Int32), (114 : Int32), (116 : Int32), (105 : Int32), (97 : Int32), (108 : Int32)] : List Int32), ¬ c < 0 ∧ ¬ (255 : Int32) < c := by
        intro c hc
        simp only [List.mem_cons, List.not_mem_nil, or_false] at hc
        rcases hc with rfl | rfl | rfl | rfl | rfl | rfl | rfl
        · decide
        · decide
        · decide
        · decide
        · decide
        · decide
        · decide
      obtain ⟨_, _, ⟨T163, L163, k163, n163⟩, -, X163, ⟨Lc163, hQ163, l163, y163, z163⟩, st163⟩ := X158.specialBack hx (y := (⟨"java/lang/String", "<init>", "([C)V"⟩ : MethodName)) rfl hown (mvT hZ (hw _ (List.mem_of_getElem? (i := 5) rfl))) (mvT hZ (hw _ (List.mem_of_getElem? (i := 6) rfl))) (mvT hZ (hw _ (List.mem_of_getElem? (i := 7) rfl))) (by decide) (StrChars.Road.backV (W := 1) hZ (own_hws hw) (kI := 4) (hw _ (List.mem_of_getElem? (i := 2) rfl)) (cs := ([(80 : Int32), (97 : Int32), (114 : Int32), (116 : Int32), (105 : Int32), (97 : Int32), (108 : Int32)] : List Int32)) (bs := ([(80 : Int32), (97 : Int32), (114 : Int32), (116 : Int32), (105 : Int32), (97 : Int32), (108 : Int32)] : List Int32).map (fun c => c.toInt8.toInt32)) (n := 7) g_b143 Z158 C159 F160 F161 V158 (S_COMPACT_STRINGS.ext O158.2) hcomp rfl rfl (by decide) (by decide) hp162 rfl (by decide) (by decide)) (g := (mkF m 106 #[.val (.int x1), .val (.int ((x1 &&& (2147483647 : Int32)) % (3 : Int32))), .unset, .unset, .unset, .unset] [(.ref b144), (.ref b143), (.ref b143)])) rfl (by rw [hml]; rfl) (Steps.refl _) (a := b143) (argsL := [(.ref b144)]) (rest := [(.ref b143)]) (lenOf pd_2 rfl) rfl (by show 2 * 0 + _ ≤ _; exact Nat.le_of_eq rfl) (hb hby at_106) (fun _ _ => ⟨rfl, e158, (by decide : 2 + 1 ≤ _), (by decide : 11 + 7 ≤ _)⟩)
      dsimp only [Pt.U, Pt.locs, Pt.cells, Pt.slots] at X163 l163 y163 z163 st163 hQ163
      subst l163 y163 z163
      obtain ⟨rfl, N163q, KK163, E163, C163, t163, kb163, g_t163, s163, ne163, V163, A163⟩ := hQ163
      have N163 := Fr.app N158 N163q
      have O163 : Old Z n0 T163.heap := O158.keep KK163 (allS g_b143 all0)
      have Z163 : n0 ≤ T163.heap.size := Nat.le_trans Z158 KK163.1
      have K163 : Keep h0 T163.heap [] := K158.trans KK163 (allS (Or.inr sz_b143) all0)
      have sz_t163 : h0.size ≤ t163 := Nat.le_trans K158.1 s163
      obtain ⟨T164, X164, e164, st164⟩ := getS2 X163 hx hZ hown (host := "") (Or.inl (hw _ (List.mem_of_getElem? (i := 74) rfl))) Via.refl rfl (S_PARTIAL.ext O163.2) (g := (mkF m 110 #[.val (.int x1), .val (.int ((x1 &&& (2147483647 : Int32)) % (3 : Int32))), .val (.ref b143), .unset, .unset, .unset] [])) rfl (hb hby at_110)
      have F165 : Fld Z T163.heap st_EXACT "com/example/kompas/kompas/eval/Label" "text" "Ljava/lang/String;" (.ref st_EXACT_text) := (FZ_st_EXACT_text.ext O163.2)
      have F166 : Fld Z T163.heap st_EXACT_text "java/lang/String" "value" "[B" (.ref st_EXACT_text_value) := (FZ_st_EXACT_text_value.ext O163.2)
      have F167 : Fld Z T163.heap st_EXACT_text "java/lang/String" "coder" "B" (.int (0 : Int32)) := (FZ_st_EXACT_text_coder.ext O163.2)
      have F168 : Fld Z T163.heap st_PARTIAL "com/example/kompas/kompas/eval/Label" "text" "Ljava/lang/String;" (.ref st_PARTIAL_text) := (FZ_st_PARTIAL_text.ext O163.2)
      have F169 : Fld Z T163.heap st_PARTIAL_text "java/lang/String" "value" "[B" (.ref st_PARTIAL_text_value) := (FZ_st_PARTIAL_text_value.ext O163.2)
      have F170 : Fld Z T163.heap st_PARTIAL_text "java/lang/String" "coder" "B" (.int (0 : Int32)) := (FZ_st_PARTIAL_text_coder.ext O163.2)
      have V171 : Arv Z T163.heap st__VALUES k_st__VALUES (.object "com/example/kompas/kompas/eval/Label") (3 : Int32) [(.ref st_EXACT), (.ref st_PARTIAL), (.ref st_IRRELEVANT)] .null := (VZ_st__VALUES.ext O163.2)
      have C172 : Exa Z T163.heap st__VALUES "[Lcom/example/kompas/kompas/eval/Label;" := (EZ_st__VALUES.ext O163.2)
      have C173 : Exa Z T163.heap st_EXACT_text "java/lang/String" := (EZ_st_EXACT_text.ext O163.2)
      have V174 : Arv Z T163.heap st_EXACT_text_value k_st_EXACT_text_value .byte (5 : Int32) [(.int (69 : Int32)), (.int (120 : Int32)), (.int (97 : Int32)), (.int (99 : Int32)), (.int (116 : Int32))] (.int (0 : Int32)) := (VZ_st_EXACT_text_value.ext O163.2)
      have C175 : Exa Z T163.heap st_PARTIAL_text "java/lang/String" := (EZ_st_PARTIAL_text.ext O163.2)
      have V176 : Arv Z T163.heap st_PARTIAL_text_value k_st_PARTIAL_text_value .byte (7 : Int32) [(.int (80 : Int32)), (.int (97 : Int32)), (.int (114 : Int32)), (.int (116 : Int32)), (.int (105 : Int32)), (.int (97 : Int32)), (.int (108 : Int32))] (.int (0 : Int32)) := (VZ_st_PARTIAL_text_value.ext O163.2)
      obtain ⟨_, _, ⟨T177, L177, k177, n177⟩, -, X177, ⟨Lc177, hQ177, l177, y177, z177⟩, st177⟩ := Jvm.LawKit.callS X164 hx (y := (⟨"com/example/kompas/kompas/eval/Label", "parse", "(Ljava/lang/String;)Lcom/example/kompas/kompas/eval/Label;"⟩ : MethodName)) hown (mvT hZ (hw _ (List.mem_of_getElem? (i := 34) rfl))) (mvT hZ (hw _ (List.mem_of_getElem? (i := 35) rfl))) (mvT hZ (hw _ (List.mem_of_getElem? (i := 32) rfl))) (mvT hZ (hw _ (List.mem_of_getElem? (i := 36) rfl))) (by decide) (backOf (W := 0) (rm7_1 l Z a0 hw [] b143 st__VALUES k_st__VALUES st_EXACT st_PARTIAL st_IRRELEVANT st_EXACT_text st_EXACT_text_value k_st_EXACT_text_value st_PARTIAL_text st_PARTIAL_text_value k_st_PARTIAL_text_value t163 kb163 st_COMPACT_STRINGS T163.heap n0 Z163 O163 V171 C172 F165 C173 F166 F167 V174 F168 C175 F169 F170 V176 E163 V163 C163 A163 S__VALUES S_COMPACT_STRINGS hcomp) hZ (hw _ (List.mem_of_getElem? (i := 36) rfl)) (hw _ (List.mem_of_getElem? (i := 32) rfl)) (by decide) (by decide)) (g := (mkF m 194 #[.val (.int x1), .val (.int ((x1 &&& (2147483647 : Int32)) % (3 : Int32))), .val (.ref b143), .val (.ref st_PARTIAL), .val (.int (1 : Int32)), .unset] [(.ref b143)])) rfl (by rw [hml]; rfl) (argsL := [(.ref b143)]) (rest := []) (lenOf pd_3 rfl) rfl (by show 2 * 0 + _ ≤ _; exact Nat.le_of_eq rfl) (hb hby at_194) (fun _ _ => ⟨rfl, e164, (by decide : 3 + 1 ≤ _), (by decide : 18 + 3 ≤ _)⟩)
      dsimp only [Pt.U, Pt.locs, Pt.cells, Pt.slots] at X177 l177 y177 z177 st177 hQ177
      subst l177 y177 z177
      obtain ⟨rfl, N177q, KK177⟩ := hQ177
      have N177 := Fr.app N163 N177q
      have O177 : Old Z n0 T177.heap := O163.keep KK177 all0
      have Z177 : n0 ≤ T177.heap.size := Nat.le_trans Z163 KK177.1
      have K177 : Keep h0 T177.heap [] := K163.trans KK177 all0
      have F178 : Fld Z T177.heap st_PARTIAL "com/example/kompas/kompas/eval/Label" "gain" "I" (.int (1 : Int32)) := (FZ_st_PARTIAL_gain.ext O177.2)
      have C180 : Exa Z T177.heap st_PARTIAL "com/example/kompas/kompas/eval/Label" := (EZ_st_PARTIAL.ext O177.2)
      obtain ⟨cq179, kq179, q179a, q179b, q179c⟩ := isOf hZ rfl C180
      obtain ⟨_, _, ⟨T179, L179, k179, n179⟩, -, X179, ⟨Lc179, hQ179, l179, y179, z179⟩, st179⟩ := X177.virtualBack hx (y := (⟨"com/example/kompas/kompas/eval/Label", "gain", "()I"⟩ : MethodName)) (z := (⟨"com/example/kompas/kompas/eval/Label", "gain", "()I"⟩ : MethodName)) hown (mvT hZ (hw _ (List.mem_of_getElem? (i := 66) rfl))) (mvT hZ (hw _ (List.mem_of_getElem? (i := 67) rfl))) (notFace_of_selects (args := #[]) (mvT hZ (hw _ (List.mem_of_getElem? (i := 69) rfl)))) (mvT hZ (hw _ (List.mem_of_getElem? (i := 69) rfl))) (mvT hZ (hw _ (List.mem_of_getElem? (i := 68) rfl))) (by decide) (backOf (W := 0) (rm11 l Z a0 hw [] st_PARTIAL (1 : Int32) T177.heap n0 Z177 O177 F178) hZ (hw _ (List.mem_of_getElem? (i := 70) rfl)) (hw _ (List.mem_of_getElem? (i := 32) rfl)) (by decide) (by decide)) q179a q179c (g := (mkF m 207 #[.val (.int x1), .val (.int ((x1 &&& (2147483647 : Int32)) % (3 : Int32))), .val (.ref b143), .val (.ref st_PARTIAL), .val (.int (1 : Int32)), .val (.ref st_PARTIAL)] [(.ref st_PARTIAL)])) rfl (by rw [hml]; rfl) (Steps.refl _) (argsL := []) (rest := []) (lenOf pd_4 rfl) rfl (by show 2 * 0 + _ ≤ _; exact Nat.le_of_eq rfl) (hb hby at_207) (fun _ _ => ⟨rfl, rfl, (by decide : 4 + 0 ≤ _), (by decide : 21 + 0 ≤ _)⟩)
      dsimp only [Pt.U, Pt.locs, Pt.cells, Pt.slots] at X179 l179 y179 z179 st179 hQ179
      subst l179 y179 z179
      obtain ⟨rfl, N179q, eh179⟩ := hQ179
      have N179 := Fr.app N177 N179q
      obtain ⟨fs, hr, hrun, hended, hW, hsame⟩ := X179.leave (v := some (.int (1 : Int32))) (fun h => by rw [Bd.returns] at h; cases h)
      refine ⟨_, _, pre142 _ ?_, hrun, hended, _, _, rfl, ?_, ⟨_, rfl⟩, hW, hsame.mono (by decide) (by decide)⟩
      · show Steps p.tables e below (s₁.setTop (mkF m 59 #[.val (.int x1), .val (.int ((x1 &&& (2147483647 : Int32)) % (3 : Int32))), .unset, .unset, .unset, .unset] [(.int (1 : Int32)), (.int ((x1 &&& (2147483647 : Int32)) % (3 : Int32)))])) _
        refine XS.icmpNo X0.here hx rfl (hb hby at_59) rfl (teq hc59).2 ?_
        show Steps p.tables e below (s₁.setTop (mkF m 62 #[.val (.int x1), .val (.int ((x1 &&& (2147483647 : Int32)) % (3 : Int32))), .unset, .unset, .unset, .unset] [])) _
        refine st143 _ ?_
        show Steps p.tables e below (T143.setTop (mkF m 65 #[.val (.int x1), .val (.int ((x1 &&& (2147483647 : Int32)) % (3 : Int32))), .unset, .unset, .unset, .unset] [(.ref b143)])) _
        refine XS.dup X143.here hx rfl (hb hby at_65) rfl rfl ?_
        show Steps p.tables e below (T143.setTop (mkF m 66 #[.val (.int x1), .val (.int ((x1 &&& (2147483647 : Int32)) % (3 : Int32))), .unset, .unset, .unset, .unset] [(.ref b143), (.ref b143)])) _
        refine XS.bipush X143.here hx rfl (hb hby at_66) ?_
        show Steps p.tables e below (T143.setTop (mkF m 68 #[.val (.int x1), .val (.int ((x1 &&& (2147483647 : Int32)) % (3 : Int32))), .unset, .unset, .unset, .unset] [(.int (7 : Int32)), (.ref b143), (.ref b143)])) _
        refine st144 _ ?_
        show Steps p.tables e below (T144.setTop (mkF m 70 #[.val (.int x1), .val (.int ((x1 &&& (2147483647 : Int32)) % (3 : Int32))), .unset, .unset, .unset, .unset] [(.ref b144), (.ref b143), (.ref b143)])) _
        refine XS.dup X144.here hx rfl (hb hby at_70) rfl rfl ?_
        show Steps p.tables e below (T144.setTop (mkF m 71 #[.val (.int x1), .val (.int ((x1 &&& (2147483647 : Int32)) % (3 : Int32))), .unset, .unset, .unset, .unset] [(.ref b144), (.ref b144), (.ref b143), (.ref b143)])) _
        refine XS.iconst X144.here hx rfl (hb hby at_71) ?_
        show Steps p.tables e below (T144.setTop (mkF m 72 #[.val (.int x1), .val (.int ((x1 &&& (2147483647 : Int32)) % (3 : Int32))), .unset, .unset, .unset, .unset] [(.int (0 : Int32)), (.ref b144), (.ref b144), (.ref b143), (.ref b143)])) _
        refine XS.bipush X144.here hx rfl (hb hby at_72) ?_
        show Steps p.tables e below (T144.setTop (mkF m 74 #[.val (.int x1), .val (.int ((x1 &&& (2147483647 : Int32)) % (3 : Int32))), .unset, .unset, .unset, .unset] [(.int (80 : Int32)), (.int (0 : Int32)), (.ref b144), (.ref b144), (.ref b143), (.ref b143)])) _
        refine st146 _ ?_
        show Steps p.tables e below (T146.setTop (mkF m 75 #[.val (.int x1), .val (.int ((x1 &&& (2147483647 : Int32)) % (3 : Int32))), .unset, .unset, .unset, .unset] [(.ref b144), (.ref b143), (.ref b143)])) _
        refine XS.dup X146.here hx rfl (hb hby at_75) rfl rfl ?_
        show Steps p.tables e below (T146.setTop (mkF m 76 #[.val (.int x1), .val (.int ((x1 &&& (2147483647 : Int32)) % (3 : Int32))), .unset, .unset, .unset, .unset] [(.ref b144), (.ref b144), (.ref b143), (.ref b143)])) _
        refine XS.iconst X146.here hx rfl (hb hby at_76) ?_
        show Steps p.tables e below (T146.setTop (mkF m 77 #[.val (.int x1), .val (.int ((x1 &&& (2147483647 : Int32)) % (3 : Int32))), .unset, .unset, .unset, .unset] [(.int (1 : Int32)), (.ref b144), (.ref b144), (.ref b143), (.ref b143)])) _
        refine XS.bipush X146.here hx rfl (hb hby at_77) ?_
        show Steps p.tables e below (T146.setTop (mkF m 79 #[.val (.int x1), .val (.int ((x1 &&& (2147483647 : Int32)) % (3 : Int32))), .unset, .unset, .unset, .unset] [(.int (97 : Int32)), (.int (1 : Int32)), (.ref b144), (.ref b144), (.ref b143), (.ref b143)])) _
        refine st148 _ ?_
        show Steps p.tables e below (T148.setTop (mkF m 80 #[.val (.int x1), .val (.int ((x1 &&& (2147483647 : Int32)) % (3 : Int32))), .unset, .unset, .unset, .unset] [(.ref b144), (.ref b143), (.ref b143)])) _
        refine XS.dup X148.here hx rfl (hb hby at_80) rfl rfl ?_
        show Steps p.tables e below (T148.setTop (mkF m 81 #[.val (.int x1), .val (.int ((x1 &&& (2147483647 : Int32)) % (3 : Int32))), .unset, .unset, .unset, .unset] [(.ref b144), (.ref b144), (.ref b143), (.ref b143)])) _
        refine XS.iconst X148.here hx rfl (hb hby at_81) ?_
        show Steps p.tables e below (T148.setTop (mkF m 82 #[.val (.int x1), .val (.int ((x1 &&& (2147483647 : Int32)) % (3 : Int32))), .unset, .unset, .unset, .unset] [(.int (2 : Int32)), (.ref b144), (.ref b144), (.ref b143), (.ref b143)])) _
        refine XS.bipush X148.here hx rfl (hb hby at_82) ?_
        show Steps p.tables e below (T148.setTop (mkF m 84 #[.val (.int x1), .val (.int ((x1 &&& (2147483647 : Int32)) % (3 : Int32))), .unset, .unset, .unset, .unset] [(.int (114 : Int32)), (.int (2 : Int32)), (.ref b144), (.ref b144), (.ref b143), (.ref b143)])) _
        refine st150 _ ?_
        show Steps p.tables e below (T150.setTop (mkF m 85 #[.val (.int x1), .val (.int ((x1 &&& (2147483647 : Int32)) % (3 : Int32))), .unset, .unset, .unset, .unset] [(.ref b144), (.ref b143), (.ref b143)])) _
        refine XS.dup X150.here hx rfl (hb hby at_85) rfl rfl ?_
        show Steps p.tables e below (T150.setTop (mkF m 86 #[.val (.int x1), .val (.int ((x1 &&& (2147483647 : Int32)) % (3 : Int32))), .unset, .unset, .unset, .unset] [(.ref b144), (.ref b144), (.ref b143), (.ref b143)])) _
        refine XS.iconst X150.here hx rfl (hb hby at_86) ?_
        show Steps p.tables e below (T150.setTop (mkF m 87 #[.val (.int x1), .val (.int ((x1 &&& (2147483647 : Int32)) % (3 : Int32))), .unset, .unset, .unset, .unset] [(.int (3 : Int32)), (.ref b144), (.ref b144), (.ref b143), (.ref b143)])) _
        refine XS.bipush X150.here hx rfl (hb hby at_87) ?_
        show Steps p.tables e below (T150.setTop (mkF m 89 #[.val (.int x1), .val (.int ((x1 &&& (2147483647 : Int32)) % (3 : Int32))), .unset, .unset, .unset, .unset] [(.int (116 : Int32)), (.int (3 : Int32)), (.ref b144), (.ref b144), (.ref b143), (.ref b143)])) _
        refine st152 _ ?_
        show Steps p.tables e below (T152.setTop (mkF m 90 #[.val (.int x1), .val (.int ((x1 &&& (2147483647 : Int32)) % (3 : Int32))), .unset, .unset, .unset, .unset] [(.ref b144), (.ref b143), (.ref b143)])) _
        refine XS.dup X152.here hx rfl (hb hby at_90) rfl rfl ?_
        show Steps p.tables e below (T152.setTop (mkF m 91 #[.val (.int x1), .val (.int ((x1 &&& (2147483647 : Int32)) % (3 : Int32))), .unset, .unset, .unset, .unset] [(.ref b144), (.ref b144), (.ref b143), (.ref b143)])) _
        refine XS.iconst X152.here hx rfl (hb hby at_91) ?_
        show Steps p.tables e below (T152.setTop (mkF m 92 #[.val (.int x1), .val (.int ((x1 &&& (2147483647 : Int32)) % (3 : Int32))), .unset, .unset, .unset, .unset] [(.int (4 : Int32)), (.ref b144), (.ref b144), (.ref b143), (.ref b143)])) _
        refine XS.bipush X152.here hx rfl (hb hby at_92) ?_
        show Steps p.tables e below (T152.setTop (mkF m 94 #[.val (.int x1), .val (.int ((x1 &&& (2147483647 : Int32)) % (3 : Int32))), .unset, .unset, .unset, .unset] [(.int (105 : Int32)), (.int (4 : Int32)), (.ref b144), (.ref b144), (.ref b143), (.ref b143)])) _
        refine st154 _ ?_
        show Steps p.tables e below (T154.setTop (mkF m 95 #[.val (.int x1), .val (.int ((x1 &&& (2147483647 : Int32)) % (3 : Int32))), .unset, .unset, .unset, .unset] [(.ref b144), (.ref b143), (.ref b143)])) _
        refine XS.dup X154.here hx rfl (hb hby at_95) rfl rfl ?_
        show Steps p.tables e below (T154.setTop (mkF m 96 #[.val (.int x1), .val (.int ((x1 &&& (2147483647 : Int32)) % (3 : Int32))), .unset, .unset, .unset, .unset] [(.ref b144), (.ref b144), (.ref b143), (.ref b143)])) _
        refine XS.iconst X154.here hx rfl (hb hby at_96) ?_
        show Steps p.tables e below (T154.setTop (mkF m 97 #[.val (.int x1), .val (.int ((x1 &&& (2147483647 : Int32)) % (3 : Int32))), .unset, .unset, .unset, .unset] [(.int (5 : Int32)), (.ref b144), (.ref b144), (.ref b143), (.ref b143)])) _
        refine XS.bipush X154.here hx rfl (hb hby at_97) ?_
        show Steps p.tables e below (T154.setTop (mkF m 99 #[.val (.int x1), .val (.int ((x1 &&& (2147483647 : Int32)) % (3 : Int32))), .unset, .unset, .unset, .unset] [(.int (97 : Int32)), (.int (5 : Int32)), (.ref b144), (.ref b144), (.ref b143), (.ref b143)])) _
        refine st156 _ ?_
        show Steps p.tables e below (T156.setTop (mkF m 100 #[.val (.int x1), .val (.int ((x1 &&& (2147483647 : Int32)) % (3 : Int32))), .unset, .unset, .unset, .unset] [(.ref b144), (.ref b143), (.ref b143)])) _
        refine XS.dup X156.here hx rfl (hb hby at_100) rfl rfl ?_
        show Steps p.tables e below (T156.setTop (mkF m 101 #[.val (.int x1), .val (.int ((x1 &&& (2147483647 : Int32)) % (3 : Int32))), .unset, .unset, .unset, .unset] [(.ref b144), (.ref b144), (.ref b143), (.ref b143)])) _
        refine XS.bipush X156.here hx rfl (hb hby at_101) ?_
        show Steps p.tables e below (T156.setTop (mkF m 103 #[.val (.int x1), .val (.int ((x1 &&& (2147483647 : Int32)) % (3 : Int32))), .unset, .unset, .unset, .unset] [(.int (6 : Int32)), (.ref b144), (.ref b144), (.ref b143), (.ref b143)])) _
        refine XS.bipush X156.here hx rfl (hb hby at_103) ?_
        show Steps p.tables e below (T156.setTop (mkF m 105 #[.val (.int x1), .val (.int ((x1 &&& (2147483647 : Int32)) % (3 : Int32))), .unset, .unset, .unset, .unset] [(.int (108 : Int32)), (.int (6 : Int32)), (.ref b144), (.ref b144), (.ref b143), (.ref b143)])) _
        refine st158 _ ?_
        show Steps p.tables e below (T158.setTop (mkF m 106 #[.val (.int x1), .val (.int ((x1 &&& (2147483647 : Int32)) % (3 : Int32))), .unset, .unset, .unset, .unset] [(.ref b144), (.ref b143), (.ref b143)])) _
        refine st163.trans ?_
        show Steps p.tables e below (T163.setTop (mkF m 109 #[.val (.int x1), .val (.int ((x1 &&& (2147483647 : Int32)) % (3 : Int32))), .unset, .unset, .unset, .unset] [(.ref b143)])) _
        refine XS.astoreN X163.here hx rfl (hb hby at_109) rfl rfl (l' := #[.val (.int x1), .val (.int ((x1 &&& (2147483647 : Int32)) % (3 : Int32))), .val (.ref b143), .unset, .unset, .unset]) rfl ?_
        show Steps p.tables e below (T163.setTop (mkF m 110 #[.val (.int x1), .val (.int ((x1 &&& (2147483647 : Int32)) % (3 : Int32))), .val (.ref b143), .unset, .unset, .unset] [])) _
        refine st164 _ ?_
        show Steps p.tables e below (T164.setTop (mkF m 113 #[.val (.int x1), .val (.int ((x1 &&& (2147483647 : Int32)) % (3 : Int32))), .val (.ref b143), .unset, .unset, .unset] [(.ref st_PARTIAL)])) _
        refine XS.astoreN X164.here hx rfl (hb hby at_113) rfl rfl (l' := #[.val (.int x1), .val (.int ((x1 &&& (2147483647 : Int32)) % (3 : Int32))), .val (.ref b143), .val (.ref st_PARTIAL), .unset, .unset]) rfl ?_
        show Steps p.tables e below (T164.setTop (mkF m 114 #[.val (.int x1), .val (.int ((x1 &&& (2147483647 : Int32)) % (3 : Int32))), .val (.ref b143), .val (.ref st_PARTIAL), .unset, .unset] [])) _
        refine XS.iconst X164.here hx rfl (hb hby at_114) ?_
        show Steps p.tables e below (T164.setTop (mkF m 115 #[.val (.int x1), .val (.int ((x1 &&& (2147483647 : Int32)) % (3 : Int32))), .val (.ref b143), .val (.ref st_PARTIAL), .unset, .unset] [(.int (1 : Int32))])) _
        refine XS.istore X164.here hx rfl (hb hby at_115) rfl (l' := #[.val (.int x1), .val (.int ((x1 &&& (2147483647 : Int32)) % (3 : Int32))), .val (.ref b143), .val (.ref st_PARTIAL), .val (.int (1 : Int32)), .unset]) rfl ?_
        show Steps p.tables e below (T164.setTop (mkF m 117 #[.val (.int x1), .val (.int ((x1 &&& (2147483647 : Int32)) % (3 : Int32))), .val (.ref b143), .val (.ref st_PARTIAL), .val (.int (1 : Int32)), .unset] [])) _
        refine XS.goto X164.here hx rfl (pc0 := 117) (pc' := 193) rfl (hb hby at_117) (by decide) (by decide) ?_
        show Steps p.tables e below (T164.setTop (mkF m 193 #[.val (.int x1), .val (.int ((x1 &&& (2147483647 : Int32)) % (3 : Int32))), .val (.ref b143), .val (.ref st_PARTIAL), .val (.int (1 : Int32)), .unset] [])) _
        refine XS.aloadN X164.here hx rfl (hb hby at_193) rfl rfl ?_
        show Steps p.tables e below (T164.setTop (mkF m 194 #[.val (.int x1), .val (.int ((x1 &&& (2147483647 : Int32)) % (3 : Int32))), .val (.ref b143), .val (.ref st_PARTIAL), .val (.int (1 : Int32)), .unset] [(.ref b143)])) _
        refine st177 _ ?_
        show Steps p.tables e below (T177.setTop (mkF m 197 #[.val (.int x1), .val (.int ((x1 &&& (2147483647 : Int32)) % (3 : Int32))), .val (.ref b143), .val (.ref st_PARTIAL), .val (.int (1 : Int32)), .unset] [(.ref st_PARTIAL)])) _
        refine XS.astore X177.here hx rfl (hb hby at_197) rfl rfl (l' := #[.val (.int x1), .val (.int ((x1 &&& (2147483647 : Int32)) % (3 : Int32))), .val (.ref b143), .val (.ref st_PARTIAL), .val (.int (1 : Int32)), .val (.ref st_PARTIAL)]) rfl ?_
        show Steps p.tables e below (T177.setTop (mkF m 199 #[.val (.int x1), .val (.int ((x1 &&& (2147483647 : Int32)) % (3 : Int32))), .val (.ref b143), .val (.ref st_PARTIAL), .val (.int (1 : Int32)), .val (.ref st_PARTIAL)] [])) _
        refine XS.aload X177.here hx rfl (hb hby at_199) rfl rfl ?_
        show Steps p.tables e below (T177.setTop (mkF m 201 #[.val (.int x1), .val (.int ((x1 &&& (2147483647 : Int32)) % (3 : Int32))), .val (.ref b143), .val (.ref st_PARTIAL), .val (.int (1 : Int32)), .val (.ref st_PARTIAL)] [(.ref st_PARTIAL)])) _
        refine XS.aloadN X177.here hx rfl (hb hby at_201) rfl rfl ?_
        show Steps p.tables e below (T177.setTop (mkF m 202 #[.val (.int x1), .val (.int ((x1 &&& (2147483647 : Int32)) % (3 : Int32))), .val (.ref b143), .val (.ref st_PARTIAL), .val (.int (1 : Int32)), .val (.ref st_PARTIAL)] [(.ref st_PARTIAL), (.ref st_PARTIAL)])) _
        refine Jvm.RoadKit.acmp (g := (mkF m 202 #[.val (.int x1), .val (.int ((x1 &&& (2147483647 : Int32)) % (3 : Int32))), .val (.ref b143), .val (.ref st_PARTIAL), .val (.int (1 : Int32)), .val (.ref st_PARTIAL)] [(.ref st_PARTIAL), (.ref st_PARTIAL)])) X177 hx rfl rfl rfl (pc0 := 202) (pc' := 205) (same := true) rfl (hb hby at_202) rfl (decide_eq_true rfl) (by decide) (by decide) ?_
        show Steps p.tables e below (T177.setTop (mkF m 205 #[.val (.int x1), .val (.int ((x1 &&& (2147483647 : Int32)) % (3 : Int32))), .val (.ref b143), .val (.ref st_PARTIAL), .val (.int (1 : Int32)), .val (.ref st_PARTIAL)] [])) _
        refine XS.aload X177.here hx rfl (hb hby at_205) rfl rfl ?_
        show Steps p.tables e below (T177.setTop (mkF m 207 #[.val (.int x1), .val (.int ((x1 &&& (2147483647 : Int32)) % (3 : Int32))), .val (.ref b143), .val (.ref st_PARTIAL), .val (.int (1 : Int32)), .val (.ref st_PARTIAL)] [(.ref st_PARTIAL)])) _
        refine st179.trans ?_
        show Steps p.tables e below (T179.setTop (mkF m 210 #[.val (.int x1), .val (.int ((x1 &&& (2147483647 : Int32)) % (3 : Int32))), .val (.ref b143), .val (.ref st_PARTIAL), .val (.int (1 : Int32)), .val (.ref st_PARTIAL)] [(.int (1 : Int32))])) _
        refine XS.iload X179.here hx rfl (hb hby at_210) rfl ?_
        show Steps p.tables e below (T179.setTop (mkF m 212 #[.val (.int x1), .val (.int ((x1 &&& (2147483647 : Int32)) % (3 : Int32))), .val (.ref b143), .val (.ref st_PARTIAL), .val (.int (1 : Int32)), .val (.ref st_PARTIAL)] [(.int (1 : Int32)), (.int (1 : Int32))])) _
        refine XS.icmpNo X179.here hx rfl (hb hby at_212) rfl (teq (by decide : (1 : Int32) = (1 : Int32))).2 ?_
        show Steps p.tables e below (T179.setTop (mkF m 215 #[.val (.int x1), .val (.int ((x1 &&& (2147483647 : Int32)) % (3 : Int32))), .val (.ref b143), .val (.ref st_PARTIAL), .val (.int (1 : Int32)), .val (.ref st_PARTIAL)] [])) _
        refine XS.iconst X179.here hx rfl (hb hby at_215) ?_
        show Steps p.tables e below (T179.setTop (mkF m 216 #[.val (.int x1), .val (.int ((x1 &&& (2147483647 : Int32)) % (3 : Int32))), .val (.ref b143), .val (.ref st_PARTIAL), .val (.int (1 : Int32)), .val (.ref st_PARTIAL)] [(.int (1 : Int32))])) _
        refine XS.goto X179.here hx rfl (pc0 := 216) (pc' := 220) rfl (hb hby at_216) (by decide) (by decide) ?_
        show Steps p.tables e below (T179.setTop (mkF m 220 #[.val (.int x1), .val (.int ((x1 &&& (2147483647 : Int32)) % (3 : Int32))), .val (.ref b143), .val (.ref st_PARTIAL), .val (.int (1 : Int32)), .val (.ref st_PARTIAL)] [(.int (1 : Int32))])) _
        exact retN X179 hx (t := .boolean) Bd.returns (by simp) (hb hby at_220) hr
      · show Q0 Z x1 st__VALUES st_EXACT st_EXACT_text st_EXACT_text_value k_st_EXACT_text_value st_PARTIAL st_PARTIAL_text st_PARTIAL_text_value k_st_PARTIAL_text_value st_IRRELEVANT st_IRRELEVANT_text st_IRRELEVANT_text_value k_st_IRRELEVANT_text_value k_st__VALUES st_COMPACT_STRINGS h0 n0 _ T179.heap _
        rw [eh179]
        exact ⟨rfl, N179, K177⟩
    · skip
      obtain ⟨T181, h181, X181, e181, E181, A181, D181, U181, st181⟩ := newO X0 hx hZ hown (hw _ (List.mem_of_getElem? (i := 1) rfl)) (hw _ (List.mem_of_getElem? (i := 2) rfl)) (hw _ (List.mem_of_getElem? (i := 3) rfl)) e0 (g := (mkF m 120 #[.val (.int x1), .val (.int ((x1 &&& (2147483647 : Int32)) % (3 : Int32))), .unset, .unset, .unset, .unset] [])) rfl (hb hby at_120) (by decide) (by decide)
      obtain ⟨b181, g181⟩ : ∃ z, z = h0.size := ⟨_, rfl⟩
      rw [← g181] at A181 D181 st181
      have O181 : Old Z n0 h181 := O0.ext E181
      have Z181 : n0 ≤ h181.size := Nat.le_trans Z0 E181.1
      have K181 : Keep h0 h181 [] := K0.ext E181
      have g_b181 : n0 ≤ b181 := Nat.le_trans Z0 (Nat.le_of_eq g181.symm)
      have sz_b181 : h0.size ≤ b181 := Nat.le_trans K0.1 (Nat.le_of_eq g181.symm)
      have F_b181_coder : Fld Z h181 b181 "java/lang/String" "coder" "B" (.int (0 : Int32)) := D181 (Or.inr (hw _ (List.mem_of_getElem? (i := 28) rfl))) (ty := .byte) (by decide)
      have F_b181_value : Fld Z h181 b181 "java/lang/String" "value" "[B" .null := D181 (Or.inr (hw _ (List.mem_of_getElem? (i := 30) rfl))) (ty := (.array .byte)) (by decide)
      obtain ⟨T182, h182, k182, X182, e182, E182, A182, st182⟩ := newP X181 hx hZ (hw _ (List.mem_of_getElem? (i := 4) rfl)) e181 (g := (mkF m 126 #[.val (.int x1), .val (.int ((x1 &&& (2147483647 : Int32)) % (3 : Int32))), .unset, .unset, .unset, .unset] [(.int (10 : Int32)), (.ref b181), (.ref b181)])) rfl (hb hby at_126) rfl (by decide) (cap := 10) (by decide) (by decide) (by decide) (by decide)
      obtain ⟨b182, g182⟩ : ∃ z, z = h181.size := ⟨_, rfl⟩
      rw [← g182] at A182 st182
      have O182 : Old Z n0 h182 := O181.ext E182
      have Z182 : n0 ≤ h182.size := Nat.le_trans Z181 E182.1
      have K182 : Keep h0 h182 [] := K181.ext E182
      have g_b182 : n0 ≤ b182 := Nat.le_trans Z181 (Nat.le_of_eq g182.symm)
      have sz_b182 : h0.size ≤ b182 := Nat.le_trans K181.1 (Nat.le_of_eq g182.symm)
      have V182 : Arv Z h182 b182 k182 .char (10 : Int32) [(.int (0 : Int32)), (.int (0 : Int32)), (.int (0 : Int32)), (.int (0 : Int32)), (.int (0 : Int32)), (.int (0 : Int32)), (.int (0 : Int32)), (.int (0 : Int32)), (.int (0 : Int32)), (.int (0 : Int32))] (.int (0 : Int32)) := (Arv.new A182 (by decide)).pad (pad_rep [] (.int (0 : Int32)) 10)
      obtain ⟨cl_a183, Ar_a183, q_a183, S_a183, N_a183, H_a183, G_a183⟩ := id V182
      have hin_a183 : ¬ ((0 : Int32) < 0 ∨ cl_a183.slots.size ≤ ((0 : Int32)).toNatClampNeg) := inb_of S_a183 ⟨by decide, by decide⟩
      obtain ⟨T184, h184, X184, e184, W184, st184⟩ := stC X182 hx hZ e182 Ar_a183 (j := (0 : Int32)) hin_a183 (g := (mkF m 132 #[.val (.int x1), .val (.int ((x1 &&& (2147483647 : Int32)) % (3 : Int32))), .unset, .unset, .unset, .unset] [(.int (73 : Int32)), (.int (0 : Int32)), (.ref b182), (.ref b182), (.ref b181), (.ref b181)])) rfl rfl (hb hby at_132)
      have O184 : Old Z n0 h184 := O182.wr W184 g_b182
      have Z184 : n0 ≤ h184.size := Nat.le_trans Z182 (Keep.of_wr W184).1
      have K184 : Keep h0 h184 [] := K182.wr W184 (Or.inr sz_b182)
      have N184 := Fr.snoc X184 N0 g_b182
      have V184 : Arv Z h184 b182 k182 .char (10 : Int32) [(.int (73 : Int32)), (.int (0 : Int32)), (.int (0 : Int32)), (.int (0 : Int32)), (.int (0 : Int32)), (.int (0 : Int32)), (.int (0 : Int32)), (.int (0 : Int32)), (.int (0 : Int32)), (.int (0 : Int32))] (.int (0 : Int32)) := Arv.set Ar_a183 q_a183 S_a183 N_a183 H_a183 G_a183 (fits_nar_char _) W184 0 rfl (Nat.le_of_ble_eq_true rfl)
      obtain ⟨cl_a185, Ar_a185, q_a185, S_a185, N_a185, H_a185, G_a185⟩ := id V184
      have hin_a185 : ¬ ((1 : Int32) < 0 ∨ cl_a185.slots.size ≤ ((1 : Int32)).toNatClampNeg) := inb_of S_a185 ⟨by decide, by decide⟩
      obtain ⟨T186, h186, X186, e186, W186, st186⟩ := stC X184 hx hZ e184 Ar_a185 (j := (1 : Int32)) hin_a185 (g := (mkF m 137 #[.val (.int x1), .val (.int ((x1 &&& (2147483647 : Int32)) % (3 : Int32))), .unset, .unset, .unset, .unset] [(.int (114 : Int32)), (.int (1 : Int32)), (.ref b182), (.ref b182), (.ref b181), (.ref b181)])) rfl rfl (hb hby at_137)
      have O186 : Old Z n0 h186 := O184.wr W186 g_b182
      have Z186 : n0 ≤ h186.size := Nat.le_trans Z184 (Keep.of_wr W186).1
      have K186 : Keep h0 h186 [] := K184.wr W186 (Or.inr sz_b182)
      have N186 := Fr.snoc X186 N184 g_b182
      have V186 : Arv Z h186 b182 k182 .char (10 : Int32) [(.int (73 : Int32)), (.int (114 : Int32)), (.int (0 : Int32)), (.int (0 : Int32)), (.int (0 : Int32)), (.int (0 : Int32)), (.int (0 : Int32)), (.int (0 : Int32)), (.int (0 : Int32)), (.int (0 : Int32))] (.int (0 : Int32)) := Arv.set Ar_a185 q_a185 S_a185 N_a185 H_a185 G_a185 (fits_nar_char _) W186 1 rfl (Nat.le_of_ble_eq_true rfl)
      obtain ⟨cl_a187, Ar_a187, q_a187, S_a187, N_a187, H_a187, G_a187⟩ := id V186
      have hin_a187 : ¬ ((2 : Int32) < 0 ∨ cl_a187.slots.size ≤ ((2 : Int32)).toNatClampNeg) := inb_of S_a187 ⟨by decide, by decide⟩
      obtain ⟨T188, h188, X188, e188, W188, st188⟩ := stC X186 hx hZ e186 Ar_a187 (j := (2 : Int32)) hin_a187 (g := (mkF m 142 #[.val (.int x1), .val (.int ((x1 &&& (2147483647 : Int32)) % (3 : Int32))), .unset, .unset, .unset, .unset] [(.int (114 : Int32)), (.int (2 : Int32)), (.ref b182), (.ref b182), (.ref b181), (.ref b181)])) rfl rfl (hb hby at_142)
      have O188 : Old Z n0 h188 := O186.wr W188 g_b182
      have Z188 : n0 ≤ h188.size := Nat.le_trans Z186 (Keep.of_wr W188).1
      have K188 : Keep h0 h188 [] := K186.wr W188 (Or.inr sz_b182)
      have N188 := Fr.snoc X188 N186 g_b182
      have V188 : Arv Z h188 b182 k182 .char (10 : Int32) [(.int (73 : Int32)), (.int (114 : Int32)), (.int (114 : Int32)), (.int (0 : Int32)), (.int (0 : Int32)), (.int (0 : Int32)), (.int (0 : Int32)), (.int (0 : Int32)), (.int (0 : Int32)), (.int (0 : Int32))] (.int (0 : Int32)) := Arv.set Ar_a187 q_a187 S_a187 N_a187 H_a187 G_a187 (fits_nar_char _) W188 2 rfl (Nat.le_of_ble_eq_true rfl)
      obtain ⟨cl_a189, Ar_a189, q_a189, S_a189, N_a189, H_a189, G_a189⟩ := id V188
      have hin_a189 : ¬ ((3 : Int32) < 0 ∨ cl_a189.slots.size ≤ ((3 : Int32)).toNatClampNeg) := inb_of S_a189 ⟨by decide, by decide⟩
      obtain ⟨T190, h190, X190, e190, W190, st190⟩ := stC X188 hx hZ e188 Ar_a189 (j := (3 : Int32)) hin_a189 (g := (mkF m 147 #[.val (.int x1), .val (.int ((x1 &&& (2147483647 : Int32)) % (3 : Int32))), .unset, .unset, .unset, .unset] [(.int (101 : Int32)), (.int (3 : Int32)), (.ref b182), (.ref b182), (.ref b181), (.ref b181)])) rfl rfl (hb hby at_147)
      have O190 : Old Z n0 h190 := O188.wr W190 g_b182
      have Z190 : n0 ≤ h190.size := Nat.le_trans Z188 (Keep.of_wr W190).1
      have K190 : Keep h0 h190 [] := K188.wr W190 (Or.inr sz_b182)
      have N190 := Fr.snoc X190 N188 g_b182
      have V190 : Arv Z h190 b182 k182 .char (10 : Int32) [(.int (73 : Int32)), (.int (114 : Int32)), (.int (114 : Int32)), (.int (101 : Int32)), (.int (0 : Int32)), (.int (0 : Int32)), (.int (0 : Int32)), (.int (0 : Int32)), (.int (0 : Int32)), (.int (0 : Int32))] (.int (0 : Int32)) := Arv.set Ar_a189 q_a189 S_a189 N_a189 H_a189 G_a189 (fits_nar_char _) W190 3 rfl (Nat.le_of_ble_eq_true rfl)
      obtain ⟨cl_a191, Ar_a191, q_a191, S_a191, N_a191, H_a191, G_a191⟩ := id V190
      have hin_a191 : ¬ ((4 : Int32) < 0 ∨ cl_a191.slots.size ≤ ((4 : Int32)).toNatClampNeg) := inb_of S_a191 ⟨by decide, by decide⟩
      obtain ⟨T192, h192, X192, e192, W192, st192⟩ := stC X190 hx hZ e190 Ar_a191 (j := (4 : Int32)) hin_a191 (g := (mkF m 152 #[.val (.int x1), .val (.int ((x1 &&& (2147483647 : Int32)) % (3 : Int32))), .unset, .unset, .unset, .unset] [(.int (108 : Int32)), (.int (4 : Int32)), (.ref b182), (.ref b182), (.ref b181), (.ref b181)])) rfl rfl (hb hby at_152)
      have O192 : Old Z n0 h192 := O190.wr W192 g_b182
      have Z192 : n0 ≤ h192.size := Nat.le_trans Z190 (Keep.of_wr W192).1
      have K192 : Keep h0 h192 [] := K190.wr W192 (Or.inr sz_b182)
      have N192 := Fr.snoc X192 N190 g_b182
      have V192 : Arv Z h192 b182 k182 .char (10 : Int32) [(.int (73 : Int32)), (.int (114 : Int32)), (.int (114 : Int32)), (.int (101 : Int32)), (.int (108 : Int32)), (.int (0 : Int32)), (.int (0 : Int32)), (.int (0 : Int32)), (.int (0 : Int32)), (.int (0 : Int32))] (.int (0 : Int32)) := Arv.set Ar_a191 q_a191 S_a191 N_a191 H_a191 G_a191 (fits_nar_char _) W192 4 rfl (Nat.le_of_ble_eq_true rfl)
      obtain ⟨cl_a193, Ar_a193, q_a193, S_a193, N_a193, H_a193, G_a193⟩ := id V192
      have hin_a193 : ¬ ((5 : Int32) < 0 ∨ cl_a193.slots.size ≤ ((5 : Int32)).toNatClampNeg) := inb_of S_a193 ⟨by decide, by decide⟩
      obtain ⟨T194, h194, X194, e194, W194, st194⟩ := stC X192 hx hZ e192 Ar_a193 (j := (5 : Int32)) hin_a193 (g := (mkF m 157 #[.val (.int x1), .val (.int ((x1 &&& (2147483647 : Int32)) % (3 : Int32))), .unset, .unset, .unset, .unset] [(.int (101 : Int32)), (.int (5 : Int32)), (.ref b182), (.ref b182), (.ref b181), (.ref b181)])) rfl rfl (hb hby at_157)
      have O194 : Old Z n0 h194 := O192.wr W194 g_b182
      have Z194 : n0 ≤ h194.size := Nat.le_trans Z192 (Keep.of_wr W194).1
      have K194 : Keep h0 h194 [] := K192.wr W194 (Or.inr sz_b182)
      have N194 := Fr.snoc X194 N192 g_b182
      have V194 : Arv Z h194 b182 k182 .char (10 : Int32) [(.int (73 : Int32)), (.int (114 : Int32)), (.int (114 : Int32)), (.int (101 : Int32)), (.int (108 : Int32)), (.int (101 : Int32)), (.int (0 : Int32)), (.int (0 : Int32)), (.int (0 : Int32)), (.int (0 : Int32))] (.int (0 : Int32)) := Arv.set Ar_a193 q_a193 S_a193 N_a193 H_a193 G_a193 (fits_nar_char _) W194 5 rfl (Nat.le_of_ble_eq_true rfl)
      obtain ⟨cl_a195, Ar_a195, q_a195, S_a195, N_a195, H_a195, G_a195⟩ := id V194
      have hin_a195 : ¬ ((6 : Int32) < 0 ∨ cl_a195.slots.size ≤ ((6 : Int32)).toNatClampNeg) := inb_of S_a195 ⟨by decide, by decide⟩
      obtain ⟨T196, h196, X196, e196, W196, st196⟩ := stC X194 hx hZ e194 Ar_a195 (j := (6 : Int32)) hin_a195 (g := (mkF m 163 #[.val (.int x1), .val (.int ((x1 &&& (2147483647 : Int32)) % (3 : Int32))), .unset, .unset, .unset, .unset] [(.int (118 : Int32)), (.int (6 : Int32)), (.ref b182), (.ref b182), (.ref b181), (.ref b181)])) rfl rfl (hb hby at_163)
      have O196 : Old Z n0 h196 := O194.wr W196 g_b182
      have Z196 : n0 ≤ h196.size := Nat.le_trans Z194 (Keep.of_wr W196).1
      have K196 : Keep h0 h196 [] := K194.wr W196 (Or.inr sz_b182)
      have N196 := Fr.snoc X196 N194 g_b182
      have V196 : Arv Z h196 b182 k182 .char (10 : Int32) [(.int (73 : Int32)), (.int (114 : Int32)), (.int (114 : Int32)), (.int (101 : Int32)), (.int (108 : Int32)), (.int (101 : Int32)), (.int (118 : Int32)), (.int (0 : Int32)), (.int (0 : Int32)), (.int (0 : Int32))] (.int (0 : Int32)) := Arv.set Ar_a195 q_a195 S_a195 N_a195 H_a195 G_a195 (fits_nar_char _) W196 6 rfl (Nat.le_of_ble_eq_true rfl)
      obtain ⟨cl_a197, Ar_a197, q_a197, S_a197, N_a197, H_a197, G_a197⟩ := id V196
      have hin_a197 : ¬ ((7 : Int32) < 0 ∨ cl_a197.slots.size ≤ ((7 : Int32)).toNatClampNeg) := inb_of S_a197 ⟨by decide, by decide⟩
      obtain ⟨T198, h198, X198, e198, W198, st198⟩ := stC X196 hx hZ e196 Ar_a197 (j := (7 : Int32)) hin_a197 (g := (mkF m 169 #[.val (.int x1), .val (.int ((x1 &&& (2147483647 : Int32)) % (3 : Int32))), .unset, .unset, .unset, .unset] [(.int (97 : Int32)), (.int (7 : Int32)), (.ref b182), (.ref b182), (.ref b181), (.ref b181)])) rfl rfl (hb hby at_169)
      have O198 : Old Z n0 h198 := O196.wr W198 g_b182
      have Z198 : n0 ≤ h198.size := Nat.le_trans Z196 (Keep.of_wr W198).1
      have K198 : Keep h0 h198 [] := K196.wr W198 (Or.inr sz_b182)
      have N198 := Fr.snoc X198 N196 g_b182
      have V198 : Arv Z h198 b182 k182 .char (10 : Int32) [(.int (73 : Int32)), (.int (114 : Int32)), (.int (114 : Int32)), (.int (101 : Int32)), (.int (108 : Int32)), (.int (101 : Int32)), (.int (118 : Int32)), (.int (97 : Int32)), (.int (0 : Int32)), (.int (0 : Int32))] (.int (0 : Int32)) := Arv.set Ar_a197 q_a197 S_a197 N_a197 H_a197 G_a197 (fits_nar_char _) W198 7 rfl (Nat.le_of_ble_eq_true rfl)
      obtain ⟨cl_a199, Ar_a199, q_a199, S_a199, N_a199, H_a199, G_a199⟩ := id V198
      have hin_a199 : ¬ ((8 : Int32) < 0 ∨ cl_a199.slots.size ≤ ((8 : Int32)).toNatClampNeg) := inb_of S_a199 ⟨by decide, by decide⟩
      obtain ⟨T200, h200, X200, e200, W200, st200⟩ := stC X198 hx hZ e198 Ar_a199 (j := (8 : Int32)) hin_a199 (g := (mkF m 175 #[.val (.int x1), .val (.int ((x1 &&& (2147483647 : Int32)) % (3 : Int32))), .unset, .unset, .unset, .unset] [(.int (110 : Int32)), (.int (8 : Int32)), (.ref b182), (.ref b182), (.ref b181), (.ref b181)])) rfl rfl (hb hby at_175)
      have O200 : Old Z n0 h200 := O198.wr W200 g_b182
      have Z200 : n0 ≤ h200.size := Nat.le_trans Z198 (Keep.of_wr W200).1
      have K200 : Keep h0 h200 [] := K198.wr W200 (Or.inr sz_b182)
      have N200 := Fr.snoc X200 N198 g_b182
      have V200 : Arv Z h200 b182 k182 .char (10 : Int32) [(.int (73 : Int32)), (.int (114 : Int32)), (.int (114 : Int32)), (.int (101 : Int32)), (.int (108 : Int32)), (.int (101 : Int32)), (.int (118 : Int32)), (.int (97 : Int32)), (.int (110 : Int32)), (.int (0 : Int32))] (.int (0 : Int32)) := Arv.set Ar_a199 q_a199 S_a199 N_a199 H_a199 G_a199 (fits_nar_char _) W200 8 rfl (Nat.le_of_ble_eq_true rfl)
      obtain ⟨cl_a201, Ar_a201, q_a201, S_a201, N_a201, H_a201, G_a201⟩ := id V200
      have hin_a201 : ¬ ((9 : Int32) < 0 ∨ cl_a201.slots.size ≤ ((9 : Int32)).toNatClampNeg) := inb_of S_a201 ⟨by decide, by decide⟩
      obtain ⟨T202, h202, X202, e202, W202, st202⟩ := stC X200 hx hZ e200 Ar_a201 (j := (9 : Int32)) hin_a201 (g := (mkF m 181 #[.val (.int x1), .val (.int ((x1 &&& (2147483647 : Int32)) % (3 : Int32))), .unset, .unset, .unset, .unset] [(.int (116 : Int32)), (.int (9 : Int32)), (.ref b182), (.ref b182), (.ref b181), (.ref b181)])) rfl rfl (hb hby at_181)
      have O202 : Old Z n0 h202 := O200.wr W202 g_b182
      have Z202 : n0 ≤ h202.size := Nat.le_trans Z200 (Keep.of_wr W202).1
      have K202 : Keep h0 h202 [] := K200.wr W202 (Or.inr sz_b182)
      have N202 := Fr.snoc X202 N200 g_b182
      have V202 : Arv Z h202 b182 k182 .char (10 : Int32) [(.int (73 : Int32)), (.int (114 : Int32)), (.int (114 : Int32)), (.int (101 : Int32)), (.int (108 : Int32)), (.int (101 : Int32)), (.int (118 : Int32)), (.int (97 : Int32)), (.int (110 : Int32)), (.int (116 : Int32))] (.int (0 : Int32)) := Arv.set Ar_a201 q_a201 S_a201 N_a201 H_a201 G_a201 (fits_nar_char _) W202 9 rfl (Nat.le_of_ble_eq_true rfl)
      have C203 : Exa Z h202 b181 "java/lang/String" := (((((((((((A181.ext E182).wr W184).wr W186).wr W188).wr W190).wr W192).wr W194).wr W196).wr W198).wr W200).wr W202)
      have F204 : Fld Z h202 b181 "java/lang/String" "value" "[B" .null := (((((((((((F_b181_value.ext E182).other W184 (Or.inl (Nat.ne_of_lt (Nat.lt_of_lt_of_le A181.lt (Nat.le_of_eq g182.symm))))).other W186 (Or.inl (Nat.ne_of_lt (Nat.lt_of_lt_of_le A181.lt (Nat.le_of_eq g182.symm))))).other W188 (Or.inl (Nat.ne_of_lt (Nat.lt_of_lt_of_le A181.lt (Nat.le_of_eq g182.symm))))).other W190 (Or.inl (Nat.ne_of_lt (Nat.lt_of_lt_of_le A181.lt (Nat.le_of_eq g182.symm))))).other W192 (Or.inl (Nat.ne_of_lt (Nat.lt_of_lt_of_le A181.lt (Nat.le_of_eq g182.symm))))).other W194 (Or.inl (Nat.ne_of_lt (Nat.lt_of_lt_of_le A181.lt (Nat.le_of_eq g182.symm))))).other W196 (Or.inl (Nat.ne_of_lt (Nat.lt_of_lt_of_le A181.lt (Nat.le_of_eq g182.symm))))).other W198 (Or.inl (Nat.ne_of_lt (Nat.lt_of_lt_of_le A181.lt (Nat.le_of_eq g182.symm))))).other W200 (Or.inl (Nat.ne_of_lt (Nat.lt_of_lt_of_le A181.lt (Nat.le_of_eq g182.symm))))).other W202 (Or.inl (Nat.ne_of_lt (Nat.lt_of_lt_of_le A181.lt (Nat.le_of_eq g182.symm)))))
      have F205 : Fld Z h202 b181 "java/lang/String" "coder" "B" (.int (0 : Int32)) := (((((((((((F_b181_coder.ext E182).other W184 (Or.inl (Nat.ne_of_lt (Nat.lt_of_lt_of_le A181.lt (Nat.le_of_eq g182.symm))))).other W186 (Or.inl (Nat.ne_of_lt (Nat.lt_of_lt_of_le A181.lt (Nat.le_of_eq g182.symm))))).other W188 (Or.inl (Nat.ne_of_lt (Nat.lt_of_lt_of_le A181.lt (Nat.le_of_eq g182.symm))))).other W190 (Or.inl (Nat.ne_of_lt (Nat.lt_of_lt_of_le A181.lt (Nat.le_of_eq g182.symm))))).other W192 (Or.inl (Nat.ne_of_lt (Nat.lt_of_lt_of_le A181.lt (Nat.le_of_eq g182.symm))))).other W194 (Or.inl (Nat.ne_of_lt (Nat.lt_of_lt_of_le A181.lt (Nat.le_of_eq g182.symm))))).other W196 (Or.inl (Nat.ne_of_lt (Nat.lt_of_lt_of_le A181.lt (Nat.le_of_eq g182.symm))))).other W198 (Or.inl (Nat.ne_of_lt (Nat.lt_of_lt_of_le A181.lt (Nat.le_of_eq g182.symm))))).other W200 (Or.inl (Nat.ne_of_lt (Nat.lt_of_lt_of_le A181.lt (Nat.le_of_eq g182.symm))))).other W202 (Or.inl (Nat.ne_of_lt (Nat.lt_of_lt_of_le A181.lt (Nat.le_of_eq g182.symm)))))
      have hp206 : ∀ c ∈ ([(73 : Int32), (114 : Int32), (114 : Int32), (101 : Int32), (108 : Int32), (101 : Int32), (118 : Int32), (97 : Int32), (110 : Int32), (116 : Int32)] : List Int32), ¬ c < 0 ∧ ¬ (255 : Int32) < c := by
        intro c hc
        simp only [List.mem_cons, List.not_mem_nil, or_false] at hc
        rcases hc with rfl | rfl | rfl | rfl | rfl | rfl | rfl | rfl | rfl | rfl
        · decide
        · decide
        · decide
        · decide
        · decide
        · decide
        · decide
        · decide
        · decide
        · decide
      obtain ⟨_, _, ⟨T207, L207, k207, n207⟩, -, X207, ⟨Lc207, hQ207, l207, y207, z207⟩, st207⟩ := X202.specialBack hx (y := (⟨"java/lang/String", "<init>", "([C)V"⟩ : MethodName)) rfl hown (mvT hZ (hw _ (List.mem_of_getElem? (i := 5) rfl))) (mvT hZ (hw _ (List.mem_of_getElem? (i := 6) rfl))) (mvT hZ (hw _ (List.mem_of_getElem? (i := 7) rfl))) (by decide) (StrChars.Road.backV (W := 1) hZ (own_hws hw) (kI := 4) (hw _ (List.mem_of_getElem? (i := 2) rfl)) (cs := ([(73 : Int32), (114 : Int32), (114 : Int32), (101 : Int32), (108 : Int32), (101 : Int32), (118 : Int32), (97 : Int32), (110 : Int32), (116 : Int32)] : List Int32)) (bs := ([(73 : Int32), (114 : Int32), (114 : Int32), (101 : Int32), (108 : Int32), (101 : Int32), (118 : Int32), (97 : Int32), (110 : Int32), (116 : Int32)] : List Int32).map (fun c => c.toInt8.toInt32)) (n := 10) g_b181 Z202 C203 F204 F205 V202 (S_COMPACT_STRINGS.ext O202.2) hcomp rfl rfl (by decide) (by decide) hp206 rfl (by decide) (by decide)) (g := (mkF m 182 #[.val (.int x1), .val (.int ((x1 &&& (2147483647 : Int32)) % (3 : Int32))), .unset, .unset, .unset, .unset] [(.ref b182), (.ref b181), (.ref b181)])) rfl (by rw [hml]; rfl) (Steps.refl _) (a := b181) (argsL := [(.ref b182)]) (rest := [(.ref b181)]) (lenOf pd_2 rfl) rfl (by show 2 * 0 + _ ≤ _; exact Nat.le_of_eq rfl) (hb hby at_182) (fun _ _ => ⟨rfl, e202, (by decide : 2 + 1 ≤ _), (by decide : 14 + 10 ≤ _)⟩)
      dsimp only [Pt.U, Pt.locs, Pt.cells, Pt.slots] at X207 l207 y207 z207 st207 hQ207
      subst l207 y207 z207
      obtain ⟨rfl, N207q, KK207, E207, C207, t207, kb207, g_t207, s207, ne207, V207, A207⟩ := hQ207
      have N207 := Fr.app N202 N207q
      have O207 : Old Z n0 T207.heap := O202.keep KK207 (allS g_b181 all0)
      have Z207 : n0 ≤ T207.heap.size := Nat.le_trans Z202 KK207.1
      have K207 : Keep h0 T207.heap [] := K202.trans KK207 (allS (Or.inr sz_b181) all0)
      have sz_t207 : h0.size ≤ t207 := Nat.le_trans K202.1 s207
      obtain ⟨T208, X208, e208, st208⟩ := getS2 X207 hx hZ hown (host := "") (Or.inl (hw _ (List.mem_of_getElem? (i := 73) rfl))) Via.refl rfl (S_IRRELEVANT.ext O207.2) (g := (mkF m 186 #[.val (.int x1), .val (.int ((x1 &&& (2147483647 : Int32)) % (3 : Int32))), .val (.ref b181), .unset, .unset, .unset] [])) rfl (hb hby at_186)
      have F209 : Fld Z T207.heap st_EXACT "com/example/kompas/kompas/eval/Label" "text" "Ljava/lang/String;" (.ref st_EXACT_text) := (FZ_st_EXACT_text.ext O207.2)
      have F210 : Fld Z T207.heap st_EXACT_text "java/lang/String" "value" "[B" (.ref st_EXACT_text_value) := (FZ_st_EXACT_text_value.ext O207.2)
      have F211 : Fld Z T207.heap st_EXACT_text "java/lang/String" "coder" "B" (.int (0 : Int32)) := (FZ_st_EXACT_text_coder.ext O207.2)
      have F212 : Fld Z T207.heap st_PARTIAL "com/example/kompas/kompas/eval/Label" "text" "Ljava/lang/String;" (.ref st_PARTIAL_text) := (FZ_st_PARTIAL_text.ext O207.2)
      have F213 : Fld Z T207.heap st_PARTIAL_text "java/lang/String" "value" "[B" (.ref st_PARTIAL_text_value) := (FZ_st_PARTIAL_text_value.ext O207.2)
      have F214 : Fld Z T207.heap st_PARTIAL_text "java/lang/String" "coder" "B" (.int (0 : Int32)) := (FZ_st_PARTIAL_text_coder.ext O207.2)
      have F215 : Fld Z T207.heap st_IRRELEVANT "com/example/kompas/kompas/eval/Label" "text" "Ljava/lang/String;" (.ref st_IRRELEVANT_text) := (FZ_st_IRRELEVANT_text.ext O207.2)
      have F216 : Fld Z T207.heap st_IRRELEVANT_text "java/lang/String" "value" "[B" (.ref st_IRRELEVANT_text_value) := (FZ_st_IRRELEVANT_text_value.ext O207.2)
      have F217 : Fld Z T207.heap st_IRRELEVANT_text "java/lang/String" "coder" "B" (.int (0 : Int32)) := (FZ_st_IRRELEVANT_text_coder.ext O207.2)
      have V218 : Arv Z T207.heap st__VALUES k_st__VALUES (.object "com/example/kompas/kompas/eval/Label") (3 : Int32) [(.ref st_EXACT), (.ref st_PARTIAL), (.ref st_IRRELEVANT)] .null := (VZ_st__VALUES.ext O207.2)
      have C219 : Exa Z T207.heap st__VALUES "[Lcom/example/kompas/kompas/eval/Label;" := (EZ_st__VALUES.ext O207.2)
      have C220 : Exa Z T207.heap st_EXACT_text "java/lang/String" := (EZ_st_EXACT_text.ext O207.2)
      have V221 : Arv Z T207.heap st_EXACT_text_value k_st_EXACT_text_value .byte (5 : Int32) [(.int (69 : Int32)), (.int (120 : Int32)), (.int (97 : Int32)), (.int (99 : Int32)), (.int (116 : Int32))] (.int (0 : Int32)) := (VZ_st_EXACT_text_value.ext O207.2)
      have C222 : Exa Z T207.heap st_PARTIAL_text "java/lang/String" := (EZ_st_PARTIAL_text.ext O207.2)
      have V223 : Arv Z T207.heap st_PARTIAL_text_value k_st_PARTIAL_text_value .byte (7 : Int32) [(.int (80 : Int32)), (.int (97 : Int32)), (.int (114 : Int32)), (.int (116 : Int32)), (.int (105 : Int32)), (.int (97 : Int32)), (.int (108 : Int32))] (.int (0 : Int32)) := (VZ_st_PARTIAL_text_value.ext O207.2)
      have C224 : Exa Z T207.heap st_IRRELEVANT_text "java/lang/String" := (EZ_st_IRRELEVANT_text.ext O207.2)
      have V225 : Arv Z T207.heap st_IRRELEVANT_text_value k_st_IRRELEVANT_text_value .byte (10 : Int32) [(.int (73 : Int32)), (.int (114 : Int32)), (.int (114 : Int32)), (.int (101 : Int32)), (.int (108 : Int32)), (.int (101 : Int32)), (.int (118 : Int32)), (.int (97 : Int32)), (.int (110 : Int32)), (.int (116 : Int32))] (.int (0 : Int32)) := (VZ_st_IRRELEVANT_text_value.ext O207.2)
      obtain ⟨_, _, ⟨T226, L226, k226, n226⟩, -, X226, ⟨Lc226, hQ226, l226, y226, z226⟩, st226⟩ := Jvm.LawKit.callS X208 hx (y := (⟨"com/example/kompas/kompas/eval/Label", "parse", "(Ljava/lang/String;)Lcom/example/kompas/kompas/eval/Label;"⟩ : MethodName)) hown (mvT hZ (hw _ (List.mem_of_getElem? (i := 34) rfl))) (mvT hZ (hw _ (List.mem_of_getElem? (i := 35) rfl))) (mvT hZ (hw _ (List.mem_of_getElem? (i := 32) rfl))) (mvT hZ (hw _ (List.mem_of_getElem? (i := 36) rfl))) (by decide) (backOf (W := 0) (rm7_2 l Z a0 hw [] b181 st__VALUES k_st__VALUES st_EXACT st_PARTIAL st_IRRELEVANT st_EXACT_text st_EXACT_text_value k_st_EXACT_text_value st_PARTIAL_text st_PARTIAL_text_value k_st_PARTIAL_text_value st_IRRELEVANT_text st_IRRELEVANT_text_value k_st_IRRELEVANT_text_value t207 kb207 st_COMPACT_STRINGS T207.heap n0 Z207 O207 V218 C219 F209 C220 F210 F211 V221 F212 C222 F213 F214 V223 F215 C224 F216 F217 V225 E207 V207 C207 A207 S__VALUES S_COMPACT_STRINGS hcomp) hZ (hw _ (List.mem_of_getElem? (i := 36) rfl)) (hw _ (List.mem_of_getElem? (i := 32) rfl)) (by decide) (by decide)) (g := (mkF m 194 #[.val (.int x1), .val (.int ((x1 &&& (2147483647 : Int32)) % (3 : Int32))), .val (.ref b181), .val (.ref st_IRRELEVANT), .val (.int (0 : Int32)), .unset] [(.ref b181)])) rfl (by rw [hml]; rfl) (argsL := [(.ref b181)]) (rest := []) (lenOf pd_3 rfl) rfl (by show 2 * 0 + _ ≤ _; exact Nat.le_of_eq rfl) (hb hby at_194) (fun _ _ => ⟨rfl, e208, (by decide : 3 + 1 ≤ _), (by decide : 24 + 3 ≤ _)⟩)
      dsimp only [Pt.U, Pt.locs, Pt.cells, Pt.slots] at X226 l226 y226 z226 st226 hQ226
      subst l226 y226 z226
      obtain ⟨rfl, N226q, KK226⟩ := hQ226
      have N226 := Fr.app N207 N226q
      have O226 : Old Z n0 T226.heap := O207.keep KK226 all0
      have Z226 : n0 ≤ T226.heap.size := Nat.le_trans Z207 KK226.1
      have K226 : Keep h0 T226.heap [] := K207.trans KK226 all0
      have F227 : Fld Z T226.heap st_IRRELEVANT "com/example/kompas/kompas/eval/Label" "gain" "I" (.int (0 : Int32)) := (FZ_st_IRRELEVANT_gain.ext O226.2)
      have C229 : Exa Z T226.heap st_IRRELEVANT "com/example/kompas/kompas/eval/Label" := (EZ_st_IRRELEVANT.ext O226.2)
      obtain ⟨cq228, kq228, q228a, q228b, q228c⟩ := isOf hZ rfl C229
      obtain ⟨_, _, ⟨T228, L228, k228, n228⟩, -, X228, ⟨Lc228, hQ228, l228, y228, z228⟩, st228⟩ := X226.virtualBack hx (y := (⟨"com/example/kompas/kompas/eval/Label", "gain", "()I"⟩ : MethodName)) (z := (⟨"com/example/kompas/kompas/eval/Label", "gain", "()I"⟩ : MethodName)) hown (mvT hZ (hw _ (List.mem_of_getElem? (i := 66) rfl))) (mvT hZ (hw _ (List.mem_of_getElem? (i := 67) rfl))) (notFace_of_selects (args := #[]) (mvT hZ (hw _ (List.mem_of_getElem? (i := 69) rfl)))) (mvT hZ (hw _ (List.mem_of_getElem? (i := 69) rfl))) (mvT hZ (hw _ (List.mem_of_getElem? (i := 68) rfl))) (by decide) (backOf (W := 0) (rm11 l Z a0 hw [] st_IRRELEVANT (0 : Int32) T226.heap n0 Z226 O226 F227) hZ (hw _ (List.mem_of_getElem? (i := 70) rfl)) (hw _ (List.mem_of_getElem? (i := 32) rfl)) (by decide) (by decide)) q228a q228c (g := (mkF m 207 #[.val (.int x1), .val (.int ((x1 &&& (2147483647 : Int32)) % (3 : Int32))), .val (.ref b181), .val (.ref st_IRRELEVANT), .val (.int (0 : Int32)), .val (.ref st_IRRELEVANT)] [(.ref st_IRRELEVANT)])) rfl (by rw [hml]; rfl) (Steps.refl _) (argsL := []) (rest := []) (lenOf pd_4 rfl) rfl (by show 2 * 0 + _ ≤ _; exact Nat.le_of_eq rfl) (hb hby at_207) (fun _ _ => ⟨rfl, rfl, (by decide : 4 + 0 ≤ _), (by decide : 27 + 0 ≤ _)⟩)
      dsimp only [Pt.U, Pt.locs, Pt.cells, Pt.slots] at X228 l228 y228 z228 st228 hQ228
      subst l228 y228 z228
      obtain ⟨rfl, N228q, eh228⟩ := hQ228
      have N228 := Fr.app N226 N228q
      obtain ⟨fs, hr, hrun, hended, hW, hsame⟩ := X228.leave (v := some (.int (1 : Int32))) (fun h => by rw [Bd.returns] at h; cases h)
      refine ⟨_, _, pre142 _ ?_, hrun, hended, _, _, rfl, ?_, ⟨_, rfl⟩, hW, hsame.mono (by decide) (by decide)⟩
      · show Steps p.tables e below (s₁.setTop (mkF m 59 #[.val (.int x1), .val (.int ((x1 &&& (2147483647 : Int32)) % (3 : Int32))), .unset, .unset, .unset, .unset] [(.int (1 : Int32)), (.int ((x1 &&& (2147483647 : Int32)) % (3 : Int32)))])) _
        refine XS.icmpYes X0.here hx rfl (pc0 := 59) (pc' := 120) rfl (hb hby at_59) rfl (feq hc59).2 (by decide) (by decide) ?_
        show Steps p.tables e below (s₁.setTop (mkF m 120 #[.val (.int x1), .val (.int ((x1 &&& (2147483647 : Int32)) % (3 : Int32))), .unset, .unset, .unset, .unset] [])) _
        refine st181 _ ?_
        show Steps p.tables e below (T181.setTop (mkF m 123 #[.val (.int x1), .val (.int ((x1 &&& (2147483647 : Int32)) % (3 : Int32))), .unset, .unset, .unset, .unset] [(.ref b181)])) _
        refine XS.dup X181.here hx rfl (hb hby at_123) rfl rfl ?_
        show Steps p.tables e below (T181.setTop (mkF m 124 #[.val (.int x1), .val (.int ((x1 &&& (2147483647 : Int32)) % (3 : Int32))), .unset, .unset, .unset, .unset] [(.ref b181), (.ref b181)])) _
        refine XS.bipush X181.here hx rfl (hb hby at_124) ?_
        show Steps p.tables e below (T181.setTop (mkF m 126 #[.val (.int x1), .val (.int ((x1 &&& (2147483647 : Int32)) % (3 : Int32))), .unset, .unset, .unset, .unset] [(.int (10 : Int32)), (.ref b181), (.ref b181)])) _
        refine st182 _ ?_
        show Steps p.tables e below (T182.setTop (mkF m 128 #[.val (.int x1), .val (.int ((x1 &&& (2147483647 : Int32)) % (3 : Int32))), .unset, .unset, .unset, .unset] [(.ref b182), (.ref b181), (.ref b181)])) _
        refine XS.dup X182.here hx rfl (hb hby at_128) rfl rfl ?_
        show Steps p.tables e below (T182.setTop (mkF m 129 #[.val (.int x1), .val (.int ((x1 &&& (2147483647 : Int32)) % (3 : Int32))), .unset, .unset, .unset, .unset] [(.ref b182), (.ref b182), (.ref b181), (.ref b181)])) _
        refine XS.iconst X182.here hx rfl (hb hby at_129) ?_
        show Steps p.tables e below (T182.setTop (mkF m 130 #[.val (.int x1), .val (.int ((x1 &&& (2147483647 : Int32)) % (3 : Int32))), .unset, .unset, .unset, .unset] [(.int (0 : Int32)), (.ref b182), (.ref b182), (.ref b181), (.ref b181)])) _
        refine XS.bipush X182.here hx rfl (hb hby at_130) ?_
        show Steps p.tables e below (T182.setTop (mkF m 132 #[.val (.int x1), .val (.int ((x1 &&& (2147483647 : Int32)) % (3 : Int32))), .unset, .unset, .unset, .unset] [(.int (73 : Int32)), (.int (0 : Int32)), (.ref b182), (.ref b182), (.ref b181), (.ref b181)])) _
        refine st184 _ ?_
        show Steps p.tables e below (T184.setTop (mkF m 133 #[.val (.int x1), .val (.int ((x1 &&& (2147483647 : Int32)) % (3 : Int32))), .unset, .unset, .unset, .unset] [(.ref b182), (.ref b181), (.ref b181)])) _
        refine XS.dup X184.here hx rfl (hb hby at_133) rfl rfl ?_
        show Steps p.tables e below (T184.setTop (mkF m 134 #[.val (.int x1), .val (.int ((x1 &&& (2147483647 : Int32)) % (3 : Int32))), .unset, .unset, .unset, .unset] [(.ref b182), (.ref b182), (.ref b181), (.ref b181)])) _
        refine XS.iconst X184.here hx rfl (hb hby at_134) ?_
        show Steps p.tables e below (T184.setTop (mkF m 135 #[.val (.int x1), .val (.int ((x1 &&& (2147483647 : Int32)) % (3 : Int32))), .unset, .unset, .unset, .unset] [(.int (1 : Int32)), (.ref b182), (.ref b182), (.ref b181), (.ref b181)])) _
        refine XS.bipush X184.here hx rfl (hb hby at_135) ?_
        show Steps p.tables e below (T184.setTop (mkF m 137 #[.val (.int x1), .val (.int ((x1 &&& (2147483647 : Int32)) % (3 : Int32))), .unset, .unset, .unset, .unset] [(.int (114 : Int32)), (.int (1 : Int32)), (.ref b182), (.ref b182), (.ref b181), (.ref b181)])) _
        refine st186 _ ?_
        show Steps p.tables e below (T186.setTop (mkF m 138 #[.val (.int x1), .val (.int ((x1 &&& (2147483647 : Int32)) % (3 : Int32))), .unset, .unset, .unset, .unset] [(.ref b182), (.ref b181), (.ref b181)])) _
        refine XS.dup X186.here hx rfl (hb hby at_138) rfl rfl ?_
        show Steps p.tables e below (T186.setTop (mkF m 139 #[.val (.int x1), .val (.int ((x1 &&& (2147483647 : Int32)) % (3 : Int32))), .unset, .unset, .unset, .unset] [(.ref b182), (.ref b182), (.ref b181), (.ref b181)])) _
        refine XS.iconst X186.here hx rfl (hb hby at_139) ?_
        show Steps p.tables e below (T186.setTop (mkF m 140 #[.val (.int x1), .val (.int ((x1 &&& (2147483647 : Int32)) % (3 : Int32))), .unset, .unset, .unset, .unset] [(.int (2 : Int32)), (.ref b182), (.ref b182), (.ref b181), (.ref b181)])) _
        refine XS.bipush X186.here hx rfl (hb hby at_140) ?_
        show Steps p.tables e below (T186.setTop (mkF m 142 #[.val (.int x1), .val (.int ((x1 &&& (2147483647 : Int32)) % (3 : Int32))), .unset, .unset, .unset, .unset] [(.int (114 : Int32)), (.int (2 : Int32)), (.ref b182), (.ref b182), (.ref b181), (.ref b181)])) _
        refine st188 _ ?_
        show Steps p.tables e below (T188.setTop (mkF m 143 #[.val (.int x1), .val (.int ((x1 &&& (2147483647 : Int32)) % (3 : Int32))), .unset, .unset, .unset, .unset] [(.ref b182), (.ref b181), (.ref b181)])) _
        refine XS.dup X188.here hx rfl (hb hby at_143) rfl rfl ?_
        show Steps p.tables e below (T188.setTop (mkF m 144 #[.val (.int x1), .val (.int ((x1 &&& (2147483647 : Int32)) % (3 : Int32))), .unset, .unset, .unset, .unset] [(.ref b182), (.ref b182), (.ref b181), (.ref b181)])) _
        refine XS.iconst X188.here hx rfl (hb hby at_144) ?_
        show Steps p.tables e below (T188.setTop (mkF m 145 #[.val (.int x1), .val (.int ((x1 &&& (2147483647 : Int32)) % (3 : Int32))), .unset, .unset, .unset, .unset] [(.int (3 : Int32)), (.ref b182), (.ref b182), (.ref b181), (.ref b181)])) _
        refine XS.bipush X188.here hx rfl (hb hby at_145) ?_
        show Steps p.tables e below (T188.setTop (mkF m 147 #[.val (.int x1), .val (.int ((x1 &&& (2147483647 : Int32)) % (3 : Int32))), .unset, .unset, .unset, .unset] [(.int (101 : Int32)), (.int (3 : Int32)), (.ref b182), (.ref b182), (.ref b181), (.ref b181)])) _
        refine st190 _ ?_
        show Steps p.tables e below (T190.setTop (mkF m 148 #[.val (.int x1), .val (.int ((x1 &&& (2147483647 : Int32)) % (3 : Int32))), .unset, .unset, .unset, .unset] [(.ref b182), (.ref b181), (.ref b181)])) _
        refine XS.dup X190.here hx rfl (hb hby at_148) rfl rfl ?_
        show Steps p.tables e below (T190.setTop (mkF m 149 #[.val (.int x1), .val (.int ((x1 &&& (2147483647 : Int32)) % (3 : Int32))), .unset, .unset, .unset, .unset] [(.ref b182), (.ref b182), (.ref b181), (.ref b181)])) _
        refine XS.iconst X190.here hx rfl (hb hby at_149) ?_
        show Steps p.tables e below (T190.setTop (mkF m 150 #[.val (.int x1), .val (.int ((x1 &&& (2147483647 : Int32)) % (3 : Int32))), .unset, .unset, .unset, .unset] [(.int (4 : Int32)), (.ref b182), (.ref b182), (.ref b181), (.ref b181)])) _
        refine XS.bipush X190.here hx rfl (hb hby at_150) ?_
        show Steps p.tables e below (T190.setTop (mkF m 152 #[.val (.int x1), .val (.int ((x1 &&& (2147483647 : Int32)) % (3 : Int32))), .unset, .unset, .unset, .unset] [(.int (108 : Int32)), (.int (4 : Int32)), (.ref b182), (.ref b182), (.ref b181), (.ref b181)])) _
        refine st192 _ ?_
        show Steps p.tables e below (T192.setTop (mkF m 153 #[.val (.int x1), .val (.int ((x1 &&& (2147483647 : Int32)) % (3 : Int32))), .unset, .unset, .unset, .unset] [(.ref b182), (.ref b181), (.ref b181)])) _
        refine XS.dup X192.here hx rfl (hb hby at_153) rfl rfl ?_
        show Steps p.tables e below (T192.setTop (mkF m 154 #[.val (.int x1), .val (.int ((x1 &&& (2147483647 : Int32)) % (3 : Int32))), .unset, .unset, .unset, .unset] [(.ref b182), (.ref b182), (.ref b181), (.ref b181)])) _
        refine XS.iconst X192.here hx rfl (hb hby at_154) ?_
        show Steps p.tables e below (T192.setTop (mkF m 155 #[.val (.int x1), .val (.int ((x1 &&& (2147483647 : Int32)) % (3 : Int32))), .unset, .unset, .unset, .unset] [(.int (5 : Int32)), (.ref b182), (.ref b182), (.ref b181), (.ref b181)])) _
        refine XS.bipush X192.here hx rfl (hb hby at_155) ?_
        show Steps p.tables e below (T192.setTop (mkF m 157 #[.val (.int x1), .val (.int ((x1 &&& (2147483647 : Int32)) % (3 : Int32))), .unset, .unset, .unset, .unset] [(.int (101 : Int32)), (.int (5 : Int32)), (.ref b182), (.ref b182), (.ref b181), (.ref b181)])) _
        refine st194 _ ?_
        show Steps p.tables e below (T194.setTop (mkF m 158 #[.val (.int x1), .val (.int ((x1 &&& (2147483647 : Int32)) % (3 : Int32))), .unset, .unset, .unset, .unset] [(.ref b182), (.ref b181), (.ref b181)])) _
        refine XS.dup X194.here hx rfl (hb hby at_158) rfl rfl ?_
        show Steps p.tables e below (T194.setTop (mkF m 159 #[.val (.int x1), .val (.int ((x1 &&& (2147483647 : Int32)) % (3 : Int32))), .unset, .unset, .unset, .unset] [(.ref b182), (.ref b182), (.ref b181), (.ref b181)])) _
        refine XS.bipush X194.here hx rfl (hb hby at_159) ?_
        show Steps p.tables e below (T194.setTop (mkF m 161 #[.val (.int x1), .val (.int ((x1 &&& (2147483647 : Int32)) % (3 : Int32))), .unset, .unset, .unset, .unset] [(.int (6 : Int32)), (.ref b182), (.ref b182), (.ref b181), (.ref b181)])) _
        refine XS.bipush X194.here hx rfl (hb hby at_161) ?_
        show Steps p.tables e below (T194.setTop (mkF m 163 #[.val (.int x1), .val (.int ((x1 &&& (2147483647 : Int32)) % (3 : Int32))), .unset, .unset, .unset, .unset] [(.int (118 : Int32)), (.int (6 : Int32)), (.ref b182), (.ref b182), (.ref b181), (.ref b181)])) _
        refine st196 _ ?_
        show Steps p.tables e below (T196.setTop (mkF m 164 #[.val (.int x1), .val (.int ((x1 &&& (2147483647 : Int32)) % (3 : Int32))), .unset, .unset, .unset, .unset] [(.ref b182), (.ref b181), (.ref b181)])) _
        refine XS.dup X196.here hx rfl (hb hby at_164) rfl rfl ?_
        show Steps p.tables e below (T196.setTop (mkF m 165 #[.val (.int x1), .val (.int ((x1 &&& (2147483647 : Int32)) % (3 : Int32))), .unset, .unset, .unset, .unset] [(.ref b182), (.ref b182), (.ref b181), (.ref b181)])) _
        refine XS.bipush X196.here hx rfl (hb hby at_165) ?_
        show Steps p.tables e below (T196.setTop (mkF m 167 #[.val (.int x1), .val (.int ((x1 &&& (2147483647 : Int32)) % (3 : Int32))), .unset, .unset, .unset, .unset] [(.int (7 : Int32)), (.ref b182), (.ref b182), (.ref b181), (.ref b181)])) _
        refine XS.bipush X196.here hx rfl (hb hby at_167) ?_
        show Steps p.tables e below (T196.setTop (mkF m 169 #[.val (.int x1), .val (.int ((x1 &&& (2147483647 : Int32)) % (3 : Int32))), .unset, .unset, .unset, .unset] [(.int (97 : Int32)), (.int (7 : Int32)), (.ref b182), (.ref b182), (.ref b181), (.ref b181)])) _
        refine st198 _ ?_
        show Steps p.tables e below (T198.setTop (mkF m 170 #[.val (.int x1), .val (.int ((x1 &&& (2147483647 : Int32)) % (3 : Int32))), .unset, .unset, .unset, .unset] [(.ref b182), (.ref b181), (.ref b181)])) _
        refine XS.dup X198.here hx rfl (hb hby at_170) rfl rfl ?_
        show Steps p.tables e below (T198.setTop (mkF m 171 #[.val (.int x1), .val (.int ((x1 &&& (2147483647 : Int32)) % (3 : Int32))), .unset, .unset, .unset, .unset] [(.ref b182), (.ref b182), (.ref b181), (.ref b181)])) _
        refine XS.bipush X198.here hx rfl (hb hby at_171) ?_
        show Steps p.tables e below (T198.setTop (mkF m 173 #[.val (.int x1), .val (.int ((x1 &&& (2147483647 : Int32)) % (3 : Int32))), .unset, .unset, .unset, .unset] [(.int (8 : Int32)), (.ref b182), (.ref b182), (.ref b181), (.ref b181)])) _
        refine XS.bipush X198.here hx rfl (hb hby at_173) ?_
        show Steps p.tables e below (T198.setTop (mkF m 175 #[.val (.int x1), .val (.int ((x1 &&& (2147483647 : Int32)) % (3 : Int32))), .unset, .unset, .unset, .unset] [(.int (110 : Int32)), (.int (8 : Int32)), (.ref b182), (.ref b182), (.ref b181), (.ref b181)])) _
        refine st200 _ ?_
        show Steps p.tables e below (T200.setTop (mkF m 176 #[.val (.int x1), .val (.int ((x1 &&& (2147483647 : Int32)) % (3 : Int32))), .unset, .unset, .unset, .unset] [(.ref b182), (.ref b181), (.ref b181)])) _
        refine XS.dup X200.here hx rfl (hb hby at_176) rfl rfl ?_
        show Steps p.tables e below (T200.setTop (mkF m 177 #[.val (.int x1), .val (.int ((x1 &&& (2147483647 : Int32)) % (3 : Int32))), .unset, .unset, .unset, .unset] [(.ref b182), (.ref b182), (.ref b181), (.ref b181)])) _
        refine XS.bipush X200.here hx rfl (hb hby at_177) ?_
        show Steps p.tables e below (T200.setTop (mkF m 179 #[.val (.int x1), .val (.int ((x1 &&& (2147483647 : Int32)) % (3 : Int32))), .unset, .unset, .unset, .unset] [(.int (9 : Int32)), (.ref b182), (.ref b182), (.ref b181), (.ref b181)])) _
        refine XS.bipush X200.here hx rfl (hb hby at_179) ?_
        show Steps p.tables e below (T200.setTop (mkF m 181 #[.val (.int x1), .val (.int ((x1 &&& (2147483647 : Int32)) % (3 : Int32))), .unset, .unset, .unset, .unset] [(.int (116 : Int32)), (.int (9 : Int32)), (.ref b182), (.ref b182), (.ref b181), (.ref b181)])) _
        refine st202 _ ?_
        show Steps p.tables e below (T202.setTop (mkF m 182 #[.val (.int x1), .val (.int ((x1 &&& (2147483647 : Int32)) % (3 : Int32))), .unset, .unset, .unset, .unset] [(.ref b182), (.ref b181), (.ref b181)])) _
        refine st207.trans ?_
        show Steps p.tables e below (T207.setTop (mkF m 185 #[.val (.int x1), .val (.int ((x1 &&& (2147483647 : Int32)) % (3 : Int32))), .unset, .unset, .unset, .unset] [(.ref b181)])) _
        refine XS.astoreN X207.here hx rfl (hb hby at_185) rfl rfl (l' := #[.val (.int x1), .val (.int ((x1 &&& (2147483647 : Int32)) % (3 : Int32))), .val (.ref b181), .unset, .unset, .unset]) rfl ?_
        show Steps p.tables e below (T207.setTop (mkF m 186 #[.val (.int x1), .val (.int ((x1 &&& (2147483647 : Int32)) % (3 : Int32))), .val (.ref b181), .unset, .unset, .unset] [])) _
        refine st208 _ ?_
        show Steps p.tables e below (T208.setTop (mkF m 189 #[.val (.int x1), .val (.int ((x1 &&& (2147483647 : Int32)) % (3 : Int32))), .val (.ref b181), .unset, .unset, .unset] [(.ref st_IRRELEVANT)])) _
        refine XS.astoreN X208.here hx rfl (hb hby at_189) rfl rfl (l' := #[.val (.int x1), .val (.int ((x1 &&& (2147483647 : Int32)) % (3 : Int32))), .val (.ref b181), .val (.ref st_IRRELEVANT), .unset, .unset]) rfl ?_
        show Steps p.tables e below (T208.setTop (mkF m 190 #[.val (.int x1), .val (.int ((x1 &&& (2147483647 : Int32)) % (3 : Int32))), .val (.ref b181), .val (.ref st_IRRELEVANT), .unset, .unset] [])) _
        refine XS.iconst X208.here hx rfl (hb hby at_190) ?_
        show Steps p.tables e below (T208.setTop (mkF m 191 #[.val (.int x1), .val (.int ((x1 &&& (2147483647 : Int32)) % (3 : Int32))), .val (.ref b181), .val (.ref st_IRRELEVANT), .unset, .unset] [(.int (0 : Int32))])) _
        refine XS.istore X208.here hx rfl (hb hby at_191) rfl (l' := #[.val (.int x1), .val (.int ((x1 &&& (2147483647 : Int32)) % (3 : Int32))), .val (.ref b181), .val (.ref st_IRRELEVANT), .val (.int (0 : Int32)), .unset]) rfl ?_
        show Steps p.tables e below (T208.setTop (mkF m 193 #[.val (.int x1), .val (.int ((x1 &&& (2147483647 : Int32)) % (3 : Int32))), .val (.ref b181), .val (.ref st_IRRELEVANT), .val (.int (0 : Int32)), .unset] [])) _
        refine XS.aloadN X208.here hx rfl (hb hby at_193) rfl rfl ?_
        show Steps p.tables e below (T208.setTop (mkF m 194 #[.val (.int x1), .val (.int ((x1 &&& (2147483647 : Int32)) % (3 : Int32))), .val (.ref b181), .val (.ref st_IRRELEVANT), .val (.int (0 : Int32)), .unset] [(.ref b181)])) _
        refine st226 _ ?_
        show Steps p.tables e below (T226.setTop (mkF m 197 #[.val (.int x1), .val (.int ((x1 &&& (2147483647 : Int32)) % (3 : Int32))), .val (.ref b181), .val (.ref st_IRRELEVANT), .val (.int (0 : Int32)), .unset] [(.ref st_IRRELEVANT)])) _
        refine XS.astore X226.here hx rfl (hb hby at_197) rfl rfl (l' := #[.val (.int x1), .val (.int ((x1 &&& (2147483647 : Int32)) % (3 : Int32))), .val (.ref b181), .val (.ref st_IRRELEVANT), .val (.int (0 : Int32)), .val (.ref st_IRRELEVANT)]) rfl ?_
        show Steps p.tables e below (T226.setTop (mkF m 199 #[.val (.int x1), .val (.int ((x1 &&& (2147483647 : Int32)) % (3 : Int32))), .val (.ref b181), .val (.ref st_IRRELEVANT), .val (.int (0 : Int32)), .val (.ref st_IRRELEVANT)] [])) _
        refine XS.aload X226.here hx rfl (hb hby at_199) rfl rfl ?_
        show Steps p.tables e below (T226.setTop (mkF m 201 #[.val (.int x1), .val (.int ((x1 &&& (2147483647 : Int32)) % (3 : Int32))), .val (.ref b181), .val (.ref st_IRRELEVANT), .val (.int (0 : Int32)), .val (.ref st_IRRELEVANT)] [(.ref st_IRRELEVANT)])) _
        refine XS.aloadN X226.here hx rfl (hb hby at_201) rfl rfl ?_
        show Steps p.tables e below (T226.setTop (mkF m 202 #[.val (.int x1), .val (.int ((x1 &&& (2147483647 : Int32)) % (3 : Int32))), .val (.ref b181), .val (.ref st_IRRELEVANT), .val (.int (0 : Int32)), .val (.ref st_IRRELEVANT)] [(.ref st_IRRELEVANT), (.ref st_IRRELEVANT)])) _
        refine Jvm.RoadKit.acmp (g := (mkF m 202 #[.val (.int x1), .val (.int ((x1 &&& (2147483647 : Int32)) % (3 : Int32))), .val (.ref b181), .val (.ref st_IRRELEVANT), .val (.int (0 : Int32)), .val (.ref st_IRRELEVANT)] [(.ref st_IRRELEVANT), (.ref st_IRRELEVANT)])) X226 hx rfl rfl rfl (pc0 := 202) (pc' := 205) (same := true) rfl (hb hby at_202) rfl (decide_eq_true rfl) (by decide) (by decide) ?_
        show Steps p.tables e below (T226.setTop (mkF m 205 #[.val (.int x1), .val (.int ((x1 &&& (2147483647 : Int32)) % (3 : Int32))), .val (.ref b181), .val (.ref st_IRRELEVANT), .val (.int (0 : Int32)), .val (.ref st_IRRELEVANT)] [])) _
        refine XS.aload X226.here hx rfl (hb hby at_205) rfl rfl ?_
        show Steps p.tables e below (T226.setTop (mkF m 207 #[.val (.int x1), .val (.int ((x1 &&& (2147483647 : Int32)) % (3 : Int32))), .val (.ref b181), .val (.ref st_IRRELEVANT), .val (.int (0 : Int32)), .val (.ref st_IRRELEVANT)] [(.ref st_IRRELEVANT)])) _
        refine st228.trans ?_
        show Steps p.tables e below (T228.setTop (mkF m 210 #[.val (.int x1), .val (.int ((x1 &&& (2147483647 : Int32)) % (3 : Int32))), .val (.ref b181), .val (.ref st_IRRELEVANT), .val (.int (0 : Int32)), .val (.ref st_IRRELEVANT)] [(.int (0 : Int32))])) _
        refine XS.iload X228.here hx rfl (hb hby at_210) rfl ?_
        show Steps p.tables e below (T228.setTop (mkF m 212 #[.val (.int x1), .val (.int ((x1 &&& (2147483647 : Int32)) % (3 : Int32))), .val (.ref b181), .val (.ref st_IRRELEVANT), .val (.int (0 : Int32)), .val (.ref st_IRRELEVANT)] [(.int (0 : Int32)), (.int (0 : Int32))])) _
        refine XS.icmpNo X228.here hx rfl (hb hby at_212) rfl (teq (by decide : (0 : Int32) = (0 : Int32))).2 ?_
        show Steps p.tables e below (T228.setTop (mkF m 215 #[.val (.int x1), .val (.int ((x1 &&& (2147483647 : Int32)) % (3 : Int32))), .val (.ref b181), .val (.ref st_IRRELEVANT), .val (.int (0 : Int32)), .val (.ref st_IRRELEVANT)] [])) _
        refine XS.iconst X228.here hx rfl (hb hby at_215) ?_
        show Steps p.tables e below (T228.setTop (mkF m 216 #[.val (.int x1), .val (.int ((x1 &&& (2147483647 : Int32)) % (3 : Int32))), .val (.ref b181), .val (.ref st_IRRELEVANT), .val (.int (0 : Int32)), .val (.ref st_IRRELEVANT)] [(.int (1 : Int32))])) _
        refine XS.goto X228.here hx rfl (pc0 := 216) (pc' := 220) rfl (hb hby at_216) (by decide) (by decide) ?_
        show Steps p.tables e below (T228.setTop (mkF m 220 #[.val (.int x1), .val (.int ((x1 &&& (2147483647 : Int32)) % (3 : Int32))), .val (.ref b181), .val (.ref st_IRRELEVANT), .val (.int (0 : Int32)), .val (.ref st_IRRELEVANT)] [(.int (1 : Int32))])) _
        exact retN X228 hx (t := .boolean) Bd.returns (by simp) (hb hby at_220) hr
      · show Q0 Z x1 st__VALUES st_EXACT st_EXACT_text st_EXACT_text_value k_st_EXACT_text_value st_PARTIAL st_PARTIAL_text st_PARTIAL_text_value k_st_PARTIAL_text_value st_IRRELEVANT st_IRRELEVANT_text st_IRRELEVANT_text_value k_st_IRRELEVANT_text_value k_st__VALUES st_COMPACT_STRINGS h0 n0 _ T228.heap _
        rw [eh228]
        exact ⟨rfl, N228, K226⟩
set_option maxRecDepth 65536 in
set_option maxHeartbeats 40000000 in
theorem comes_1 {Post : Tables → Env → Array Value → State → Outcome → State → Prop} (hpost : ∀ tb e args s v u, (limb_1_1.after args s (.returned v) u = true ∧ limb_1_2.after args s (.returned v) u = true ∧ True) → FrameEnd s (.returned v) u (Jvm.fieldLocs frame_1_writes args s ++ Jvm.arrayLocs frame_1_arrays args s ++ Jvm.staticLocs frame_1_statics s) 16 128 → Post tb e args s (.returned v) u) :
    ArmFor flags0 classFile x code maxLocals ret World_1 tables_1 room_1 Calls_1 rest_1 Pre_1 Post := by
  intro l hfl _ _ p e ha hc hk s m args below hf hA hF happ hP
  obtain ⟨hcalls, hrest, hpre⟩ := hP
  obtain ⟨-, -, -, hnamed, -, -, -, hat⟩ := (Spec.applies_iff hf).mp happ
  obtain ⟨hg, hn⟩ := and_e (Cond.before_iff.mp (show (Jvm.Cond.and given_1 narrow_1).before args s = true from hpre))
  obtain ⟨gg1, gg2⟩ := and_e hg
  obtain ⟨gg3, gg4⟩ := and_e hn
  obtain ⟨gg5, gg6⟩ := and_e gg4
  obtain ⟨gg7, gg8⟩ := and_e gg6
  obtain ⟨gg9, gg10⟩ := and_e gg8
  obtain ⟨gg11, gg12⟩ := and_e gg10
  obtain ⟨gg13, gg14⟩ := and_e gg12
  obtain ⟨gg15, gg16⟩ := and_e gg14
  obtain ⟨gg17, gg18⟩ := and_e gg16
  obtain ⟨gg19, gg20⟩ := and_e gg18
  obtain ⟨gg21, gg22⟩ := and_e gg20
  obtain ⟨gg23, gg24⟩ := and_e gg22
  obtain ⟨gg25, gg26⟩ := and_e gg24
  obtain ⟨gg27, gg28⟩ := and_e gg26
  obtain ⟨gg29, gg30⟩ := and_e gg28
  obtain ⟨gg31, gg32⟩ := and_e gg30
  obtain ⟨gg33, gg34⟩ := and_e gg32
  obtain ⟨gg35, gg36⟩ := and_e gg34
  obtain ⟨gg37, gg38⟩ := and_e gg36
  obtain ⟨gg39, gg40⟩ := and_e gg38
  obtain ⟨gg41, gg42⟩ := and_e gg40
  obtain ⟨gg43, gg44⟩ := and_e gg42
  obtain ⟨gg45, gg46⟩ := and_e gg44
  obtain ⟨gg47, gg48⟩ := and_e gg46
  obtain ⟨gg49, gg50⟩ := and_e gg48
  obtain ⟨gg51, gg52⟩ := and_e gg50
  obtain ⟨gg53, gg54⟩ := and_e gg52
  obtain ⟨gg55, gg56⟩ := and_e gg54
  obtain ⟨gg57, gg58⟩ := and_e gg56
  obtain ⟨gg59, gg60⟩ := and_e gg58
  obtain ⟨gg61, gg62⟩ := and_e gg60
  obtain ⟨gg63, gg64⟩ := and_e gg62
  obtain ⟨gg65, gg66⟩ := and_e gg64
  obtain ⟨gg67, gg68⟩ := and_e gg66
  obtain ⟨gg69, gg70⟩ := and_e gg68
  obtain ⟨gg71, gg72⟩ := and_e gg70
  obtain ⟨gg73, gg74⟩ := and_e gg72
  obtain ⟨gg75, gg76⟩ := and_e gg74
  obtain ⟨gg77, gg78⟩ := and_e gg76
  obtain ⟨gg79, gg80⟩ := and_e gg78
  obtain ⟨gg81, gg82⟩ := and_e gg80
  obtain ⟨gg83, gg84⟩ := and_e gg82
  obtain ⟨gg85, gg86⟩ := and_e gg84
  obtain ⟨gg87, gg88⟩ := and_e gg86
  obtain ⟨gg89, gg90⟩ := and_e gg88
  obtain ⟨gg91, gg92⟩ := and_e gg90
  obtain ⟨w0, rfl⟩ : ∃ w0 : Value, args = #[w0] := by
    have hs : args.size = 1 := by simpa [Cond.value, given_1] using gg1
    obtain ⟨L⟩ := args
    match L, hs with
    | [w0], _ => exact ⟨w0, rfl⟩
  have hw := fun d (hd : d ∈ tables_1) => atoms_spec (ws := Jvm.Cond.code x code maxLocals ret :: tables_1) hat d (List.mem_cons_of_mem _ hd)
  have hfit : Fit s := fun {y c} hc i hi => by
    obtain ⟨ha, rfl⟩ := Array.getElem?_eq_some_iff.mp hc
    have q := List.all_eq_true.mp ((Array.all_eq_true_iff_forall_mem.mp hF) _ (Array.getElem_mem ha)) i (List.mem_range.mpr hi)
    simpa [Array.getElem?_eq_getElem hi] using q
  obtain ⟨hsets, hown0⟩ := atoms_of _ (rest_1_c_eq ▸ (show rest_1_c.before _ s = true from hrest))
  have hr0 := Cond.before_iff.mp hown0
  obtain ⟨i0, ei0⟩ := is_v gg2
  obtain rfl : w0 = (.int i0) := Option.some.inj ei0
  obtain ⟨st_COMPACT_STRINGS, ev_comp⟩ := is_v (Cond.before_iff.mp (hsets _ (List.mem_of_getElem? (i := 1) rfl)))
  have S_COMPACT_STRINGS : Sta s s.heap "java/lang/String" "COMPACT_STRINGS" "Z" (.int st_COMPACT_STRINGS) := Sta.start ev_comp (Or.inl (hsets _ (List.mem_of_getElem? (i := 0) rfl)))
  have hcomp : ¬ (st_COMPACT_STRINGS = (0 : Int32)) := gotF (Cond.eq_ints ev_comp (Term.int_eval 0)) (not_v (Cond.before_iff.mp (hsets _ (List.mem_of_getElem? (i := 2) rfl))))
  obtain ⟨st_EXACT, ev_st_EXACT⟩ := exa_v gg3
  have S_EXACT : Sta s s.heap "com/example/kompas/kompas/eval/Label" "EXACT" "Lcom/example/kompas/kompas/eval/Label;" (.ref st_EXACT) := Sta.start ev_st_EXACT (Or.inr ⟨hw _ (List.mem_of_getElem? (i := 32) rfl), hw _ (List.mem_of_getElem? (i := 33) rfl)⟩)
  have EZ_st_EXACT : Exa s s.heap st_EXACT "com/example/kompas/kompas/eval/Label" := Exa.start ev_st_EXACT gg3
  obtain ⟨st__VALUES, ev_st__VALUES⟩ := arr_v gg5
  have S__VALUES : Sta s s.heap "com/example/kompas/kompas/eval/Label" "$VALUES" "[Lcom/example/kompas/kompas/eval/Label;" (.ref st__VALUES) := Sta.start ev_st__VALUES (Or.inr ⟨hw _ (List.mem_of_getElem? (i := 32) rfl), hw _ (List.mem_of_getElem? (i := 41) rfl)⟩)
  obtain ⟨cl_st__VALUES, Ar_st__VALUES⟩ := Arr.start ev_st__VALUES gg5
  have EZ_st__VALUES : Exa s s.heap st__VALUES "[Lcom/example/kompas/kompas/eval/Label;" := Exa.start ev_st__VALUES gg7
  obtain ⟨ln_st__VALUES, lz_st__VALUES⟩ := own_len ev_st__VALUES Ar_st__VALUES (own_eqI gg9)
  obtain ⟨st_PARTIAL, ev_st_PARTIAL⟩ := exa_v gg13
  have S_PARTIAL : Sta s s.heap "com/example/kompas/kompas/eval/Label" "PARTIAL" "Lcom/example/kompas/kompas/eval/Label;" (.ref st_PARTIAL) := Sta.start ev_st_PARTIAL (Or.inr ⟨hw _ (List.mem_of_getElem? (i := 32) rfl), hw _ (List.mem_of_getElem? (i := 49) rfl)⟩)
  have EZ_st_PARTIAL : Exa s s.heap st_PARTIAL "com/example/kompas/kompas/eval/Label" := Exa.start ev_st_PARTIAL gg13
  obtain ⟨st_IRRELEVANT, ev_st_IRRELEVANT⟩ := exa_v gg17
  have S_IRRELEVANT : Sta s s.heap "com/example/kompas/kompas/eval/Label" "IRRELEVANT" "Lcom/example/kompas/kompas/eval/Label;" (.ref st_IRRELEVANT) := Sta.start ev_st_IRRELEVANT (Or.inr ⟨hw _ (List.mem_of_getElem? (i := 32) rfl), hw _ (List.mem_of_getElem? (i := 50) rfl)⟩)
  have EZ_st_IRRELEVANT : Exa s s.heap st_IRRELEVANT "com/example/kompas/kompas/eval/Label" := Exa.start ev_st_IRRELEVANT gg17
  obtain ⟨st_EXACT_text, ev_st_EXACT_text⟩ := exa_v gg21
  have FZ_st_EXACT_text : Fld s s.heap st_EXACT "com/example/kompas/kompas/eval/Label" "text" "Ljava/lang/String;" (.ref st_EXACT_text) := Fld.start ((fld_at ev_st_EXACT).symm.trans ev_st_EXACT_text)
  have EZ_st_EXACT_text : Exa s s.heap st_EXACT_text "java/lang/String" := Exa.start ev_st_EXACT_text gg21
  have FZ_st_EXACT_text_coder : Fld s s.heap st_EXACT_text "java/lang/String" "coder" "B" (.int (0 : Int32)) := Fld.start ((fld_at ev_st_EXACT_text).symm.trans (own_eqI gg23))
  obtain ⟨st_EXACT_text_value, ev_st_EXACT_text_value⟩ := arr_v gg25
  have FZ_st_EXACT_text_value : Fld s s.heap st_EXACT_text "java/lang/String" "value" "[B" (.ref st_EXACT_text_value) := Fld.start ((fld_at ev_st_EXACT_text).symm.trans ev_st_EXACT_text_value)
  obtain ⟨cl_st_EXACT_text_value, Ar_st_EXACT_text_value⟩ := Arr.start ev_st_EXACT_text_value gg25
  obtain ⟨ln_st_EXACT_text_value, lz_st_EXACT_text_value⟩ := own_len ev_st_EXACT_text_value Ar_st_EXACT_text_value (own_eqI gg27)
  have FZ_st_EXACT_gain : Fld s s.heap st_EXACT "com/example/kompas/kompas/eval/Label" "gain" "I" (.int (2 : Int32)) := Fld.start ((fld_at ev_st_EXACT).symm.trans (own_eqI gg29))
  obtain ⟨st_PARTIAL_text, ev_st_PARTIAL_text⟩ := exa_v gg31
  have FZ_st_PARTIAL_text : Fld s s.heap st_PARTIAL "com/example/kompas/kompas/eval/Label" "text" "Ljava/lang/String;" (.ref st_PARTIAL_text) := Fld.start ((fld_at ev_st_PARTIAL).symm.trans ev_st_PARTIAL_text)
  have EZ_st_PARTIAL_text : Exa s s.heap st_PARTIAL_text "java/lang/String" := Exa.start ev_st_PARTIAL_text gg31
  have FZ_st_PARTIAL_text_coder : Fld s s.heap st_PARTIAL_text "java/lang/String" "coder" "B" (.int (0 : Int32)) := Fld.start ((fld_at ev_st_PARTIAL_text).symm.trans (own_eqI gg33))
  obtain ⟨st_PARTIAL_text_value, ev_st_PARTIAL_text_value⟩ := arr_v gg35
  have FZ_st_PARTIAL_text_value : Fld s s.heap st_PARTIAL_text "java/lang/String" "value" "[B" (.ref st_PARTIAL_text_value) := Fld.start ((fld_at ev_st_PARTIAL_text).symm.trans ev_st_PARTIAL_text_value)
  obtain ⟨cl_st_PARTIAL_text_value, Ar_st_PARTIAL_text_value⟩ := Arr.start ev_st_PARTIAL_text_value gg35
  obtain ⟨ln_st_PARTIAL_text_value, lz_st_PARTIAL_text_value⟩ := own_len ev_st_PARTIAL_text_value Ar_st_PARTIAL_text_value (own_eqI gg37)
  obtain ⟨st_IRRELEVANT_text, ev_st_IRRELEVANT_text⟩ := exa_v gg39
  have FZ_st_IRRELEVANT_text : Fld s s.heap st_IRRELEVANT "com/example/kompas/kompas/eval/Label" "text" "Ljava/lang/String;" (.ref st_IRRELEVANT_text) := Fld.start ((fld_at ev_st_IRRELEVANT).symm.trans ev_st_IRRELEVANT_text)
  have EZ_st_IRRELEVANT_text : Exa s s.heap st_IRRELEVANT_text "java/lang/String" := Exa.start ev_st_IRRELEVANT_text gg39
  have FZ_st_IRRELEVANT_text_coder : Fld s s.heap st_IRRELEVANT_text "java/lang/String" "coder" "B" (.int (0 : Int32)) := Fld.start ((fld_at ev_st_IRRELEVANT_text).symm.trans (own_eqI gg41))
  obtain ⟨st_IRRELEVANT_text_value, ev_st_IRRELEVANT_text_value⟩ := arr_v gg43
  have FZ_st_IRRELEVANT_text_value : Fld s s.heap st_IRRELEVANT_text "java/lang/String" "value" "[B" (.ref st_IRRELEVANT_text_value) := Fld.start ((fld_at ev_st_IRRELEVANT_text).symm.trans ev_st_IRRELEVANT_text_value)
  obtain ⟨cl_st_IRRELEVANT_text_value, Ar_st_IRRELEVANT_text_value⟩ := Arr.start ev_st_IRRELEVANT_text_value gg43
  obtain ⟨ln_st_IRRELEVANT_text_value, lz_st_IRRELEVANT_text_value⟩ := own_len ev_st_IRRELEVANT_text_value Ar_st_IRRELEVANT_text_value (own_eqI gg45)
  have FZ_st_IRRELEVANT_gain : Fld s s.heap st_IRRELEVANT "com/example/kompas/kompas/eval/Label" "gain" "I" (.int (0 : Int32)) := Fld.start ((fld_at ev_st_IRRELEVANT).symm.trans (own_eqI gg47))
  have FZ_st_PARTIAL_gain : Fld s s.heap st_PARTIAL "com/example/kompas/kompas/eval/Label" "gain" "I" (.int (1 : Int32)) := Fld.start ((fld_at ev_st_PARTIAL).symm.trans (own_eqI gg49))
  have el_st__VALUES_0 := (elem_in (own_eqR ev_st_EXACT gg11) ev_st__VALUES (Term.int_eval _) Ar_st__VALUES.1).2
  have el_st__VALUES_1 := (elem_in (own_eqR ev_st_PARTIAL gg15) ev_st__VALUES (Term.int_eval _) Ar_st__VALUES.1).2
  have el_st__VALUES_2 := (elem_in (own_eqR ev_st_IRRELEVANT gg19) ev_st__VALUES (Term.int_eval _) Ar_st__VALUES.1).2
  have VZ_st__VALUES : Arv s s.heap st__VALUES cl_st__VALUES.cls (.object "com/example/kompas/kompas/eval/Label") (3 : Int32) [(.ref st_EXACT), (.ref st_PARTIAL), (.ref st_IRRELEVANT)] .null := Arv.start hfit Ar_st__VALUES ln_st__VALUES lz_st__VALUES (by decide) (show (3 : Int32).toNatClampNeg = 3 by decide) ⟨el_st__VALUES_0, el_st__VALUES_1, el_st__VALUES_2, trivial⟩
  have el_st_EXACT_text_value_0 := (elem_in (own_eqI gg51) ev_st_EXACT_text_value (Term.int_eval _) Ar_st_EXACT_text_value.1).2
  have el_st_EXACT_text_value_1 := (elem_in (own_eqI gg53) ev_st_EXACT_text_value (Term.int_eval _) Ar_st_EXACT_text_value.1).2
  have el_st_EXACT_text_value_2 := (elem_in (own_eqI gg55) ev_st_EXACT_text_value (Term.int_eval _) Ar_st_EXACT_text_value.1).2
  have el_st_EXACT_text_value_3 := (elem_in (own_eqI gg57) ev_st_EXACT_text_value (Term.int_eval _) Ar_st_EXACT_text_value.1).2
  have el_st_EXACT_text_value_4 := (elem_in (own_eqI gg59) ev_st_EXACT_text_value (Term.int_eval _) Ar_st_EXACT_text_value.1).2
  have VZ_st_EXACT_text_value : Arv s s.heap st_EXACT_text_value cl_st_EXACT_text_value.cls .byte (5 : Int32) [(.int (69 : Int32)), (.int (120 : Int32)), (.int (97 : Int32)), (.int (99 : Int32)), (.int (116 : Int32))] (.int (0 : Int32)) := Arv.start hfit Ar_st_EXACT_text_value ln_st_EXACT_text_value lz_st_EXACT_text_value (by decide) (show (5 : Int32).toNatClampNeg = 5 by decide) ⟨el_st_EXACT_text_value_0, el_st_EXACT_text_value_1, el_st_EXACT_text_value_2, el_st_EXACT_text_value_3, el_st_EXACT_text_value_4, trivial⟩
  have el_st_PARTIAL_text_value_0 := (elem_in (own_eqI gg61) ev_st_PARTIAL_text_value (Term.int_eval _) Ar_st_PARTIAL_text_value.1).2
  have el_st_PARTIAL_text_value_1 := (elem_in (own_eqI gg63) ev_st_PARTIAL_text_value (Term.int_eval _) Ar_st_PARTIAL_text_value.1).2
  have el_st_PARTIAL_text_value_2 := (elem_in (own_eqI gg65) ev_st_PARTIAL_text_value (Term.int_eval _) Ar_st_PARTIAL_text_value.1).2
  have el_st_PARTIAL_text_value_3 := (elem_in (own_eqI gg67) ev_st_PARTIAL_text_value (Term.int_eval _) Ar_st_PARTIAL_text_value.1).2
  have el_st_PARTIAL_text_value_4 := (elem_in (own_eqI gg69) ev_st_PARTIAL_text_value (Term.int_eval _) Ar_st_PARTIAL_text_value.1).2
  have el_st_PARTIAL_text_value_5 := (elem_in (own_eqI gg71) ev_st_PARTIAL_text_value (Term.int_eval _) Ar_st_PARTIAL_text_value.1).2
  have el_st_PARTIAL_text_value_6 := (elem_in (own_eqI gg73) ev_st_PARTIAL_text_value (Term.int_eval _) Ar_st_PARTIAL_text_value.1).2
  have VZ_st_PARTIAL_text_value : Arv s s.heap st_PARTIAL_text_value cl_st_PARTIAL_text_value.cls .byte (7 : Int32) [(.int (80 : Int32)), (.int (97 : Int32)), (.int (114 : Int32)), (.int (116 : Int32)), (.int (105 : Int32)), (.int (97 : Int32)), (.int (108 : Int32))] (.int (0 : Int32)) := Arv.start hfit Ar_st_PARTIAL_text_value ln_st_PARTIAL_text_value lz_st_PARTIAL_text_value (by decide) (show (7 : Int32).toNatClampNeg = 7 by decide) ⟨el_st_PARTIAL_text_value_0, el_st_PARTIAL_text_value_1, el_st_PARTIAL_text_value_2, el_st_PARTIAL_text_value_3, el_st_PARTIAL_text_value_4, el_st_PARTIAL_text_value_5, el_st_PARTIAL_text_value_6, trivial⟩
  have el_st_IRRELEVANT_text_value_0 := (elem_in (own_eqI gg75) ev_st_IRRELEVANT_text_value (Term.int_eval _) Ar_st_IRRELEVANT_text_value.1).2
  have el_st_IRRELEVANT_text_value_1 := (elem_in (own_eqI gg77) ev_st_IRRELEVANT_text_value (Term.int_eval _) Ar_st_IRRELEVANT_text_value.1).2
  have el_st_IRRELEVANT_text_value_2 := (elem_in (own_eqI gg79) ev_st_IRRELEVANT_text_value (Term.int_eval _) Ar_st_IRRELEVANT_text_value.1).2
  have el_st_IRRELEVANT_text_value_3 := (elem_in (own_eqI gg81) ev_st_IRRELEVANT_text_value (Term.int_eval _) Ar_st_IRRELEVANT_text_value.1).2
  have el_st_IRRELEVANT_text_value_4 := (elem_in (own_eqI gg83) ev_st_IRRELEVANT_text_value (Term.int_eval _) Ar_st_IRRELEVANT_text_value.1).2
  have el_st_IRRELEVANT_text_value_5 := (elem_in (own_eqI gg85) ev_st_IRRELEVANT_text_value (Term.int_eval _) Ar_st_IRRELEVANT_text_value.1).2
  have el_st_IRRELEVANT_text_value_6 := (elem_in (own_eqI gg87) ev_st_IRRELEVANT_text_value (Term.int_eval _) Ar_st_IRRELEVANT_text_value.1).2
  have el_st_IRRELEVANT_text_value_7 := (elem_in (own_eqI gg89) ev_st_IRRELEVANT_text_value (Term.int_eval _) Ar_st_IRRELEVANT_text_value.1).2
  have el_st_IRRELEVANT_text_value_8 := (elem_in (own_eqI gg91) ev_st_IRRELEVANT_text_value (Term.int_eval _) Ar_st_IRRELEVANT_text_value.1).2
  have el_st_IRRELEVANT_text_value_9 := (elem_in (own_eqI gg92) ev_st_IRRELEVANT_text_value (Term.int_eval _) Ar_st_IRRELEVANT_text_value.1).2
  have VZ_st_IRRELEVANT_text_value : Arv s s.heap st_IRRELEVANT_text_value cl_st_IRRELEVANT_text_value.cls .byte (10 : Int32) [(.int (73 : Int32)), (.int (114 : Int32)), (.int (114 : Int32)), (.int (101 : Int32)), (.int (108 : Int32)), (.int (101 : Int32)), (.int (118 : Int32)), (.int (97 : Int32)), (.int (110 : Int32)), (.int (116 : Int32))] (.int (0 : Int32)) := Arv.start hfit Ar_st_IRRELEVANT_text_value ln_st_IRRELEVANT_text_value lz_st_IRRELEVANT_text_value (by decide) (show (10 : Int32).toNatClampNeg = 10 by decide) ⟨el_st_IRRELEVANT_text_value_0, el_st_IRRELEVANT_text_value_1, el_st_IRRELEVANT_text_value_2, el_st_IRRELEVANT_text_value_3, el_st_IRRELEVANT_text_value_4, el_st_IRRELEVANT_text_value_5, el_st_IRRELEVANT_text_value_6, el_st_IRRELEVANT_text_value_7, el_st_IRRELEVANT_text_value_8, el_st_IRRELEVANT_text_value_9, trivial⟩
  obtain ⟨n, o, h1, h2, h3, _, L, rfl, ⟨rfl, N, -⟩, hq⟩ := rm0 l s _ hw tables_1 i0 st__VALUES st_EXACT st_EXACT_text st_EXACT_text_value cl_st_EXACT_text_value.cls st_PARTIAL st_PARTIAL_text st_PARTIAL_text_value cl_st_PARTIAL_text_value.cls st_IRRELEVANT st_IRRELEVANT_text st_IRRELEVANT_text_value cl_st_IRRELEVANT_text_value.cls cl_st__VALUES.cls st_COMPACT_STRINGS s.heap s.heap.size (Nat.le_refl _) (Old.start s) S__VALUES EZ_st__VALUES S_EXACT EZ_st_EXACT FZ_st_EXACT_text FZ_st_EXACT_gain EZ_st_EXACT_text FZ_st_EXACT_text_value FZ_st_EXACT_text_coder VZ_st_EXACT_text_value S_PARTIAL EZ_st_PARTIAL FZ_st_PARTIAL_text FZ_st_PARTIAL_gain EZ_st_PARTIAL_text FZ_st_PARTIAL_text_value FZ_st_PARTIAL_text_coder VZ_st_PARTIAL_text_value S_IRRELEVANT EZ_st_IRRELEVANT FZ_st_IRRELEVANT_text FZ_st_IRRELEVANT_gain EZ_st_IRRELEVANT_text FZ_st_IRRELEVANT_text_value FZ_st_IRRELEVANT_text_coder VZ_st_IRRELEVANT_text_value VZ_st__VALUES S_COMPACT_STRINGS hcomp p e ha hc hk s m _ below hf ((Spec.applies_iff_loose hf).mp happ).1 ⟨rfl, State.Warmed39.refl s, rfl⟩ trivial
  refine ⟨n, _, h1, h2, h3, hpost _ _ _ _ _ _ ⟨Cond.after_iff.mpr rfl, Cond.after_iff.mpr (eq_i res_at (Term.int_eval (1)) rfl), trivial⟩ ⟨hq.1, hq.2.1, (hq.2.2.sift fun y hy => Or.inr (N y hy)).mono (by decide) (by decide)⟩⟩
theorem main_1_1 : Claimed_1_1 := comes_1 fun _ _ _ _ _ _ h hF => ⟨h.1, hF⟩
theorem main_1_2 : Claimed_1_2 := comes_1 fun _ _ _ _ _ _ h hF => ⟨h.2.1, hF⟩
end Jvm.Pilot.@@N@@
namespace Jvm.Pilot.@@N@@
open Jvm Jvm.ClassFile Sem Op Lib Jvm.Free Jvm.Stand Jvm.Pilot.@@N@@.Jvm.D
/-! MADE BY PROGRAM (witnessworld.py) out of the Statement's table words and the real class files: 22 classes; the members and pool entries that the words name. The judged class is class 1, her method 1. -/
namespace start1
open Jvm.ClassFile
def u (s : String) : CpInfo := .utf8 (stringToUtf16 s)
/-- a pool by its gaps: so many unusable entries, then the entry; so many at the end -/
def gap : Nat → List CpInfo → List CpInfo
  | 0, r => r
  | n + 1, r => .unusable :: gap n r
def poolList (es : List (Nat × CpInfo)) (last : Nat) : List CpInfo := es.foldr (fun e r => gap e.1 (e.2 :: r)) (gap last [])
def pool (es : List (Nat × CpInfo)) (last : Nat) : Array CpInfo := ⟨poolList es last⟩
def fileOf (pool : Array CpInfo) (this : Nat) (attrs : Array Attribute := #[]) (ms : Array MethodInfo := #[]) (fl : Nat := 33) (sup : Nat := 0) (ifs : Array Nat := #[]) (fds : Array FieldInfo := #[]) : ClassFile where
  minorVersion := 0
  majorVersion := 65
  constantPool := pool
  accessFlags := fl
  thisClass := this
  superClass := sup
  interfaces := ifs
  fields := fds
  methods := ms
  attributes := attrs
def plain (name : String) (sup : Option ClassId) : Class where
  name := name
  kind := .ordinary
  loader := none
  accessFlags := 33
  super := sup
  interfaces := #[]
  cf := none
  fields := #[]
  methods := #[]
  instanceTypes := #[]
  staticTypes := #[]
  resolved := #[]
  callSites := []
  init := .initialized
  statics := none
  mirror := none

def pool0 : Array CpInfo := pool [(5, u "<init>"), (0, u "()V"), (1, .class_ 10), (1, u "java/lang/Object"), (85, u "clone"), (0, u "()Ljava/lang/Object;")] 26

def k0c0 : Code := { maxStack := 0, maxLocals := 1, code := object_method_1_code, exceptionTable := #[], attributes := #[] }
def k0m0 : Method := { name := "<init>", desc := "()V", sig := { parameters := [], returnType := none }, accessFlags := 1, code := some k0c0 }
def k0m1 : Method := { name := "clone", desc := "()Ljava/lang/Object;", sig := { parameters := [], returnType := some (.object "java/lang/Object") }, accessFlags := 260, code := none }
/-- java/lang/Object -/
def k0 : Class := { plain "java/lang/Object" none with
  accessFlags := 33
  interfaces := #[]
  cf := some (fileOf pool0 8 #[] #[{ accessFlags := 1, nameIndex := 5, descriptorIndex := 6, attributes := #[] }, { accessFlags := 260, nameIndex := 96, descriptorIndex := 97, attributes := #[] }] 33 0 #[] #[])
  fields := #[]
  methods := #[k0m0, k0m1]
  instanceTypes := #[]
  staticTypes := #[]
  resolved := Array.replicate 124 none
  statics := none }

def pool1 : Array CpInfo := pool [(2, .class_ 4), (1, u "java/lang/Object"), (0, u "<init>"), (0, u "()V"), (0, .integer 2147483647), (0, .class_ 9), (0, u "java/lang/String"), (0, .methodref 8 11), (0, .nameAndType 5 12), (0, u "([C)V"), (0, .fieldref 14 15), (0, .class_ 16), (0, .nameAndType 17 18), (0, u "com/example/kompas/kompas/eval/Label"), (0, u "EXACT"), (0, u "Lcom/example/kompas/kompas/eval/Label;"), (0, .fieldref 14 20), (0, .nameAndType 21 18), (0, u "PARTIAL"), (0, .fieldref 14 23), (0, .nameAndType 24 18), (0, u "IRRELEVANT"), (0, .methodref 14 26), (0, .nameAndType 27 28), (0, u "parse"), (0, u "(Ljava/lang/String;)Lcom/example/kompas/kompas/eval/Label;"), (0, .methodref 14 30), (0, .nameAndType 31 32), (0, u "gain"), (0, u "()I"), (0, .class_ 34), (0, u "com/example/kompas/kompas/eval/LabelParsePinLaw"), (2, u "law"), (0, u "(I)Z")] 6

def k1m0 : Method := { name := "<init>", desc := "()V", sig := { parameters := [], returnType := none }, accessFlags := 1, code := none }
def k1c1 : Code := { maxStack := 6, maxLocals := 6, code := code, exceptionTable := #[], attributes := #[] }
def k1m1 : Method := { name := "law", desc := "(I)Z", sig := { parameters := [.int], returnType := some .boolean }, accessFlags := 9, code := some k1c1 }
/-- com/example/kompas/kompas/eval/LabelParsePinLaw -/
def k1 : Class := { plain "com/example/kompas/kompas/eval/LabelParsePinLaw" (some 0) with
  accessFlags := 49
  interfaces := #[]
  cf := some (fileOf pool1 33 #[] #[{ accessFlags := 1, nameIndex := 5, descriptorIndex := 6, attributes := #[] }, { accessFlags := 9, nameIndex := 37, descriptorIndex := 38, attributes := #[] }] 49 2 #[] #[])
  fields := #[]
  methods := #[k1m0, k1m1]
  instanceTypes := #[]
  staticTypes := #[]
  resolved := Array.replicate 45 none
  statics := none }

def pool2 : Array CpInfo := pool [(1, .class_ 2), (0, u "java/io/Serializable"), (0, .class_ 4), (0, u "java/lang/Object")] 2

/-- java/io/Serializable -/
def k2 : Class := { plain "java/io/Serializable" (some 0) with
  accessFlags := 1537
  interfaces := #[]
  cf := some (fileOf pool2 1 #[] #[] 1537 3 #[] #[])
  fields := #[]
  methods := #[]
  instanceTypes := #[]
  staticTypes := #[]
  resolved := Array.replicate 7 none
  statics := none }

def pool3 : Array CpInfo := pool [(1, .class_ 2), (0, u "java/lang/Comparable"), (0, .class_ 4), (0, u "java/lang/Object")] 7

/-- java/lang/Comparable -/
def k3 : Class := { plain "java/lang/Comparable" (some 0) with
  accessFlags := 1537
  interfaces := #[]
  cf := some (fileOf pool3 1 #[] #[] 1537 3 #[] #[])
  fields := #[]
  methods := #[]
  instanceTypes := #[]
  staticTypes := #[]
  resolved := Array.replicate 12 none
  statics := none }

def pool4 : Array CpInfo := pool [(2, .class_ 4), (1, u "java/lang/CharSequence"), (42, .class_ 48), (0, u "java/lang/CharSequence$1CodePointIterator"), (10, .class_ 60), (0, u "java/lang/CharSequence$1CharIterator"), (5, .class_ 67), (0, u "java/lang/Object")] 63

/-- java/lang/CharSequence -/
def k4 : Class := { plain "java/lang/CharSequence" (some 0) with
  accessFlags := 1537
  interfaces := #[]
  cf := some (fileOf pool4 2 #[.nestMembers #[47, 59]] #[] 1537 66 #[] #[])
  fields := #[]
  methods := #[]
  instanceTypes := #[]
  staticTypes := #[]
  resolved := Array.replicate 131 none
  statics := none }

def pool5 : Array CpInfo := pool [(1, .class_ 2), (0, u "java/lang/constant/Constable"), (0, .class_ 4), (0, u "java/lang/Object")] 6

/-- java/lang/constant/Constable -/
def k5 : Class := { plain "java/lang/constant/Constable" (some 0) with
  accessFlags := 1537
  interfaces := #[]
  cf := some (fileOf pool5 1 #[] #[] 1537 3 #[] #[])
  fields := #[]
  methods := #[]
  instanceTypes := #[]
  staticTypes := #[]
  resolved := Array.replicate 11 none
  statics := none }

def pool6 : Array CpInfo := pool [(1, .class_ 2), (0, u "java/lang/constant/ConstantDesc"), (0, .class_ 4), (0, u "java/lang/Object")] 32

/-- java/lang/constant/ConstantDesc -/
def k6 : Class := { plain "java/lang/constant/ConstantDesc" (some 0) with
  accessFlags := 1537
  interfaces := #[]
  cf := some (fileOf pool6 1 #[] #[] 1537 3 #[] #[])
  fields := #[]
  methods := #[]
  instanceTypes := #[]
  staticTypes := #[]
  resolved := Array.replicate 37 none
  statics := none }

def pool7 : Array CpInfo := pool [(1, .methodref 2 3), (0, .class_ 4), (0, .nameAndType 5 6), (0, u "java/lang/Object"), (0, u "<init>"), (0, u "()V"), (2, .fieldref 10 11), (0, .class_ 12), (0, .nameAndType 13 14), (0, u "java/lang/String"), (0, u "value"), (0, u "[B"), (0, .fieldref 10 16), (0, .nameAndType 17 18), (0, u "coder"), (0, u "B"), (2, u "hash"), (0, u "I"), (2, u "hashIsZero"), (0, u "Z"), (0, .methodref 10 28), (0, .nameAndType 5 29), (0, u "([CIILjava/lang/Void;)V"), (8, .fieldref 10 39), (0, .nameAndType 40 26), (0, u "COMPACT_STRINGS"), (1, .class_ 44), (1, u "java/lang/StringUTF16"), (0, u "compress"), (1, .methodref 42 48), (0, .nameAndType 49 50), (0, u "coderFromArrayLen"), (0, u "([BI)B"), (56, .class_ 109), (1, u "java/lang/StringLatin1"), (67, .methodref 42 178), (0, .nameAndType 45 179), (0, u "([CII)[B"), (361, .methodref 107 542), (0, .nameAndType 543 544), (0, u "equals"), (0, u "([B[B)Z"), (28, u "(Ljava/lang/Object;)Z"), (1, .class_ 576), (0, u "java/lang/CharSequence"), (22, u "CASE_INSENSITIVE_ORDER"), (0, u "Ljava/util/Comparator;"), (409, u "([C)V"), (90, u "serialPersistentFields"), (0, u "[Ljava/io/ObjectStreamField;"), (0, .class_ 1104), (0, u "java/lang/String$CaseInsensitiveComparator"), (1, .class_ 1107), (0, u "java/io/Serializable"), (0, .class_ 1109), (0, u "java/lang/Comparable"), (0, .class_ 1111), (0, u "java/lang/constant/Constable"), (0, .class_ 1113), (0, u "java/lang/constant/ConstantDesc"), (2, u "serialVersionUID"), (0, u "J"), (3, u "REPL"), (0, u "C"), (2, u "LATIN1"), (1, u "UTF16")] 323

def k7m0 : Method := { name := "<init>", desc := "()V", sig := { parameters := [], returnType := none }, accessFlags := 1, code := none }
def k7c1 : Code := { maxStack := 5, maxLocals := 2, code := jdk_42_method_3_code, exceptionTable := #[], attributes := #[] }
def k7m1 : Method := { name := "<init>", desc := "([C)V", sig := { parameters := [(.array .char)], returnType := none }, accessFlags := 1, code := some k7c1 }
def k7c2 : Code := { maxStack := 2, maxLocals := 3, code := jdk_42_method_66_code, exceptionTable := #[], attributes := #[] }
def k7m2 : Method := { name := "equals", desc := "(Ljava/lang/Object;)Z", sig := { parameters := [(.object "java/lang/Object")], returnType := some .boolean }, accessFlags := 1, code := some k7c2 }
def k7c3 : Code := { maxStack := 4, maxLocals := 6, code := jdk_42_method_149_code, exceptionTable := #[], attributes := #[] }
def k7m3 : Method := { name := "<init>", desc := "([CIILjava/lang/Void;)V", sig := { parameters := [(.array .char), .int, .int, (.object "java/lang/Void")], returnType := none }, accessFlags := 2, code := some k7c3 }
/-- java/lang/String -/
def k7 : Class := { plain "java/lang/String" (some 0) with
  accessFlags := 49
  interfaces := #[2, 3, 4, 5, 6]
  cf := some (fileOf pool7 10 #[.nestMembers #[1103]] #[{ accessFlags := 1, nameIndex := 5, descriptorIndex := 6, attributes := #[] }, { accessFlags := 1, nameIndex := 5, descriptorIndex := 1010, attributes := #[] }, { accessFlags := 1, nameIndex := 543, descriptorIndex := 573, attributes := #[] }, { accessFlags := 2, nameIndex := 5, descriptorIndex := 29, attributes := #[] }] 49 2 #[1106, 1108, 575, 1110, 1112] #[{ accessFlags := 18, nameIndex := 13, descriptorIndex := 14, attributes := #[] }, { accessFlags := 18, nameIndex := 17, descriptorIndex := 18, attributes := #[] }, { accessFlags := 2, nameIndex := 21, descriptorIndex := 22, attributes := #[] }, { accessFlags := 2, nameIndex := 25, descriptorIndex := 26, attributes := #[] }, { accessFlags := 26, nameIndex := 1116, descriptorIndex := 1117, attributes := #[] }, { accessFlags := 24, nameIndex := 40, descriptorIndex := 26, attributes := #[] }, { accessFlags := 26, nameIndex := 1101, descriptorIndex := 1102, attributes := #[] }, { accessFlags := 26, nameIndex := 1121, descriptorIndex := 1122, attributes := #[] }, { accessFlags := 25, nameIndex := 599, descriptorIndex := 600, attributes := #[] }, { accessFlags := 24, nameIndex := 1125, descriptorIndex := 18, attributes := #[] }, { accessFlags := 24, nameIndex := 1127, descriptorIndex := 18, attributes := #[] }])
  fields := #[{ name := "value", type := (.array .byte), accessFlags := 18, slot := 0, constantValue := 0 }, { name := "coder", type := .byte, accessFlags := 18, slot := 1, constantValue := 0 }, { name := "hash", type := .int, accessFlags := 2, slot := 2, constantValue := 0 }, { name := "hashIsZero", type := .boolean, accessFlags := 2, slot := 3, constantValue := 0 }, { name := "serialVersionUID", type := .long, accessFlags := 26, slot := 0, constantValue := 0 }, { name := "COMPACT_STRINGS", type := .boolean, accessFlags := 24, slot := 1, constantValue := 0 }, { name := "serialPersistentFields", type := (.array (.object "java/io/ObjectStreamField")), accessFlags := 26, slot := 2, constantValue := 0 }, { name := "REPL", type := .char, accessFlags := 26, slot := 3, constantValue := 0 }, { name := "CASE_INSENSITIVE_ORDER", type := (.object "java/util/Comparator"), accessFlags := 25, slot := 4, constantValue := 0 }, { name := "LATIN1", type := .byte, accessFlags := 24, slot := 5, constantValue := 0 }, { name := "UTF16", type := .byte, accessFlags := 24, slot := 6, constantValue := 0 }]
  methods := #[k7m0, k7m1, k7m2, k7m3]
  instanceTypes := #[(.array .byte), .byte, .int, .boolean]
  staticTypes := #[.long, .boolean, (.array (.object "java/io/ObjectStreamField")), .char, (.object "java/util/Comparator"), .byte, .byte]
  resolved := Array.replicate 1451 none
  statics := some 0 }

def pool8 : Array CpInfo := pool [(6, .class_ 8), (1, u "java/lang/Object"), (0, u "<init>"), (0, u "()V"), (1, .class_ 14), (1, u "java/lang/StringUTF16"), (31, u "$assertionsDisabled"), (0, u "Z"), (13, u "HI_BYTE_SHIFT"), (0, u "I"), (2, u "LO_BYTE_SHIFT"), (49, .methodref 12 116), (0, .nameAndType 117 118), (0, u "compress"), (0, u "([CI[BII)I"), (3, u "([CII)[B"), (138, u "coderFromArrayLen"), (0, u "([BI)B"), (106, .class_ 371), (1, u "java/lang/StringUTF16$LinesSpliterator"), (58, u "MAX_LENGTH"), (196, .class_ 628), (0, u "java/lang/StringUTF16$CodePointsSpliterator"), (0, .class_ 630), (0, u "java/lang/StringUTF16$CharsSpliterator")] 4

def k8m0 : Method := { name := "<init>", desc := "()V", sig := { parameters := [], returnType := none }, accessFlags := 0, code := none }
def k8c1 : Code := { maxStack := 2, maxLocals := 2, code := jdk_52_method_15_code, exceptionTable := #[], attributes := #[] }
def k8m1 : Method := { name := "coderFromArrayLen", desc := "([BI)B", sig := { parameters := [(.array .byte), .int], returnType := some .byte }, accessFlags := 8, code := some k8c1 }
def k8c2 : Code := { maxStack := 5, maxLocals := 6, code := jdk_52_method_16_code, exceptionTable := #[], attributes := #[] }
def k8m2 : Method := { name := "compress", desc := "([CII)[B", sig := { parameters := [(.array .char), .int, .int], returnType := some (.array .byte) }, accessFlags := 9, code := some k8c2 }
def k8c3 : Code := { maxStack := 3, maxLocals := 7, code := jdk_52_method_21_code, exceptionTable := #[], attributes := #[] }
def k8m3 : Method := { name := "compress", desc := "([CI[BII)I", sig := { parameters := [(.array .char), .int, (.array .byte), .int, .int], returnType := some .int }, accessFlags := 9, code := some k8c3 }
/-- java/lang/StringUTF16 -/
def k8 : Class := { plain "java/lang/StringUTF16" (some 0) with
  accessFlags := 48
  interfaces := #[]
  cf := some (fileOf pool8 12 #[.nestMembers #[627, 629, 369]] #[{ accessFlags := 0, nameIndex := 9, descriptorIndex := 10, attributes := #[] }, { accessFlags := 8, nameIndex := 261, descriptorIndex := 262, attributes := #[] }, { accessFlags := 9, nameIndex := 117, descriptorIndex := 122, attributes := #[] }, { accessFlags := 9, nameIndex := 117, descriptorIndex := 118, attributes := #[] }] 48 6 #[] #[{ accessFlags := 26, nameIndex := 61, descriptorIndex := 62, attributes := #[] }, { accessFlags := 26, nameIndex := 65, descriptorIndex := 62, attributes := #[] }, { accessFlags := 24, nameIndex := 430, descriptorIndex := 62, attributes := #[] }, { accessFlags := 4120, nameIndex := 46, descriptorIndex := 47, attributes := #[] }])
  fields := #[{ name := "HI_BYTE_SHIFT", type := .int, accessFlags := 26, slot := 0, constantValue := 0 }, { name := "LO_BYTE_SHIFT", type := .int, accessFlags := 26, slot := 1, constantValue := 0 }, { name := "MAX_LENGTH", type := .int, accessFlags := 24, slot := 2, constantValue := 0 }, { name := "$assertionsDisabled", type := .boolean, accessFlags := 4120, slot := 3, constantValue := 0 }]
  methods := #[k8m0, k8m1, k8m2, k8m3]
  instanceTypes := #[]
  staticTypes := #[.int, .int, .int, .boolean]
  resolved := Array.replicate 635 none
  statics := none }

def pool9 : Array CpInfo := pool [(2, .class_ 4), (1, u "java/lang/Enum"), (0, u "name"), (0, u "Ljava/lang/String;"), (2, u "ordinal"), (0, u "I"), (1, .class_ 14), (1, u "java/lang/Object"), (4, u "hash"), (86, .class_ 108), (1, u "java/lang/Enum$EnumDesc"), (2, .class_ 112), (0, u "java/lang/constant/Constable"), (0, .class_ 114), (0, u "java/lang/Comparable"), (0, .class_ 116), (0, u "java/io/Serializable")] 87

/-- java/lang/Enum -/
def k9 : Class := { plain "java/lang/Enum" (some 0) with
  accessFlags := 1057
  interfaces := #[5, 3, 2]
  cf := some (fileOf pool9 2 #[.nestMembers #[106]] #[] 1057 12 #[111, 113, 115] #[{ accessFlags := 18, nameIndex := 5, descriptorIndex := 6, attributes := #[] }, { accessFlags := 18, nameIndex := 9, descriptorIndex := 10, attributes := #[] }, { accessFlags := 2, nameIndex := 19, descriptorIndex := 10, attributes := #[] }])
  fields := #[{ name := "name", type := (.object "java/lang/String"), accessFlags := 18, slot := 0, constantValue := 0 }, { name := "ordinal", type := .int, accessFlags := 18, slot := 1, constantValue := 0 }, { name := "hash", type := .int, accessFlags := 2, slot := 2, constantValue := 0 }]
  methods := #[]
  instanceTypes := #[(.object "java/lang/String"), .int, .int]
  staticTypes := #[]
  resolved := Array.replicate 204 none
  statics := none }

def pool10 : Array CpInfo := pool [(1, .class_ 2), (0, u "com/example/kompas/kompas/eval/Label"), (2, u "EXACT"), (0, u "Lcom/example/kompas/kompas/eval/Label;"), (2, u "PARTIAL"), (2, u "IRRELEVANT"), (0, .fieldref 1 14), (0, .nameAndType 15 16), (0, u "$VALUES"), (0, u "[Lcom/example/kompas/kompas/eval/Label;"), (0, .methodref 18 19), (0, .class_ 16), (0, .nameAndType 20 21), (0, u "clone"), (0, u "()Ljava/lang/Object;"), (1, .class_ 25), (1, u "java/lang/Enum"), (6, .fieldref 1 33), (0, .nameAndType 34 35), (0, u "text"), (0, u "Ljava/lang/String;"), (0, .fieldref 1 37), (0, .nameAndType 38 39), (0, u "gain"), (0, u "I"), (0, .methodref 1 41), (0, .nameAndType 42 43), (0, u "values"), (0, u "()[Lcom/example/kompas/kompas/eval/Label;"), (0, .methodref 45 46), (0, .class_ 47), (0, .nameAndType 48 49), (0, u "java/lang/String"), (0, u "equals"), (0, u "(Ljava/lang/Object;)Z"), (26, u "(Ljava/lang/String;)Lcom/example/kompas/kompas/eval/Label;"), (2, u "()I"), (0, u "parse")] 22

def k10c0 : Code := { maxStack := 1, maxLocals := 0, code := prog_3_method_1_code, exceptionTable := #[], attributes := #[] }
def k10m0 : Method := { name := "values", desc := "()[Lcom/example/kompas/kompas/eval/Label;", sig := { parameters := [], returnType := some (.array (.object "com/example/kompas/kompas/eval/Label")) }, accessFlags := 9, code := some k10c0 }
def k10c1 : Code := { maxStack := 1, maxLocals := 1, code := prog_3_method_4_code, exceptionTable := #[], attributes := #[] }
def k10m1 : Method := { name := "gain", desc := "()I", sig := { parameters := [], returnType := some .int }, accessFlags := 1, code := some k10c1 }
def k10c2 : Code := { maxStack := 3, maxLocals := 5, code := prog_3_method_5_code, exceptionTable := #[], attributes := #[] }
def k10m2 : Method := { name := "parse", desc := "(Ljava/lang/String;)Lcom/example/kompas/kompas/eval/Label;", sig := { parameters := [(.object "java/lang/String")], returnType := some (.object "com/example/kompas/kompas/eval/Label") }, accessFlags := 9, code := some k10c2 }
/-- com/example/kompas/kompas/eval/Label -/
def k10 : Class := { plain "com/example/kompas/kompas/eval/Label" (some 9) with
  accessFlags := 16433
  interfaces := #[]
  cf := some (fileOf pool10 1 #[] #[{ accessFlags := 9, nameIndex := 42, descriptorIndex := 43, attributes := #[] }, { accessFlags := 1, nameIndex := 38, descriptorIndex := 79, attributes := #[] }, { accessFlags := 9, nameIndex := 80, descriptorIndex := 76, attributes := #[] }] 16433 23 #[] #[{ accessFlags := 16409, nameIndex := 5, descriptorIndex := 6, attributes := #[] }, { accessFlags := 16409, nameIndex := 9, descriptorIndex := 6, attributes := #[] }, { accessFlags := 16409, nameIndex := 12, descriptorIndex := 6, attributes := #[] }, { accessFlags := 18, nameIndex := 34, descriptorIndex := 35, attributes := #[] }, { accessFlags := 18, nameIndex := 38, descriptorIndex := 39, attributes := #[] }, { accessFlags := 4122, nameIndex := 15, descriptorIndex := 16, attributes := #[] }])
  fields := #[{ name := "EXACT", type := (.object "com/example/kompas/kompas/eval/Label"), accessFlags := 16409, slot := 0, constantValue := 0 }, { name := "PARTIAL", type := (.object "com/example/kompas/kompas/eval/Label"), accessFlags := 16409, slot := 1, constantValue := 0 }, { name := "IRRELEVANT", type := (.object "com/example/kompas/kompas/eval/Label"), accessFlags := 16409, slot := 2, constantValue := 0 }, { name := "text", type := (.object "java/lang/String"), accessFlags := 18, slot := 3, constantValue := 0 }, { name := "gain", type := .int, accessFlags := 18, slot := 4, constantValue := 0 }, { name := "$VALUES", type := (.array (.object "com/example/kompas/kompas/eval/Label")), accessFlags := 4122, slot := 3, constantValue := 0 }]
  methods := #[k10m0, k10m1, k10m2]
  instanceTypes := #[(.object "java/lang/String"), .int, .int, (.object "java/lang/String"), .int]
  staticTypes := #[(.object "com/example/kompas/kompas/eval/Label"), (.object "com/example/kompas/kompas/eval/Label"), (.object "com/example/kompas/kompas/eval/Label"), (.array (.object "com/example/kompas/kompas/eval/Label"))]
  resolved := Array.replicate 103 none
  statics := some 1 }

def pool11 : Array CpInfo := pool [(1, .class_ 2), (0, u "java/lang/Cloneable"), (0, .class_ 4), (0, u "java/lang/Object")] 2

/-- java/lang/Cloneable -/
def k11 : Class := { plain "java/lang/Cloneable" (some 0) with
  accessFlags := 1537
  interfaces := #[]
  cf := some (fileOf pool11 1 #[] #[] 1537 3 #[] #[])
  fields := #[]
  methods := #[]
  instanceTypes := #[]
  staticTypes := #[]
  resolved := Array.replicate 7 none
  statics := none }

def pool12 : Array CpInfo := pool [(4, .class_ 6), (1, u "java/lang/Object"), (0, u "<init>"), (0, u "()V"), (5, .class_ 16), (1, u "java/lang/StringLatin1"), (104, u "$assertionsDisabled"), (0, u "Z"), (98, .class_ 223), (1, u "java/lang/StringLatin1$LinesSpliterator"), (57, u "equals"), (0, u "([B[B)Z"), (107, .class_ 391), (0, u "java/lang/StringLatin1$CharsSpliterator")] 3

def k12m0 : Method := { name := "<init>", desc := "()V", sig := { parameters := [], returnType := none }, accessFlags := 0, code := none }
def k12c1 : Code := { maxStack := 3, maxLocals := 3, code := jdk_43_method_13_code, exceptionTable := #[], attributes := #[] }
def k12m1 : Method := { name := "equals", desc := "([B[B)Z", sig := { parameters := [(.array .byte), (.array .byte)], returnType := some .boolean }, accessFlags := 9, code := some k12c1 }
/-- java/lang/StringLatin1 -/
def k12 : Class := { plain "java/lang/StringLatin1" (some 0) with
  accessFlags := 48
  interfaces := #[]
  cf := some (fileOf pool12 14 #[.nestMembers #[390, 221]] #[{ accessFlags := 0, nameIndex := 7, descriptorIndex := 8, attributes := #[] }, { accessFlags := 9, nameIndex := 281, descriptorIndex := 282, attributes := #[] }] 48 4 #[] #[{ accessFlags := 4120, nameIndex := 121, descriptorIndex := 122, attributes := #[] }])
  fields := #[{ name := "$assertionsDisabled", type := .boolean, accessFlags := 4120, slot := 0, constantValue := 0 }]
  methods := #[k12m0, k12m1]
  instanceTypes := #[]
  staticTypes := #[.boolean]
  resolved := Array.replicate 395 none
  statics := none }

def pool13 : Array CpInfo := pool [(2, .class_ 4), (1, u "java/lang/Object"), (0, u "<init>"), (0, u "()V"), (17, .class_ 26), (1, u "jdk/internal/util/Preconditions"), (28, .class_ 56), (0, u "jdk/internal/util/Preconditions$4"), (57, .class_ 115), (0, u "jdk/internal/util/Preconditions$1"), (7, u "SIOOBE_FORMATTER"), (0, u "Ljava/util/function/BiFunction;"), (0, .class_ 126), (0, u "jdk/internal/util/Preconditions$2"), (3, u "AIOOBE_FORMATTER"), (0, .class_ 132), (0, u "jdk/internal/util/Preconditions$3"), (3, u "IOOBE_FORMATTER")] 57

def k13m0 : Method := { name := "<init>", desc := "()V", sig := { parameters := [], returnType := none }, accessFlags := 1, code := none }
/-- jdk/internal/util/Preconditions -/
def k13 : Class := { plain "jdk/internal/util/Preconditions" (some 0) with
  accessFlags := 33
  interfaces := #[]
  cf := some (fileOf pool13 24 #[.nestMembers #[55, 131, 125, 114]] #[{ accessFlags := 1, nameIndex := 5, descriptorIndex := 6, attributes := #[] }] 33 2 #[] #[{ accessFlags := 25, nameIndex := 123, descriptorIndex := 124, attributes := #[] }, { accessFlags := 25, nameIndex := 130, descriptorIndex := 124, attributes := #[] }, { accessFlags := 25, nameIndex := 136, descriptorIndex := 124, attributes := #[] }])
  fields := #[{ name := "SIOOBE_FORMATTER", type := (.object "java/util/function/BiFunction"), accessFlags := 25, slot := 0, constantValue := 0 }, { name := "AIOOBE_FORMATTER", type := (.object "java/util/function/BiFunction"), accessFlags := 25, slot := 1, constantValue := 0 }, { name := "IOOBE_FORMATTER", type := (.object "java/util/function/BiFunction"), accessFlags := 25, slot := 2, constantValue := 0 }]
  methods := #[k13m0]
  instanceTypes := #[]
  staticTypes := #[(.object "java/util/function/BiFunction"), (.object "java/util/function/BiFunction"), (.object "java/util/function/BiFunction")]
  resolved := Array.replicate 194 none
  statics := some 2 }

def pool14 : Array CpInfo := pool [(9, u "<init>"), (6, .class_ 18), (1, u "java/lang/Object"), (0, u "()V"), (1, .class_ 23), (1, u "jdk/internal/util/ArraysSupport"), (0, u "LOG2_ARRAY_LONG_INDEX_SCALE"), (0, u "I"), (2, u "U"), (0, u "Ljdk/internal/misc/Unsafe;"), (8, u "BIG_ENDIAN"), (0, u "Z"), (8, u "LOG2_BYTE_BIT_SIZE"), (4, u "LOG2_ARRAY_INT_INDEX_SCALE"), (54, u "JLA"), (0, u "Ljdk/internal/access/JavaLangAccess;"), (11, u "LOG2_ARRAY_BOOLEAN_INDEX_SCALE"), (9, u "LOG2_ARRAY_BYTE_INDEX_SCALE"), (5, u "LOG2_ARRAY_CHAR_INDEX_SCALE"), (5, u "LOG2_ARRAY_SHORT_INDEX_SCALE"), (18, u "LOG2_ARRAY_FLOAT_INDEX_SCALE"), (24, u "LOG2_ARRAY_DOUBLE_INDEX_SCALE"), (89, u "T_BOOLEAN"), (2, u "T_CHAR"), (1, u "T_FLOAT"), (1, u "T_DOUBLE"), (1, u "T_BYTE"), (1, u "T_SHORT"), (1, u "T_INT"), (1, u "T_LONG"), (1, u "SOFT_MAX_ARRAY_LENGTH")] 83

def k14m0 : Method := { name := "<init>", desc := "()V", sig := { parameters := [], returnType := none }, accessFlags := 2, code := none }
/-- jdk/internal/util/ArraysSupport -/
def k14 : Class := { plain "jdk/internal/util/ArraysSupport" (some 0) with
  accessFlags := 33
  interfaces := #[]
  cf := some (fileOf pool14 21 #[] #[{ accessFlags := 2, nameIndex := 9, descriptorIndex := 19, attributes := #[] }] 33 16 #[] #[{ accessFlags := 24, nameIndex := 28, descriptorIndex := 29, attributes := #[] }, { accessFlags := 26, nameIndex := 38, descriptorIndex := 39, attributes := #[] }, { accessFlags := 25, nameIndex := 121, descriptorIndex := 25, attributes := #[] }, { accessFlags := 25, nameIndex := 131, descriptorIndex := 25, attributes := #[] }, { accessFlags := 25, nameIndex := 137, descriptorIndex := 25, attributes := #[] }, { accessFlags := 25, nameIndex := 143, descriptorIndex := 25, attributes := #[] }, { accessFlags := 25, nameIndex := 53, descriptorIndex := 25, attributes := #[] }, { accessFlags := 25, nameIndex := 24, descriptorIndex := 25, attributes := #[] }, { accessFlags := 25, nameIndex := 162, descriptorIndex := 25, attributes := #[] }, { accessFlags := 25, nameIndex := 187, descriptorIndex := 25, attributes := #[] }, { accessFlags := 26, nameIndex := 48, descriptorIndex := 25, attributes := #[] }, { accessFlags := 25, nameIndex := 277, descriptorIndex := 25, attributes := #[] }, { accessFlags := 25, nameIndex := 280, descriptorIndex := 25, attributes := #[] }, { accessFlags := 25, nameIndex := 282, descriptorIndex := 25, attributes := #[] }, { accessFlags := 25, nameIndex := 284, descriptorIndex := 25, attributes := #[] }, { accessFlags := 25, nameIndex := 286, descriptorIndex := 25, attributes := #[] }, { accessFlags := 25, nameIndex := 288, descriptorIndex := 25, attributes := #[] }, { accessFlags := 25, nameIndex := 290, descriptorIndex := 25, attributes := #[] }, { accessFlags := 25, nameIndex := 292, descriptorIndex := 25, attributes := #[] }, { accessFlags := 26, nameIndex := 108, descriptorIndex := 109, attributes := #[] }, { accessFlags := 25, nameIndex := 294, descriptorIndex := 25, attributes := #[] }])
  fields := #[{ name := "U", type := (.object "jdk/internal/misc/Unsafe"), accessFlags := 24, slot := 0, constantValue := 0 }, { name := "BIG_ENDIAN", type := .boolean, accessFlags := 26, slot := 1, constantValue := 0 }, { name := "LOG2_ARRAY_BOOLEAN_INDEX_SCALE", type := .int, accessFlags := 25, slot := 2, constantValue := 0 }, { name := "LOG2_ARRAY_BYTE_INDEX_SCALE", type := .int, accessFlags := 25, slot := 3, constantValue := 0 }, { name := "LOG2_ARRAY_CHAR_INDEX_SCALE", type := .int, accessFlags := 25, slot := 4, constantValue := 0 }, { name := "LOG2_ARRAY_SHORT_INDEX_SCALE", type := .int, accessFlags := 25, slot := 5, constantValue := 0 }, { name := "LOG2_ARRAY_INT_INDEX_SCALE", type := .int, accessFlags := 25, slot := 6, constantValue := 0 }, { name := "LOG2_ARRAY_LONG_INDEX_SCALE", type := .int, accessFlags := 25, slot := 7, constantValue := 0 }, { name := "LOG2_ARRAY_FLOAT_INDEX_SCALE", type := .int, accessFlags := 25, slot := 8, constantValue := 0 }, { name := "LOG2_ARRAY_DOUBLE_INDEX_SCALE", type := .int, accessFlags := 25, slot := 9, constantValue := 0 }, { name := "LOG2_BYTE_BIT_SIZE", type := .int, accessFlags := 26, slot := 10, constantValue := 0 }, { name := "T_BOOLEAN", type := .int, accessFlags := 25, slot := 11, constantValue := 0 }, { name := "T_CHAR", type := .int, accessFlags := 25, slot := 12, constantValue := 0 }, { name := "T_FLOAT", type := .int, accessFlags := 25, slot := 13, constantValue := 0 }, { name := "T_DOUBLE", type := .int, accessFlags := 25, slot := 14, constantValue := 0 }, { name := "T_BYTE", type := .int, accessFlags := 25, slot := 15, constantValue := 0 }, { name := "T_SHORT", type := .int, accessFlags := 25, slot := 16, constantValue := 0 }, { name := "T_INT", type := .int, accessFlags := 25, slot := 17, constantValue := 0 }, { name := "T_LONG", type := .int, accessFlags := 25, slot := 18, constantValue := 0 }, { name := "JLA", type := (.object "jdk/internal/access/JavaLangAccess"), accessFlags := 26, slot := 19, constantValue := 0 }, { name := "SOFT_MAX_ARRAY_LENGTH", type := .int, accessFlags := 25, slot := 20, constantValue := 0 }]
  methods := #[k14m0]
  instanceTypes := #[]
  staticTypes := #[(.object "jdk/internal/misc/Unsafe"), .boolean, .int, .int, .int, .int, .int, .int, .int, .int, .int, .int, .int, .int, .int, .int, .int, .int, .int, (.object "jdk/internal/access/JavaLangAccess"), .int]
  resolved := Array.replicate 378 none
  statics := none }

/-- the primitive byte -/
def k15 : Class := { plain "byte" none with kind := .primitive 'B', accessFlags := 0x411 }
/-- [B -/
def k16 : Class := { plain "[B" (some 0) with kind := .array 15 .byte, interfaces := #[11, 2], accessFlags := 1041 }

/-- the primitive char -/
def k17 : Class := { plain "char" none with kind := .primitive 'C', accessFlags := 0x411 }
/-- [C -/
def k18 : Class := { plain "[C" (some 0) with kind := .array 17 .char, interfaces := #[11, 2], accessFlags := 1041 }

/-- the primitive int -/
def k19 : Class := { plain "int" none with kind := .primitive 'I', accessFlags := 0x411 }
/-- [I -/
def k20 : Class := { plain "[I" (some 0) with kind := .array 19 .int, interfaces := #[11, 2], accessFlags := 1041 }

/-- [Lcom/example/kompas/kompas/eval/Label; -/
def k21 : Class := { plain "[Lcom/example/kompas/kompas/eval/Label;" (some 0) with kind := .array 10 (.object "com/example/kompas/kompas/eval/Label"), interfaces := #[11, 2], accessFlags := 1041 }

def heap : Heap := #[{ cls := 7, slots := #[.long 0, .int 1, .null, .int 0, .null, .int 0, .int 0], vm := .statics 7 },
  { cls := 10, slots := #[.ref 10, .ref 11, .ref 12, .ref 3], vm := .statics 10 },
  { cls := 13, slots := #[.null, .null, .null], vm := .statics 13 },
  { cls := 21, slots := #[.ref 10, .ref 11, .ref 12], vm := .none },
  { cls := 16, slots := #[.int 69, .int 120, .int 97, .int 99, .int 116], vm := .none },
  { cls := 16, slots := #[.int 80, .int 97, .int 114, .int 116, .int 105, .int 97, .int 108], vm := .none },
  { cls := 16, slots := #[.int 73, .int 114, .int 114, .int 101, .int 108, .int 101, .int 118, .int 97, .int 110, .int 116], vm := .none },
  { cls := 7, slots := #[.ref 4, .int 0, .int 0, .int 0], vm := .none },
  { cls := 7, slots := #[.ref 5, .int 0, .int 0, .int 0], vm := .none },
  { cls := 7, slots := #[.ref 6, .int 0, .int 0, .int 0], vm := .none },
  { cls := 10, slots := #[.null, .int 0, .int 0, .ref 7, .int 2], vm := .none },
  { cls := 10, slots := #[.null, .int 0, .int 0, .ref 8, .int 1], vm := .none },
  { cls := 10, slots := #[.null, .int 0, .int 0, .ref 9, .int 0], vm := .none }]
def classes : Array Class := #[k0, k1, k2, k3, k4, k5, k6, k7, k8, k9, k10, k11, k12, k13, k14, k15, k16, k17, k18, k19, k20, k21]
def interned : List (Array UInt16 × Addr) := []
def slotsUsed : Nat := 66
def theMethod : MethodId := ⟨1, 1⟩
def args0 : Array Value := #[.int 5]
def aboutOver (below : List Frame) : State where
  vm := { classes := classes, interned := interned.toArray }
  heap := heap
  slotsUsed := slotsUsed
  threads := #[{ frames := .invoking theMethod args0 :: below }]
def below0 : List Frame := [.native { method := ⟨0, 0⟩, args := #[] }]
def about1 : State := aboutOver below0
def p0 : Program := .bare "" "" ""
def e0 : Env := launch0.env 0 0 0
theorem w_frames : about1.frames = Frame.invoking theMethod args0 :: below0 := rfl
set_option maxRecDepth 65536 in
theorem w_args : argsFit about1.vm theMethod args0 = true := by decide +kernel
set_option maxRecDepth 65536 in
theorem w_heap : heapFits about1 = true := by decide +kernel
set_option maxRecDepth 65536 in
theorem w_runnable : about1.curStatus? = some .runnable := by decide +kernel
set_option maxRecDepth 65536 in
theorem w_alone : about1.alone = true := by decide +kernel
set_option maxRecDepth 65536 in
theorem w_named : about1.methodNamed? x = some theMethod := by decide +kernel
set_option maxRecDepth 65536 in
theorem w_hears : about1.hears theMethod below0 = true := by decide +kernel
set_option maxRecDepth 65536 in
theorem w_ripe : about1.ripe theMethod args0 below0 = true := by decide +kernel
theorem w_running : about1.status = .running := rfl
set_option maxRecDepth 65536 in
theorem w_room : about1.hasRoom e0.platform room_1 = true :=
  launch0.hasRoom_least _ room_1 (by decide +kernel) (by decide +kernel) (by decide +kernel) (by decide +kernel) (by decide +kernel) (by decide +kernel)
theorem allAtoms_all (ts : List Jvm.Cond) (a : Array Jvm.Value) (st : Jvm.State) : (allAtoms ts).before a st = ts.all (fun c => c.before a st) := by
  induction ts with
  | nil => rfl
  | cons c t ih =>
    show (Jvm.Cond.and c (allAtoms t)).before a st = _
    rw [Jvm.Cond.before_and, ih, List.all_cons]
def words1 : List Jvm.Cond := Jvm.Cond.code x code maxLocals ret :: tables_1
/-- a 'code' word, met by the world's own term for the bytes: nothing is compared byte by byte -/
theorem code_word {y : MethodName} {bytes : ByteArray} {mx : Nat} {rt : Option FieldType} {a : Array Value} {s : State} {m : MethodId} {meth : Method} {c : Code} (h1 : s.methodNamed? y = some m) (h2 : s.vm.method? m = some meth) (h3 : meth.code = some c) (h4 : c.code = bytes)
    (h5 : (c.maxLocals == mx && c.exceptionTable.isEmpty && decide (c.maxStack ≤ mostOperands) && decide (meth.sig.returnType = rt) && !meth.locks && decide (parseMethodDescriptor y.desc = some meth.sig)) = true) : (Jvm.Cond.code y bytes mx rt).before a s = true := by
  simp only [Bool.and_eq_true, beq_iff_eq, Bool.not_eq_true', decide_eq_true_eq] at h5
  obtain ⟨⟨⟨⟨⟨g1, g2⟩, g3⟩, g4⟩, g5⟩, g6⟩ := h5
  simp [Cond.before, Cond.holds, Cond.value, h1, h2, h3, h4, g1, g2, g3, g4, g5, g6]
def isCode : Jvm.Cond → Bool
  | .code _ _ _ _ => true
  | _ => false
theorem all_split {L : List Jvm.Cond} {P : Jvm.Cond → Bool} (h1 : L.all (fun c => isCode c || P c) = true) (h2 : ∀ c ∈ L.filter isCode, P c = true) : L.all P = true := by
  refine List.all_eq_true.mpr fun c hc => ?_
  have h := List.all_eq_true.mp h1 c hc
  rcases Bool.eq_false_or_eq_true (isCode c) with hi | hi
  · exact h2 c (List.mem_filter.mpr ⟨hc, hi⟩)
  · simpa [hi] using h
set_option maxRecDepth 65536 in
theorem w_c0 : (Jvm.Cond.code x code maxLocals ret).before args0 about1 = true := code_word (m := ⟨1, 1⟩) (meth := k1m1) (c := k1c1) (by decide +kernel) rfl rfl rfl (by decide +kernel)
set_option maxRecDepth 65536 in
theorem w_c1 : (Jvm.Cond.code ({ cls := "java/lang/String", name := "<init>", desc := "([C)V" } : Jvm.MethodName) jdk_42_method_3_code (2 : Nat) (Option.none : Option Jvm.ClassFile.FieldType)).before args0 about1 = true := code_word (m := ⟨7, 1⟩) (meth := k7m1) (c := k7c1) (by decide +kernel) rfl rfl rfl (by decide +kernel)
set_option maxRecDepth 65536 in
theorem w_c2 : (Jvm.Cond.code ({ cls := "java/lang/String", name := "<init>", desc := "([CIILjava/lang/Void;)V" } : Jvm.MethodName) jdk_42_method_149_code (6 : Nat) (Option.none : Option Jvm.ClassFile.FieldType)).before args0 about1 = true := code_word (m := ⟨7, 3⟩) (meth := k7m3) (c := k7c3) (by decide +kernel) rfl rfl rfl (by decide +kernel)
set_option maxRecDepth 65536 in
theorem w_c3 : (Jvm.Cond.code ({ cls := "java/lang/Object", name := "<init>", desc := "()V" } : Jvm.MethodName) object_method_1_code (1 : Nat) (Option.none : Option Jvm.ClassFile.FieldType)).before args0 about1 = true := code_word (m := ⟨0, 0⟩) (meth := k0m0) (c := k0c0) (by decide +kernel) rfl rfl rfl (by decide +kernel)
set_option maxRecDepth 65536 in
theorem w_c4 : (Jvm.Cond.code ({ cls := "java/lang/StringUTF16", name := "compress", desc := "([CII)[B" } : Jvm.MethodName) jdk_52_method_16_code (6 : Nat) (Option.some (Jvm.ClassFile.FieldType.array Jvm.ClassFile.FieldType.byte))).before args0 about1 = true := code_word (m := ⟨8, 2⟩) (meth := k8m2) (c := k8c2) (by decide +kernel) rfl rfl rfl (by decide +kernel)
set_option maxRecDepth 65536 in
theorem w_c5 : (Jvm.Cond.code ({ cls := "java/lang/StringUTF16", name := "compress", desc := "([CI[BII)I" } : Jvm.MethodName) jdk_52_method_21_code (7 : Nat) (Option.some Jvm.ClassFile.FieldType.int)).before args0 about1 = true := code_word (m := ⟨8, 3⟩) (meth := k8m3) (c := k8c3) (by decide +kernel) rfl rfl rfl (by decide +kernel)
set_option maxRecDepth 65536 in
theorem w_c6 : (Jvm.Cond.code ({ cls := "java/lang/StringUTF16", name := "coderFromArrayLen", desc := "([BI)B" } : Jvm.MethodName) jdk_52_method_15_code (2 : Nat) (Option.some Jvm.ClassFile.FieldType.byte)).before args0 about1 = true := code_word (m := ⟨8, 1⟩) (meth := k8m1) (c := k8c1) (by decide +kernel) rfl rfl rfl (by decide +kernel)
set_option maxRecDepth 65536 in
theorem w_c7 : (Jvm.Cond.code ({ cls := "com/example/kompas/kompas/eval/Label", name := "parse", desc := "(Ljava/lang/String;)Lcom/example/kompas/kompas/eval/Label;" } : Jvm.MethodName) prog_3_method_5_code (5 : Nat) (Option.some (Jvm.ClassFile.FieldType.object "com/example/kompas/kompas/eval/Label"))).before args0 about1 = true := code_word (m := ⟨10, 2⟩) (meth := k10m2) (c := k10c2) (by decide +kernel) rfl rfl rfl (by decide +kernel)
set_option maxRecDepth 65536 in
theorem w_c8 : (Jvm.Cond.code ({ cls := "com/example/kompas/kompas/eval/Label", name := "values", desc := "()[Lcom/example/kompas/kompas/eval/Label;" } : Jvm.MethodName) prog_3_method_1_code (0 : Nat) (Option.some (Jvm.ClassFile.FieldType.array (Jvm.ClassFile.FieldType.object "com/example/kompas/kompas/eval/Label")))).before args0 about1 = true := code_word (m := ⟨10, 0⟩) (meth := k10m0) (c := k10c0) (by decide +kernel) rfl rfl rfl (by decide +kernel)
set_option maxRecDepth 65536 in
theorem w_c9 : (Jvm.Cond.code ({ cls := "java/lang/String", name := "equals", desc := "(Ljava/lang/Object;)Z" } : Jvm.MethodName) jdk_42_method_66_code (3 : Nat) (Option.some Jvm.ClassFile.FieldType.boolean)).before args0 about1 = true := code_word (m := ⟨7, 2⟩) (meth := k7m2) (c := k7c2) (by decide +kernel) rfl rfl rfl (by decide +kernel)
set_option maxRecDepth 65536 in
theorem w_c10 : (Jvm.Cond.code ({ cls := "java/lang/StringLatin1", name := "equals", desc := "([B[B)Z" } : Jvm.MethodName) jdk_43_method_13_code (3 : Nat) (Option.some Jvm.ClassFile.FieldType.boolean)).before args0 about1 = true := code_word (m := ⟨12, 1⟩) (meth := k12m1) (c := k12c1) (by decide +kernel) rfl rfl rfl (by decide +kernel)
set_option maxRecDepth 65536 in
theorem w_c11 : (Jvm.Cond.code ({ cls := "com/example/kompas/kompas/eval/Label", name := "gain", desc := "()I" } : Jvm.MethodName) prog_3_method_4_code (1 : Nat) (Option.some Jvm.ClassFile.FieldType.int)).before args0 about1 = true := code_word (m := ⟨10, 1⟩) (meth := k10m1) (c := k10c1) (by decide +kernel) rfl rfl rfl (by decide +kernel)
def codes1 : List Jvm.Cond := [Jvm.Cond.code x code maxLocals ret, Jvm.Cond.code ({ cls := "java/lang/String", name := "<init>", desc := "([C)V" } : Jvm.MethodName) jdk_42_method_3_code (2 : Nat) (Option.none : Option Jvm.ClassFile.FieldType), Jvm.Cond.code ({ cls := "java/lang/String", name := "<init>", desc := "([CIILjava/lang/Void;)V" } : Jvm.MethodName) jdk_42_method_149_code (6 : Nat) (Option.none : Option Jvm.ClassFile.FieldType), Jvm.Cond.code ({ cls := "java/lang/Object", name := "<init>", desc := "()V" } : Jvm.MethodName) object_method_1_code (1 : Nat) (Option.none : Option Jvm.ClassFile.FieldType), Jvm.Cond.code ({ cls := "java/lang/StringUTF16", name := "compress", desc := "([CII)[B" } : Jvm.MethodName) jdk_52_method_16_code (6 : Nat) (Option.some (Jvm.ClassFile.FieldType.array Jvm.ClassFile.FieldType.byte)), Jvm.Cond.code ({ cls := "java/lang/StringUTF16", name := "compress", desc := "([CI[BII)I" } : Jvm.MethodName) jdk_52_method_21_code (7 : Nat) (Option.some Jvm.ClassFile.FieldType.int), Jvm.Cond.code ({ cls := "java/lang/StringUTF16", name := "coderFromArrayLen", desc := "([BI)B" } : Jvm.MethodName) jdk_52_method_15_code (2 : Nat) (Option.some Jvm.ClassFile.FieldType.byte), Jvm.Cond.code ({ cls := "com/example/kompas/kompas/eval/Label", name := "parse", desc := "(Ljava/lang/String;)Lcom/example/kompas/kompas/eval/Label;" } : Jvm.MethodName) prog_3_method_5_code (5 : Nat) (Option.some (Jvm.ClassFile.FieldType.object "com/example/kompas/kompas/eval/Label")), Jvm.Cond.code ({ cls := "com/example/kompas/kompas/eval/Label", name := "values", desc := "()[Lcom/example/kompas/kompas/eval/Label;" } : Jvm.MethodName) prog_3_method_1_code (0 : Nat) (Option.some (Jvm.ClassFile.FieldType.array (Jvm.ClassFile.FieldType.object "com/example/kompas/kompas/eval/Label"))), Jvm.Cond.code ({ cls := "java/lang/String", name := "equals", desc := "(Ljava/lang/Object;)Z" } : Jvm.MethodName) jdk_42_method_66_code (3 : Nat) (Option.some Jvm.ClassFile.FieldType.boolean), Jvm.Cond.code ({ cls := "java/lang/StringLatin1", name := "equals", desc := "([B[B)Z" } : Jvm.MethodName) jdk_43_method_13_code (3 : Nat) (Option.some Jvm.ClassFile.FieldType.boolean), Jvm.Cond.code ({ cls := "com/example/kompas/kompas/eval/Label", name := "gain", desc := "()I" } : Jvm.MethodName) prog_3_method_4_code (1 : Nat) (Option.some Jvm.ClassFile.FieldType.int)]
set_option maxRecDepth 65536 in
theorem codes_eq : words1.filter isCode = codes1 := rfl
theorem w_codes : ∀ c ∈ words1.filter isCode, c.before args0 about1 = true := by
  rw [codes_eq]
  intro c hc
  simp only [codes1, List.mem_cons, List.not_mem_nil, or_false] at hc
  rcases hc with rfl | rfl | rfl | rfl | rfl | rfl | rfl | rfl | rfl | rfl | rfl | rfl
  · exact w_c0
  · exact w_c1
  · exact w_c2
  · exact w_c3
  · exact w_c4
  · exact w_c5
  · exact w_c6
  · exact w_c7
  · exact w_c8
  · exact w_c9
  · exact w_c10
  · exact w_c11
set_option maxRecDepth 65536 in
theorem w_t1 : (words1.take 24).all (fun c => isCode c || c.before args0 about1) = true := by decide +kernel
set_option maxRecDepth 65536 in
theorem w_t2 : ((words1.drop 24).take 24).all (fun c => isCode c || c.before args0 about1) = true := by decide +kernel
set_option maxRecDepth 65536 in
theorem w_t3 : (((words1.drop 24).drop 24).take 24).all (fun c => isCode c || c.before args0 about1) = true := by decide +kernel
set_option maxRecDepth 65536 in
theorem w_t4 : (((words1.drop 24).drop 24).drop 24).all (fun c => isCode c || c.before args0 about1) = true := by decide +kernel
theorem w_tables : (allAtoms (Jvm.Cond.code x code maxLocals ret :: tables_1)).before args0 about1 = true := by
  rw [allAtoms_all]
  show words1.all (fun c => c.before args0 about1) = true
  refine all_split ?_ w_codes
  rw [← List.take_append_drop 24 words1, List.all_append, w_t1, ← List.take_append_drop 24 (words1.drop 24), List.all_append, w_t2, ← List.take_append_drop 24 ((words1.drop 24).drop 24), List.all_append, w_t3, w_t4]
  rfl
set_option maxRecDepth 65536 in
theorem w_rest : rest_1_c.before args0 about1 = true := by decide +kernel
set_option maxRecDepth 65536 in
theorem w_case : (Jvm.Cond.and given_1 narrow_1).before args0 about1 = true := by decide +kernel
theorem w_applies : (headSpec (Jvm.Cond.code x code maxLocals ret :: tables_1) room_1).applies x e0.platform about1 = true :=
  (Spec.applies_iff w_frames).mpr ⟨w_running, w_runnable, w_alone, w_named, w_hears, w_ripe, w_room, w_tables⟩
theorem atStart : AtStart classFile x code maxLocals ret World_1 tables_1 room_1 Calls_1 rest_1 Pre_1 launch0 p0 e0 about1 theMethod args0 below0 :=
  ⟨lists_1, trivial, launch0.admits_env _ _ _, launch0.least_env, fairChoices_fair.cas, fairChoices_fair.clock, w_frames, w_args, w_heap, w_applies, trivial, w_rest, w_case⟩
end start1
theorem witness_1 : WitnessClaimed_1 := ⟨start1.p0, start1.e0, start1.about1, start1.theMethod, start1.args0, start1.below0, start1.atStart⟩
end Jvm.Pilot.@@N@@
