import JvmDerived
import JvmDerived.Pilot.@@N@@Statement
import JvmDerived.Pilot.@@N@@Code
set_option linter.unusedVariables false
set_option linter.unusedSimpArgs false
namespace Jvm.RoadKit
open Sem ClassFile Op Lib Jvm.Stand Jvm.Free Jvm.LawKit
section New
variable {p : Program} {l : Launch} {e : Env} {R : Room} {s : State} {m : MethodId} {args : Array Value} {below : List Frame} {meth : Method} {c : Code} {T : State} {locs : List Loc} {cells slots : Nat}
theorem retI (X : Stand p l e R s m args below meth c T locs cells slots) (hx : p.tables.exec = Jvm.exec) {pc : Nat} {Ls : Array Slot} {z : Int32} {rest : List Value} (hret : meth.sig.returnType = some .int) (hd : decode c.code pc = .ok (.ireturn, 1)) {fs : List Frame}
    (hl : ∀ (f : JFrame) (acts : List Action), f.method = m → f.locked = none → f.entered = [] → (doReturn e (T.setTop f) acts (some (.int z))).1 = T.setFrames fs) : Steps p.tables e below (T.setTop (mkF m pc Ls (.int z :: rest))) (T.setFrames fs) :=
  retOut X hx hret rfl (Or.inl ⟨rfl, Or.inl rfl, z, rfl⟩) hd hl
end New
end Jvm.RoadKit
/- laws to paste: Road.backV, Road.eqW, Road.codOf (cut by pick.py; bodies as the Statement names them) -/
namespace Jvm.Pilot.@@N@@
namespace StrChars
open Jvm Sem ClassFile Op Lib Jvm.Stand Jvm.Free.XT Jvm.Free.ALB Jvm.Free.JM Jvm.Free
open Jvm.Lib.Cold (StaticIs)
/-- a char array whose places are chars -/
def Ch (a : Addr) (A : Cell) (U : State) : Prop := Arr .char a A U ∧ Typed .char A
theorem Ch.mv {a : Addr} {A : Cell} {U U' : State} (h : Ch a A U) (hal : U.vm.Alike U'.vm) (hh : U'.heap = U.heap) : Ch a A U' := ⟨h.1.mv hal hh, h.2⟩
theorem Ch.keep {a : Addr} {A : Cell} {U U' : State} (h : Ch a A U) (hal : U.vm.Alike U'.vm) (hk : U'.heap[a]? = some A) : Ch a A U' := ⟨h.1.keep hal hk, h.2⟩
/-- what place i of a char[]'s cell holds -/
def cv (A : Cell) (i : Nat) : Int32 := match A.slots[i]? with | some (.int x) => x | _ => 0
theorem Ch.get {a : Addr} {A : Cell} {U : State} (h : Ch a A U) {i : Nat} (hi : i < A.slots.size) : A.slots[i]? = some (.int (cv A i)) := by
  have e := Array.getElem?_eq_getElem hi
  have f := h.2 i _ e
  unfold cv; rw [e]
  generalize A.slots[i] = v at f
  cases v <;> simp [fits] at f ⊢
/-- the byte that i2b leaves of a char -/
def lo8 (x : Int32) : Int32 := x.toInt8.toInt32
theorem fits_lo8 (y : Int32) : fits .byte (.int (lo8 y)) = true := by
  have h1 := y.toInt8.le_toInt
  have h2 := y.toInt8.toInt_lt
  simp only [lo8, fits, Bool.and_eq_true, decide_eq_true_eq, Int32.le_iff_toInt_le, Int8.toInt_toInt32, show (-128 : Int32).toInt = -128 from by decide, show (127 : Int32).toInt = 127 from by decide]
  omega
/-- A' is A but that each place j of lo .. hi - 1 holds f j -/
def Laid (A A' : Cell) (lo hi : Nat) (f : Nat → Value) : Prop := A'.cls = A.cls ∧ A'.vm = A.vm ∧ A'.slots.size = A.slots.size ∧ ∀ i, A'.slots[i]? = if lo ≤ i ∧ i < hi then some (f i) else A.slots[i]?
theorem Laid.zero (A : Cell) (lo : Nat) (f : Nat → Value) : Laid A A lo (lo + 0) f := ⟨rfl, rfl, rfl, fun i => by rw [if_neg (by omega)]⟩
theorem Laid.step {A Ak : Cell} {lo k : Nat} {f : Nat → Value} {v : Value} (h : Laid A Ak lo k f) (hlo : lo ≤ k) (hk : k < Ak.slots.size) (hv : v = f k) : Laid A (Ak.setSlot k v) lo (k + 1) f := by
  refine ⟨h.1, h.2.1, by simpa [Cell.setSlot] using h.2.2.1, fun i => ?_⟩
  by_cases e : k = i
  · subst e; rw [Cell.slots_setSlot_self v hk, if_pos (by omega), hv]
  · rw [Cell.slots_setSlot_ne v e, h.2.2.2 i]
    by_cases q : lo ≤ i ∧ i < k
    · rw [if_pos q, if_pos (by omega)]
    · rw [if_neg q, if_neg (by omega)]
def U16 : String := "java/lang/StringUTF16"
namespace Cmp5
def yN : MethodName := ⟨"java/lang/StringUTF16", "compress", "([CI[BII)I"⟩
abbrev yB : ByteArray := jdk_52_method_21_code
theorem d0 : decode yB 0 = .ok (.iconst 0, 1) := by decide +kernel
theorem d1 : decode yB 1 = .ok (.istore 5, 2) := by decide +kernel
theorem d3 : decode yB 3 = .ok (.iload 5, 2) := by decide +kernel
theorem d5 : decode yB 5 = .ok (.iload 4, 2) := by decide +kernel
theorem d7 : decode yB 7 = .ok (.if_icmp (.ge) 37, 3) := by decide +kernel
theorem d10 : decode yB 10 = .ok (.aload_n 0, 1) := by decide +kernel
theorem d11 : decode yB 11 = .ok (.iload_n 1, 1) := by decide +kernel
theorem d12 : decode yB 12 = .ok (.caload, 1) := by decide +kernel
theorem d13 : decode yB 13 = .ok (.istore 6, 2) := by decide +kernel
theorem d15 : decode yB 15 = .ok (.iload 6, 2) := by decide +kernel
theorem d17 : decode yB 17 = .ok (.sipush 255, 3) := by decide +kernel
theorem d20 : decode yB 20 = .ok (.if_icmp (.le) 6, 3) := by decide +kernel
theorem d26 : decode yB 26 = .ok (.aload_n 2, 1) := by decide +kernel
theorem d27 : decode yB 27 = .ok (.iload_n 3, 1) := by decide +kernel
theorem d28 : decode yB 28 = .ok (.iload 6, 2) := by decide +kernel
theorem d30 : decode yB 30 = .ok (.i2b, 1) := by decide +kernel
theorem d31 : decode yB 31 = .ok (.bastore, 1) := by decide +kernel
theorem d32 : decode yB 32 = .ok (.iinc 1 1, 3) := by decide +kernel
theorem d35 : decode yB 35 = .ok (.iinc 3 1, 3) := by decide +kernel
theorem d38 : decode yB 38 = .ok (.iinc 5 1, 3) := by decide +kernel
theorem d41 : decode yB 41 = .ok (.goto (-38), 3) := by decide +kernel
theorem d44 : decode yB 44 = .ok (.iload 4, 2) := by decide +kernel
theorem d46 : decode yB 46 = .ok (.ireturn, 1) := by decide +kernel
def site : List Cond := []
def tab : Cond := tabOf yN yB 7 (some .int) site
def P (b : Addr) (A : Cell) (d : Addr) (B : Cell) (o q len : Nat) (args : Array Value) (s : State) : Prop := args = #[.ref b, .int (Int32.ofNat o), .ref d, .int (Int32.ofNat q), .int (Int32.ofNat len)] ∧ Ch b A s ∧ Arr .byte d B s ∧ b ≠ d ∧ o + len ≤ A.slots.size ∧ q + len ≤ B.slots.size ∧ ∀ i, i < len → ¬ 255 < cv A (o + i)
def E (b : Addr) (A : Cell) (d : Addr) (B : Cell) (o q len : Nat) (r : Option Value) (s u : State) : Prop := r = some (.int (Int32.ofNat len)) ∧ ∃ B', Put d B' s u ∧ Laid B B' q (q + len) (fun j => Value.int (lo8 (cv A (o + (j - q)))))
/-- no char of the range above 255: len; the places written hold each char's low byte -/
theorem law (l : Launch) (b : Addr) (A : Cell) (d : Addr) (B : Cell) (o q len : Nat) : Law l yN 5 5 0 0 yB 7 (some .int) site (P b A d B o q len) (E b A d B o q len) (copyLocs d q len) 0 0 := by
  refine Law.of_walk (plainFor_of_name (by decide +kernel)) (by decide +kernel) (by decide +kernel) (by decide) (fun _ _ h => by rw [h.1]; rfl) (fun _ U U' hal hh h => ⟨h.1, h.2.1.mv hal hh, h.2.2.1.mv hal hh, h.2.2.2⟩) (fun r U U' V V' h1 hal h2 h => ⟨h.1, h.2.elim fun B' q => ⟨B', q.1.mv h1 h2, q.2⟩⟩) ?_
  intro p e s m args below meth c s₁ X0 hexec hbytes hml hret hlk hnm hown hh0 W hP
  obtain ⟨rfl, hA, hB, hne, l1, l2, hp⟩ := hP
  have c1 : Steps p.tables e below (s₁.setTop (entryFrame m #[.ref b, .int (Int32.ofNat o), .ref d, .int (Int32.ofNat q), .int (Int32.ofNat len)] 7)) (s₁.setTop (mkF m 0 #[.val (.ref b), .val (.int (Int32.ofNat o)), .val (.ref d), .val (.int (Int32.ofNat q)), .val (.int (Int32.ofNat len)), .unset, .unset] [])) := entry rfl
  have hA0 := hA.1.mv X0.warmed.alike hh0
  have hB0 := hB.mv X0.warmed.alike hh0
  have a31 := hA.1.2.2.2
  have c2 : Steps p.tables e below (s₁.setTop (entryFrame m #[.ref b, .int (Int32.ofNat o), .ref d, .int (Int32.ofNat q), .int (Int32.ofNat len)] 7)) (s₁.setTop (mkF m 3 #[.val (.ref b), .val (.int (Int32.ofNat o)), .val (.ref d), .val (.int (Int32.ofNat q)), .val (.int (Int32.ofNat len)), .val (.int 0), .unset] [])) := c1.trans (by
    refine iconstV X0.here hexec rfl 0 (hb hbytes d0) (by decide) ?_
    refine XS.istore X0.here hexec rfl (hb hbytes d1) rfl rfl ?_
    exact Steps.refl _)
  have loop : ∀ (r i : Nat), i + r = len → ∀ (z : Slot), (z = .unset ∨ ∃ w, z = .val w ∧ w.category = 1) → ∀ (Tl : State) (Bk : Cell), Stand p l e { frames := 0, locals := 0, cells := 0, slots := 0 } s m #[.ref b, .int (Int32.ofNat o), .ref d, .int (Int32.ofNat q), .int (Int32.ofNat len)] below meth c Tl ([] ++ copyLocs d q i) 0 0 → Put d Bk s₁ Tl → Laid B Bk q (q + i) (fun j => Value.int (lo8 (cv A (o + (j - q))))) →
      Steps p.tables e below (s₁.setTop (entryFrame m #[.ref b, .int (Int32.ofNat o), .ref d, .int (Int32.ofNat q), .int (Int32.ofNat len)] 7)) (Tl.setTop (mkF m 3 #[.val (.ref b), .val (.int (Int32.ofNat (o + i))), .val (.ref d), .val (.int (Int32.ofNat (q + i))), .val (.int (Int32.ofNat len)), .val (.int (Int32.ofNat i)), z] [])) → ∃ (T' : State) (B' : Cell) (z' : Slot), Stand p l e { frames := 0, locals := 0, cells := 0, slots := 0 } s m #[.ref b, .int (Int32.ofNat o), .ref d, .int (Int32.ofNat q), .int (Int32.ofNat len)] below meth c T' ([] ++ copyLocs d q len) 0 0 ∧ Put d B' s₁ T' ∧ Laid B B' q (q + len) (fun j => Value.int (lo8 (cv A (o + (j - q))))) ∧
      Steps p.tables e below (s₁.setTop (entryFrame m #[.ref b, .int (Int32.ofNat o), .ref d, .int (Int32.ofNat q), .int (Int32.ofNat len)] 7)) (T'.setTop (mkF m 3 #[.val (.ref b), .val (.int (Int32.ofNat (o + len))), .val (.ref d), .val (.int (Int32.ofNat (q + len))), .val (.int (Int32.ofNat len)), .val (.int (Int32.ofNat len)), z'] [])) := by
    intro r
    induction r with
    | zero =>
      intro i hi z hz Tl Bk Xl pl fl cl
      have hil : i = len := by omega
      rw [hil] at Xl fl cl
      exact ⟨Tl, Bk, z, Xl, pl, fl, cl⟩
    | succ r ih =>
      intro i hi z hz Tl Bk Xl pl fl cl
      have all := X0.warmed.alike.symm.trans Xl.warmed.alike
      have hAl := hA0.keep all (pl.other hne hA0.1)
      have hBk := hB0.like all pl.1 fl.1 fl.2.1 fl.2.2.1
      have hlt : q + i < Bk.slots.size := by rw [fl.2.2.1]; omega
      have c3 : Steps p.tables e below (s₁.setTop (entryFrame m #[.ref b, .int (Int32.ofNat o), .ref d, .int (Int32.ofNat q), .int (Int32.ofNat len)] 7)) (Tl.setTop (mkF m 12 #[.val (.ref b), .val (.int (Int32.ofNat (o + i))), .val (.ref d), .val (.int (Int32.ofNat (q + i))), .val (.int (Int32.ofNat len)), .val (.int (Int32.ofNat i)), z] [.int (Int32.ofNat (o + i)), .ref b])) := cl.trans (by
        refine XS.iload Xl.here hexec rfl (hb hbytes d3) rfl ?_
        refine XS.iload Xl.here hexec rfl (hb hbytes d5) rfl ?_
        refine XS.icmpNo Xl.here hexec rfl (hb hbytes d7) rfl (ii_ge_f (lt32 (by omega) (by omega))) ?_
        refine XS.aloadN Xl.here hexec rfl (hb hbytes d10) rfl rfl ?_
        refine XS.iloadN Xl.here hexec rfl (hb hbytes d11) rfl ?_
        exact Steps.refl _)
      have c4 : Steps p.tables e below (s₁.setTop (entryFrame m #[.ref b, .int (Int32.ofNat o), .ref d, .int (Int32.ofNat q), .int (Int32.ofNat len)] 7)) (Tl.setTop (mkF m 13 #[.val (.ref b), .val (.int (Int32.ofNat (o + i))), .val (.ref d), .val (.int (Int32.ofNat (q + i))), .val (.int (Int32.ofNat len)), .val (.int (Int32.ofNat i)), z] [.int (cv A (o + i))])) := c3.trans (by
        refine Xl.aget hexec hAl rfl (hA.get (i := o + i) (by omega)) rfl rfl (hb hbytes d12) ?_
        exact Steps.refl _)
      have c5 : Steps p.tables e below (s₁.setTop (entryFrame m #[.ref b, .int (Int32.ofNat o), .ref d, .int (Int32.ofNat q), .int (Int32.ofNat len)] 7)) (Tl.setTop (mkF m 15 #[.val (.ref b), .val (.int (Int32.ofNat (o + i))), .val (.ref d), .val (.int (Int32.ofNat (q + i))), .val (.int (Int32.ofNat len)), .val (.int (Int32.ofNat i)), .val (.int (cv A (o + i)))] [])) := c4.trans (by
        refine XS.istoreS Xl.here hexec rfl (hb hbytes d13) rfl rfl hz ?_
        exact Steps.refl _)
      have c6 : Steps p.tables e below (s₁.setTop (entryFrame m #[.ref b, .int (Int32.ofNat o), .ref d, .int (Int32.ofNat q), .int (Int32.ofNat len)] 7)) (Tl.setTop (mkF m 31 #[.val (.ref b), .val (.int (Int32.ofNat (o + i))), .val (.ref d), .val (.int (Int32.ofNat (q + i))), .val (.int (Int32.ofNat len)), .val (.int (Int32.ofNat i)), .val (.int (cv A (o + i)))] [.int (lo8 (cv A (o + i))), .int (Int32.ofNat (q + i)), .ref d])) := c5.trans (by
        refine XS.iload Xl.here hexec rfl (hb hbytes d15) rfl ?_
        refine sipushV Xl.here hexec rfl 255 (hb hbytes d17) (by decide) ?_
        refine XS.icmpYes Xl.here hexec rfl (pc0 := 20) rfl (hb hbytes d20) rfl (ii_le_t (hp i (by omega))) (by decide) rfl ?_
        refine XS.aloadN Xl.here hexec rfl (hb hbytes d26) rfl rfl ?_
        refine XS.iloadN Xl.here hexec rfl (hb hbytes d27) rfl ?_
        refine XS.iload Xl.here hexec rfl (hb hbytes d28) rfl ?_
        refine i2b Xl.here hexec rfl (hb hbytes d30) rfl ?_
        exact Steps.refl _)
      obtain ⟨T7, X7, p7, st7⟩ := Xl.aput hexec hBk rfl hlt rfl (fits_lo8 (cv A (o + i))) (g := (mkF m 31 #[.val (.ref b), .val (.int (Int32.ofNat (o + i))), .val (.ref d), .val (.int (Int32.ofNat (q + i))), .val (.int (Int32.ofNat len)), .val (.int (Int32.ofNat i)), .val (.int (cv A (o + i)))] [.int (lo8 (cv A (o + i))), .int (Int32.ofNat (q + i)), .ref d])) rfl (rest := []) rfl (hb hbytes d31)
      have c8 : Steps p.tables e below (s₁.setTop (entryFrame m #[.ref b, .int (Int32.ofNat o), .ref d, .int (Int32.ofNat q), .int (Int32.ofNat len)] 7)) (T7.setTop (mkF m 32 #[.val (.ref b), .val (.int (Int32.ofNat (o + i))), .val (.ref d), .val (.int (Int32.ofNat (q + i))), .val (.int (Int32.ofNat len)), .val (.int (Int32.ofNat i)), .val (.int (cv A (o + i)))] [])) := c6.trans (st7 _ (Steps.refl _))
      have c9 : Steps p.tables e below (s₁.setTop (entryFrame m #[.ref b, .int (Int32.ofNat o), .ref d, .int (Int32.ofNat q), .int (Int32.ofNat len)] 7)) (T7.setTop (mkF m 3 #[.val (.ref b), .val (.int (Int32.ofNat (o + i) + 1)), .val (.ref d), .val (.int (Int32.ofNat (q + i) + 1)), .val (.int (Int32.ofNat len)), .val (.int (Int32.ofNat i + 1)), .val (.int (cv A (o + i)))] [])) := c8.trans (by
        refine iincV X7.here hexec rfl 1 (hb hbytes d32) (by decide) rfl rfl ?_
        refine iincV X7.here hexec rfl 1 (hb hbytes d35) (by decide) rfl rfl ?_
        refine iincV X7.here hexec rfl 1 (hb hbytes d38) (by decide) rfl rfl ?_
        refine XS.goto X7.here hexec rfl (pc0 := 41) rfl (hb hbytes d41) (by decide) rfl ?_
        exact Steps.refl _)
      have c10 : Steps p.tables e below (s₁.setTop (entryFrame m #[.ref b, .int (Int32.ofNat o), .ref d, .int (Int32.ofNat q), .int (Int32.ofNat len)] 7)) (T7.setTop (mkF m 3 #[.val (.ref b), .val (.int (Int32.ofNat (o + (i + 1)))), .val (.ref d), .val (.int (Int32.ofNat (q + (i + 1)))), .val (.int (Int32.ofNat len)), .val (.int (Int32.ofNat (i + 1))), .val (.int (cv A (o + i)))] [])) := by
        have := c9
        rw [succ32, succ32, succ32] at this
        exact this
      exact ih (i + 1) (by omega) _ (Or.inr ⟨_, rfl, rfl⟩) T7 _ (by rw [copyLocs_step, ← List.append_assoc]; exact X7) (pl.trans p7) (fl.step (by omega) hlt (by simp)) c10
  obtain ⟨T9, B9, z9, X9, p9, f9, g9⟩ := loop len 0 (by omega) .unset (Or.inl rfl) s₁ B (by simpa [copyLocs] using X0) ⟨hB0.1, fun _ _ => rfl, rfl⟩ (Laid.zero _ _ _) c2
  have c11 : Steps p.tables e below (s₁.setTop (entryFrame m #[.ref b, .int (Int32.ofNat o), .ref d, .int (Int32.ofNat q), .int (Int32.ofNat len)] 7)) (T9.setTop (mkF m 46 #[.val (.ref b), .val (.int (Int32.ofNat (o + len))), .val (.ref d), .val (.int (Int32.ofNat (q + len))), .val (.int (Int32.ofNat len)), .val (.int (Int32.ofNat len)), z9] [.int (Int32.ofNat len)])) := g9.trans (by
    refine XS.iload X9.here hexec rfl (hb hbytes d3) rfl ?_
    refine XS.iload X9.here hexec rfl (hb hbytes d5) rfl ?_
    refine XS.icmpYes X9.here hexec rfl (pc0 := 7) rfl (hb hbytes d7) rfl (ii_ge_t (nlt32 (by omega) (Nat.le_refl _))) (by decide) rfl ?_
    refine XS.iload X9.here hexec rfl (hb hbytes d44) rfl ?_
    exact Steps.refl _)
  exact ⟨T9, some (.int (Int32.ofNat len)), _, _, _, X9, by simp, rfl, rfl, (fun h => by cases h), ⟨rfl, B9, p9.from hh0, f9⟩, fun fs hl => c11.trans (X9.ireturnOut hexec hret rfl (Or.inl rfl) (hb hbytes d46) hl)⟩
end Cmp5
namespace Cmp3
def yN : MethodName := ⟨"java/lang/StringUTF16", "compress", "([CII)[B"⟩
abbrev yB : ByteArray := jdk_52_method_16_code
theorem d0 : decode yB 0 = .ok (.iload_n 2, 1) := by decide +kernel
theorem d1 : decode yB 1 = .ok (.newarray .byte, 2) := by decide +kernel
theorem d3 : decode yB 3 = .ok (.astore_n 3, 1) := by decide +kernel
theorem d4 : decode yB 4 = .ok (.aload_n 0, 1) := by decide +kernel
theorem d5 : decode yB 5 = .ok (.iload_n 1, 1) := by decide +kernel
theorem d6 : decode yB 6 = .ok (.aload_n 3, 1) := by decide +kernel
theorem d7 : decode yB 7 = .ok (.iconst 0, 1) := by decide +kernel
theorem d8 : decode yB 8 = .ok (.iload_n 2, 1) := by decide +kernel
theorem d9 : decode yB 9 = .ok (.invokestatic 115, 3) := by decide +kernel
theorem d12 : decode yB 12 = .ok (.istore 4, 2) := by decide +kernel
theorem d14 : decode yB 14 = .ok (.iload 4, 2) := by decide +kernel
theorem d16 : decode yB 16 = .ok (.iload_n 2, 1) := by decide +kernel
theorem d17 : decode yB 17 = .ok (.if_icmp (.eq) 40, 3) := by decide +kernel
theorem d57 : decode yB 57 = .ok (.aload_n 3, 1) := by decide +kernel
theorem d58 : decode yB 58 = .ok (.areturn, 1) := by decide +kernel
def site : List Cond := [.arrayClass .byte, Cmp5.tab] ++ staticW U16 115 Cmp5.yN
def tab : Cond := tabOf yN yB 6 (some (.array .byte)) site
def P (b : Addr) (A : Cell) (o len : Nat) (args : Array Value) (s : State) : Prop := args = #[.ref b, .int (Int32.ofNat o), .int (Int32.ofNat len)] ∧ Ch b A s ∧ o + len ≤ A.slots.size ∧ len ≤ 536870912 ∧ ∀ i, i < len → ¬ 255 < cv A (o + i)
def E (b : Addr) (A : Cell) (o len : Nat) (r : Option Value) (s u : State) : Prop := NewArr .byte "[B" len (fun j => .int (lo8 (cv A (o + j)))) r s u ∧ u.heap.size = s.heap.size + 1
/-- no char of the range above 255: a new byte[] of their low bytes -/
theorem law (l : Launch) (b : Addr) (A : Cell) (o len : Nat) : Law l yN 3 3 1 18 yB 6 (some (.array .byte)) site (P b A o len) (E b A o len) [] 1 len := by
  refine Law.of_walk (plainFor_of_name (by decide +kernel)) (by decide +kernel) (by decide +kernel) (by decide) (fun _ _ h => by rw [h.1]; rfl) (fun _ U U' hal hh h => ⟨h.1, h.2.1.mv hal hh, h.2.2⟩) (fun r U U' V V' h1 hal h2 h => ⟨NewArr.mv r U U' V V' h1 hal h2 h.1, by rw [h1, h2]; exact h.2⟩) ?_
  intro p e s m args below meth c s₁ X0 hexec hbytes hml hret hlk hnm hown hh0 W hP
  obtain ⟨rfl, hA, l1, l2, hp⟩ := hP
  have a31 := hA.1.2.2.2
  have c1 : Steps p.tables e below (s₁.setTop (entryFrame m #[.ref b, .int (Int32.ofNat o), .int (Int32.ofNat len)] 6)) (s₁.setTop (mkF m 0 #[.val (.ref b), .val (.int (Int32.ofNat o)), .val (.int (Int32.ofNat len)), .unset, .unset, .unset] [])) := entry rfl
  have c2 : Steps p.tables e below (s₁.setTop (entryFrame m #[.ref b, .int (Int32.ofNat o), .int (Int32.ofNat len)] 6)) (s₁.setTop (mkF m 1 #[.val (.ref b), .val (.int (Int32.ofNat o)), .val (.int (Int32.ofNat len)), .unset, .unset, .unset] [.int (Int32.ofNat len)])) := c1.trans (by
    refine XS.iloadN X0.here hexec rfl (hb hbytes d0) rfl ?_
    exact Steps.refl _)
  obtain ⟨T3, B3, X3, ba3, bs3, bv3, bh3, bf3, st3⟩ := X0.anew hexec (atype := .byte) (wk W (.arrayClass .byte)) rfl (by show len * 1 ≤ _; omega) (by omega) (g := (mkF m 1 #[.val (.ref b), .val (.int (Int32.ofNat o)), .val (.int (Int32.ofNat len)), .unset, .unset, .unset] [.int (Int32.ofNat len)])) rfl (hb hbytes d1) (rest := []) rfl (Nat.le_refl _) (by show 0 + len ≤ len; omega)
  rw [hh0] at ba3 st3
  have kp3 : XT.Kept s T3 := (XT.Kept.of_eq hh0).push bh3
  have hA3 := hA.keep X3.warmed.alike (kp3 _ _ hA.1.1)
  have hne : b ≠ s.heap.size := hA.1.ne
  have c4 : Steps p.tables e below (s₁.setTop (entryFrame m #[.ref b, .int (Int32.ofNat o), .int (Int32.ofNat len)] 6)) (T3.setTop (mkF m 3 #[.val (.ref b), .val (.int (Int32.ofNat o)), .val (.int (Int32.ofNat len)), .unset, .unset, .unset] [.ref s.heap.size])) := c2.trans (st3 _ (Steps.refl _))
  have c5 : Steps p.tables e below (s₁.setTop (entryFrame m #[.ref b, .int (Int32.ofNat o), .int (Int32.ofNat len)] 6)) (T3.setTop (mkF m 9 #[.val (.ref b), .val (.int (Int32.ofNat o)), .val (.int (Int32.ofNat len)), .val (.ref s.heap.size), .unset, .unset] [.int (Int32.ofNat len), .int 0, .ref s.heap.size, .int (Int32.ofNat o), .ref b])) := c4.trans (by
    refine XS.astoreN X3.here hexec rfl (hb hbytes d3) rfl rfl rfl ?_
    refine XS.aloadN X3.here hexec rfl (hb hbytes d4) rfl rfl ?_
    refine XS.iloadN X3.here hexec rfl (hb hbytes d5) rfl ?_
    refine XS.aloadN X3.here hexec rfl (hb hbytes d6) rfl rfl ?_
    refine iconstV X3.here hexec rfl 0 (hb hbytes d7) (by decide) ?_
    refine XS.iloadN X3.here hexec rfl (hb hbytes d8) rfl ?_
    exact Steps.refl _)
  obtain ⟨v6, T6, X6, E6, g6⟩ := X3.callS hexec (Cmp5.law l b A s.heap.size B3 o 0 len) hown (wks W (staticW U16 115 Cmp5.yN)) (wk W Cmp5.tab) (W := 0) (Nat.le_of_ble_eq_true rfl) (Nat.le_of_ble_eq_true rfl) (Nat.le_refl _) (by show 0 + len + 0 ≤ len; omega) (g := (mkF m 9 #[.val (.ref b), .val (.int (Int32.ofNat o)), .val (.int (Int32.ofNat len)), .val (.ref s.heap.size), .unset, .unset] [.int (Int32.ofNat len), .int (Int32.ofNat 0), .ref s.heap.size, .int (Int32.ofNat o), .ref b])) rfl (by rw [hml]; rfl) c5 (argsL := [.ref b, .int (Int32.ofNat o), .ref s.heap.size, .int (Int32.ofNat 0), .int (Int32.ofNat len)]) (rest := []) rfl rfl (by show 2 * 0 + 0 ≤ _; decide) (hb hbytes d9) (⟨rfl, hA3, ba3, hne, l1, by rw [bs3]; simp, hp⟩)
  obtain ⟨rfl, B6, p6, f6⟩ := E6
  have c7 : Steps p.tables e below (s₁.setTop (entryFrame m #[.ref b, .int (Int32.ofNat o), .int (Int32.ofNat len)] 6)) (T6.setTop (mkF m 12 #[.val (.ref b), .val (.int (Int32.ofNat o)), .val (.int (Int32.ofNat len)), .val (.ref s.heap.size), .unset, .unset] [.int (Int32.ofNat len)])) := g6
  have c8 : Steps p.tables e below (s₁.setTop (entryFrame m #[.ref b, .int (Int32.ofNat o), .int (Int32.ofNat len)] 6)) (T6.setTop (mkF m 58 #[.val (.ref b), .val (.int (Int32.ofNat o)), .val (.int (Int32.ofNat len)), .val (.ref s.heap.size), .val (.int (Int32.ofNat len)), .unset] [.ref s.heap.size])) := c7.trans (by
    refine XS.istore X6.here hexec rfl (hb hbytes d12) rfl rfl ?_
    refine XS.iload X6.here hexec rfl (hb hbytes d14) rfl ?_
    refine XS.iloadN X6.here hexec rfl (hb hbytes d16) rfl ?_
    refine XS.icmpYes X6.here hexec rfl (pc0 := 17) rfl (hb hbytes d17) rfl (ii_eq_t rfl) (by decide) rfl ?_
    refine XS.aloadN X6.here hexec rfl (hb hbytes d57) rfl rfl ?_
    exact Steps.refl _)
  have X8 := X6.wide (L' := []) (cells' := 1) (slots' := len) (fun x hx hlt => by
    simp only [List.nil_append, copyLocs, List.mem_map, List.mem_range] at hx
    obtain ⟨i, -, rfl⟩ := hx
    exact absurd hlt (Nat.lt_irrefl _)) (Nat.le_refl _) (by omega)
  exact ⟨T6, some (.ref s.heap.size), _, _, _, X8, rfl, rfl, rfl, (fun h => by cases h), ⟨⟨rfl, B6, ba3.like (X3.warmed.alike.symm.trans X6.warmed.alike) p6.1 f6.1 f6.2.1 f6.2.2.1, f6.2.1.trans bv3, by rw [X6.warmed.alike.findClass, f6.1]; exact bf3, by rw [f6.2.2.1, bs3]; simp, fun j hj => by rw [f6.2.2.2 j, if_pos (by omega)]; rfl, kp3.put p6 (Nat.le_refl _)⟩, by rw [p6.2.2, bh3, hh0]; simp⟩, fun fs hl => c8.trans (X8.areturnOut hexec rfl hret rfl (hb hbytes d58) hl)⟩
end Cmp3
namespace CodL
def yN : MethodName := ⟨"java/lang/StringUTF16", "coderFromArrayLen", "([BI)B"⟩
abbrev yB : ByteArray := jdk_52_method_15_code
theorem d0 : decode yB 0 = .ok (.iload_n 1, 1) := by decide +kernel
theorem d1 : decode yB 1 = .ok (.aload_n 0, 1) := by decide +kernel
theorem d2 : decode yB 2 = .ok (.arraylength, 1) := by decide +kernel
theorem d3 : decode yB 3 = .ok (.isub, 1) := by decide +kernel
theorem d4 : decode yB 4 = .ok (.bipush 31, 2) := by decide +kernel
theorem d6 : decode yB 6 = .ok (.iushr, 1) := by decide +kernel
theorem d7 : decode yB 7 = .ok (.i2b, 1) := by decide +kernel
theorem d8 : decode yB 8 = .ok (.ireturn, 1) := by decide +kernel
def site : List Cond := []
def tab : Cond := tabOf yN yB 2 (some .byte) site
def P (d : Addr) (B : Cell) (args : Array Value) (s : State) : Prop := args = #[.ref d, .int (Int32.ofNat B.slots.size)] ∧ Arr .byte d B s
def E (r : Option Value) (s u : State) : Prop := XT.PureE (some (.int 0)) r s u
/-- an array as long as the number of chars: LATIN1 -/
theorem law (l : Launch) (d : Addr) (B : Cell) : Law l yN 2 2 0 0 yB 2 (some .byte) site (P d B) E [] 0 0 := by
  refine Law.of_walk (plainFor_of_name (by decide +kernel)) (by decide +kernel) (by decide +kernel) (by decide) (fun _ _ h => by rw [h.1]; rfl) (fun _ U U' hal hh h => ⟨h.1, h.2.mv hal hh⟩) (fun r U U' V V' h1 hal h2 h => XT.PureE.mv r U U' V V' h1 hal h2 h) ?_
  intro p e s m args below meth c s₁ X0 hexec hbytes hml hret hlk hnm hown hh0 W hP
  obtain ⟨rfl, hB⟩ := hP
  have hB0 := hB.mv X0.warmed.alike hh0
  have c1 : Steps p.tables e below (s₁.setTop (entryFrame m #[.ref d, .int (Int32.ofNat B.slots.size)] 2)) (s₁.setTop (mkF m 0 #[.val (.ref d), .val (.int (Int32.ofNat B.slots.size))] [])) := entry rfl
  have c2 : Steps p.tables e below (s₁.setTop (entryFrame m #[.ref d, .int (Int32.ofNat B.slots.size)] 2)) (s₁.setTop (mkF m 2 #[.val (.ref d), .val (.int (Int32.ofNat B.slots.size))] [.ref d, .int (Int32.ofNat B.slots.size)])) := c1.trans (by
    refine XS.iloadN X0.here hexec rfl (hb hbytes d0) rfl ?_
    refine XS.aloadN X0.here hexec rfl (hb hbytes d1) rfl rfl ?_
    exact Steps.refl _)
  have c3 : Steps p.tables e below (s₁.setTop (entryFrame m #[.ref d, .int (Int32.ofNat B.slots.size)] 2)) (s₁.setTop (mkF m 8 #[.val (.ref d), .val (.int (Int32.ofNat B.slots.size))] [.int (lo8 (ushr (Int32.ofNat B.slots.size - Int32.ofNat B.slots.size) 31))])) := c2.trans (by
    refine X0.alen hexec hB0 rfl rfl (hb hbytes d2) ?_
    refine XS.isub X0.here hexec rfl (hb hbytes d3) rfl ?_
    refine bipushV X0.here hexec rfl 31 (hb hbytes d4) (by decide) ?_
    refine iushr X0.here hexec rfl (hb hbytes d6) rfl ?_
    refine i2b X0.here hexec rfl (hb hbytes d7) rfl ?_
    exact Steps.refl _)
  have e0 : lo8 (ushr (Int32.ofNat B.slots.size - Int32.ofNat B.slots.size) 31) = 0 := by rw [Int32.sub_self]; decide
  rw [e0] at c3
  exact ⟨s₁, some (.int 0), _, _, _, X0, rfl, rfl, rfl, (fun h => by cases h), ⟨rfl, hh0⟩, fun fs hl => c3.trans (X0.ireturnOut hexec hret rfl (Or.inr (Or.inr (Or.inl rfl))) (hb hbytes d8) hl)⟩
end CodL
/-- the String at a is Latin-1 over a new byte[] (the heap's one new cell): the low bytes of the len chars of A from o on; every cell but a is kept -/
def Got (a : Addr) (D : Cell) (fV fC : Field) (A : Cell) (o len : Nat) (r : Option Value) (s u : State) : Prop := r = none ∧ ∃ D' V : Cell, Blank "java/lang/String" a D' u ∧ Same D D' [fV.slot, fC.slot] ∧ D'.slots[fV.slot]? = some (.ref s.heap.size) ∧ D'.slots[fC.slot]? = some (.int 0) ∧ Arr .byte s.heap.size V u ∧ V.vm = .none ∧ u.vm.findClass "[B" = some V.cls ∧ V.slots.size = len ∧ (∀ j, j < len → V.slots[j]? = some (.int (lo8 (cv A (o + j))))) ∧ (∀ (y : Addr) (c : Cell), y ≠ a → s.heap[y]? = some c → u.heap[y]? = some c) ∧ u.heap.size = s.heap.size + 1
theorem Got.mv {a : Addr} {D A : Cell} {fV fC : Field} {o len : Nat} : ∀ r (U U' V V' : State), U'.heap = U.heap → V.vm.Alike V'.vm → V'.heap = V.heap → Got a D fV fC A o len r U V → Got a D fV fC A o len r U' V' :=
  fun r U U' V V' h1 hal h2 ⟨e0, D', X, a1, a2, a3, a4, a5, a6, a7, a8, a9, a10, a11⟩ => ⟨e0, D', X, a1.mv hal h2, a2, by rw [h1]; exact a3, a4, by rw [h1]; exact a5.mv hal h2, a6, by rw [hal.findClass]; exact a7, a8, a9, by rw [h1, h2]; exact a10, by rw [h1, h2]; exact a11⟩
namespace New4
def yN : MethodName := ⟨"java/lang/String", "<init>", "([CIILjava/lang/Void;)V"⟩
abbrev yB : ByteArray := jdk_42_method_149_code
theorem d0 : decode yB 0 = .ok (.aload_n 0, 1) := by decide +kernel
theorem d1 : decode yB 1 = .ok (.invokespecial 1, 3) := by decide +kernel
theorem d4 : decode yB 4 = .ok (.iload_n 3, 1) := by decide +kernel
theorem d5 : decode yB 5 = .ok (.ifCond (.ne) 22, 3) := by decide +kernel
theorem d27 : decode yB 27 = .ok (.getstatic 38, 3) := by decide +kernel
theorem d30 : decode yB 30 = .ok (.ifCond (.eq) 28, 3) := by decide +kernel
theorem d33 : decode yB 33 = .ok (.aload_n 1, 1) := by decide +kernel
theorem d34 : decode yB 34 = .ok (.iload_n 2, 1) := by decide +kernel
theorem d35 : decode yB 35 = .ok (.iload_n 3, 1) := by decide +kernel
theorem d36 : decode yB 36 = .ok (.invokestatic 177, 3) := by decide +kernel
theorem d39 : decode yB 39 = .ok (.astore 5, 2) := by decide +kernel
theorem d41 : decode yB 41 = .ok (.aload_n 0, 1) := by decide +kernel
theorem d42 : decode yB 42 = .ok (.aload 5, 2) := by decide +kernel
theorem d44 : decode yB 44 = .ok (.iload_n 3, 1) := by decide +kernel
theorem d45 : decode yB 45 = .ok (.invokestatic 47, 3) := by decide +kernel
theorem d48 : decode yB 48 = .ok (.putfield 15, 3) := by decide +kernel
theorem d51 : decode yB 51 = .ok (.aload_n 0, 1) := by decide +kernel
theorem d52 : decode yB 52 = .ok (.aload 5, 2) := by decide +kernel
theorem d54 : decode yB 54 = .ok (.putfield 9, 3) := by decide +kernel
theorem d57 : decode yB 57 = .ok (.return_, 1) := by decide +kernel
def site : List Cond := [.fieldLink "java/lang/String" 38 "java/lang/String" "COMPACT_STRINGS" "Z", Cmp3.tab, CodL.tab, .laysFinal "java/lang/String" "java/lang/String" "value" "[B", .fieldLink "java/lang/String" 9 "java/lang/String" "value" "[B", .laysFinal "java/lang/String" "java/lang/String" "coder" "B", .fieldLink "java/lang/String" 15 "java/lang/String" "coder" "B"] ++ objW "java/lang/String" 1 ++ staticW "java/lang/String" 177 Cmp3.yN ++ staticW "java/lang/String" 47 CodL.yN
def tab : Cond := tabOf yN yB 6 none site
def P (a : Addr) (D : Cell) (fV fC : Field) (b : Addr) (A : Cell) (z : Int32) (o len : Nat) (args : Array Value) (s : State) : Prop := args = #[.ref a, .ref b, .int (Int32.ofNat o), .int (Int32.ofNat len), .null] ∧ Blank "java/lang/String" a D s ∧ Found "java/lang/String" "value" "[B" fV s ∧ Found "java/lang/String" "coder" "B" fC s ∧ Ch b A s ∧ StaticIs s "java/lang/String" "COMPACT_STRINGS" "Z" (.int z) ∧ ¬ z = 0 ∧ 0 < len ∧ o + len ≤ A.slots.size ∧ len ≤ 536870912 ∧ ∀ i, i < len → ¬ 255 < cv A (o + i)
def E (a : Addr) (D : Cell) (fV fC : Field) (A : Cell) (o len : Nat) (r : Option Value) (s u : State) : Prop := Got a D fV fC A o len r s u
/-- len > 0, no char of the range above 255: a Latin-1 String of their low bytes -/
theorem law (l : Launch) (a : Addr) (D : Cell) (fV fC : Field) (b : Addr) (A : Cell) (z : Int32) (o len : Nat) : Law l yN 5 4 2 35 yB 6 none site (P a D fV fC b A z o len) (E a D fV fC A o len) [⟨a, fC.slot⟩, ⟨a, fV.slot⟩] 1 len := by
  refine Law.of_walk (plainFor_of_name (by decide +kernel)) (by decide +kernel) (by decide +kernel) (by decide) (fun _ _ h => by rw [h.1]; rfl) (fun _ U U' hal hh h => ⟨h.1, h.2.1.mv hal hh, h.2.2.1.al hal, h.2.2.2.1.al hal, h.2.2.2.2.1.mv hal hh, h.2.2.2.2.2.1.there hal hh, h.2.2.2.2.2.2⟩) (fun r U U' V V' h1 hal h2 h => Got.mv r U U' V V' h1 hal h2 h) ?_
  intro p e s m args below meth c s₁ X0 hexec hbytes hml hret hlk hnm hown hh0 W hP
  obtain ⟨rfl, hB, f1, f2, hA, s1, hz, l0, l1, l2, hp⟩ := hP
  have a31 := hA.1.2.2.2
  have c1 : Steps p.tables e below (s₁.setTop (entryFrame m #[.ref a, .ref b, .int (Int32.ofNat o), .int (Int32.ofNat len), .null] 6)) (s₁.setTop (mkF m 0 #[.val (.ref a), .val (.ref b), .val (.int (Int32.ofNat o)), .val (.int (Int32.ofNat len)), .val .null, .unset] [])) := entry rfl
  have c2 : Steps p.tables e below (s₁.setTop (entryFrame m #[.ref a, .ref b, .int (Int32.ofNat o), .int (Int32.ofNat len), .null] 6)) (s₁.setTop (mkF m 1 #[.val (.ref a), .val (.ref b), .val (.int (Int32.ofNat o)), .val (.int (Int32.ofNat len)), .val .null, .unset] [.ref a])) := c1.trans (by
    refine XS.aloadN X0.here hexec rfl (hb hbytes d0) rfl rfl ?_
    exact Steps.refl _)
  obtain ⟨T3, X3, q3, st3⟩ := X0.oinit hexec hown (wks W (objW "java/lang/String" 1)) (g := (mkF m 1 #[.val (.ref a), .val (.ref b), .val (.int (Int32.ofNat o)), .val (.int (Int32.ofNat len)), .val .null, .unset] [.ref a])) rfl (by rw [hml]; rfl) (rest := []) rfl (hb hbytes d1) (W := 0) (by show 2 * 0 + 0 ≤ _; decide) (Nat.le_of_ble_eq_true rfl) (Nat.le_of_ble_eq_true rfl)
  have hh3 := q3.trans hh0
  have c4 : Steps p.tables e below (s₁.setTop (entryFrame m #[.ref a, .ref b, .int (Int32.ofNat o), .int (Int32.ofNat len), .null] 6)) (T3.setTop (mkF m 27 #[.val (.ref a), .val (.ref b), .val (.int (Int32.ofNat o)), .val (.int (Int32.ofNat len)), .val .null, .unset] [])) := (c2.trans (st3 _ (Steps.refl _))).trans (by
    refine XS.iloadN X3.here hexec rfl (hb hbytes d4) rfl ?_
    refine XS.ifYes X3.here hexec rfl (pc0 := 5) rfl (hb hbytes d5) rfl (i0_ne_t (nz32 (by omega) l0)) (by decide) rfl ?_
    exact Steps.refl _)
  obtain ⟨T5, X5, q5, st5⟩ := X3.sget hexec hown (wk W (.fieldLink "java/lang/String" 38 "java/lang/String" "COMPACT_STRINGS" "Z")) s1 (fun _ _ h => by rw [hh3]; exact h) (g := (mkF m 27 #[.val (.ref a), .val (.ref b), .val (.int (Int32.ofNat o)), .val (.int (Int32.ofNat len)), .val .null, .unset] [])) rfl (hb hbytes d27)
  have hh5 := q5.trans hh3
  have c6 : Steps p.tables e below (s₁.setTop (entryFrame m #[.ref a, .ref b, .int (Int32.ofNat o), .int (Int32.ofNat len), .null] 6)) (T5.setTop (mkF m 30 #[.val (.ref a), .val (.ref b), .val (.int (Int32.ofNat o)), .val (.int (Int32.ofNat len)), .val .null, .unset] [.int z])) := c4.trans (st5 _ (Steps.refl _))
  have c7 : Steps p.tables e below (s₁.setTop (entryFrame m #[.ref a, .ref b, .int (Int32.ofNat o), .int (Int32.ofNat len), .null] 6)) (T5.setTop (mkF m 36 #[.val (.ref a), .val (.ref b), .val (.int (Int32.ofNat o)), .val (.int (Int32.ofNat len)), .val .null, .unset] [.int (Int32.ofNat len), .int (Int32.ofNat o), .ref b])) := c6.trans (by
    refine XS.ifNo X5.here hexec rfl (hb hbytes d30) rfl (i0_eq_f hz) ?_
    refine XS.aloadN X5.here hexec rfl (hb hbytes d33) rfl rfl ?_
    refine XS.iloadN X5.here hexec rfl (hb hbytes d34) rfl ?_
    refine XS.iloadN X5.here hexec rfl (hb hbytes d35) rfl ?_
    exact Steps.refl _)
  obtain ⟨v8, T8, X8, E8, g8⟩ := X5.callS hexec (Cmp3.law l b A o len) hown (wks W (staticW "java/lang/String" 177 Cmp3.yN)) (wk W Cmp3.tab) (W := 0) (Nat.le_of_ble_eq_true rfl) (Nat.le_of_ble_eq_true rfl) (Nat.le_refl _) (by show 0 + len ≤ len; omega) (g := (mkF m 36 #[.val (.ref a), .val (.ref b), .val (.int (Int32.ofNat o)), .val (.int (Int32.ofNat len)), .val .null, .unset] [.int (Int32.ofNat len), .int (Int32.ofNat o), .ref b])) rfl (by rw [hml]; rfl) c7 (argsL := [.ref b, .int (Int32.ofNat o), .int (Int32.ofNat len)]) (rest := []) rfl rfl (by show 2 * 0 + 0 ≤ _; decide) (hb hbytes d36) (⟨rfl, hA.mv X5.warmed.alike hh5, l1, l2, hp⟩)
  obtain ⟨e8, z8⟩ := E8
  obtain ⟨rfl, N, n1, n2, n3, n4, n5, n6⟩ := NewArr.mv _ T5 s _ _ hh5.symm (Vm.Alike.refl _) rfl e8
  rw [hh5] at z8
  have hB1 := hB.keep X8.warmed.alike (n6 _ _ hB.1)
  have hne : s.heap.size ≠ a := (Nat.ne_of_lt (Array.getElem?_eq_some_iff.mp hB.1).1).symm
  have c9 : Steps p.tables e below (s₁.setTop (entryFrame m #[.ref a, .ref b, .int (Int32.ofNat o), .int (Int32.ofNat len), .null] 6)) (T8.setTop (mkF m 39 #[.val (.ref a), .val (.ref b), .val (.int (Int32.ofNat o)), .val (.int (Int32.ofNat len)), .val .null, .unset] [.ref s.heap.size])) := g8
  have c10 : Steps p.tables e below (s₁.setTop (entryFrame m #[.ref a, .ref b, .int (Int32.ofNat o), .int (Int32.ofNat len), .null] 6)) (T8.setTop (mkF m 45 #[.val (.ref a), .val (.ref b), .val (.int (Int32.ofNat o)), .val (.int (Int32.ofNat len)), .val .null, .val (.ref s.heap.size)] [.int (Int32.ofNat N.slots.size), .ref s.heap.size, .ref a])) := by
    have hc : Steps p.tables e below (s₁.setTop (entryFrame m #[.ref a, .ref b, .int (Int32.ofNat o), .int (Int32.ofNat len), .null] 6)) (T8.setTop (mkF m 45 #[.val (.ref a), .val (.ref b), .val (.int (Int32.ofNat o)), .val (.int (Int32.ofNat len)), .val .null, .val (.ref s.heap.size)] [.int (Int32.ofNat len), .ref s.heap.size, .ref a])) := c9.trans (by
      refine XS.astore X8.here hexec rfl (hb hbytes d39) rfl rfl rfl ?_
      refine XS.aloadN X8.here hexec rfl (hb hbytes d41) rfl rfl ?_
      refine XS.aload X8.here hexec rfl (hb hbytes d42) rfl rfl ?_
      refine XS.iloadN X8.here hexec rfl (hb hbytes d44) rfl ?_
      exact Steps.refl _)
    rw [n4]; exact hc
  obtain ⟨v11, T11, X11, E11, g11⟩ := X8.callS hexec (CodL.law l s.heap.size N) hown (wks W (staticW "java/lang/String" 47 CodL.yN)) (wk W CodL.tab) (W := 1) (Nat.le_of_ble_eq_true rfl) (Nat.le_of_ble_eq_true rfl) (Nat.le_refl _) (by show 0 + len + 0 ≤ len; omega) (g := (mkF m 45 #[.val (.ref a), .val (.ref b), .val (.int (Int32.ofNat o)), .val (.int (Int32.ofNat len)), .val .null, .val (.ref s.heap.size)] [.int (Int32.ofNat N.slots.size), .ref s.heap.size, .ref a])) rfl (by rw [hml]; rfl) c10 (argsL := [.ref s.heap.size, .int (Int32.ofNat N.slots.size)]) (rest := [.ref a]) rfl rfl (by show 2 * 0 + (1 + 0) ≤ _; decide) (hb hbytes d45) (⟨rfl, n1⟩)
  obtain ⟨rfl, q11⟩ := E11
  have hB11 := hB1.mv (X8.warmed.alike.symm.trans X11.warmed.alike) q11
  have c12 : Steps p.tables e below (s₁.setTop (entryFrame m #[.ref a, .ref b, .int (Int32.ofNat o), .int (Int32.ofNat len), .null] 6)) (T11.setTop (mkF m 48 #[.val (.ref a), .val (.ref b), .val (.int (Int32.ofNat o)), .val (.int (Int32.ofNat len)), .val .null, .val (.ref s.heap.size)] [.int 0, .ref a])) := g11
  obtain ⟨T13, X13, p13, bl13, sl13, st13⟩ := X11.finit hexec hown (wk W (.fieldLink "java/lang/String" 15 "java/lang/String" "coder" "B")) (Or.inr ⟨_, (wk W (.laysFinal "java/lang/String" "java/lang/String" "coder" "B"))⟩) (Or.inl ⟨rfl, hnm⟩) f2 (Or.inl rfl) hB11 (t := .byte) (by decide +kernel) rfl (g := (mkF m 48 #[.val (.ref a), .val (.ref b), .val (.int (Int32.ofNat o)), .val (.int (Int32.ofNat len)), .val .null, .val (.ref s.heap.size)] [.int 0, .ref a])) rfl (rest := []) rfl (hb hbytes d48)
  have c14 : Steps p.tables e below (s₁.setTop (entryFrame m #[.ref a, .ref b, .int (Int32.ofNat o), .int (Int32.ofNat len), .null] 6)) (T13.setTop (mkF m 54 #[.val (.ref a), .val (.ref b), .val (.int (Int32.ofNat o)), .val (.int (Int32.ofNat len)), .val .null, .val (.ref s.heap.size)] [.ref s.heap.size, .ref a])) := (c12.trans (st13 _ (Steps.refl _))).trans (by
    refine XS.aloadN X13.here hexec rfl (hb hbytes d51) rfl rfl ?_
    refine XS.aload X13.here hexec rfl (hb hbytes d52) rfl rfl ?_
    exact Steps.refl _)
  obtain ⟨T15, X15, p15, bl15, sl15, st15⟩ := X13.finit hexec hown (wk W (.fieldLink "java/lang/String" 9 "java/lang/String" "value" "[B")) (Or.inr ⟨_, (wk W (.laysFinal "java/lang/String" "java/lang/String" "value" "[B"))⟩) (Or.inl ⟨rfl, hnm⟩) f1 (Or.inl rfl) bl13 (t := (.array .byte)) (by decide +kernel) rfl (g := (mkF m 54 #[.val (.ref a), .val (.ref b), .val (.int (Int32.ofNat o)), .val (.int (Int32.ofNat len)), .val .null, .val (.ref s.heap.size)] [.ref s.heap.size, .ref a])) rfl (rest := []) rfl (hb hbytes d54)
  have c16 : Steps p.tables e below (s₁.setTop (entryFrame m #[.ref a, .ref b, .int (Int32.ofNat o), .int (Int32.ofNat len), .null] 6)) (T15.setTop (mkF m 57 #[.val (.ref a), .val (.ref b), .val (.int (Int32.ofNat o)), .val (.int (Int32.ofNat len)), .val .null, .val (.ref s.heap.size)] [])) := c14.trans (st15 _ (Steps.refl _))
  have ap := apart (Or.inr ⟨_, (wk W (.laysFinal "java/lang/String" "java/lang/String" "value" "[B"))⟩) (Or.inr ⟨_, (wk W (.laysFinal "java/lang/String" "java/lang/String" "coder" "B"))⟩) f1 f2 (t₁ := .array .byte) (t₂ := .byte) (by decide +kernel) (by decide +kernel) (by decide)
  have al := X8.warmed.alike.symm.trans X15.warmed.alike
  have n7 : T11.heap[s.heap.size]? = some N := by rw [q11]; exact n1.1
  exact ⟨T15, none, _, _, _, X15, by simp, rfl, by omega, (fun _ => rfl), ⟨rfl, _, N, bl15, ((Same.refl D _).set _ (by simp)).set _ (by simp), sl15, (Cell.slots_setSlot_ne _ ap).trans sl13, n1.keep al (p15.other hne (p13.other hne n7)), n2, by rw [al.findClass]; exact n3, n4, n5, fun y c h1 h2 => p15.other h1 (p13.other h1 (by rw [q11]; exact n6 y c h2)), by rw [p15.2.2, p13.2.2, q11]; exact z8⟩, fun fs hl => c16.trans (X15.returnOut hexec hret (hb hbytes d57) hl)⟩
end New4
namespace New1
def yN : MethodName := ⟨"java/lang/String", "<init>", "([C)V"⟩
abbrev yB : ByteArray := jdk_42_method_3_code
theorem d0 : decode yB 0 = .ok (.aload_n 0, 1) := by decide +kernel
theorem d1 : decode yB 1 = .ok (.aload_n 1, 1) := by decide +kernel
theorem d2 : decode yB 2 = .ok (.iconst 0, 1) := by decide +kernel
theorem d3 : decode yB 3 = .ok (.aload_n 1, 1) := by decide +kernel
theorem d4 : decode yB 4 = .ok (.arraylength, 1) := by decide +kernel
theorem d5 : decode yB 5 = .ok (.aconst_null, 1) := by decide +kernel
theorem d6 : decode yB 6 = .ok (.invokespecial 27, 3) := by decide +kernel
theorem d9 : decode yB 9 = .ok (.return_, 1) := by decide +kernel
def site : List Cond := [New4.tab] ++ initW "java/lang/String" 27 New4.yN
def tab : Cond := tabOf yN yB 2 none site
def P (a : Addr) (D : Cell) (fV fC : Field) (b : Addr) (A : Cell) (z : Int32) (args : Array Value) (s : State) : Prop := args = #[.ref a, .ref b] ∧ Blank "java/lang/String" a D s ∧ Found "java/lang/String" "value" "[B" fV s ∧ Found "java/lang/String" "coder" "B" fC s ∧ Ch b A s ∧ StaticIs s "java/lang/String" "COMPACT_STRINGS" "Z" (.int z) ∧ ¬ z = 0 ∧ 0 < A.slots.size ∧ A.slots.size ≤ 536870912 ∧ ∀ i, i < A.slots.size → ¬ 255 < cv A i
def E (a : Addr) (D : Cell) (fV fC : Field) (A : Cell) (r : Option Value) (s u : State) : Prop := Got a D fV fC A 0 A.slots.size r s u
/-- new String(chars), not empty, no char above 255: a Latin-1 String of their low bytes -/
theorem law (l : Launch) (a : Addr) (D : Cell) (fV fC : Field) (b : Addr) (A : Cell) (z : Int32) : Law l yN 2 1 3 52 yB 2 none site (P a D fV fC b A z) (E a D fV fC A) [⟨a, fC.slot⟩, ⟨a, fV.slot⟩] 1 A.slots.size := by
  refine Law.of_walk (plainFor_of_name (by decide +kernel)) (by decide +kernel) (by decide +kernel) (by decide) (fun _ _ h => by rw [h.1]; rfl) (fun _ U U' hal hh h => ⟨h.1, h.2.1.mv hal hh, h.2.2.1.al hal, h.2.2.2.1.al hal, h.2.2.2.2.1.mv hal hh, h.2.2.2.2.2.1.there hal hh, h.2.2.2.2.2.2⟩) (fun r U U' V V' h1 hal h2 h => Got.mv r U U' V V' h1 hal h2 h) ?_
  intro p e s m args below meth c s₁ X0 hexec hbytes hml hret hlk hnm hown hh0 W hP
  obtain ⟨rfl, hB, f1, f2, hA, s1, hz, l0, l2, hp⟩ := hP
  have c1 : Steps p.tables e below (s₁.setTop (entryFrame m #[.ref a, .ref b] 2)) (s₁.setTop (mkF m 0 #[.val (.ref a), .val (.ref b)] [])) := entry rfl
  have c2 : Steps p.tables e below (s₁.setTop (entryFrame m #[.ref a, .ref b] 2)) (s₁.setTop (mkF m 6 #[.val (.ref a), .val (.ref b)] [.null, .int (Int32.ofNat A.slots.size), .int 0, .ref b, .ref a])) := c1.trans (by
    refine XS.aloadN X0.here hexec rfl (hb hbytes d0) rfl rfl ?_
    refine XS.aloadN X0.here hexec rfl (hb hbytes d1) rfl rfl ?_
    refine iconstV X0.here hexec rfl 0 (hb hbytes d2) (by decide) ?_
    refine XS.aloadN X0.here hexec rfl (hb hbytes d3) rfl rfl ?_
    refine X0.alen hexec (hA.1.mv X0.warmed.alike hh0) rfl rfl (hb hbytes d4) ?_
    refine XS.aconstNull X0.here hexec rfl (hb hbytes d5) ?_
    exact Steps.refl _)
  obtain ⟨v3, T3, X3, E3, g3⟩ := X0.callN hexec (New4.law l a D fV fC b A z 0 A.slots.size) rfl hown (wks W (initW "java/lang/String" 27 New4.yN)) (W New4.tab (by simp only [site, List.mem_cons, List.mem_append, true_or, or_true])) (W := 0) (Nat.le_of_ble_eq_true rfl) (Nat.le_of_ble_eq_true rfl) (Nat.le_refl _) (by show 0 + A.slots.size ≤ A.slots.size; omega) (g := (mkF m 6 #[.val (.ref a), .val (.ref b)] [.null, .int (Int32.ofNat A.slots.size), .int (Int32.ofNat 0), .ref b, .ref a])) rfl (by rw [hml]; rfl) c2 (argsL := [.ref b, .int (Int32.ofNat 0), .int (Int32.ofNat A.slots.size), .null]) (rest := []) rfl rfl (by show 2 * 0 + 0 ≤ _; decide) (hb hbytes d6) (⟨rfl, hB.mv X0.warmed.alike hh0, f1.al X0.warmed.alike, f2.al X0.warmed.alike, hA.mv X0.warmed.alike hh0, s1.there X0.warmed.alike hh0, hz, l0, by omega, l2, fun i hi => by rw [Nat.zero_add]; exact hp i hi⟩)
  have e0 := Got.mv _ s₁ s _ _ hh0.symm (Vm.Alike.refl _) rfl E3
  obtain rfl := e0.1
  have c4 : Steps p.tables e below (s₁.setTop (entryFrame m #[.ref a, .ref b] 2)) (T3.setTop (mkF m 9 #[.val (.ref a), .val (.ref b)] [])) := g3
  exact ⟨T3, none, _, _, _, X3, by simp, rfl, by omega, (fun _ => rfl), e0, fun fs hl => c4.trans (X3.returnOut hexec hret (hb hbytes d9) hl)⟩
theorem pays {l : Launch} {R : Room} {p : Program} {e : Env} {below : List Frame} {s : State} {sargs : Array Value} {len W : Nat} (a : Addr) (D : Cell) (fV fC : Field) (b : Addr) (A : Cell) (z : Int32) (htab : tab.before sargs s = true) (hfr : 4 ≤ R.frames) (hlo : W + 65 ≤ R.locals) :
    Back l R p e below s sargs yN len W (fun A₁ a₁ => A₁.cells + 1 ≤ R.cells ∧ A₁.slots + A.slots.size ≤ R.slots ∧ P a D fV fC b A z a₁ A₁.U) (fun A₁ _ v₁ B₁ => E a D fV fC A v₁ A₁.U B₁.U ∧ B₁.locs = A₁.locs ++ [⟨a, fC.slot⟩, ⟨a, fV.slot⟩] ∧ B₁.cells = A₁.cells + 1 ∧ B₁.slots = A₁.slots + A.slots.size) :=
  (law l a D fV fC b A z).pays htab hfr (by omega)
end New1
/-- the byte, read back as charAt reads it, is the char -/
theorem lo8_mask {x : Int32} (h0 : ¬ x < 0) (h1 : ¬ 255 < x) : lo8 x &&& 255 = x := by
  have t : ∀ k : Fin 256, lo8 (Int32.ofNat k.val) &&& 255 = Int32.ofNat k.val := by decide +kernel
  rw [Int32.lt_iff_toInt_lt] at h0 h1
  have e0 : (0 : Int32).toInt = 0 := rfl
  have e1 : (255 : Int32).toInt = 255 := rfl
  obtain ⟨k, hk⟩ : ∃ k : Nat, x.toInt = k := ⟨x.toInt.toNat, by omega⟩
  have hx : x = Int32.ofNat k := Int32.toInt_inj.mp (by rw [hk, Int32.toInt_ofNat_small (by omega)])
  rw [hx]
  exact t ⟨k, by omega⟩
end StrChars
namespace StrChars.Road
open Jvm Sem ClassFile Op Lib Jvm.Stand Jvm.Free Jvm.Free.XT
open Jvm.Lib.Cold (StaticIs)
abbrev ST : String := "java/lang/String"
/-- every table word that New1's law asks, flat -/
abbrev words : List Jvm.Cond := [.code New1.yN New1.yB 2 none, .initialized ST, .methodLink ST 27 New4.yN, .instanceMethod New4.yN,
  .code New4.yN New4.yB 6 none, .fieldLink ST 38 ST "COMPACT_STRINGS" "Z", .laysFinal ST ST "value" "[B", .fieldLink ST 9 ST "value" "[B", .laysFinal ST ST "coder" "B", .fieldLink ST 15 ST "coder" "B",
  .methodLink ST 1 Lib.objectInit, .instanceMethod Lib.objectInit, .code Lib.objectInit ⟨#[0xb1]⟩ 1 none, .methodLink ST 177 Cmp3.yN, .static Cmp3.yN, .methodLink ST 47 CodL.yN, .static CodL.yN,
  .code Cmp3.yN Cmp3.yB 6 (some (.array .byte)), .initialized U16, .arrayClass .byte, .methodLink U16 115 Cmp5.yN, .static Cmp5.yN, .code Cmp5.yN Cmp5.yB 7 (some .int), .code CodL.yN CodL.yB 2 (some .byte)]
theorem tab_of {a : Array Value} {s : State} (h : ∀ w ∈ words, w.before a s = true) : New1.tab.before a s = true := by
  have h5 : Cmp5.tab.before a s = true := unparts (wk h (.code Cmp5.yN Cmp5.yB 7 (some .int))) (wks h (.initialized Cmp5.yN.cls :: Cmp5.site))
  have hc : CodL.tab.before a s = true := unparts (wk h (.code CodL.yN CodL.yB 2 (some .byte))) (wks h (.initialized CodL.yN.cls :: CodL.site))
  have q5 : ∀ w ∈ Cmp5.tab :: words, w.before a s = true := fun w hw => (List.mem_cons.mp hw).elim (fun e => e ▸ h5) (h w)
  have h3 : Cmp3.tab.before a s = true := unparts (wk q5 (.code Cmp3.yN Cmp3.yB 6 (some (.array .byte)))) (wks q5 (.initialized Cmp3.yN.cls :: Cmp3.site))
  have q3 : ∀ w ∈ Cmp3.tab :: CodL.tab :: words, w.before a s = true := fun w hw => (List.mem_cons.mp hw).elim (fun e => e ▸ h3) fun hw => (List.mem_cons.mp hw).elim (fun e => e ▸ hc) (h w)
  have h4 : New4.tab.before a s = true := unparts (wk q3 (.code New4.yN New4.yB 6 none)) (wks q3 (.initialized New4.yN.cls :: New4.site))
  have q4 : ∀ w ∈ New4.tab :: words, w.before a s = true := fun w hw => (List.mem_cons.mp hw).elim (fun e => e ▸ h4) (h w)
  exact unparts (wk q4 (.code New1.yN New1.yB 2 none)) (wks q4 (.initialized New1.yN.cls :: New1.site))
/-- the words ride from the start Z to the walk's own state -/
theorem moved {Z s : State} {a0 args : Array Value} (hZ : Z.Warmed39 s.vm) (hw : ∀ d ∈ words, d.before a0 Z = true) : ∀ d ∈ words, d.before args s = true := fun d hd => by
  have q := hw d hd
  have t : ∀ d ∈ words, d = .arrayClass .byte ∨ (d.onTables && d.keepsFace) = true := by decide +kernel
  rcases t d hd with rfl | t
  · exact RoadKit.mvA hZ q
  · exact RoadKit.mv hZ q t
/-- WHAT COMES BACK, over the tables of the start Z: h the heap at the call, h' behind it -/
def Q (Z : State) (x : Addr) (A : Cell) (h : Heap) (v : Option Value) (h' : Heap) (L : List Loc) : Prop := v = none ∧ (∀ y ∈ L, y.base = x) ∧ RoadKit.Keep h h' [x] ∧ h'.size = h.size + 1 ∧ RoadKit.Exa Z h' x ST ∧ RoadKit.Fld Z h' x ST "value" "[B" (.ref h.size) ∧ RoadKit.Fld Z h' x ST "coder" "B" (.int 0) ∧
  (∃ V : Cell, RoadKit.Arr Z h' h.size V .byte ∧ V.vm = .none ∧ Z.vm.findClass "[B" = some V.cls ∧ V.slots.size = A.slots.size ∧ ∀ j, j < A.slots.size → V.slots[j]? = some (.int (lo8 (cv A j)))) ∧
  ∀ (O n d : String) (w : Value), RoadKit.Fld Z h x O n d w → RoadKit.slotOf Z O n d ≠ RoadKit.slotOf Z ST "value" "[B" → RoadKit.slotOf Z O n d ≠ RoadKit.slotOf Z ST "coder" "B" → RoadKit.Fld Z h' x O n d w
/-- **new String(chars) AT A CALL, IN THE ROAD'S FORM**: for specialBack behind newO: x the fresh String, b the char[] with the cell A -/
theorem back {p : Program} {l : Launch} {e : Env} {R : Room} {s : State} {args : Array Value} {below : List Frame} {len W : Nat} {Z : State} {a0 : Array Value} {h : Heap} (hZ : Z.Warmed39 s.vm) (hw : ∀ d ∈ words, d.before a0 Z = true) {kI : Nat} (wi : (Jvm.Cond.instantiable ST kI).before a0 Z = true)
    {x b : Addr} {A : Cell} {z : Int32} {v0 c0 : Value} (E : RoadKit.Exa Z h x ST) (V : RoadKit.Fld Z h x ST "value" "[B" v0) (C : RoadKit.Fld Z h x ST "coder" "B" c0) (K : RoadKit.Arr Z h b A .char) (hty : Typed .char A) (S : RoadKit.Sta Z h ST "COMPACT_STRINGS" "Z" (.int z)) (hz : ¬ z = 0)
    (l0 : 0 < A.slots.size) (l2 : A.slots.size ≤ 536870912) (hp : ∀ i, i < A.slots.size → ¬ 255 < cv A i) (hfr : 4 ≤ R.frames) (hlo : W + 65 ≤ R.locals) :
    Back l R p e below s args New1.yN len W (fun P a => a = #[.ref x, .ref b] ∧ P.U.heap = h ∧ P.cells + 1 ≤ R.cells ∧ P.slots + A.slots.size ≤ R.slots)
      (fun P _ v B => ∃ L, Q Z x A h v B.U.heap L ∧ B.locs = P.locs ++ L ∧ B.cells = P.cells + 1 ∧ B.slots = P.slots + A.slots.size) := by
  intro m meth c P g ig mk a X hg hsize hdg hW hn hp'
  obtain ⟨rfl, rfl, r1, r2⟩ := hp'
  have al : Z.vm.Alike P.U.vm := hZ.alike.trans X.warmed.alike
  obtain ⟨D, cfV, kV, iV, fV, hD, gV, stV, knV, obV, asV, slV⟩ := id V
  obtain ⟨D', cfC, kC, iC, fC, hD', gC, stC, -, -, asC, slC⟩ := id C
  cases hD.symm.trans hD'
  obtain ⟨D2, kD, e1, e2, e3, e4, e5⟩ := id E
  cases hD.symm.trans e1
  obtain ⟨c2, k2, i1, i2, i3, -⟩ := Cond.instantiable_spec wi
  cases e2.symm.trans i1
  cases e3.symm.trans i2
  obtain ⟨kU, u1, u2⟩ := al.2.2 _ _ e3
  have hB : Blank ST x D P.U := ⟨hD, ⟨knV, fun q hq => by rw [hq] at obV; cases obV⟩, by rw [al.findClass]; exact e2, kU, u1, by rw [u2]; exact i3, by rw [u2]; exact e5 i3⟩
  have F1 : Found ST "value" "[B" fV P.U := ⟨SBG.found_only al ⟨cfV, kV, iV, gV⟩, stV⟩
  have F2 : Found ST "coder" "B" fC P.U := ⟨SBG.found_only al ⟨cfC, kC, iC, gC⟩, stC⟩
  have hA : Ch b A P.U := ⟨⟨K.1, State.isArrayOf_alike al K.2.1, K.2.2, by omega⟩, hty⟩
  have hS : StaticIs P.U ST "COMPACT_STRINGS" "Z" (.int z) := by
    obtain ⟨cfS, iS, kS, fS, st, cS, t1, t2, t3, t4, t5, t6, t7⟩ := S
    exact StaticIs.there (s := { Z with heap := P.U.heap }) ⟨cfS, iS, kS, fS, st, cS, t1, t2, t3, t4, t5, (fun q => by rw [q] at t6; cases t6), t7⟩ al rfl
  obtain ⟨v, B, X', ⟨⟨hv, E', V', q1, q2, q3, q4, q5, q6, q7, q8, q9, q10, q11⟩, hl, hc, hs⟩, st⟩ := New1.pays x D fV fC b A z (tab_of (moved hZ hw)) hfr hlo m meth c P g ig mk _ X hg hsize hdg hW hn ⟨r1, r2, rfl, hB, F1, F2, hA, hS, hz, l0, l2, hp⟩
  have al' : Z.vm.Alike B.U.vm := hZ.alike.trans X'.warmed.alike
  have hsz : E'.slots.size = D.slots.size := by
    obtain ⟨-, -, -, kB, w1, w2, w3⟩ := q1
    obtain ⟨kB', y1, y2⟩ := al'.2.2 _ _ e3
    rw [q2.2.1] at w1
    cases w1.symm.trans y1
    rw [w3, e5 i3, y2]
  refine ⟨v, B, X', ⟨_, ⟨hv, ?_, ⟨by omega, fun y cy hy hn' => q10 y cy (by simpa using hn') hy, fun y cy hy => ?_⟩, q11, ⟨E', _, q1.1, by rw [q2.2.1]; exact e2, by rw [q2.2.1]; exact e3, by rw [q2.1]; exact obV, fun _ => by rw [hsz]; exact e5 i3⟩,
    ⟨E', cfV, kV, iV, fV, q1.1, gV, stV, by rw [q2.1]; exact knV, by rw [q2.1]; exact obV, by rw [q2.2.1]; exact asV, q3⟩, ⟨E', cfC, kC, iC, fC, q1.1, gC, stC, by rw [q2.1]; exact knV, by rw [q2.1]; exact obV, by rw [q2.2.1]; exact asC, q4⟩,
    ⟨V', ⟨q5.1, State.isArrayOf_alike al'.symm q5.2.1, q5.2.2.1⟩, q6, by rw [← al'.findClass]; exact q7, q8, fun j hj => by have := q9 j hj; rwa [Nat.zero_add] at this⟩, fun O n d w F n1 n2 => ?_⟩, hl, hc, hs⟩, st⟩
  · intro y hy
    simp only [List.mem_cons, List.not_mem_nil, or_false] at hy
    rcases hy with rfl | rfl <;> rfl
  · by_cases q : y = x
    · subst q
      cases hD.symm.trans hy
      exact ⟨E', q1.1, q2.2.1, q2.1, hsz⟩
    · exact ⟨cy, q10 y cy q hy, rfl, rfl, rfl⟩
  · obtain ⟨D3, cf, k, i, f, g1, g2, g3, g4, g5, g6, g7⟩ := F
    cases hD.symm.trans g1
    simp only [RoadKit.slotOf, g2, gV, gC, Option.map_some, Option.getD_some] at n1 n2
    exact ⟨E', cf, k, i, f, q1.1, g2, g3, by rw [q2.1]; exact g4, by rw [q2.1]; exact g5, by rw [q2.2.1]; exact g6, by rw [q2.2.2 f.slot (by simp [n1, n2])]; exact g7⟩
end StrChars.Road
namespace StrChars.Road
open Jvm Sem ClassFile Op Lib Jvm.Stand Jvm.Free Jvm.Free.XT
/-- WHAT COMES BACK, the byte[] as a list of values -/
def QA (Z : State) (x : Addr) (zn : Int32) (cs : List Int32) (h : Heap) (v : Option Value) (h' : Heap) (L : List Loc) : Prop := v = none ∧ (∀ y ∈ L, y.base = x) ∧ RoadKit.Keep h h' [x] ∧ h'.size = h.size + 1 ∧ RoadKit.Exa Z h' x ST ∧ RoadKit.Fld Z h' x ST "value" "[B" (.ref h.size) ∧ RoadKit.Fld Z h' x ST "coder" "B" (.int 0) ∧
  (∃ kb, Z.vm.findClass "[B" = some kb ∧ RoadKit.Arv Z h' h.size kb .byte zn (cs.map fun c => .int (lo8 c)) (.int 0)) ∧
  ∀ (O n d : String) (w : Value), RoadKit.Fld Z h x O n d w → RoadKit.slotOf Z O n d ≠ RoadKit.slotOf Z ST "value" "[B" → RoadKit.slotOf Z O n d ≠ RoadKit.slotOf Z ST "coder" "B" → RoadKit.Fld Z h' x O n d w
/-- **new String(chars) AT A CALL, THE ARRAYS AS LISTS**: the char[] at b holds cs, not empty, no char above 255 -/
theorem backArv {p : Program} {l : Launch} {e : Env} {R : Room} {s : State} {args : Array Value} {below : List Frame} {len W : Nat} {Z : State} {a0 : Array Value} {h : Heap} (hZ : Z.Warmed39 s.vm) (hw : ∀ d ∈ words, d.before a0 Z = true) {kI : Nat} (wi : (Jvm.Cond.instantiable ST kI).before a0 Z = true)
    {x b : Addr} {k : ClassId} {zn z : Int32} {cs : List Int32} {dv v0 c0 : Value} (E : RoadKit.Exa Z h x ST) (V : RoadKit.Fld Z h x ST "value" "[B" v0) (C : RoadKit.Fld Z h x ST "coder" "B" c0) (K : RoadKit.Arv Z h b k .char zn (cs.map Value.int) dv) (S : RoadKit.Sta Z h ST "COMPACT_STRINGS" "Z" (.int z)) (hz : ¬ z = 0)
    (hlen : zn.toNatClampNeg = cs.length) (h0 : 0 < cs.length) (hbig : cs.length ≤ 536870912) (hall : ∀ c ∈ cs, ¬ 255 < c) (hfr : 4 ≤ R.frames) (hlo : W + 65 ≤ R.locals) :
    Back l R p e below s args New1.yN len W (fun P a => a = #[.ref x, .ref b] ∧ P.U.heap = h ∧ P.cells + 1 ≤ R.cells ∧ P.slots + cs.length ≤ R.slots)
      (fun P _ v B => ∃ L, QA Z x zn cs h v B.U.heap L ∧ B.locs = P.locs ++ L ∧ B.cells = P.cells + 1 ∧ B.slots = P.slots + cs.length) := by
  obtain ⟨A, K1, K2, K3, K4, K5, K6⟩ := K
  have e : A.slots.size = cs.length := K3.trans hlen
  have hat : ∀ (i : Nat) (hi : i < cs.length), A.slots[i]? = some (.int cs[i]) := fun i hi => by rw [K5 i (by omega)]; simp [List.getD_eq_getElem?_getD, hi]
  have hcv : ∀ (i : Nat) (hi : i < cs.length), cv A i = cs[i] := fun i hi => by unfold cv; rw [hat i hi]
  have hty : Typed .char A := fun i v hv => by
    have hi : i < A.slots.size := (Array.getElem?_eq_some_iff.mp hv).1
    have q := K5 i hi
    rw [hv] at q
    rw [Option.some.inj q]
    exact K6 i hi
  refine Back.mono (back hZ hw wi E V C K1 hty S hz (by omega) (by omega) (fun i hi => by rw [hcv i (by omega)]; exact hall _ (List.getElem_mem _)) hfr hlo) (fun P a hp => ⟨hp.1, hp.2.1, hp.2.2.1, by rw [e]; exact hp.2.2.2⟩) (fun P a v B hp hq => ?_)
  obtain ⟨L, ⟨q1, q2, q3, q4, q5, q6, q7, ⟨V', v1, v2, v3, v4, v5⟩, q9⟩, hl, hc, hs⟩ := hq
  refine ⟨L, ⟨q1, q2, q3, q4, q5, q6, q7, ⟨V'.cls, v3, V', v1, rfl, by rw [v4, e, hlen], K4, fun i hi => ?_, fun i hi => ?_⟩, q9⟩, hl, hc, by rw [hs, e]⟩
  · have hi' : i < cs.length := by omega
    rw [v5 i (by omega), hcv i hi']; simp [List.getD_eq_getElem?_getD, hi']
  · have hi' : i < cs.length := by omega
    simp only [List.getD_eq_getElem?_getD, List.getElem?_map, List.getElem?_eq_getElem hi', Option.map_some, Option.getD_some]
    exact fits_lo8 _
end StrChars.Road
namespace StrChars.Road
open Jvm Sem ClassFile Op Lib Jvm.Stand Jvm.Free Jvm.Free.XT
/-- WHAT COMES BACK, in the writer's own shape -/
def QV (Z : State) (x : Addr) (N : Int32) (bs : List Int32) (h : Heap) (n0 : Nat) (v : Option Value) (h' : Heap) (L : List Loc) : Prop := v = none ∧ RoadKit.Fr n0 L ∧ RoadKit.Keep h h' [x] ∧ RoadKit.Exa Z h' x ST ∧ RoadKit.Fld Z h' x ST "coder" "B" (.int 0) ∧
  ∃ (t : Addr) (kb : ClassId), n0 ≤ t ∧ h.size ≤ t ∧ ¬ t = x ∧ RoadKit.Fld Z h' x ST "value" "[B" (.ref t) ∧ RoadKit.Arv Z h' t kb .byte N (bs.map Value.int) (.int 0)
/-- **new String(chars) AT A CALL, FOR THE WRITER**: a char[] of n known ints, each 0 to 255 -/
theorem backV {p : Program} {l : Launch} {e : Env} {R : Room} {s : State} {args : Array Value} {below : List Frame} {len W : Nat} {Z : State} {a0 : Array Value} {h : Heap} (hZ : Z.Warmed39 s.vm) (hw : ∀ d ∈ words, d.before a0 Z = true) {kI : Nat} (wi : (Jvm.Cond.instantiable ST kI).before a0 Z = true)
    {x b : Addr} {kC : ClassId} {cs bs : List Int32} {d v0 c0 : Value} {z N : Int32} {n n0 : Nat} (hx0 : n0 ≤ x) (hh0 : n0 ≤ h.size) (E : RoadKit.Exa Z h x ST) (V : RoadKit.Fld Z h x ST "value" "[B" v0) (C : RoadKit.Fld Z h x ST "coder" "B" c0) (K : RoadKit.Arv Z h b kC .char N (cs.map Value.int) d) (S : RoadKit.Sta Z h ST "COMPACT_STRINGS" "Z" (.int z)) (hz : ¬ z = 0)
    (hn : cs.length = n) (hN : N = Int32.ofNat n) (l0 : 0 < n) (l2 : n ≤ 4000) (hp : ∀ c ∈ cs, ¬ c < 0 ∧ ¬ (255 : Int32) < c) (hb : bs = cs.map (fun c => c.toInt8.toInt32)) (hfr : 4 ≤ R.frames) (hlo : W + 65 ≤ R.locals) :
    Back l R p e below s args (⟨"java/lang/String", "<init>", "([C)V"⟩ : MethodName) len W (fun P a => a = #[.ref x, .ref b] ∧ P.U.heap = h ∧ P.cells + 1 ≤ R.cells ∧ P.slots + n ≤ R.slots)
      (fun P _ v B => ∃ L, QV Z x N bs h n0 v B.U.heap L ∧ B.locs = P.locs ++ L ∧ B.cells = P.cells + 1 ∧ B.slots = P.slots + n) := by
  subst hn hN hb
  refine Back.mono (backArv hZ hw wi E V C K S hz (n32 (by omega)) l0 (by omega) (fun c hc => (hp c hc).2) hfr hlo) (fun P a hp => hp) (fun P a v B hp hq => ?_)
  obtain ⟨L, ⟨q1, q2, q3, q4, q5, q6, q7, ⟨kb, v1, v2⟩, q9⟩, hl, hc, hs⟩ := hq
  exact ⟨L, ⟨q1, fun y hy => by rw [q2 y hy]; exact hx0, q3, q5, q7, h.size, kb, hh0, Nat.le_refl _, Nat.ne_of_gt E.lt, q6, by rw [List.map_map]; exact v2⟩, hl, hc, hs⟩
end StrChars.Road
namespace StrChars
open Jvm Sem ClassFile Op Lib Jvm.Stand Jvm.Free.XT Jvm.Free.ALB Jvm.Free.JM Jvm.Free
open Jvm.Lib.Cold (StaticIs)
def hi8 (x : Int32) : Int32 := lo8 (x >>> ((8 : Int32) &&& 31))
/-- what StringUTF16.getChar makes of two bytes -/
def pairCh (u v : Int32) : Int32 := (((u &&& 255) <<< ((0 : Int32) &&& 31)) ||| ((v &&& 255) <<< ((8 : Int32) &&& 31))).toUInt32.toUInt16.toUInt32.toInt32
theorem lo8_and (x : Int32) : (lo8 x &&& 255).toBitVec.toNat = x.toBitVec.toNat % 256 := by
  have h : (lo8 x).toBitVec = (x.toBitVec.signExtend 8).signExtend 32 := by rw [lo8, Int8.toBitVec_toInt32, Int32.toBitVec_toInt8]
  rw [Int32.toBitVec_and, BitVec.toNat_and, h]
  have e : ((x.toBitVec.signExtend 8).signExtend 32).toNat % 256 = x.toBitVec.toNat % 256 := by
    rw [BitVec.toNat_signExtend]
    have hlt := x.toBitVec.isLt
    simp only [BitVec.toNat_setWidth, BitVec.toNat_signExtend]
    split <;> split <;> omega
  rw [← e]
  exact Nat.and_two_pow_sub_one_eq_mod _ 8
theorem pair_says {c : Int32} (h0 : ¬ c < 0) (h1 : ¬ 65535 < c) : pairCh (lo8 c) (hi8 c) = c := by
  rw [Int32.lt_iff_toInt_lt] at h0 h1
  have e0 : (0 : Int32).toInt = 0 := rfl
  have e1 : (65535 : Int32).toInt = 65535 := rfl
  have hc : c.toInt = c.toBitVec.toNat := by
    have := c.toBitVec.isLt
    have e : c.toInt = c.toBitVec.toInt := rfl
    rw [e] at h0 h1
    rw [e]
    rw [BitVec.toInt_eq_toNat_cond] at h0 h1 ⊢
    split at h0 <;> split <;> omega
  have hn : c.toBitVec.toNat < 65536 := by omega
  have a1 := lo8_and c
  have a2 : (hi8 c &&& 255).toBitVec.toNat = c.toBitVec.toNat / 256 := by
    rw [hi8, lo8_and]
    have e : ((8 : Int32) &&& 31) = 8 := by decide
    rw [e, Int32.toBitVec_shiftRight]
    have e2 : ((8 : Int32).toBitVec.smod 32) = 8#32 := by decide
    rw [e2, BitVec.sshiftRight_eq', BitVec.toNat_sshiftRight_of_msb_false (by rw [BitVec.msb_eq_false_iff_two_mul_lt]; omega)]
    show c.toBitVec.toNat >>> 8 % 256 = _
    rw [Nat.shiftRight_eq_div_pow]
    omega
  unfold pairCh
  apply Int32.toBitVec_inj.mp
  apply BitVec.eq_of_toNat_eq
  have f0 : ((0 : Int32) &&& 31) = 0 := by decide
  have f8 : ((8 : Int32) &&& 31) = 8 := by decide
  rw [f0, f8]
  have g : (((lo8 c &&& 255) <<< (0 : Int32)) ||| ((hi8 c &&& 255) <<< (8 : Int32))).toBitVec.toNat = c.toBitVec.toNat := by
    rw [Int32.toBitVec_or, Int32.toBitVec_shiftLeft, Int32.toBitVec_shiftLeft]
    have s0 : ((0 : Int32).toBitVec.smod 32) = 0#32 := by decide
    have s8 : ((8 : Int32).toBitVec.smod 32) = 8#32 := by decide
    rw [s0, s8, BitVec.toNat_or]
    simp only [BitVec.shiftLeft_eq', BitVec.toNat_shiftLeft, a1, a2]
    show (c.toBitVec.toNat % 256) <<< 0 % 2 ^ 32 ||| (c.toBitVec.toNat / 256) <<< 8 % 2 ^ 32 = _
    rw [Nat.shiftLeft_zero, Nat.mod_eq_of_lt (show c.toBitVec.toNat % 256 < 2 ^ 32 by omega), Nat.mod_eq_of_lt (show (c.toBitVec.toNat / 256) <<< 8 < 2 ^ 32 by rw [Nat.shiftLeft_eq]; omega), Nat.or_comm, ← Nat.shiftLeft_add_eq_or_of_lt (by omega), Nat.shiftLeft_eq]
    omega
  show BitVec.toNat (((((lo8 c &&& 255) <<< (0 : Int32)) ||| ((hi8 c &&& 255) <<< (8 : Int32))).toBitVec.setWidth 16).setWidth 32) = _
  rw [BitVec.toNat_setWidth, BitVec.toNat_setWidth, g]
  omega
end StrChars
namespace StrChars
open Jvm Sem ClassFile Op Lib Jvm.Stand Jvm.Free.XT Jvm.Free.ALB Jvm.Free.JM Jvm.Free
open Jvm.Lib.Cold (StaticIs)
/-- the array's cell V codes the n chars f 0 .. f (n - 1) by the coder cd, as the JDK does: coder 1 just where some char is above 255 -/
def Cod (cd : Int32) (n : Nat) (f : Nat → Int32) (V : Cell) : Prop := (cd = 0 ∧ V.slots.size = n ∧ ∀ j, j < n → V.slots[j]? = some (.int (lo8 (f j))) ∧ ¬ 255 < f j) ∨ (cd = 1 ∧ V.slots.size = 2 * n ∧ (∀ j, j < n → V.slots[2 * j]? = some (.int (lo8 (f j))) ∧ V.slots[2 * j + 1]? = some (.int (hi8 (f j)))) ∧ ∃ j, j < n ∧ 255 < f j)
/-- **x is a String of the n chars f 0 .. f (n - 1)**, Latin-1 or UTF-16; its array at t has the cell V -/
def Txt (x t : Addr) (V : Cell) (cd : Int32) (n : Nat) (f : Nat → Int32) (U : State) : Prop := Exact "java/lang/String" x U ∧ Has x "java/lang/String" "value" "[B" (.ref t) U ∧ Has x "java/lang/String" "coder" "B" (.int cd) U ∧ XT.Arr .byte t V U ∧ Cod cd n f V ∧ ∀ j, j < n → ¬ f j < 0 ∧ ¬ 65535 < f j
theorem Txt.mv {x t : Addr} {V : Cell} {cd : Int32} {n : Nat} {f : Nat → Int32} {U U' : State} (h : Txt x t V cd n f U) (hal : U.vm.Alike U'.vm) (hh : U'.heap = U.heap) : Txt x t V cd n f U' := ⟨h.1.mv hal hh, h.2.1.mv hal hh, h.2.2.1.mv hal hh, h.2.2.2.1.mv hal hh, h.2.2.2.2⟩
end StrChars
namespace StrChars.Road
open Jvm Sem ClassFile Op Lib Jvm.Stand Jvm.Free Jvm.Free.XT
open Jvm.Lib.Cold (StaticIs)
theorem consq {a : Array Value} {s : State} {c : Jvm.Cond} {L : List Jvm.Cond} (h0 : c.before a s = true) (h : ∀ w ∈ L, w.before a s = true) : ∀ w ∈ c :: L, w.before a s = true := fun w hw => (List.mem_cons.mp hw).elim (fun e => e ▸ h0) (h w)
/-- the bytes of the chars cs, low before high -/
def wideBytes : List Int32 → List Value
  | [] => []
  | c :: cs => .int (lo8 c) :: .int (hi8 c) :: wideBytes cs
theorem wide_lo (d : Value) : ∀ (cs : List Int32) (j : Nat), j < cs.length → (wideBytes cs).getD (2 * j) d = .int (lo8 (cs.getD j 0))
  | [], j, h => absurd h (Nat.not_lt_zero j)
  | c :: cs, 0, _ => rfl
  | c :: cs, j + 1, h => by
    have q := wide_lo d cs j (by simpa using h)
    rw [show 2 * (j + 1) = 2 * j + 1 + 1 from by omega]
    simpa [wideBytes] using q
theorem wide_hi (d : Value) : ∀ (cs : List Int32) (j : Nat), j < cs.length → (wideBytes cs).getD (2 * j + 1) d = .int (hi8 (cs.getD j 0))
  | [], j, h => absurd h (Nat.not_lt_zero j)
  | c :: cs, 0, _ => rfl
  | c :: cs, j + 1, h => by
    have q := wide_hi d cs j (by simpa using h)
    rw [show 2 * (j + 1) + 1 = 2 * j + 1 + 1 + 1 from by omega]
    simpa [wideBytes] using q
theorem low_at (d : Value) (cs : List Int32) (j : Nat) (h : j < cs.length) : (cs.map fun c => Value.int (lo8 c)).getD j d = .int (lo8 (cs.getD j 0)) := by
  simp [List.getD_eq_getElem?_getD, h]
/-- an array of N2 bytes vs codes the chars cs by the coder cd -/
def CodA (cs : List Int32) (cd N2 : Int32) (vs : List Value) : Prop := (cd = 0 ∧ N2 = Int32.ofNat cs.length ∧ vs = (cs.map fun c => Value.int (lo8 c)) ∧ ∀ c ∈ cs, ¬ 255 < c) ∨ (cd = 1 ∧ N2 = Int32.ofNat (2 * cs.length) ∧ vs = wideBytes cs ∧ ∃ c ∈ cs, 255 < c)
theorem CodA.cod {cs : List Int32} {cd N2 : Int32} {vs : List Value} {V : Cell} (h : CodA cs cd N2 vs) (hn : 2 * cs.length < 2 ^ 31) (hs : V.slots.size = N2.toNatClampNeg) (hv : RoadKit.Has V vs (.int 0)) : Cod cd cs.length (fun j => cs.getD j 0) V := by
  rcases h with ⟨rfl, rfl, rfl, h⟩ | ⟨rfl, rfl, rfl, c, hc, hw⟩
  · rw [n32 (by omega)] at hs
    exact Or.inl ⟨rfl, hs, fun j hj => ⟨by rw [hv j (by omega), low_at _ _ _ hj], by
      have e : cs.getD j 0 = cs[j] := by simp [List.getD_eq_getElem?_getD, hj]
      show ¬ 255 < cs.getD j 0
      rw [e]; exact h _ (List.getElem_mem _)⟩⟩
  · rw [n32 (by omega)] at hs
    obtain ⟨j, hj, rfl⟩ := List.getElem_of_mem hc
    exact Or.inr ⟨rfl, hs, fun j hj => ⟨by rw [hv _ (by omega), wide_lo _ _ _ hj], by rw [hv _ (by omega), wide_hi _ _ _ hj]⟩, j, hj, by
      have e : cs.getD j 0 = cs[j] := by simp [List.getD_eq_getElem?_getD, hj]
      show 255 < cs.getD j 0
      rw [e]; exact hw⟩
/-- an object of exactly java/lang/String, its two fields found: as the laws ask it -/
theorem strObj {Z U : State} {a0 : Array Value} {kI : Nat} (wi : (Jvm.Cond.instantiable ST kI).before a0 Z = true) (al : Z.vm.Alike U.vm) {x : Addr} {v0 c0 : Value} (E : RoadKit.Exa Z U.heap x ST) (V : RoadKit.Fld Z U.heap x ST "value" "[B" v0) (C : RoadKit.Fld Z U.heap x ST "coder" "B" c0) :
    ∃ (D : Cell) (fV fC : Field), Blank ST x D U ∧ Found ST "value" "[B" fV U ∧ Found ST "coder" "B" fC U ∧ D.slots[fV.slot]? = some v0 ∧ D.slots[fC.slot]? = some c0 ∧ RoadKit.slotOf Z ST "value" "[B" = fV.slot ∧ RoadKit.slotOf Z ST "coder" "B" = fC.slot := by
  obtain ⟨D, cfV, kV, iV, fV, hD, gV, stV, knV, obV, asV, slV⟩ := V
  obtain ⟨D', cfC, kC, iC, fC, hD', gC, stC, -, -, asC, slC⟩ := C
  cases hD.symm.trans hD'
  obtain ⟨D2, kD, e1, e2, e3, e4, e5⟩ := E
  cases hD.symm.trans e1
  obtain ⟨c2, k2, i1, i2, i3, -⟩ := Cond.instantiable_spec wi
  cases e2.symm.trans i1
  cases e3.symm.trans i2
  obtain ⟨kU, u1, u2⟩ := al.2.2 _ _ e3
  exact ⟨D, fV, fC, ⟨hD, ⟨knV, fun q hq => by rw [hq] at obV; cases obV⟩, by rw [al.findClass]; exact e2, kU, u1, by rw [u2]; exact i3, by rw [u2]; exact e5 i3⟩, ⟨SBG.found_only al ⟨cfV, kV, iV, gV⟩, stV⟩, ⟨SBG.found_only al ⟨cfC, kC, iC, gC⟩, stC⟩, slV, slC, by simp [RoadKit.slotOf, gV], by simp [RoadKit.slotOf, gC]⟩
theorem sta_is {Z U : State} (al : Z.vm.Alike U.vm) {C n d : String} {v : Value} (S : RoadKit.Sta Z U.heap C n d v) : StaticIs U C n d v := by
  obtain ⟨cfS, iS, kS, fS, st, cS, t1, t2, t3, t4, t5, t6, t7⟩ := S
  exact StaticIs.there (s := { Z with heap := U.heap }) ⟨cfS, iS, kS, fS, st, cS, t1, t2, t3, t4, t5, (fun q => by rw [q] at t6; cases t6), t7⟩ al rfl
end StrChars.Road
namespace StrChars
open Jvm Sem ClassFile Op Lib Jvm.Stand Jvm.Free.XT Jvm.Free.ALB Jvm.Free.JM Jvm.Free
open Jvm.Lib.Cold (StaticIs)
/-- what place i of a byte[]'s cell holds -/
def yv (A : Cell) (i : Nat) : Int32 := match A.slots[i]? with | some (.int x) => x | _ => 0
theorem yv_get {a : Addr} {A : Cell} {U : State} (h : XT.Arr .byte a A U) (ht : Typed .byte A) {i : Nat} (hi : i < A.slots.size) : A.slots[i]? = some (.int (yv A i)) := by
  have e := Array.getElem?_eq_getElem hi
  have f := ht i _ e
  unfold yv; rw [e]
  generalize A.slots[i] = v at f
  cases v <;> simp [fits] at f ⊢
/-- the two arrays are equal, place for place -/
def EqC (A B : Cell) : Prop := A.slots.size = B.slots.size ∧ ∀ i, i < A.slots.size → yv A i = yv B i
/-- a boolean that says whether p -/
def Says01 (q : Prop) (r : Option Value) (s u : State) : Prop := ∃ v : Int32, r = some (.int v) ∧ u.heap = s.heap ∧ ((v = 1 ∧ q) ∨ (v = 0 ∧ ¬ q))
theorem Says01.mv {q : Prop} : ∀ r (U U' V V' : State), U'.heap = U.heap → V.vm.Alike V'.vm → V'.heap = V.heap → Says01 q r U V → Says01 q r U' V' :=
  fun r U U' V V' h1 _ h2 ⟨v, a, b, c⟩ => ⟨v, a, by rw [h1, h2]; exact b, c⟩
namespace LEq
def yN : MethodName := ⟨"java/lang/StringLatin1", "equals", "([B[B)Z"⟩
abbrev yB : ByteArray := jdk_43_method_13_code
theorem d0 : decode yB 0 = .ok (.aload_n 0, 1) := by decide +kernel
theorem d1 : decode yB 1 = .ok (.arraylength, 1) := by decide +kernel
theorem d2 : decode yB 2 = .ok (.aload_n 1, 1) := by decide +kernel
theorem d3 : decode yB 3 = .ok (.arraylength, 1) := by decide +kernel
theorem d4 : decode yB 4 = .ok (.if_icmp (.ne) 30, 3) := by decide +kernel
theorem d7 : decode yB 7 = .ok (.iconst 0, 1) := by decide +kernel
theorem d8 : decode yB 8 = .ok (.istore_n 2, 1) := by decide +kernel
theorem d9 : decode yB 9 = .ok (.iload_n 2, 1) := by decide +kernel
theorem d10 : decode yB 10 = .ok (.aload_n 0, 1) := by decide +kernel
theorem d11 : decode yB 11 = .ok (.arraylength, 1) := by decide +kernel
theorem d12 : decode yB 12 = .ok (.if_icmp (.ge) 20, 3) := by decide +kernel
theorem d15 : decode yB 15 = .ok (.aload_n 0, 1) := by decide +kernel
theorem d16 : decode yB 16 = .ok (.iload_n 2, 1) := by decide +kernel
theorem d17 : decode yB 17 = .ok (.baload, 1) := by decide +kernel
theorem d18 : decode yB 18 = .ok (.aload_n 1, 1) := by decide +kernel
theorem d19 : decode yB 19 = .ok (.iload_n 2, 1) := by decide +kernel
theorem d20 : decode yB 20 = .ok (.baload, 1) := by decide +kernel
theorem d21 : decode yB 21 = .ok (.if_icmp (.eq) 5, 3) := by decide +kernel
theorem d24 : decode yB 24 = .ok (.iconst 0, 1) := by decide +kernel
theorem d25 : decode yB 25 = .ok (.ireturn, 1) := by decide +kernel
theorem d26 : decode yB 26 = .ok (.iinc 2 1, 3) := by decide +kernel
theorem d29 : decode yB 29 = .ok (.goto (-20), 3) := by decide +kernel
theorem d32 : decode yB 32 = .ok (.iconst 1, 1) := by decide +kernel
theorem d33 : decode yB 33 = .ok (.ireturn, 1) := by decide +kernel
theorem d34 : decode yB 34 = .ok (.iconst 0, 1) := by decide +kernel
theorem d35 : decode yB 35 = .ok (.ireturn, 1) := by decide +kernel
def site : List Cond := []
def tab : Cond := tabOf yN yB 3 (some .boolean) site
def P (a : Addr) (A : Cell) (b : Addr) (B : Cell) (args : Array Value) (s : State) : Prop := args = #[.ref a, .ref b] ∧ XT.Arr .byte a A s ∧ Typed .byte A ∧ XT.Arr .byte b B s ∧ Typed .byte B
/-- whether two byte[] are equal, place for place -/
theorem law (l : Launch) (a : Addr) (A : Cell) (b : Addr) (B : Cell) : Law l yN 2 2 0 0 yB 3 (some .boolean) site (P a A b B) (Says01 (EqC A B)) [] 0 0 := by
  refine Law.of_walk (plainFor_of_name (by decide +kernel)) (by decide +kernel) (by decide +kernel) (by decide) (fun _ _ h => by rw [h.1]; rfl) (fun _ U U' hal hh h => ⟨h.1, h.2.1.mv hal hh, h.2.2.1, h.2.2.2.1.mv hal hh, h.2.2.2.2⟩) (fun r U U' V V' h1 hal h2 h => Says01.mv r U U' V V' h1 hal h2 h) ?_
  intro p e s m args below meth c s₁ X0 hexec hbytes hml hret hlk hnm hown hh0 W hP
  obtain ⟨rfl, hA, tA, hB, tB⟩ := hP
  have a31 := hA.2.2.2
  have b31 := hB.2.2.2
  have hA0 := hA.mv X0.warmed.alike hh0
  have hB0 := hB.mv X0.warmed.alike hh0
  have c1 : Steps p.tables e below (s₁.setTop (entryFrame m #[.ref a, .ref b] 3)) (s₁.setTop (mkF m 0 #[.val (.ref a), .val (.ref b), .unset] [])) := entry rfl
  have c2 : Steps p.tables e below (s₁.setTop (entryFrame m #[.ref a, .ref b] 3)) (s₁.setTop (mkF m 4 #[.val (.ref a), .val (.ref b), .unset] [.int (Int32.ofNat B.slots.size), .int (Int32.ofNat A.slots.size)])) := c1.trans (by
    refine XS.aloadN X0.here hexec rfl (hb hbytes d0) rfl rfl ?_
    refine X0.alen hexec hA0 rfl rfl (hb hbytes d1) ?_
    refine XS.aloadN X0.here hexec rfl (hb hbytes d2) rfl rfl ?_
    refine X0.alen hexec hB0 rfl rfl (hb hbytes d3) ?_
    exact Steps.refl _)
  by_cases hs : A.slots.size = B.slots.size
  · have c3 : Steps p.tables e below (s₁.setTop (entryFrame m #[.ref a, .ref b] 3)) (s₁.setTop (mkF m 9 #[.val (.ref a), .val (.ref b), .val (.int 0)] [])) := c2.trans (by
      refine XS.icmpNo X0.here hexec rfl (hb hbytes d4) rfl (ii_ne_f (by rw [hs])) ?_
      refine iconstV X0.here hexec rfl 0 (hb hbytes d7) (by decide) ?_
      refine XS.istoreN X0.here hexec rfl (hb hbytes d8) rfl rfl ?_
      exact Steps.refl _)
    have loop : ∀ (r i : Nat), i + r = A.slots.size → (∀ j, j < i → yv A j = yv B j) → Steps p.tables e below (s₁.setTop (entryFrame m #[.ref a, .ref b] 3)) (s₁.setTop (mkF m 9 #[.val (.ref a), .val (.ref b), .val (.int (Int32.ofNat i))] [])) → ∃ (pc : Nat) (Ls : Array Slot) (v : Int32), (pc = 25 ∨ pc = 33) ∧ ((v = 1 ∧ EqC A B) ∨ (v = 0 ∧ ¬ EqC A B)) ∧ Steps p.tables e below (s₁.setTop (entryFrame m #[.ref a, .ref b] 3)) (s₁.setTop (mkF m pc Ls [.int v])) := by
      intro r
      induction r with
      | zero =>
        intro i hi he cl
        exact ⟨33, _, 1, Or.inr rfl, Or.inl ⟨rfl, hs, fun j hj => he j (by omega)⟩, cl.trans (by
          refine XS.iloadN X0.here hexec rfl (hb hbytes d9) rfl ?_
          refine XS.aloadN X0.here hexec rfl (hb hbytes d10) rfl rfl ?_
          refine X0.alen hexec hA0 rfl rfl (hb hbytes d11) ?_
          refine XS.icmpYes X0.here hexec rfl (pc0 := 12) rfl (hb hbytes d12) rfl (ii_ge_t (nlt32 (by omega) (by omega))) (by decide) rfl ?_
          refine iconstV X0.here hexec rfl 1 (hb hbytes d32) (by decide) ?_
          exact Steps.refl _)⟩
      | succ r ih =>
        intro i hi he cl
        have c4 : Steps p.tables e below (s₁.setTop (entryFrame m #[.ref a, .ref b] 3)) (s₁.setTop (mkF m 21 #[.val (.ref a), .val (.ref b), .val (.int (Int32.ofNat i))] [.int (yv B i), .int (yv A i)])) := cl.trans (by
          refine XS.iloadN X0.here hexec rfl (hb hbytes d9) rfl ?_
          refine XS.aloadN X0.here hexec rfl (hb hbytes d10) rfl rfl ?_
          refine X0.alen hexec hA0 rfl rfl (hb hbytes d11) ?_
          refine XS.icmpNo X0.here hexec rfl (hb hbytes d12) rfl (ii_ge_f (lt32 (by omega) (by omega))) ?_
          refine XS.aloadN X0.here hexec rfl (hb hbytes d15) rfl rfl ?_
          refine XS.iloadN X0.here hexec rfl (hb hbytes d16) rfl ?_
          refine X0.aget hexec hA0 rfl (yv_get hA tA (i := i) (by omega)) rfl rfl (hb hbytes d17) ?_
          refine XS.aloadN X0.here hexec rfl (hb hbytes d18) rfl rfl ?_
          refine XS.iloadN X0.here hexec rfl (hb hbytes d19) rfl ?_
          refine X0.aget hexec hB0 rfl (yv_get hB tB (i := i) (by omega)) rfl rfl (hb hbytes d20) ?_
          exact Steps.refl _)
        by_cases hv : yv A i = yv B i
        · have c5 : Steps p.tables e below (s₁.setTop (entryFrame m #[.ref a, .ref b] 3)) (s₁.setTop (mkF m 9 #[.val (.ref a), .val (.ref b), .val (.int (Int32.ofNat i + 1))] [])) := c4.trans (by
            refine XS.icmpYes X0.here hexec rfl (pc0 := 21) rfl (hb hbytes d21) rfl (ii_eq_t hv) (by decide) rfl ?_
            refine iincV X0.here hexec rfl 1 (hb hbytes d26) (by decide) rfl rfl ?_
            refine XS.goto X0.here hexec rfl (pc0 := 29) rfl (hb hbytes d29) (by decide) rfl ?_
            exact Steps.refl _)
          rw [succ32] at c5
          exact ih (i + 1) (by omega) (fun j hj => by
            by_cases e : j = i
            · rw [e]; exact hv
            · exact he j (by omega)) c5
        · exact ⟨25, _, 0, Or.inl rfl, Or.inr ⟨rfl, fun q => hv (q.2 i (by omega))⟩, c4.trans (by
            refine XS.icmpNo X0.here hexec rfl (hb hbytes d21) rfl (ii_eq_f hv) ?_
            refine iconstV X0.here hexec rfl 0 (hb hbytes d24) (by decide) ?_
            exact Steps.refl _)⟩
    obtain ⟨pc, Ls, v, hpc, hv, cz⟩ := loop A.slots.size 0 (by omega) (fun j hj => absurd hj (Nat.not_lt_zero j)) c3
    have nv : narrow .boolean (.int v) = .int v := by rcases hv with ⟨rfl, -⟩ | ⟨rfl, -⟩ <;> rfl
    rcases hpc with rfl | rfl
    · exact ⟨s₁, some (.int v), _, _, _, X0, rfl, rfl, rfl, (fun h => by cases h), ⟨v, rfl, hh0, hv⟩, fun fs hl => cz.trans (X0.ireturnOut hexec hret nv (Or.inr (Or.inl rfl)) (hb hbytes d25) hl)⟩
    · exact ⟨s₁, some (.int v), _, _, _, X0, rfl, rfl, rfl, (fun h => by cases h), ⟨v, rfl, hh0, hv⟩, fun fs hl => cz.trans (X0.ireturnOut hexec hret nv (Or.inr (Or.inl rfl)) (hb hbytes d33) hl)⟩
  · have c3 : Steps p.tables e below (s₁.setTop (entryFrame m #[.ref a, .ref b] 3)) (s₁.setTop (mkF m 35 #[.val (.ref a), .val (.ref b), .unset] [.int 0])) := c2.trans (by
      refine XS.icmpYes X0.here hexec rfl (pc0 := 4) rfl (hb hbytes d4) rfl (ii_ne_t (ne32 a31 b31 hs)) (by decide) rfl ?_
      refine iconstV X0.here hexec rfl 0 (hb hbytes d34) (by decide) ?_
      exact Steps.refl _)
    exact ⟨s₁, some (.int 0), _, _, _, X0, rfl, rfl, rfl, (fun h => by cases h), ⟨0, rfl, hh0, Or.inr ⟨rfl, fun q => hs q.1⟩⟩, fun fs hl => c3.trans (X0.ireturnOut hexec hret rfl (Or.inr (Or.inl rfl)) (hb hbytes d35) hl)⟩
end LEq
theorem Cod.ty {cd : Int32} {n : Nat} {f : Nat → Int32} {V : Cell} (h : Cod cd n f V) : Typed .byte V := fun i v hv => by
  have hi : i < V.slots.size := (Array.getElem?_eq_some_iff.mp hv).1
  rcases h with ⟨-, k1, k2⟩ | ⟨-, k1, k2, -⟩
  · rw [(k2 i (by omega)).1] at hv; cases hv; exact fits_lo8 _
  · rcases Nat.mod_two_eq_zero_or_one i with e | e
    · obtain ⟨j, rfl⟩ : ∃ j, i = 2 * j := ⟨i / 2, by omega⟩
      rw [(k2 j (by omega)).1] at hv; cases hv; exact fits_lo8 _
    · obtain ⟨j, rfl⟩ : ∃ j, i = 2 * j + 1 := ⟨i / 2, by omega⟩
      rw [(k2 j (by omega)).2] at hv; cases hv; exact fits_lo8 _
/-- the same text -/
def SameT (n : Nat) (f : Nat → Int32) (k : Nat) (g : Nat → Int32) : Prop := n = k ∧ ∀ j, j < n → f j = g j
theorem lo8_inj {x y : Int32} (h0 : ¬ x < 0) (h1 : ¬ 255 < x) (k0 : ¬ y < 0) (k1 : ¬ 255 < y) (h : lo8 x = lo8 y) : x = y := by
  rw [← lo8_mask h0 h1, ← lo8_mask k0 k1, h]
/-- arrays coded by one coder are equal just where the texts are -/
theorem Cod.eqv {cd : Int32} {n k : Nat} {f g : Nat → Int32} {V V' : Cell} (h : Cod cd n f V) (h' : Cod cd k g V') (hf : ∀ j, j < n → ¬ f j < 0 ∧ ¬ 65535 < f j) (hg : ∀ j, j < k → ¬ g j < 0 ∧ ¬ 65535 < g j) : EqC V V' ↔ SameT n f k g := by
  have yvv : ∀ {W : Cell} {i : Nat} {x : Int32}, W.slots[i]? = some (.int x) → yv W i = x := fun q => by unfold yv; rw [q]
  rcases h with ⟨rfl, k1, k2⟩ | ⟨rfl, k1, k2, -⟩
  · rcases h' with ⟨-, m1, m2⟩ | ⟨e, -⟩
    · constructor
      · rintro ⟨e1, e2⟩
        refine ⟨by omega, fun j hj => ?_⟩
        have q := e2 j (by omega)
        rw [yvv (k2 j hj).1, yvv (m2 j (by omega)).1] at q
        exact lo8_inj (hf j hj).1 (k2 j hj).2 (hg j (by omega)).1 (m2 j (by omega)).2 q
      · rintro ⟨rfl, e2⟩
        refine ⟨by omega, fun j hj => ?_⟩
        rw [yvv (k2 j (by omega)).1, yvv (m2 j (by omega)).1, e2 j (by omega)]
    · exact absurd e (by decide)
  · rcases h' with ⟨e, -⟩ | ⟨-, m1, m2, -⟩
    · exact absurd e (by decide)
    · constructor
      · rintro ⟨e1, e2⟩
        refine ⟨by omega, fun j hj => ?_⟩
        have q1 := e2 (2 * j) (by omega)
        have q2 := e2 (2 * j + 1) (by omega)
        rw [yvv (k2 j hj).1, yvv (m2 j (by omega)).1] at q1
        rw [yvv (k2 j hj).2, yvv (m2 j (by omega)).2] at q2
        rw [← pair_says (hf j hj).1 (hf j hj).2, ← pair_says (hg j (by omega)).1 (hg j (by omega)).2, q1, q2]
      · rintro ⟨rfl, e2⟩
        refine ⟨by omega, fun i hi => ?_⟩
        rcases Nat.mod_two_eq_zero_or_one i with e | e
        · obtain ⟨j, rfl⟩ : ∃ j, i = 2 * j := ⟨i / 2, by omega⟩
          rw [yvv (k2 j (by omega)).1, yvv (m2 j (by omega)).1, e2 j (by omega)]
        · obtain ⟨j, rfl⟩ : ∃ j, i = 2 * j + 1 := ⟨i / 2, by omega⟩
          rw [yvv (k2 j (by omega)).2, yvv (m2 j (by omega)).2, e2 j (by omega)]
/-- two codings differ: so do the texts -/
theorem Cod.dif {cd cd' : Int32} {n k : Nat} {f g : Nat → Int32} {V V' : Cell} (h : Cod cd n f V) (h' : Cod cd' k g V') (hne : ¬ cd = cd') : ¬ SameT n f k g := by
  rintro ⟨rfl, e⟩
  rcases h with ⟨rfl, -, k2⟩ | ⟨rfl, -, -, j, hj, hw⟩
  · rcases h' with ⟨rfl, -⟩ | ⟨-, -, -, j, hj, hw⟩
    · exact hne rfl
    · exact (k2 j hj).2 (by rw [e j hj]; exact hw)
  · rcases h' with ⟨-, -, m2⟩ | ⟨rfl, -⟩
    · exact (m2 j hj).2 (by rw [← e j hj]; exact hw)
    · exact hne rfl
/-- an object of exactly C is an instance of C -/
theorem cinst {p : Program} {l : Launch} {e : Env} {R : Room} {s : State} {m : MethodId} {args : Array Value} {below : List Frame} {meth : Method} {c : Code} {T : State} {locs : List Loc} {cells slots : Nat} (X : Stand p l e R s m args below meth c T locs cells slots) (hexec : p.tables.exec = Jvm.exec) {own C : String} {index : Nat} (hown : s.vm.findClass own = some m.cls) (hlink : (Cond.classLink own index C).before args s = true) {a : Addr} (hE : Exact C a T)
    {g : JFrame} (hg : g.method = m) {rest : List Value} (hstack : g.stack = .ref a :: rest) (hdg : decode c.code g.pc = .ok (.instanceof index, 3)) :
    ∃ T', Stand p l e R s m args below meth c T' locs cells slots ∧ T'.heap = T.heap ∧ ∀ target, Steps p.tables e below (T'.setTop { g with pc := g.pc + 3, stack := .int 1 :: rest }) target → Steps p.tables e below (T.setTop g) target := by
  obtain ⟨cB, h1, D, h2, h3, h4⟩ := hE
  have h1' : s.vm.findClass C = some cB := by rw [← X.warmed.alike.findClass]; exact h1
  obtain ⟨vm', X', st⟩ := X.instanceofYes hexec hown hlink h2 h4 h1' (by rw [h3]; exact Jvm.Free.SB.assignable_self _ _) hg hstack hdg
  exact ⟨_, X', rfl, st⟩
theorem cself {p : Program} {l : Launch} {e : Env} {R : Room} {s : State} {m : MethodId} {args : Array Value} {below : List Frame} {meth : Method} {c : Code} {T : State} {locs : List Loc} {cells slots : Nat} (X : Stand p l e R s m args below meth c T locs cells slots) (hexec : p.tables.exec = Jvm.exec) {own C : String} {index : Nat} (hown : s.vm.findClass own = some m.cls) (hlink : (Cond.classLink own index C).before args s = true) {a : Addr} (hE : Exact C a T)
    {g : JFrame} (hg : g.method = m) {rest : List Value} (hstack : g.stack = .ref a :: rest) (hdg : decode c.code g.pc = .ok (.checkcast index, 3)) :
    ∃ T', Stand p l e R s m args below meth c T' locs cells slots ∧ T'.heap = T.heap ∧ ∀ target, Steps p.tables e below (T'.setTop { g with pc := g.pc + 3, stack := .ref a :: rest }) target → Steps p.tables e below (T.setTop g) target := by
  obtain ⟨cB, h1, D, h2, h3, h4⟩ := hE
  have h1' : s.vm.findClass C = some cB := by rw [← X.warmed.alike.findClass]; exact h1
  obtain ⟨vm', X', st⟩ := X.checkcastYes hexec hown hlink h2 h4 h1' (by rw [h3]; exact Jvm.Free.SB.assignable_self _ _) hg hstack hdg
  exact ⟨_, X', rfl, fun t h => st t (by rw [← hstack] at h; exact h)⟩
namespace SEq
def yN : MethodName := ⟨"java/lang/String", "equals", "(Ljava/lang/Object;)Z"⟩
abbrev yB : ByteArray := jdk_42_method_66_code
theorem d0 : decode yB 0 = .ok (.aload_n 0, 1) := by decide +kernel
theorem d1 : decode yB 1 = .ok (.aload_n 1, 1) := by decide +kernel
theorem d2 : decode yB 2 = .ok (.if_acmp (.ne) 5, 3) := by decide +kernel
theorem d5 : decode yB 5 = .ok (.iconst 1, 1) := by decide +kernel
theorem d6 : decode yB 6 = .ok (.ireturn, 1) := by decide +kernel
theorem d7 : decode yB 7 = .ok (.aload_n 1, 1) := by decide +kernel
theorem d8 : decode yB 8 = .ok (.instanceof 10, 3) := by decide +kernel
theorem d11 : decode yB 11 = .ok (.ifCond (.eq) 43, 3) := by decide +kernel
theorem d14 : decode yB 14 = .ok (.aload_n 1, 1) := by decide +kernel
theorem d15 : decode yB 15 = .ok (.checkcast 10, 3) := by decide +kernel
theorem d18 : decode yB 18 = .ok (.astore_n 2, 1) := by decide +kernel
theorem d19 : decode yB 19 = .ok (.getstatic 38, 3) := by decide +kernel
theorem d22 : decode yB 22 = .ok (.ifCond (.eq) 14, 3) := by decide +kernel
theorem d25 : decode yB 25 = .ok (.aload_n 0, 1) := by decide +kernel
theorem d26 : decode yB 26 = .ok (.getfield 15, 3) := by decide +kernel
theorem d29 : decode yB 29 = .ok (.aload_n 2, 1) := by decide +kernel
theorem d30 : decode yB 30 = .ok (.getfield 15, 3) := by decide +kernel
theorem d33 : decode yB 33 = .ok (.if_icmp (.ne) 21, 3) := by decide +kernel
theorem d36 : decode yB 36 = .ok (.aload_n 0, 1) := by decide +kernel
theorem d37 : decode yB 37 = .ok (.getfield 9, 3) := by decide +kernel
theorem d40 : decode yB 40 = .ok (.aload_n 2, 1) := by decide +kernel
theorem d41 : decode yB 41 = .ok (.getfield 9, 3) := by decide +kernel
theorem d44 : decode yB 44 = .ok (.invokestatic 541, 3) := by decide +kernel
theorem d47 : decode yB 47 = .ok (.ifCond (.eq) 7, 3) := by decide +kernel
theorem d50 : decode yB 50 = .ok (.iconst 1, 1) := by decide +kernel
theorem d51 : decode yB 51 = .ok (.goto 4, 3) := by decide +kernel
theorem d54 : decode yB 54 = .ok (.iconst 0, 1) := by decide +kernel
theorem d55 : decode yB 55 = .ok (.ireturn, 1) := by decide +kernel
def site : List Cond := [.classLink "java/lang/String" 10 "java/lang/String", .fieldLink "java/lang/String" 38 "java/lang/String" "COMPACT_STRINGS" "Z", .fieldLink "java/lang/String" 15 "java/lang/String" "coder" "B", .fieldLink "java/lang/String" 9 "java/lang/String" "value" "[B", LEq.tab] ++ staticW "java/lang/String" 541 LEq.yN
def tab : Cond := tabOf yN yB 3 (some .boolean) site
def P (x t : Addr) (V : Cell) (cd : Int32) (n : Nat) (f : Nat → Int32) (y t' : Addr) (V' : Cell) (cd' : Int32) (k : Nat) (g : Nat → Int32) (z : Int32) (args : Array Value) (s : State) : Prop := args = #[.ref x, .ref y] ∧ Txt x t V cd n f s ∧ Txt y t' V' cd' k g s ∧ StaticIs s "java/lang/String" "COMPACT_STRINGS" "Z" (.int z) ∧ ¬ z = 0
/-- equals(Object) of two Strings: whether the texts are the same -/
theorem law (l : Launch) (x t : Addr) (V : Cell) (cd : Int32) (n : Nat) (f : Nat → Int32) (y t' : Addr) (V' : Cell) (cd' : Int32) (k : Nat) (g : Nat → Int32) (z : Int32) : Law l yN 2 1 1 14 yB 3 (some .boolean) site (P x t V cd n f y t' V' cd' k g z) (Says01 (SameT n f k g)) [] 0 0 := by
  refine Law.of_walk (plainFor_of_name (by decide +kernel)) (by decide +kernel) (by decide +kernel) (by decide) (fun _ _ h => by rw [h.1]; rfl) (fun _ U U' hal hh h => ⟨h.1, h.2.1.mv hal hh, h.2.2.1.mv hal hh, h.2.2.2.1.there hal hh, h.2.2.2.2⟩) (fun r U U' V V' h1 hal h2 h => Says01.mv r U U' V V' h1 hal h2 h) ?_
  intro p e s m args below meth c s₁ X0 hexec hbytes hml hret hlk hnm hown hh0 W hP
  obtain ⟨rfl, hx, hy, s1, hz⟩ := hP
  have c1 : Steps p.tables e below (s₁.setTop (entryFrame m #[.ref x, .ref y] 3)) (s₁.setTop (mkF m 2 #[.val (.ref x), .val (.ref y), .unset] [.ref y, .ref x])) := Steps.trans (entry rfl) (by
    show Steps p.tables e below (s₁.setTop (mkF m 0 #[.val (.ref x), .val (.ref y), .unset] [])) _
    refine XS.aloadN X0.here hexec rfl (hb hbytes d0) rfl rfl ?_
    refine XS.aloadN X0.here hexec rfl (hb hbytes d1) rfl rfl ?_
    exact Steps.refl _)
  by_cases hxy : x = y
  · have c2 : Steps p.tables e below (s₁.setTop (entryFrame m #[.ref x, .ref y] 3)) (s₁.setTop (mkF m 6 #[.val (.ref x), .val (.ref y), .unset] [.int 1])) := c1.trans (by
      refine acmpNo X0.here hexec rfl (hb hbytes d2) rfl rfl rfl (by simp [acmp, hxy]) ?_
      refine iconstV X0.here hexec rfl 1 (hb hbytes d5) (by decide) ?_
      exact Steps.refl _)
    subst hxy
    have ec : cd = cd' := by
      obtain ⟨D, fd, a1, a2, a3⟩ := hx.2.2.1
      obtain ⟨D', fd', b1, b2, b3⟩ := hy.2.2.1
      cases a1.symm.trans b1
      obtain ⟨q1, q2, q3, q4⟩ := a2.1
      obtain ⟨r1, r2, r3, r4⟩ := b2.1
      cases q4.symm.trans r4
      cases a3.symm.trans b3; rfl
    have et : t = t' := by
      obtain ⟨D, fd, a1, a2, a3⟩ := hx.2.1
      obtain ⟨D', fd', b1, b2, b3⟩ := hy.2.1
      cases a1.symm.trans b1
      obtain ⟨q1, q2, q3, q4⟩ := a2.1
      obtain ⟨r1, r2, r3, r4⟩ := b2.1
      cases q4.symm.trans r4
      cases a3.symm.trans b3; rfl
    subst ec et
    have ev : V = V' := by cases hx.2.2.2.1.1.symm.trans hy.2.2.2.1.1; rfl
    subst ev
    have hs : SameT n f k g := (Cod.eqv hx.2.2.2.2.1 hy.2.2.2.2.1 hx.2.2.2.2.2 hy.2.2.2.2.2).mp ⟨rfl, fun _ _ => rfl⟩
    exact ⟨s₁, some (.int 1), _, _, _, X0, rfl, rfl, rfl, (fun h => by cases h), ⟨1, rfl, hh0, Or.inl ⟨rfl, hs⟩⟩, fun fs hl => c2.trans (X0.ireturnOut hexec hret rfl (Or.inr (Or.inl rfl)) (hb hbytes d6) hl)⟩
  · have c2 : Steps p.tables e below (s₁.setTop (entryFrame m #[.ref x, .ref y] 3)) (s₁.setTop (mkF m 8 #[.val (.ref x), .val (.ref y), .unset] [.ref y])) := c1.trans (by
      refine acmpYes X0.here hexec rfl (pc0 := 2) rfl (hb hbytes d2) rfl rfl rfl (by simp [acmp, hxy]) (by decide) rfl ?_
      refine XS.aloadN X0.here hexec rfl (hb hbytes d7) rfl rfl ?_
      exact Steps.refl _)
    obtain ⟨T3, X3, q3, st3⟩ := cinst X0 hexec hown (wk W (.classLink "java/lang/String" 10 "java/lang/String")) (hy.mv X0.warmed.alike hh0).1 (g := (mkF m 8 #[.val (.ref x), .val (.ref y), .unset] [.ref y])) rfl (rest := []) rfl (hb hbytes d8)
    have hh3 := q3.trans hh0
    have c4 : Steps p.tables e below (s₁.setTop (entryFrame m #[.ref x, .ref y] 3)) (T3.setTop (mkF m 15 #[.val (.ref x), .val (.ref y), .unset] [.ref y])) := (c2.trans (st3 _ (Steps.refl _))).trans (by
      refine XS.ifNo X3.here hexec rfl (hb hbytes d11) rfl (i0_eq_f (by decide)) ?_
      refine XS.aloadN X3.here hexec rfl (hb hbytes d14) rfl rfl ?_
      exact Steps.refl _)
    obtain ⟨T5, X5, q5, st5⟩ := cself X3 hexec hown (wk W (.classLink "java/lang/String" 10 "java/lang/String")) (hy.mv X3.warmed.alike hh3).1 (g := (mkF m 15 #[.val (.ref x), .val (.ref y), .unset] [.ref y])) rfl (rest := []) rfl (hb hbytes d15)
    have hh5 := q5.trans hh3
    have c6 : Steps p.tables e below (s₁.setTop (entryFrame m #[.ref x, .ref y] 3)) (T5.setTop (mkF m 19 #[.val (.ref x), .val (.ref y), .val (.ref y)] [])) := (c4.trans (st5 _ (Steps.refl _))).trans (by
      refine XS.astoreN X5.here hexec rfl (hb hbytes d18) rfl rfl rfl ?_
      exact Steps.refl _)
    obtain ⟨T7, X7, q7, st7⟩ := X5.sget hexec hown (wk W (.fieldLink "java/lang/String" 38 "java/lang/String" "COMPACT_STRINGS" "Z")) s1 (fun _ _ h => by rw [hh5]; exact h) (g := (mkF m 19 #[.val (.ref x), .val (.ref y), .val (.ref y)] [])) rfl (hb hbytes d19)
    have hh7 := q7.trans hh5
    have c8 : Steps p.tables e below (s₁.setTop (entryFrame m #[.ref x, .ref y] 3)) (T7.setTop (mkF m 26 #[.val (.ref x), .val (.ref y), .val (.ref y)] [.ref x])) := (c6.trans (st7 _ (Steps.refl _))).trans (by
      refine XS.ifNo X7.here hexec rfl (hb hbytes d22) rfl (i0_eq_f hz) ?_
      refine XS.aloadN X7.here hexec rfl (hb hbytes d25) rfl rfl ?_
      exact Steps.refl _)
    obtain ⟨T9, X9, q9, st9⟩ := X7.hget hexec hown (wk W (.fieldLink "java/lang/String" 15 "java/lang/String" "coder" "B")) (hx.mv X7.warmed.alike hh7).2.2.1 (g := (mkF m 26 #[.val (.ref x), .val (.ref y), .val (.ref y)] [.ref x])) rfl (rest := []) rfl (hb hbytes d26)
    have hh9 := q9.trans hh7
    have c10 : Steps p.tables e below (s₁.setTop (entryFrame m #[.ref x, .ref y] 3)) (T9.setTop (mkF m 30 #[.val (.ref x), .val (.ref y), .val (.ref y)] [.ref y, .int cd])) := (c8.trans (st9 _ (Steps.refl _))).trans (by
      refine XS.aloadN X9.here hexec rfl (hb hbytes d29) rfl rfl ?_
      exact Steps.refl _)
    obtain ⟨T11, X11, q11, st11⟩ := X9.hget hexec hown (wk W (.fieldLink "java/lang/String" 15 "java/lang/String" "coder" "B")) (hy.mv X9.warmed.alike hh9).2.2.1 (g := (mkF m 30 #[.val (.ref x), .val (.ref y), .val (.ref y)] [.ref y, .int cd])) rfl (rest := [.int cd]) rfl (hb hbytes d30)
    have hh11 := q11.trans hh9
    have c12 : Steps p.tables e below (s₁.setTop (entryFrame m #[.ref x, .ref y] 3)) (T11.setTop (mkF m 33 #[.val (.ref x), .val (.ref y), .val (.ref y)] [.int cd', .int cd])) := c10.trans (st11 _ (Steps.refl _))
    by_cases hcd : cd = cd'
    · subst hcd
      have c13 : Steps p.tables e below (s₁.setTop (entryFrame m #[.ref x, .ref y] 3)) (T11.setTop (mkF m 37 #[.val (.ref x), .val (.ref y), .val (.ref y)] [.ref x])) := c12.trans (by
        refine XS.icmpNo X11.here hexec rfl (hb hbytes d33) rfl (ii_ne_f rfl) ?_
        refine XS.aloadN X11.here hexec rfl (hb hbytes d36) rfl rfl ?_
        exact Steps.refl _)
      obtain ⟨T14, X14, q14, st14⟩ := X11.hget hexec hown (wk W (.fieldLink "java/lang/String" 9 "java/lang/String" "value" "[B")) (hx.mv X11.warmed.alike hh11).2.1 (g := (mkF m 37 #[.val (.ref x), .val (.ref y), .val (.ref y)] [.ref x])) rfl (rest := []) rfl (hb hbytes d37)
      have hh14 := q14.trans hh11
      have c15 : Steps p.tables e below (s₁.setTop (entryFrame m #[.ref x, .ref y] 3)) (T14.setTop (mkF m 41 #[.val (.ref x), .val (.ref y), .val (.ref y)] [.ref y, .ref t])) := (c13.trans (st14 _ (Steps.refl _))).trans (by
        refine XS.aloadN X14.here hexec rfl (hb hbytes d40) rfl rfl ?_
        exact Steps.refl _)
      obtain ⟨T16, X16, q16, st16⟩ := X14.hget hexec hown (wk W (.fieldLink "java/lang/String" 9 "java/lang/String" "value" "[B")) (hy.mv X14.warmed.alike hh14).2.1 (g := (mkF m 41 #[.val (.ref x), .val (.ref y), .val (.ref y)] [.ref y, .ref t])) rfl (rest := [.ref t]) rfl (hb hbytes d41)
      have hh16 := q16.trans hh14
      have c17 : Steps p.tables e below (s₁.setTop (entryFrame m #[.ref x, .ref y] 3)) (T16.setTop (mkF m 44 #[.val (.ref x), .val (.ref y), .val (.ref y)] [.ref t', .ref t])) := c15.trans (st16 _ (Steps.refl _))
      obtain ⟨v18, T18, X18, E18, g18⟩ := X16.callS hexec (LEq.law l t V t' V') hown (wks W (staticW "java/lang/String" 541 LEq.yN)) (wk W LEq.tab) (W := 0) (Nat.le_of_ble_eq_true rfl) (Nat.le_of_ble_eq_true rfl) (Nat.le_refl _) (Nat.le_refl _) (g := (mkF m 44 #[.val (.ref x), .val (.ref y), .val (.ref y)] [.ref t', .ref t])) rfl (by rw [hml]; rfl) c17 (argsL := [.ref t, .ref t']) (rest := []) rfl rfl (by show 2 * 0 + 0 ≤ _; decide) (hb hbytes d44) (⟨rfl, hx.2.2.2.1.mv X16.warmed.alike hh16, hx.2.2.2.2.1.ty, hy.2.2.2.1.mv X16.warmed.alike hh16, hy.2.2.2.2.1.ty⟩)
      obtain ⟨v, rfl, q18, hv⟩ := E18
      have iff := Cod.eqv hx.2.2.2.2.1 hy.2.2.2.2.1 hx.2.2.2.2.2 hy.2.2.2.2.2
      rcases hv with ⟨rfl, he⟩ | ⟨rfl, he⟩
      · have c19 : Steps p.tables e below (s₁.setTop (entryFrame m #[.ref x, .ref y] 3)) (T18.setTop (mkF m 55 #[.val (.ref x), .val (.ref y), .val (.ref y)] [.int 1])) := Steps.trans g18 (by
          refine XS.ifNo X18.here hexec rfl (hb hbytes d47) rfl (i0_eq_f (by decide)) ?_
          refine iconstV X18.here hexec rfl 1 (hb hbytes d50) (by decide) ?_
          refine XS.goto X18.here hexec rfl (pc0 := 51) rfl (hb hbytes d51) (by decide) rfl ?_
          exact Steps.refl _)
        exact ⟨T18, some (.int 1), _, _, _, X18, rfl, rfl, rfl, (fun h => by cases h), ⟨1, rfl, q18.trans hh16, Or.inl ⟨rfl, iff.mp he⟩⟩, fun fs hl => c19.trans (X18.ireturnOut hexec hret rfl (Or.inr (Or.inl rfl)) (hb hbytes d55) hl)⟩
      · have c19 : Steps p.tables e below (s₁.setTop (entryFrame m #[.ref x, .ref y] 3)) (T18.setTop (mkF m 55 #[.val (.ref x), .val (.ref y), .val (.ref y)] [.int 0])) := Steps.trans g18 (by
          refine XS.ifYes X18.here hexec rfl (pc0 := 47) rfl (hb hbytes d47) rfl (i0_eq_t rfl) (by decide) rfl ?_
          refine iconstV X18.here hexec rfl 0 (hb hbytes d54) (by decide) ?_
          exact Steps.refl _)
        exact ⟨T18, some (.int 0), _, _, _, X18, rfl, rfl, rfl, (fun h => by cases h), ⟨0, rfl, q18.trans hh16, Or.inr ⟨rfl, fun q => he (iff.mpr q)⟩⟩, fun fs hl => c19.trans (X18.ireturnOut hexec hret rfl (Or.inr (Or.inl rfl)) (hb hbytes d55) hl)⟩
    · have c13 : Steps p.tables e below (s₁.setTop (entryFrame m #[.ref x, .ref y] 3)) (T11.setTop (mkF m 55 #[.val (.ref x), .val (.ref y), .val (.ref y)] [.int 0])) := c12.trans (by
        refine XS.icmpYes X11.here hexec rfl (pc0 := 33) rfl (hb hbytes d33) rfl (ii_ne_t hcd) (by decide) rfl ?_
        refine iconstV X11.here hexec rfl 0 (hb hbytes d54) (by decide) ?_
        exact Steps.refl _)
      exact ⟨T11, some (.int 0), _, _, _, X11, rfl, rfl, rfl, (fun h => by cases h), ⟨0, rfl, hh11, Or.inr ⟨rfl, Cod.dif hx.2.2.2.2.1 hy.2.2.2.2.1 hcd⟩⟩, fun fs hl => c13.trans (X11.ireturnOut hexec hret rfl (Or.inr (Or.inl rfl)) (hb hbytes d55) hl)⟩
theorem pays {l : Launch} {R : Room} {p : Program} {e : Env} {below : List Frame} {s : State} {sargs : Array Value} {len W : Nat} (x t : Addr) (V : Cell) (cd : Int32) (n : Nat) (f : Nat → Int32) (y t' : Addr) (V' : Cell) (cd' : Int32) (k : Nat) (g : Nat → Int32) (z : Int32) (htab : tab.before sargs s = true) (hfr : 2 ≤ R.frames) (hlo : W + 28 ≤ R.locals) :
    Back l R p e below s sargs yN len W (fun A₁ a₁ => A₁.cells + 0 ≤ R.cells ∧ A₁.slots + 0 ≤ R.slots ∧ P x t V cd n f y t' V' cd' k g z a₁ A₁.U) (fun A₁ _ v₁ B₁ => Says01 (SameT n f k g) v₁ A₁.U B₁.U ∧ B₁.locs = A₁.locs ++ [] ∧ B₁.cells = A₁.cells + 0 ∧ B₁.slots = A₁.slots + 0) :=
  (law l x t V cd n f y t' V' cd' k g z).pays htab hfr (by omega)
end SEq
end StrChars
namespace StrChars.Road
open Jvm Sem ClassFile Op Lib Jvm.Stand Jvm.Free Jvm.Free.XT
open Jvm.Lib.Cold (StaticIs)
/-- the words of String.equals(Object) -/
abbrev wordsEq : List Jvm.Cond := [.code SEq.yN SEq.yB 3 (some .boolean), .initialized ST, .classLink ST 10 ST, .fieldLink ST 38 ST "COMPACT_STRINGS" "Z", .fieldLink ST 15 ST "coder" "B", .fieldLink ST 9 ST "value" "[B", .methodLink ST 541 LEq.yN, .static LEq.yN, .code LEq.yN LEq.yB 3 (some .boolean), .initialized "java/lang/StringLatin1"]
theorem tabEq_of {a : Array Value} {s : State} (h : ∀ w ∈ wordsEq, w.before a s = true) : SEq.tab.before a s = true := by
  have hl : LEq.tab.before a s = true := unparts (wk h (.code LEq.yN LEq.yB 3 (some .boolean))) (wks h (.initialized LEq.yN.cls :: LEq.site))
  have q := consq hl h
  exact unparts (wk q (.code SEq.yN SEq.yB 3 (some .boolean))) (wks q (.initialized SEq.yN.cls :: SEq.site))
theorem movedEq {Z s : State} {a0 args : Array Value} (hZ : Z.Warmed39 s.vm) (hw : ∀ d ∈ wordsEq, d.before a0 Z = true) : ∀ d ∈ wordsEq, d.before args s = true := fun d hd => by
  have t : ∀ d ∈ wordsEq, (d.onTables && d.keepsFace) = true := by decide +kernel
  exact RoadKit.mv hZ (hw d hd) (t d hd)
/-- the road's facts of a String, as the laws ask it -/
theorem txt_of {Z U : State} {a0 : Array Value} {kI : Nat} (wi : (Jvm.Cond.instantiable ST kI).before a0 Z = true) (al : Z.vm.Alike U.vm) {x t : Addr} {kb : ClassId} {cs : List Int32} {cd N2 : Int32} {vs : List Value} (E : RoadKit.Exa Z U.heap x ST) (V : RoadKit.Fld Z U.heap x ST "value" "[B" (.ref t)) (C : RoadKit.Fld Z U.heap x ST "coder" "B" (.int cd)) (K : RoadKit.Arv Z U.heap t kb .byte N2 vs (.int 0)) (hc : CodA cs cd N2 vs) (hb : ∀ c ∈ cs, ¬ c < 0 ∧ ¬ (65535 : Int32) < c) (l2 : cs.length ≤ 4000) :
    ∃ A, Txt x t A cd cs.length (fun j => cs.getD j 0) U := by
  obtain ⟨A, K1, K2, K3, K4, K5, K6⟩ := K
  have hcod := hc.cod (by omega) K3 K5
  obtain ⟨D, fV, fC, hB, F1, F2, g1, g2, -, -⟩ := strObj wi al E V C
  exact ⟨A, ⟨_, hB.2.2.1, D, hB.1, rfl, by cases q : D.vm <;> first | rfl | exact absurd q (hB.2.1.2 _)⟩, Has.of hB F1 g1, Has.of hB F2 g2, ⟨K1.1, State.isArrayOf_alike al K1.2.1, K1.2.2, by rcases hcod with ⟨-, q, -⟩ | ⟨-, q, -⟩ <;> omega⟩, hcod, fun j hj => by
    have e : cs.getD j 0 = cs[j] := by simp [List.getD_eq_getElem?_getD, hj]
    show ¬ cs.getD j 0 < 0 ∧ ¬ 65535 < cs.getD j 0
    rw [e]; exact hb _ (List.getElem_mem _)⟩
theorem same_list (cs ds : List Int32) : SameT cs.length (fun j => cs.getD j 0) ds.length (fun j => ds.getD j 0) ↔ cs = ds := by
  constructor
  · rintro ⟨e, q⟩
    refine List.ext_getElem e fun j h1 h2 => ?_
    have := q j h1
    simpa [List.getD_eq_getElem?_getD, h1, h2] using this
  · rintro rfl
    exact ⟨rfl, fun _ _ => rfl⟩
/-- **equals(Object) OF TWO SUCH STRINGS**: 1 just where the chars are the same -/
theorem eqW {p : Program} {l : Launch} {e : Env} {R : Room} {s : State} {args : Array Value} {below : List Frame} {len W : Nat} {Z : State} {a0 : Array Value} {h : Heap} (hZ : Z.Warmed39 s.vm) (hw : ∀ d ∈ wordsEq, d.before a0 Z = true) {kI : Nat} (wi : (Jvm.Cond.instantiable ST kI).before a0 Z = true)
    {x t : Addr} {kb : ClassId} {cs : List Int32} {cd N2 : Int32} {vs : List Value} (E : RoadKit.Exa Z h x ST) (V : RoadKit.Fld Z h x ST "value" "[B" (.ref t)) (C : RoadKit.Fld Z h x ST "coder" "B" (.int cd)) (K : RoadKit.Arv Z h t kb .byte N2 vs (.int 0)) (hc : CodA cs cd N2 vs) (hb : ∀ c ∈ cs, ¬ c < 0 ∧ ¬ (65535 : Int32) < c) (l2 : cs.length ≤ 4000)
    {y t' : Addr} {kb' : ClassId} {ds : List Int32} {cd' N2' : Int32} {vs' : List Value} (E' : RoadKit.Exa Z h y ST) (V' : RoadKit.Fld Z h y ST "value" "[B" (.ref t')) (C' : RoadKit.Fld Z h y ST "coder" "B" (.int cd')) (K' : RoadKit.Arv Z h t' kb' .byte N2' vs' (.int 0)) (hc' : CodA ds cd' N2' vs') (hb' : ∀ c ∈ ds, ¬ c < 0 ∧ ¬ (65535 : Int32) < c) (l2' : ds.length ≤ 4000)
    {z : Int32} (S : RoadKit.Sta Z h ST "COMPACT_STRINGS" "Z" (.int z)) (hz : ¬ z = 0) (hfr : 2 ≤ R.frames) (hlo : W + 28 ≤ R.locals) :
    Back l R p e below s args (⟨"java/lang/String", "equals", "(Ljava/lang/Object;)Z"⟩ : MethodName) len W (fun P a => a = #[.ref x, .ref y] ∧ P.U.heap = h ∧ P.cells + 0 ≤ R.cells ∧ P.slots + 0 ≤ R.slots)
      (fun P _ v B => ∃ L, (((v = some (.int 1) ∧ cs = ds) ∨ (v = some (.int 0) ∧ ¬ cs = ds)) ∧ L = [] ∧ B.U.heap = h) ∧ B.locs = P.locs ++ L ∧ B.cells = P.cells + 0 ∧ B.slots = P.slots + 0) := by
  intro m meth c P g ig mk a X hg hsize hdg hW hn hp'
  obtain ⟨rfl, rfl, r1, r2⟩ := hp'
  have al : Z.vm.Alike P.U.vm := hZ.alike.trans X.warmed.alike
  obtain ⟨A, hx⟩ := txt_of wi al E V C K hc hb l2
  obtain ⟨A', hy⟩ := txt_of wi al E' V' C' K' hc' hb' l2'
  obtain ⟨v, B, X', ⟨⟨w, hv, hh, hq⟩, hl, hk, hs⟩, st⟩ := SEq.pays x t A cd cs.length (fun j => cs.getD j 0) y t' A' cd' ds.length (fun j => ds.getD j 0) z (tabEq_of (movedEq hZ hw)) hfr hlo m meth c P g ig mk _ X hg hsize hdg hW hn ⟨r1, r2, rfl, hx, hy, sta_is al S, hz⟩
  refine ⟨v, B, X', ⟨[], ⟨?_, rfl, hh⟩, hl, hk, hs⟩, st⟩
  rcases hq with ⟨rfl, q⟩ | ⟨rfl, q⟩
  · exact Or.inl ⟨hv, (same_list cs ds).mp q⟩
  · exact Or.inr ⟨hv, fun e => q ((same_list cs ds).mpr e)⟩
end StrChars.Road
namespace StrChars.Road
open Jvm Sem ClassFile Op Lib Jvm.Stand Jvm.Free Jvm.Free.XT
open Jvm.Lib.Cold (StaticIs)
/-- what backV says of its String, as the contracts of this text ask it: cs's low bytes, coder 0 -/
theorem codOf {cs : List Int32} {n : Nat} (hn : cs.length = n) (hb : ∀ c ∈ cs, ¬ 255 < c) : CodA cs 0 (Int32.ofNat n) ((cs.map lo8).map Value.int) := Or.inl ⟨rfl, by rw [hn], by simp [List.map_map, Function.comp_def], hb⟩
end StrChars.Road
end Jvm.Pilot.@@N@@
namespace Jvm.Pilot.@@N@@
open Jvm Jvm.ClassFile Sem Op Lib Jvm.Free Jvm.Stand Jvm.LawKit Jvm.RoadKit Bundle Jvm.Pilot.@@N@@.Jvm.D
theorem own_wd {Z : State} {a0 : Array Value} (hw : ∀ d ∈ tables_1, d.before a0 Z = true) (i : Nat) {d : Jvm.Cond} (h : tables_1[i]? = some d) : d.before a0 Z = true := hw _ (List.mem_of_getElem? h)
def own_b (P : Prop) [Decidable P] : Int32 := if P then (1 : Int32) else (0 : Int32)
theorem own_bt {P : Prop} [Decidable P] (h : P) : own_b P = (1 : Int32) := if_pos h
theorem own_bf {P : Prop} [Decidable P] (h : ¬ P) : own_b P = (0 : Int32) := if_neg h
theorem own_btn {P : Prop} [Decidable P] (h : P) : ¬ (own_b P = (0 : Int32)) := by rw [own_bt h]; decide
theorem own_bfn {P : Prop} [Decidable P] (h : ¬ P) : ¬ (own_b P = (1 : Int32)) := by rw [own_bf h]; decide
theorem own_b_congr {P Q : Prop} [Decidable P] [Decidable Q] (h : P ↔ Q) : own_b P = own_b Q := by
  by_cases q : P
  · rw [own_bt q, own_bt (h.mp q)]
  · rw [own_bf q, own_bf fun z => q (h.mpr z)]
theorem own_eqI {args : Array Value} {s : State} {t : Term} {k : Int32} (h : (Jvm.Cond.eq t (.int k)).value args s none s [] = some true) : t.eval args s none [] s = some (.int k) := by
  obtain ⟨x, y, h1, h2, -, h4⟩ := cmp_v (Or.inl h)
  cases Option.some.inj (h2.symm.trans (Term.int_eval k))
  obtain ⟨z, rfl⟩ := h4
  rw [h1, gotT (Cond.eq_ints h1 h2) h]
theorem own_eqR {args : Array Value} {s : State} {t u : Term} {y : Addr} (hu : u.eval args s none [] s = some (.ref y)) (h : (Jvm.Cond.eq t u).value args s none s [] = some true) : t.eval args s none [] s = some (.ref y) := by
  obtain ⟨x, y', h1, h2, -, h4⟩ := cmp_v (Or.inl h)
  cases Option.some.inj (h2.symm.trans hu)
  rw [h1, gotT (eq_R h1 h2 h4.2 rfl) h]
theorem own_len {args : Array Value} {s : State} {t : Term} {a : Addr} {cl : Cell} {ty : FieldType} {k : Int32} (ev : t.eval args s none [] s = some (.ref a)) (A : Arr s s.heap a cl ty) (h : (Term.length t).eval args s none [] s = some (.int k)) : cl.slots.size < 2 ^ 31 ∧ cl.slots.size.toInt32 = k := by
  have ha : s.arrayAt? a = some cl := A.fin (Vm.Alike.refl _)
  by_cases hl : cl.slots.size < 2 ^ 31
  · rw [len_f ev ha hl] at h
    exact ⟨hl, by simpa using h⟩
  · simp [Term.eval, ev, ha, hl] at h
theorem own_eqL {args : Array Value} {s : State} {t : Term} {k : Int64} (h : (Jvm.Cond.eq t (.long k)).value args s none s [] = some true) : t.eval args s none [] s = some (.long k) := by
  obtain ⟨x, y, h1, h2, -, h4⟩ := cmp_v (Or.inl h)
  cases Option.some.inj (h2.symm.trans (long_at k))
  obtain ⟨z, rfl⟩ := h4
  rw [h1, gotT (eq_L h1 h2) h]
def own_EL : List (String × Nat) := [("com/example/stock/stock/io/FileNames", 7), ("com/example/stock/stock/io/FileNames", 15), ("com/example/stock/stock/io/FileNames", 17), ("com/example/stock/stock/io/FileNames", 23), ("com/example/stock/stock/io/FileNames", 29), ("java/lang/String", 7)]
theorem own_EW {Z : State} {a0 : Array Value} (hw : ∀ d ∈ tables_1, d.before a0 Z = true) : EW Z a0 own_EL := (EW.cons (hw _ (List.mem_of_getElem? (i := 41) rfl)) (by decide +kernel) (EW.cons (hw _ (List.mem_of_getElem? (i := 80) rfl)) (by decide +kernel) (EW.cons (hw _ (List.mem_of_getElem? (i := 81) rfl)) (by decide +kernel) (EW.cons (hw _ (List.mem_of_getElem? (i := 87) rfl)) (by decide +kernel) (EW.cons (hw _ (List.mem_of_getElem? (i := 97) rfl)) (by decide +kernel) (EW.cons (hw _ (List.mem_of_getElem? (i := 98) rfl)) (by decide +kernel) EW.nil))))))
set_option maxRecDepth 65536 in
theorem own_wS {Z : State} {a0 : Array Value} (hw : ∀ d ∈ tables_1, d.before a0 Z = true) : ∀ d ∈ Bundle.stringAtoms, d.before a0 Z = true := fun d hd => hw d ((by decide +kernel : ∀ d ∈ Bundle.stringAtoms, d ∈ tables_1) d hd)
theorem own_chr (x : Int32) : ¬ ((x &&& (255 : Int32)).toUInt32.toUInt16.toUInt32.toInt32).toUInt32.toUInt16.toUInt32.toInt32 < 0 ∧ ¬ (255 : Int32) < ((x &&& (255 : Int32)).toUInt32.toUInt16.toUInt32.toInt32).toUInt32.toUInt16.toUInt32.toInt32 := by
  have h1 := c_and x 255 (by decide)
  have h2 := c_i2c (x &&& (255 : Int32))
  have h3 := c_i2c ((x &&& (255 : Int32)).toUInt32.toUInt16.toUInt32.toInt32)
  have e1 : (255 : Int32).toInt = 255 := by decide
  have e0 : (0 : Int32).toInt = 0 := by decide
  simp only [Int32.lt_iff_toInt_lt, e1, e0] at *
  omega
theorem own_up (cs : List Int32) (h : ∀ c ∈ cs, ¬ c < 0 ∧ ¬ (255 : Int32) < c) : ∀ c ∈ cs, ¬ c < 0 ∧ ¬ (65535 : Int32) < c := fun c hc => ⟨(h c hc).1, fun q => (h c hc).2 (by rw [Int32.lt_iff_toInt_lt] at q ⊢; have e1 : (65535 : Int32).toInt = 65535 := rfl; have e2 : (255 : Int32).toInt = 255 := rfl; omega)⟩
set_option maxRecDepth 65536 in
theorem own_hws {Z : State} {a0 : Array Value} (hw : ∀ d ∈ tables_1, d.before a0 Z = true) : ∀ d ∈ StrChars.Road.words, d.before a0 Z = true := fun d hd => hw d ((by decide +kernel : ∀ d ∈ StrChars.Road.words, d ∈ tables_1) d hd)
set_option maxRecDepth 65536 in
theorem own_heq {Z : State} {a0 : Array Value} (hw : ∀ d ∈ tables_1, d.before a0 Z = true) : ∀ d ∈ StrChars.Road.wordsEq, d.before a0 Z = true := fun d hd => hw d ((by decide +kernel : ∀ d ∈ StrChars.Road.wordsEq, d ∈ tables_1) d hd)
theorem own_b_of {P : Prop} [Decidable P] (h : ¬ (own_b P = (0 : Int32))) : P := Decidable.byContradiction fun q => h (own_bf q)
theorem own_b_not {P : Prop} [Decidable P] (h : own_b P = (0 : Int32)) : ¬ P := fun q => own_btn q h
theorem own_safe_blank {Z : State} {EL : List (String × Nat)} {vm : Vm} {h : Heap} {x : Addr} (hal : Z.vm.Alike vm) (E : Exa Z h x "java/lang/String") (F : Fld Z h x "java/lang/String" "value" "[B" .null) : Safe Z EL vm h x := fun B => by
  obtain ⟨p, -, u, a, -, q, -, G, rfl | rfl⟩ := B
  · obtain ⟨cell, cf, k, i, f, e1, e2, -, -, -, -, e7⟩ := F
    cases (show h[q.sa]? = some q.sC from G.ha).symm.trans e1
    obtain ⟨cS, ⟨⟨-, -, -, ⟨c1, k1, i1, f1, -⟩, -, -, -, v1, -⟩, -⟩, -⟩ := G
    obtain ⟨k3, e3, -⟩ := State.fieldFound?_setVm (s := ({ Z with heap := h } : State)) hal (show ({ Z with heap := h } : State).fieldFound? _ _ _ = _ from e2)
    have e4 := (show (Wst Z vm h).fieldFound? _ _ _ = _ from e3).symm.trans f1
    simp only [Option.some.injEq, Prod.mk.injEq] at e4
    rw [← e4.2.2.2, e7] at v1
    simp at v1
  · obtain ⟨cell, k, e1, e2, e3, -, -⟩ := E
    cases (show h[q.sd]? = some q.SA from G.hd).symm.trans e1
    obtain ⟨cS, -, -, f, -⟩ := G
    have f' : vm.findClass "[B" = some q.SA.cls := f
    rw [hal.findClass] at f'
    obtain ⟨k1, q1, q2⟩ := Vm.findClass_spec f'
    obtain ⟨k2, q3, q4⟩ := Vm.findClass_spec e2
    cases q1.symm.trans q3
    exact absurd (q2.symm.trans q4) (by decide)
theorem own_i2c {x : Int32} (h0 : ¬ (x < (0 : Int32))) (h1 : ¬ ((255 : Int32) < x)) : x.toUInt32.toUInt16.toUInt32.toInt32 = x := by
  have h2 := c_i2c x
  have e1 : (255 : Int32).toInt = 255 := by decide
  have e0 : (0 : Int32).toInt = 0 := by decide
  simp only [Int32.lt_iff_toInt_lt, ← Int32.toInt_inj, e1, e0] at *
  omega
def own_pick (x : Int32) : Int32 := if (x &&& (511 : Int32)) < (256 : Int32) then (x &&& (511 : Int32)) else if ((x &&& (511 : Int32)) &&& (3 : Int32)) = (0 : Int32) then (47 : Int32) else if ((x &&& (511 : Int32)) &&& (3 : Int32)) = (1 : Int32) then (92 : Int32) else if ((x &&& (511 : Int32)) &&& (3 : Int32)) = (2 : Int32) then (58 : Int32) else (46 : Int32)
theorem own_m511 {x : Int32} (h : (x &&& (511 : Int32)) < (256 : Int32)) : ¬ ((x &&& (511 : Int32)) < (0 : Int32)) ∧ ¬ ((255 : Int32) < (x &&& (511 : Int32))) := by
  have h1 := c_and x 511 (by decide)
  have e0 : (0 : Int32).toInt = 0 := by decide
  have e1 : (255 : Int32).toInt = 255 := by decide
  have e2 : (256 : Int32).toInt = 256 := by decide
  simp only [Int32.lt_iff_toInt_lt, e1, e0, e2] at *
  omega
theorem own_pickA {x : Int32} (h : (x &&& (511 : Int32)) < (256 : Int32)) : (((x &&& (511 : Int32)).toUInt32.toUInt16.toUInt32.toInt32)).toUInt32.toUInt16.toUInt32.toInt32 = own_pick x := by
  obtain ⟨q1, q2⟩ := own_m511 h
  rw [own_i2c q1 q2, own_i2c q1 q2]
  exact (if_pos h).symm
theorem own_pick_r (x : Int32) : ¬ (own_pick x < (0 : Int32)) ∧ ¬ ((255 : Int32) < own_pick x) := by
  unfold own_pick
  split
  · rename_i h; exact own_m511 h
  · split
    · decide
    · split
      · decide
      · split <;> decide
theorem own_chP (x : Int32) : ¬ (own_pick x).toUInt32.toUInt16.toUInt32.toInt32 < 0 ∧ ¬ (255 : Int32) < (own_pick x).toUInt32.toUInt16.toUInt32.toInt32 := by
  obtain ⟨q1, q2⟩ := own_pick_r x
  rw [own_i2c q1 q2]
  exact ⟨q1, q2⟩
theorem own_mem {a : Int32} {b : Int32} {l : List Int32} : a ∈ b :: l ↔ b = a ∨ a ∈ l := by rw [List.mem_cons]; exact or_congr_left eq_comm
theorem own_fd {P Q : Prop} [Decidable P] (h : P ∨ ¬ P) (q : P ↔ Q) : P ↔ Q := q
theorem own_nn {P Q : Prop} [Decidable Q] (h : P ↔ ¬ Q) (n : ¬ P) : Q := Decidable.byContradiction fun q => n (h.mpr q)
theorem own_and3 (x : Int32) (h0 : ¬ ((x &&& (3 : Int32)) = (0 : Int32))) (h1 : ¬ ((x &&& (3 : Int32)) = (1 : Int32))) (h2 : ¬ ((x &&& (3 : Int32)) = (2 : Int32))) : (x &&& (3 : Int32)) = (3 : Int32) := by
  have q := c_and x 3 (by decide)
  have e0 : (0 : Int32).toInt = 0 := by decide
  have e1 : (1 : Int32).toInt = 1 := by decide
  have e2 : (2 : Int32).toInt = 2 := by decide
  have e3 : (3 : Int32).toInt = 3 := by decide
  simp only [← Int32.toInt_inj, e0, e1, e2, e3] at *
  omega
theorem own_b0 {P : Prop} [Decidable P] : (own_b P = (0 : Int32)) ↔ ¬ P := ⟨own_b_not, own_bf⟩
theorem own_lo {c k : Int32} (h : ¬ (c < (0 : Int32)) ∧ ¬ ((255 : Int32) < c)) (k0 : ¬ (k < (0 : Int32))) (k1 : ¬ ((127 : Int32) < k)) : (k = c.toInt8.toInt32) ↔ c = k := by
  have h2 := c_i2b c
  have e0 : (0 : Int32).toInt = 0 := by decide
  have e1 : (255 : Int32).toInt = 255 := by decide
  have e2 : (127 : Int32).toInt = 127 := by decide
  simp only [Int32.lt_iff_toInt_lt, ← Int32.toInt_inj, e0, e1, e2] at *
  omega
theorem own_e47 : (47 : Int32).toInt = 47 := by decide
theorem own_e92 : (92 : Int32).toInt = 92 := by decide
theorem own_e58 : (58 : Int32).toInt = 58 := by decide
theorem own_e46 : (46 : Int32).toInt = 46 := by decide
theorem own_fin0 {N ex a b d : Int32} (hn : N = (0 : Int32)) (hX : ex = own_b (¬ (N = (0 : Int32)) ∧ a = (0 : Int32) ∧ b = (0 : Int32) ∧ d = (0 : Int32))) (hH : a = own_b False) (hD : b = own_b False) (hE : d = own_b False) :
    own_b (¬ (([] : List Int32) = []) ∧ ¬ ((47 : Int32) ∈ ([] : List Int32)) ∧ ¬ ((92 : Int32) ∈ ([] : List Int32)) ∧ ¬ ((58 : Int32) ∈ ([] : List Int32)) ∧ ¬ (([] : List Int32) = ([(46 : Int32)] : List Int32)) ∧ ¬ (([] : List Int32) = ([(46 : Int32), (46 : Int32)] : List Int32))) = ex := by
  rw [hX]
  exact own_b_congr ⟨fun q => absurd rfl q.1, fun q => absurd hn q.1⟩
theorem own_fin1 {N ex a b d c0 : Int32} (hn : N = (1 : Int32)) (hX : ex = own_b (¬ (N = (0 : Int32)) ∧ a = (0 : Int32) ∧ b = (0 : Int32) ∧ d = (0 : Int32))) (hH : a = own_b ((c0 = (47 : Int32) ∨ c0 = (92 : Int32) ∨ c0 = (58 : Int32)))) (hD : b = own_b (c0 = (46 : Int32))) (hE : d = own_b False) (r0 : ¬ (c0 < (0 : Int32)) ∧ ¬ ((255 : Int32) < c0)) :
    own_b (¬ (([(c0.toUInt32.toUInt16.toUInt32.toInt32)] : List Int32) = []) ∧ ¬ ((47 : Int32) ∈ ([((c0.toUInt32.toUInt16.toUInt32.toInt32).toInt8.toInt32)] : List Int32)) ∧ ¬ ((92 : Int32) ∈ ([((c0.toUInt32.toUInt16.toUInt32.toInt32).toInt8.toInt32)] : List Int32)) ∧ ¬ ((58 : Int32) ∈ ([((c0.toUInt32.toUInt16.toUInt32.toInt32).toInt8.toInt32)] : List Int32)) ∧ ¬ (([(c0.toUInt32.toUInt16.toUInt32.toInt32)] : List Int32) = ([(46 : Int32)] : List Int32)) ∧ ¬ (([(c0.toUInt32.toUInt16.toUInt32.toInt32)] : List Int32) = ([(46 : Int32), (46 : Int32)] : List Int32))) = ex := by
  rw [hX]
  refine own_b_congr ?_
  subst hn hH hD hE
  rw [own_i2c r0.1 r0.2]
  have l1 := own_lo (k := 47) r0 (by decide) (by decide)
  have l2 := own_lo (k := 92) r0 (by decide) (by decide)
  have l3 := own_lo (k := 58) r0 (by decide) (by decide)
  have n1 : ¬ ((1 : Int32) = 0) := by decide
  simp only [own_b0, List.mem_cons, List.not_mem_nil, or_false, l1, l2, l3, List.cons.injEq, and_true, and_false, reduceCtorEq, not_false_eq_true, true_and, n1]
  simp only [← Int32.toInt_inj, own_e47, own_e92, own_e58, own_e46]
  omega
theorem own_fin2 {N ex a b d c0 c1 : Int32} (hn : N = (2 : Int32)) (hX : ex = own_b (¬ (N = (0 : Int32)) ∧ a = (0 : Int32) ∧ b = (0 : Int32) ∧ d = (0 : Int32))) (hH : a = own_b ((c0 = (47 : Int32) ∨ c0 = (92 : Int32) ∨ c0 = (58 : Int32)) ∨ (c1 = (47 : Int32) ∨ c1 = (92 : Int32) ∨ c1 = (58 : Int32)))) (hD : b = own_b False) (hE : d = own_b (c0 = (46 : Int32) ∧ c1 = (46 : Int32))) (r0 : ¬ (c0 < (0 : Int32)) ∧ ¬ ((255 : Int32) < c0)) (r1 : ¬ (c1 < (0 : Int32)) ∧ ¬ ((255 : Int32) < c1)) :
    own_b (¬ (([(c0.toUInt32.toUInt16.toUInt32.toInt32), (c1.toUInt32.toUInt16.toUInt32.toInt32)] : List Int32) = []) ∧ ¬ ((47 : Int32) ∈ ([((c0.toUInt32.toUInt16.toUInt32.toInt32).toInt8.toInt32), ((c1.toUInt32.toUInt16.toUInt32.toInt32).toInt8.toInt32)] : List Int32)) ∧ ¬ ((92 : Int32) ∈ ([((c0.toUInt32.toUInt16.toUInt32.toInt32).toInt8.toInt32), ((c1.toUInt32.toUInt16.toUInt32.toInt32).toInt8.toInt32)] : List Int32)) ∧ ¬ ((58 : Int32) ∈ ([((c0.toUInt32.toUInt16.toUInt32.toInt32).toInt8.toInt32), ((c1.toUInt32.toUInt16.toUInt32.toInt32).toInt8.toInt32)] : List Int32)) ∧ ¬ (([(c0.toUInt32.toUInt16.toUInt32.toInt32), (c1.toUInt32.toUInt16.toUInt32.toInt32)] : List Int32) = ([(46 : Int32)] : List Int32)) ∧ ¬ (([(c0.toUInt32.toUInt16.toUInt32.toInt32), (c1.toUInt32.toUInt16.toUInt32.toInt32)] : List Int32) = ([(46 : Int32), (46 : Int32)] : List Int32))) = ex := by
  rw [hX]
  refine own_b_congr ?_
  subst hn hH hD hE
  rw [own_i2c r0.1 r0.2, own_i2c r1.1 r1.2]
  have l1 := own_lo (k := 47) r0 (by decide) (by decide)
  have l2 := own_lo (k := 92) r0 (by decide) (by decide)
  have l3 := own_lo (k := 58) r0 (by decide) (by decide)
  have m1 := own_lo (k := 47) r1 (by decide) (by decide)
  have m2 := own_lo (k := 92) r1 (by decide) (by decide)
  have m3 := own_lo (k := 58) r1 (by decide) (by decide)
  have n1 : ¬ ((2 : Int32) = 0) := by decide
  simp only [own_b0, List.mem_cons, List.not_mem_nil, or_false, l1, l2, l3, m1, m2, m3, List.cons.injEq, and_true, and_false, reduceCtorEq, not_false_eq_true, true_and, n1]
  simp only [← Int32.toInt_inj, own_e47, own_e92, own_e58, own_e46]
  omega
theorem own_fin3 {N ex a b d c0 c1 c2 : Int32} (hn : N = (3 : Int32)) (hX : ex = own_b (¬ (N = (0 : Int32)) ∧ a = (0 : Int32) ∧ b = (0 : Int32) ∧ d = (0 : Int32))) (hH : a = own_b ((c0 = (47 : Int32) ∨ c0 = (92 : Int32) ∨ c0 = (58 : Int32)) ∨ (c1 = (47 : Int32) ∨ c1 = (92 : Int32) ∨ c1 = (58 : Int32)) ∨ (c2 = (47 : Int32) ∨ c2 = (92 : Int32) ∨ c2 = (58 : Int32)))) (hD : b = own_b False) (hE : d = own_b False) (r0 : ¬ (c0 < (0 : Int32)) ∧ ¬ ((255 : Int32) < c0)) (r1 : ¬ (c1 < (0 : Int32)) ∧ ¬ ((255 : Int32) < c1)) (r2 : ¬ (c2 < (0 : Int32)) ∧ ¬ ((255 : Int32) < c2)) :
    own_b (¬ (([(c0.toUInt32.toUInt16.toUInt32.toInt32), (c1.toUInt32.toUInt16.toUInt32.toInt32), (c2.toUInt32.toUInt16.toUInt32.toInt32)] : List Int32) = []) ∧ ¬ ((47 : Int32) ∈ ([((c0.toUInt32.toUInt16.toUInt32.toInt32).toInt8.toInt32), ((c1.toUInt32.toUInt16.toUInt32.toInt32).toInt8.toInt32), ((c2.toUInt32.toUInt16.toUInt32.toInt32).toInt8.toInt32)] : List Int32)) ∧ ¬ ((92 : Int32) ∈ ([((c0.toUInt32.toUInt16.toUInt32.toInt32).toInt8.toInt32), ((c1.toUInt32.toUInt16.toUInt32.toInt32).toInt8.toInt32), ((c2.toUInt32.toUInt16.toUInt32.toInt32).toInt8.toInt32)] : List Int32)) ∧ ¬ ((58 : Int32) ∈ ([((c0.toUInt32.toUInt16.toUInt32.toInt32).toInt8.toInt32), ((c1.toUInt32.toUInt16.toUInt32.toInt32).toInt8.toInt32), ((c2.toUInt32.toUInt16.toUInt32.toInt32).toInt8.toInt32)] : List Int32)) ∧ ¬ (([(c0.toUInt32.toUInt16.toUInt32.toInt32), (c1.toUInt32.toUInt16.toUInt32.toInt32), (c2.toUInt32.toUInt16.toUInt32.toInt32)] : List Int32) = ([(46 : Int32)] : List Int32)) ∧ ¬ (([(c0.toUInt32.toUInt16.toUInt32.toInt32), (c1.toUInt32.toUInt16.toUInt32.toInt32), (c2.toUInt32.toUInt16.toUInt32.toInt32)] : List Int32) = ([(46 : Int32), (46 : Int32)] : List Int32))) = ex := by
  rw [hX]
  refine own_b_congr ?_
  subst hn hH hD hE
  rw [own_i2c r0.1 r0.2, own_i2c r1.1 r1.2, own_i2c r2.1 r2.2]
  have l1 := own_lo (k := 47) r0 (by decide) (by decide)
  have l2 := own_lo (k := 92) r0 (by decide) (by decide)
  have l3 := own_lo (k := 58) r0 (by decide) (by decide)
  have m1 := own_lo (k := 47) r1 (by decide) (by decide)
  have m2 := own_lo (k := 92) r1 (by decide) (by decide)
  have m3 := own_lo (k := 58) r1 (by decide) (by decide)
  have p1 := own_lo (k := 47) r2 (by decide) (by decide)
  have p2 := own_lo (k := 92) r2 (by decide) (by decide)
  have p3 := own_lo (k := 58) r2 (by decide) (by decide)
  have n1 : ¬ ((3 : Int32) = 0) := by decide
  simp only [own_b0, List.mem_cons, List.not_mem_nil, or_false, l1, l2, l3, m1, m2, m3, p1, p2, p3, List.cons.injEq, and_true, and_false, reduceCtorEq, not_false_eq_true, true_and, n1]
  simp only [not_or]
  constructor
  · intro q
    exact ⟨⟨q.1.1, q.2.1.1, q.2.2.1⟩, ⟨q.1.2.1, q.2.1.2.1, q.2.2.2.1⟩, ⟨q.1.2.2, q.2.1.2.2, q.2.2.2.2⟩⟩
  · intro q
    exact ⟨⟨q.1.1, q.2.1.1, q.2.2.1⟩, ⟨q.1.2.1, q.2.1.2.1, q.2.2.2.1⟩, ⟨q.1.2.2, q.2.1.2.2, q.2.2.2.2⟩⟩

theorem d1_0 : decode method_2_code 0 = .ok (.iload_n 0, 1) := by decide +kernel
theorem d1_1 : decode method_2_code 1 = .ok (.sipush 511, 3) := by decide +kernel
theorem d1_4 : decode method_2_code 4 = .ok (.iand, 1) := by decide +kernel
theorem d1_5 : decode method_2_code 5 = .ok (.istore_n 1, 1) := by decide +kernel
theorem d1_6 : decode method_2_code 6 = .ok (.iload_n 1, 1) := by decide +kernel
theorem d1_7 : decode method_2_code 7 = .ok (.sipush 256, 3) := by decide +kernel
theorem d1_10 : decode method_2_code 10 = .ok (.if_icmp .ge 6, 3) := by decide +kernel
theorem d1_13 : decode method_2_code 13 = .ok (.iload_n 1, 1) := by decide +kernel
theorem d1_14 : decode method_2_code 14 = .ok (.i2c, 1) := by decide +kernel
theorem d1_15 : decode method_2_code 15 = .ok (.ireturn, 1) := by decide +kernel
theorem d1_16 : decode method_2_code 16 = .ok (.iload_n 1, 1) := by decide +kernel
theorem d1_17 : decode method_2_code 17 = .ok (.iconst 3, 1) := by decide +kernel
theorem d1_18 : decode method_2_code 18 = .ok (.iand, 1) := by decide +kernel
theorem d1_19 : decode method_2_code 19 = .ok (.istore_n 2, 1) := by decide +kernel
theorem d1_20 : decode method_2_code 20 = .ok (.iload_n 2, 1) := by decide +kernel
theorem d1_21 : decode method_2_code 21 = .ok (.ifCond .ne 6, 3) := by decide +kernel
theorem d1_24 : decode method_2_code 24 = .ok (.bipush 47, 2) := by decide +kernel
theorem d1_26 : decode method_2_code 26 = .ok (.ireturn, 1) := by decide +kernel
theorem d1_27 : decode method_2_code 27 = .ok (.iload_n 2, 1) := by decide +kernel
theorem d1_28 : decode method_2_code 28 = .ok (.iconst 1, 1) := by decide +kernel
theorem d1_29 : decode method_2_code 29 = .ok (.if_icmp .ne 6, 3) := by decide +kernel
theorem d1_32 : decode method_2_code 32 = .ok (.bipush 92, 2) := by decide +kernel
theorem d1_34 : decode method_2_code 34 = .ok (.ireturn, 1) := by decide +kernel
theorem d1_35 : decode method_2_code 35 = .ok (.iload_n 2, 1) := by decide +kernel
theorem d1_36 : decode method_2_code 36 = .ok (.iconst 2, 1) := by decide +kernel
theorem d1_37 : decode method_2_code 37 = .ok (.if_icmp .ne 6, 3) := by decide +kernel
theorem d1_40 : decode method_2_code 40 = .ok (.bipush 58, 2) := by decide +kernel
theorem d1_42 : decode method_2_code 42 = .ok (.ireturn, 1) := by decide +kernel
theorem d1_43 : decode method_2_code 43 = .ok (.bipush 46, 2) := by decide +kernel
theorem d1_45 : decode method_2_code 45 = .ok (.ireturn, 1) := by decide +kernel
theorem pn_com_example_stock_stock_io_FileNamesIsBarePinLaw : plainName "com/example/stock/stock/io/FileNamesIsBarePinLaw" = true := by first | (simp [plainName, overriddenIn]; done) | decide +kernel
theorem ef1 (m : MethodId) (x1 : Int32) : entryFrame m #[(.int x1)] 3 = mkF m 0 #[.val (.int x1), .unset, .unset] [] := by first | (simp [entryFrame, mkF, argsToLocals, Value.category]; done) | rfl
def Q1 (Z : State) (x1 : Int32) (h0 : Heap) (n0 : Nat) (v : Option Value) (h : Heap) (L : List Loc) : Prop := v = some (.int (own_pick x1)) ∧ Fr n0 L ∧ h = h0
set_option maxRecDepth 65536 in
set_option maxHeartbeats 40000000 in
theorem rm1 (l : Launch) (Z : State) (a0 : Array Value) (hw : ∀ d ∈ tables_1, d.before a0 Z = true) (ws : List Jvm.Cond) (x1 : Int32) (h0 : Heap) (n0 : Nat) (Z0 : n0 ≤ h0.size) (O0 : Old Z n0 h0) :
    MetFree l (⟨"com/example/stock/stock/io/FileNamesIsBarePinLaw", "pick", "(I)C"⟩ : MethodName) (head1 (Jvm.Cond.code (⟨"com/example/stock/stock/io/FileNamesIsBarePinLaw", "pick", "(I)C"⟩ : MethodName) method_2_code 3 (some .char) :: ws) ({ frames := 0, cells := 0, slots := 0, locals := 0 } : Room)) (fun a U => a = #[(.int x1)] ∧ Z.Warmed39 U.vm ∧ U.heap = h0) (fun _ _ _ _ _ => True) (fun _ U o U' => ∃ v L, o = .returned v ∧ Q1 Z x1 h0 n0 v U'.heap L ∧ FrameEnd U o U' L ({ frames := 0, cells := 0, slots := 0, locals := 0 } : Room).cells ({ frames := 0, cells := 0, slots := 0, locals := 0 } : Room).slots) := by
  refine MetFree.of_bodySF (plainFor_of_name pn_com_example_stock_stock_io_FileNamesIsBarePinLaw) hisR ?_
  intro p e s m args below meth c s₁ Bd hml0 hP hK
  obtain ⟨rfl, hZ, hh⟩ := hP
  have hx := Bd.exec
  have hby := Bd.bytes
  have hml : c.maxLocals = 3 := hml0
  have hown : s.vm.findClass "com/example/stock/stock/io/FileNamesIsBarePinLaw" = some m.cls := findClass_of_methodNamed Bd.named
  have hnm := (name_of_methodNamed Bd.named Bd.method).1
  have X0 : Stand p l e ({ frames := 0, cells := 0, slots := 0, locals := 0 } : Room) s m #[(.int x1)] below meth c s₁ [] 0 0 := Stand.of_body Bd
  have e0 : s₁.heap = h0 := by rw [← hh, Bd.state]; rfl
  have N0 := Fr.nil n0
  have K0 : Keep h0 h0 [] := Keep.refl _ _
  have pre0 : ∀ t, Steps p.tables e below (s₁.setTop (mkF m 0 #[.val (.int x1), .unset, .unset] [])) t → Steps p.tables e below (s₁.setTop (entryFrame m #[(.int x1)] 3)) t := fun t k => castTop (ef1 m x1) k
  have pre1 : ∀ t, Steps p.tables e below (s₁.setTop (mkF m 10 #[.val (.int x1), .val (.int (x1 &&& (511 : Int32))), .unset] [(.int (256 : Int32)), (.int (x1 &&& (511 : Int32)))])) t → Steps p.tables e below (s₁.setTop (entryFrame m #[(.int x1)] 3)) t := by
    intro t kt
    refine pre0 t ?_
    show Steps p.tables e below (s₁.setTop (mkF m 0 #[.val (.int x1), .unset, .unset] [])) _
    refine XS.iloadN X0.here hx rfl (hb hby d1_0) rfl ?_
    refine XS.sipush X0.here hx rfl (hb hby d1_1) ?_
    refine XS.iand X0.here hx rfl (hb hby d1_4) rfl ?_
    refine XS.istoreN X0.here hx rfl (hb hby d1_5) rfl (l' := #[.val (.int x1), .val (.int (x1 &&& (511 : Int32))), .unset]) rfl ?_
    refine XS.iloadN X0.here hx rfl (hb hby d1_6) rfl ?_
    refine XS.sipush X0.here hx rfl (hb hby d1_7) ?_
    exact kt
  by_cases hc10 : (x1 &&& (511 : Int32)) < (256 : Int32)
  · skip
    obtain ⟨fs, hr, hrun, hended, hW, hsame⟩ := X0.leave (v := some (.int (((x1 &&& (511 : Int32)).toUInt32.toUInt16.toUInt32.toInt32).toUInt32.toUInt16.toUInt32.toInt32))) (fun h => by rw [Bd.returns] at h; cases h)
    refine ⟨_, _, pre1 _ ?_, hrun, hended, _, _, rfl, ?_, ⟨_, rfl⟩, hW, hsame.mono (by decide) (by decide)⟩
    · show Steps p.tables e below (s₁.setTop (mkF m 10 #[.val (.int x1), .val (.int (x1 &&& (511 : Int32))), .unset] [(.int (256 : Int32)), (.int (x1 &&& (511 : Int32)))])) _
      refine XS.icmpNo X0.here hx rfl (hb hby d1_10) rfl (tlt hc10).2.1 ?_
      refine XS.iloadN X0.here hx rfl (hb hby d1_13) rfl ?_
      refine XS.i2c X0.here hx rfl (hb hby d1_14) rfl ?_
      show Steps p.tables e below (s₁.setTop (mkF m 15 #[.val (.int x1), .val (.int (x1 &&& (511 : Int32))), .unset] [(.int ((x1 &&& (511 : Int32)).toUInt32.toUInt16.toUInt32.toInt32))])) _
      exact retN X0 hx (t := .char) Bd.returns (by simp) (hb hby d1_15) hr
    · show Q1 Z x1 h0 n0 _ s₁.heap _
      rw [e0]
      exact ⟨(congrArg (fun z => some (Value.int z)) (own_pickA hc10)), N0, rfl⟩
  · skip
    have pre2 : ∀ t, Steps p.tables e below (s₁.setTop (mkF m 21 #[.val (.int x1), .val (.int (x1 &&& (511 : Int32))), .val (.int ((x1 &&& (511 : Int32)) &&& (3 : Int32)))] [(.int ((x1 &&& (511 : Int32)) &&& (3 : Int32)))])) t → Steps p.tables e below (s₁.setTop (entryFrame m #[(.int x1)] 3)) t := by
      intro t kt
      refine pre1 t ?_
      show Steps p.tables e below (s₁.setTop (mkF m 10 #[.val (.int x1), .val (.int (x1 &&& (511 : Int32))), .unset] [(.int (256 : Int32)), (.int (x1 &&& (511 : Int32)))])) _
      refine XS.icmpYes X0.here hx rfl (pc0 := 10) (pc' := 16) rfl (hb hby d1_10) rfl (flt hc10).2.1 (by decide) (by decide) ?_
      refine XS.iloadN X0.here hx rfl (hb hby d1_16) rfl ?_
      refine XS.iconst X0.here hx rfl (hb hby d1_17) ?_
      refine XS.iand X0.here hx rfl (hb hby d1_18) rfl ?_
      refine XS.istoreN X0.here hx rfl (hb hby d1_19) rfl (l' := #[.val (.int x1), .val (.int (x1 &&& (511 : Int32))), .val (.int ((x1 &&& (511 : Int32)) &&& (3 : Int32)))]) rfl ?_
      refine XS.iloadN X0.here hx rfl (hb hby d1_20) rfl ?_
      exact kt
    by_cases hc21 : ((x1 &&& (511 : Int32)) &&& (3 : Int32)) = (0 : Int32)
    · skip
      obtain ⟨fs, hr, hrun, hended, hW, hsame⟩ := X0.leave (v := some (.int (47 : Int32))) (fun h => by rw [Bd.returns] at h; cases h)
      refine ⟨_, _, pre2 _ ?_, hrun, hended, _, _, rfl, ?_, ⟨_, rfl⟩, hW, hsame.mono (by decide) (by decide)⟩
      · show Steps p.tables e below (s₁.setTop (mkF m 21 #[.val (.int x1), .val (.int (x1 &&& (511 : Int32))), .val (.int ((x1 &&& (511 : Int32)) &&& (3 : Int32)))] [(.int ((x1 &&& (511 : Int32)) &&& (3 : Int32)))])) _
        refine XS.ifNo X0.here hx rfl (hb hby d1_21) rfl ((if0 _ _).trans (teq hc21).2) ?_
        refine XS.bipush X0.here hx rfl (hb hby d1_24) ?_
        show Steps p.tables e below (s₁.setTop (mkF m 26 #[.val (.int x1), .val (.int (x1 &&& (511 : Int32))), .val (.int ((x1 &&& (511 : Int32)) &&& (3 : Int32)))] [(.int (47 : Int32))])) _
        exact retN X0 hx (t := .char) Bd.returns (by simp) (hb hby d1_26) hr
      · show Q1 Z x1 h0 n0 _ s₁.heap _
        rw [e0]
        exact ⟨(by simp only [own_pick]; simp [hc10, hc21]), N0, rfl⟩
    · skip
      have pre3 : ∀ t, Steps p.tables e below (s₁.setTop (mkF m 29 #[.val (.int x1), .val (.int (x1 &&& (511 : Int32))), .val (.int ((x1 &&& (511 : Int32)) &&& (3 : Int32)))] [(.int (1 : Int32)), (.int ((x1 &&& (511 : Int32)) &&& (3 : Int32)))])) t → Steps p.tables e below (s₁.setTop (entryFrame m #[(.int x1)] 3)) t := by
        intro t kt
        refine pre2 t ?_
        show Steps p.tables e below (s₁.setTop (mkF m 21 #[.val (.int x1), .val (.int (x1 &&& (511 : Int32))), .val (.int ((x1 &&& (511 : Int32)) &&& (3 : Int32)))] [(.int ((x1 &&& (511 : Int32)) &&& (3 : Int32)))])) _
        refine XS.ifYes X0.here hx rfl (pc0 := 21) (pc' := 27) rfl (hb hby d1_21) rfl ((if0 _ _).trans (feq hc21).2) (by decide) (by decide) ?_
        refine XS.iloadN X0.here hx rfl (hb hby d1_27) rfl ?_
        refine XS.iconst X0.here hx rfl (hb hby d1_28) ?_
        exact kt
      by_cases hc29 : ((x1 &&& (511 : Int32)) &&& (3 : Int32)) = (1 : Int32)
      · skip
        obtain ⟨fs, hr, hrun, hended, hW, hsame⟩ := X0.leave (v := some (.int (92 : Int32))) (fun h => by rw [Bd.returns] at h; cases h)
        refine ⟨_, _, pre3 _ ?_, hrun, hended, _, _, rfl, ?_, ⟨_, rfl⟩, hW, hsame.mono (by decide) (by decide)⟩
        · show Steps p.tables e below (s₁.setTop (mkF m 29 #[.val (.int x1), .val (.int (x1 &&& (511 : Int32))), .val (.int ((x1 &&& (511 : Int32)) &&& (3 : Int32)))] [(.int (1 : Int32)), (.int ((x1 &&& (511 : Int32)) &&& (3 : Int32)))])) _
          refine XS.icmpNo X0.here hx rfl (hb hby d1_29) rfl (teq hc29).2 ?_
          refine XS.bipush X0.here hx rfl (hb hby d1_32) ?_
          show Steps p.tables e below (s₁.setTop (mkF m 34 #[.val (.int x1), .val (.int (x1 &&& (511 : Int32))), .val (.int ((x1 &&& (511 : Int32)) &&& (3 : Int32)))] [(.int (92 : Int32))])) _
          exact retN X0 hx (t := .char) Bd.returns (by simp) (hb hby d1_34) hr
        · show Q1 Z x1 h0 n0 _ s₁.heap _
          rw [e0]
          exact ⟨(by simp only [own_pick]; simp [hc10, hc21, hc29]), N0, rfl⟩
      · skip
        have pre4 : ∀ t, Steps p.tables e below (s₁.setTop (mkF m 37 #[.val (.int x1), .val (.int (x1 &&& (511 : Int32))), .val (.int ((x1 &&& (511 : Int32)) &&& (3 : Int32)))] [(.int (2 : Int32)), (.int ((x1 &&& (511 : Int32)) &&& (3 : Int32)))])) t → Steps p.tables e below (s₁.setTop (entryFrame m #[(.int x1)] 3)) t := by
          intro t kt
          refine pre3 t ?_
          show Steps p.tables e below (s₁.setTop (mkF m 29 #[.val (.int x1), .val (.int (x1 &&& (511 : Int32))), .val (.int ((x1 &&& (511 : Int32)) &&& (3 : Int32)))] [(.int (1 : Int32)), (.int ((x1 &&& (511 : Int32)) &&& (3 : Int32)))])) _
          refine XS.icmpYes X0.here hx rfl (pc0 := 29) (pc' := 35) rfl (hb hby d1_29) rfl (feq hc29).2 (by decide) (by decide) ?_
          refine XS.iloadN X0.here hx rfl (hb hby d1_35) rfl ?_
          refine XS.iconst X0.here hx rfl (hb hby d1_36) ?_
          exact kt
        by_cases hc37 : ((x1 &&& (511 : Int32)) &&& (3 : Int32)) = (2 : Int32)
        · skip
          obtain ⟨fs, hr, hrun, hended, hW, hsame⟩ := X0.leave (v := some (.int (58 : Int32))) (fun h => by rw [Bd.returns] at h; cases h)
          refine ⟨_, _, pre4 _ ?_, hrun, hended, _, _, rfl, ?_, ⟨_, rfl⟩, hW, hsame.mono (by decide) (by decide)⟩
          · show Steps p.tables e below (s₁.setTop (mkF m 37 #[.val (.int x1), .val (.int (x1 &&& (511 : Int32))), .val (.int ((x1 &&& (511 : Int32)) &&& (3 : Int32)))] [(.int (2 : Int32)), (.int ((x1 &&& (511 : Int32)) &&& (3 : Int32)))])) _
            refine XS.icmpNo X0.here hx rfl (hb hby d1_37) rfl (teq hc37).2 ?_
            refine XS.bipush X0.here hx rfl (hb hby d1_40) ?_
            show Steps p.tables e below (s₁.setTop (mkF m 42 #[.val (.int x1), .val (.int (x1 &&& (511 : Int32))), .val (.int ((x1 &&& (511 : Int32)) &&& (3 : Int32)))] [(.int (58 : Int32))])) _
            exact retN X0 hx (t := .char) Bd.returns (by simp) (hb hby d1_42) hr
          · show Q1 Z x1 h0 n0 _ s₁.heap _
            rw [e0]
            exact ⟨(by simp only [own_pick]; simp [hc10, hc21, hc29, hc37]), N0, rfl⟩
        · skip
          obtain ⟨fs, hr, hrun, hended, hW, hsame⟩ := X0.leave (v := some (.int (46 : Int32))) (fun h => by rw [Bd.returns] at h; cases h)
          refine ⟨_, _, pre4 _ ?_, hrun, hended, _, _, rfl, ?_, ⟨_, rfl⟩, hW, hsame.mono (by decide) (by decide)⟩
          · show Steps p.tables e below (s₁.setTop (mkF m 37 #[.val (.int x1), .val (.int (x1 &&& (511 : Int32))), .val (.int ((x1 &&& (511 : Int32)) &&& (3 : Int32)))] [(.int (2 : Int32)), (.int ((x1 &&& (511 : Int32)) &&& (3 : Int32)))])) _
            refine XS.icmpYes X0.here hx rfl (pc0 := 37) (pc' := 43) rfl (hb hby d1_37) rfl (feq hc37).2 (by decide) (by decide) ?_
            refine XS.bipush X0.here hx rfl (hb hby d1_43) ?_
            show Steps p.tables e below (s₁.setTop (mkF m 45 #[.val (.int x1), .val (.int (x1 &&& (511 : Int32))), .val (.int ((x1 &&& (511 : Int32)) &&& (3 : Int32)))] [(.int (46 : Int32))])) _
            exact retN X0 hx (t := .char) Bd.returns (by simp) (hb hby d1_45) hr
          · show Q1 Z x1 h0 n0 _ s₁.heap _
            rw [e0]
            exact ⟨(by simp only [own_pick]; simp [hc10, hc21, hc29, hc37]), N0, rfl⟩
theorem d8_0 : decode method_3_code 0 = .ok (.iload_n 0, 1) := by decide +kernel
theorem d8_1 : decode method_3_code 1 = .ok (.bipush 47, 2) := by decide +kernel
theorem d8_3 : decode method_3_code 3 = .ok (.if_icmp .eq 15, 3) := by decide +kernel
theorem d8_18 : decode method_3_code 18 = .ok (.iconst 1, 1) := by decide +kernel
theorem d8_19 : decode method_3_code 19 = .ok (.goto 4, 3) := by decide +kernel
theorem d8_23 : decode method_3_code 23 = .ok (.ireturn, 1) := by decide +kernel
theorem d8_6 : decode method_3_code 6 = .ok (.iload_n 0, 1) := by decide +kernel
theorem d8_7 : decode method_3_code 7 = .ok (.bipush 92, 2) := by decide +kernel
theorem d8_9 : decode method_3_code 9 = .ok (.if_icmp .eq 9, 3) := by decide +kernel
theorem d8_12 : decode method_3_code 12 = .ok (.iload_n 0, 1) := by decide +kernel
theorem d8_13 : decode method_3_code 13 = .ok (.bipush 58, 2) := by decide +kernel
theorem d8_15 : decode method_3_code 15 = .ok (.if_icmp .ne 7, 3) := by decide +kernel
theorem d8_22 : decode method_3_code 22 = .ok (.iconst 0, 1) := by decide +kernel
theorem ef8 (m : MethodId) (x1 : Int32) : entryFrame m #[(.int x1)] 1 = mkF m 0 #[.val (.int x1)] [] := by first | (simp [entryFrame, mkF, argsToLocals, Value.category]; done) | rfl
def Q8 (Z : State) (x1 : Int32) (h0 : Heap) (n0 : Nat) (v : Option Value) (h : Heap) (L : List Loc) : Prop := v = some (.int (own_b (x1 = (47 : Int32) ∨ x1 = (92 : Int32) ∨ x1 = (58 : Int32)))) ∧ Fr n0 L ∧ h = h0
set_option maxRecDepth 65536 in
set_option maxHeartbeats 40000000 in
theorem rm8 (l : Launch) (Z : State) (a0 : Array Value) (hw : ∀ d ∈ tables_1, d.before a0 Z = true) (ws : List Jvm.Cond) (x1 : Int32) (h0 : Heap) (n0 : Nat) (Z0 : n0 ≤ h0.size) (O0 : Old Z n0 h0) :
    MetFree l (⟨"com/example/stock/stock/io/FileNamesIsBarePinLaw", "sep", "(C)Z"⟩ : MethodName) (head1 (Jvm.Cond.code (⟨"com/example/stock/stock/io/FileNamesIsBarePinLaw", "sep", "(C)Z"⟩ : MethodName) method_3_code 1 (some .boolean) :: ws) ({ frames := 0, cells := 0, slots := 0, locals := 0 } : Room)) (fun a U => a = #[(.int x1)] ∧ Z.Warmed39 U.vm ∧ U.heap = h0) (fun _ _ _ _ _ => True) (fun _ U o U' => ∃ v L, o = .returned v ∧ Q8 Z x1 h0 n0 v U'.heap L ∧ FrameEnd U o U' L ({ frames := 0, cells := 0, slots := 0, locals := 0 } : Room).cells ({ frames := 0, cells := 0, slots := 0, locals := 0 } : Room).slots) := by
  refine MetFree.of_bodySF (plainFor_of_name pn_com_example_stock_stock_io_FileNamesIsBarePinLaw) hisR ?_
  intro p e s m args below meth c s₁ Bd hml0 hP hK
  obtain ⟨rfl, hZ, hh⟩ := hP
  have hx := Bd.exec
  have hby := Bd.bytes
  have hml : c.maxLocals = 1 := hml0
  have hown : s.vm.findClass "com/example/stock/stock/io/FileNamesIsBarePinLaw" = some m.cls := findClass_of_methodNamed Bd.named
  have hnm := (name_of_methodNamed Bd.named Bd.method).1
  have X0 : Stand p l e ({ frames := 0, cells := 0, slots := 0, locals := 0 } : Room) s m #[(.int x1)] below meth c s₁ [] 0 0 := Stand.of_body Bd
  have e0 : s₁.heap = h0 := by rw [← hh, Bd.state]; rfl
  have N0 := Fr.nil n0
  have K0 : Keep h0 h0 [] := Keep.refl _ _
  have pre0 : ∀ t, Steps p.tables e below (s₁.setTop (mkF m 0 #[.val (.int x1)] [])) t → Steps p.tables e below (s₁.setTop (entryFrame m #[(.int x1)] 1)) t := fun t k => castTop (ef8 m x1) k
  have pre5 : ∀ t, Steps p.tables e below (s₁.setTop (mkF m 3 #[.val (.int x1)] [(.int (47 : Int32)), (.int x1)])) t → Steps p.tables e below (s₁.setTop (entryFrame m #[(.int x1)] 1)) t := by
    intro t kt
    refine pre0 t ?_
    show Steps p.tables e below (s₁.setTop (mkF m 0 #[.val (.int x1)] [])) _
    refine XS.iloadN X0.here hx rfl (hb hby d8_0) rfl ?_
    refine XS.bipush X0.here hx rfl (hb hby d8_1) ?_
    exact kt
  by_cases hc3 : x1 = (47 : Int32)
  · skip
    obtain ⟨fs, hr, hrun, hended, hW, hsame⟩ := X0.leave (v := some (.int (1 : Int32))) (fun h => by rw [Bd.returns] at h; cases h)
    refine ⟨_, _, pre5 _ ?_, hrun, hended, _, _, rfl, ?_, ⟨_, rfl⟩, hW, hsame.mono (by decide) (by decide)⟩
    · show Steps p.tables e below (s₁.setTop (mkF m 3 #[.val (.int x1)] [(.int (47 : Int32)), (.int x1)])) _
      refine XS.icmpYes X0.here hx rfl (pc0 := 3) (pc' := 18) rfl (hb hby d8_3) rfl (teq hc3).1 (by decide) (by decide) ?_
      refine XS.iconst X0.here hx rfl (hb hby d8_18) ?_
      refine XS.goto X0.here hx rfl (pc0 := 19) (pc' := 23) rfl (hb hby d8_19) (by decide) (by decide) ?_
      show Steps p.tables e below (s₁.setTop (mkF m 23 #[.val (.int x1)] [(.int (1 : Int32))])) _
      exact retN X0 hx (t := .boolean) Bd.returns (by simp) (hb hby d8_23) hr
    · show Q8 Z x1 h0 n0 _ s₁.heap _
      rw [e0]
      exact ⟨(by simp only [own_b]; simp [hc3]), N0, rfl⟩
  · skip
    have pre6 : ∀ t, Steps p.tables e below (s₁.setTop (mkF m 9 #[.val (.int x1)] [(.int (92 : Int32)), (.int x1)])) t → Steps p.tables e below (s₁.setTop (entryFrame m #[(.int x1)] 1)) t := by
      intro t kt
      refine pre5 t ?_
      show Steps p.tables e below (s₁.setTop (mkF m 3 #[.val (.int x1)] [(.int (47 : Int32)), (.int x1)])) _
      refine XS.icmpNo X0.here hx rfl (hb hby d8_3) rfl (feq hc3).1 ?_
      refine XS.iloadN X0.here hx rfl (hb hby d8_6) rfl ?_
      refine XS.bipush X0.here hx rfl (hb hby d8_7) ?_
      exact kt
    by_cases hc9 : x1 = (92 : Int32)
    · skip
      obtain ⟨fs, hr, hrun, hended, hW, hsame⟩ := X0.leave (v := some (.int (1 : Int32))) (fun h => by rw [Bd.returns] at h; cases h)
      refine ⟨_, _, pre6 _ ?_, hrun, hended, _, _, rfl, ?_, ⟨_, rfl⟩, hW, hsame.mono (by decide) (by decide)⟩
      · show Steps p.tables e below (s₁.setTop (mkF m 9 #[.val (.int x1)] [(.int (92 : Int32)), (.int x1)])) _
        refine XS.icmpYes X0.here hx rfl (pc0 := 9) (pc' := 18) rfl (hb hby d8_9) rfl (teq hc9).1 (by decide) (by decide) ?_
        show Steps p.tables e below (s₁.setTop (mkF m 18 #[.val (.int x1)] [])) _
        refine XS.iconst X0.here hx rfl (hb hby d8_18) ?_
        refine XS.goto X0.here hx rfl (pc0 := 19) (pc' := 23) rfl (hb hby d8_19) (by decide) (by decide) ?_
        show Steps p.tables e below (s₁.setTop (mkF m 23 #[.val (.int x1)] [(.int (1 : Int32))])) _
        exact retN X0 hx (t := .boolean) Bd.returns (by simp) (hb hby d8_23) hr
      · show Q8 Z x1 h0 n0 _ s₁.heap _
        rw [e0]
        exact ⟨(by simp only [own_b]; simp [hc3, hc9]), N0, rfl⟩
    · skip
      have pre7 : ∀ t, Steps p.tables e below (s₁.setTop (mkF m 15 #[.val (.int x1)] [(.int (58 : Int32)), (.int x1)])) t → Steps p.tables e below (s₁.setTop (entryFrame m #[(.int x1)] 1)) t := by
        intro t kt
        refine pre6 t ?_
        show Steps p.tables e below (s₁.setTop (mkF m 9 #[.val (.int x1)] [(.int (92 : Int32)), (.int x1)])) _
        refine XS.icmpNo X0.here hx rfl (hb hby d8_9) rfl (feq hc9).1 ?_
        show Steps p.tables e below (s₁.setTop (mkF m 12 #[.val (.int x1)] [])) _
        refine XS.iloadN X0.here hx rfl (hb hby d8_12) rfl ?_
        refine XS.bipush X0.here hx rfl (hb hby d8_13) ?_
        exact kt
      by_cases hc15 : x1 = (58 : Int32)
      · skip
        obtain ⟨fs, hr, hrun, hended, hW, hsame⟩ := X0.leave (v := some (.int (1 : Int32))) (fun h => by rw [Bd.returns] at h; cases h)
        refine ⟨_, _, pre7 _ ?_, hrun, hended, _, _, rfl, ?_, ⟨_, rfl⟩, hW, hsame.mono (by decide) (by decide)⟩
        · show Steps p.tables e below (s₁.setTop (mkF m 15 #[.val (.int x1)] [(.int (58 : Int32)), (.int x1)])) _
          refine XS.icmpNo X0.here hx rfl (hb hby d8_15) rfl (teq hc15).2 ?_
          refine XS.iconst X0.here hx rfl (hb hby d8_18) ?_
          refine XS.goto X0.here hx rfl (pc0 := 19) (pc' := 23) rfl (hb hby d8_19) (by decide) (by decide) ?_
          show Steps p.tables e below (s₁.setTop (mkF m 23 #[.val (.int x1)] [(.int (1 : Int32))])) _
          exact retN X0 hx (t := .boolean) Bd.returns (by simp) (hb hby d8_23) hr
        · show Q8 Z x1 h0 n0 _ s₁.heap _
          rw [e0]
          exact ⟨(by simp only [own_b]; simp [hc3, hc9, hc15]), N0, rfl⟩
      · skip
        obtain ⟨fs, hr, hrun, hended, hW, hsame⟩ := X0.leave (v := some (.int (0 : Int32))) (fun h => by rw [Bd.returns] at h; cases h)
        refine ⟨_, _, pre7 _ ?_, hrun, hended, _, _, rfl, ?_, ⟨_, rfl⟩, hW, hsame.mono (by decide) (by decide)⟩
        · show Steps p.tables e below (s₁.setTop (mkF m 15 #[.val (.int x1)] [(.int (58 : Int32)), (.int x1)])) _
          refine XS.icmpYes X0.here hx rfl (pc0 := 15) (pc' := 22) rfl (hb hby d8_15) rfl (feq hc15).2 (by decide) (by decide) ?_
          refine XS.iconst X0.here hx rfl (hb hby d8_22) ?_
          show Steps p.tables e below (s₁.setTop (mkF m 23 #[.val (.int x1)] [(.int (0 : Int32))])) _
          exact retN X0 hx (t := .boolean) Bd.returns (by simp) (hb hby d8_23) hr
        · show Q8 Z x1 h0 n0 _ s₁.heap _
          rw [e0]
          exact ⟨(by simp only [own_b]; simp [hc3, hc9, hc15]), N0, rfl⟩
theorem d3_0 : decode jdk_42_method_149_code 0 = .ok (.aload_n 0, 1) := by decide +kernel
theorem d3_1 : decode jdk_42_method_149_code 1 = .ok (.invokespecial 1, 3) := by decide +kernel
theorem d3_4 : decode jdk_42_method_149_code 4 = .ok (.iload_n 3, 1) := by decide +kernel
theorem d3_5 : decode jdk_42_method_149_code 5 = .ok (.ifCond .ne 22, 3) := by decide +kernel
theorem d3_8 : decode jdk_42_method_149_code 8 = .ok (.aload_n 0, 1) := by decide +kernel
theorem d3_9 : decode jdk_42_method_149_code 9 = .ok (.ldc 7, 2) := by decide +kernel
theorem d3_11 : decode jdk_42_method_149_code 11 = .ok (.getfield 9, 3) := by decide +kernel
theorem d3_14 : decode jdk_42_method_149_code 14 = .ok (.putfield 9, 3) := by decide +kernel
theorem d3_17 : decode jdk_42_method_149_code 17 = .ok (.aload_n 0, 1) := by decide +kernel
theorem d3_18 : decode jdk_42_method_149_code 18 = .ok (.ldc 7, 2) := by decide +kernel
theorem d3_20 : decode jdk_42_method_149_code 20 = .ok (.getfield 15, 3) := by decide +kernel
theorem d3_23 : decode jdk_42_method_149_code 23 = .ok (.putfield 15, 3) := by decide +kernel
theorem d3_26 : decode jdk_42_method_149_code 26 = .ok (.return_, 1) := by decide +kernel
theorem pn_java_lang_String : plainName "java/lang/String" = true := by first | (simp [plainName, overriddenIn]; done) | decide +kernel
theorem ef3 (m : MethodId) (tz : Addr) (x1 : Addr) : entryFrame m #[(.ref tz), (.ref x1), (.int (0 : Int32)), (.int (0 : Int32)), .null] 6 = mkF m 0 #[.val (.ref tz), .val (.ref x1), .val (.int (0 : Int32)), .val (.int (0 : Int32)), .val .null, .unset] [] := by first | (simp [entryFrame, mkF, argsToLocals, Value.category]; done) | rfl
def Q3 (Z : State) (tz : Addr) (x1 : Addr) (u_tz_coder : Value) (h0 : Heap) (n0 : Nat) (v : Option Value) (h : Heap) (L : List Loc) : Prop := ∃ (t : Addr), ∃ (kk : ClassId), v = none ∧ Fr n0 L ∧ Keep h0 h [tz] ∧ Exa Z h tz "java/lang/String" ∧ Fld Z h tz "java/lang/String" "value" "[B" (.ref t) ∧ Fld Z h tz "java/lang/String" "coder" "B" (.int (0 : Int32)) ∧ Arv Z h t kk .byte (0 : Int32) [] (.int 0)
set_option maxRecDepth 65536 in
set_option maxHeartbeats 40000000 in
theorem rm3 (l : Launch) (Z : State) (a0 : Array Value) (hw : ∀ d ∈ tables_1, d.before a0 Z = true) (ws : List Jvm.Cond) (tz : Addr) (x1 : Addr) (u_tz_coder : Value) (h0 : Heap) (n0 : Nat) (Z0 : n0 ≤ h0.size) (O0 : Old Z n0 h0) (E_tz : Exa Z h0 tz "java/lang/String") (F_tz_value : Fld Z h0 tz "java/lang/String" "value" "[B" .null) (g_tz : n0 ≤ tz) (F_u_tz_coder : Fld Z h0 tz "java/lang/String" "coder" "B" u_tz_coder) :
    MetFree l (⟨"java/lang/String", "<init>", "([CIILjava/lang/Void;)V"⟩ : MethodName) (head1 (Jvm.Cond.code (⟨"java/lang/String", "<init>", "([CIILjava/lang/Void;)V"⟩ : MethodName) jdk_42_method_149_code 6 none :: ws) ({ frames := 1, cells := 4, slots := 8, locals := 12 } : Room)) (fun a U => a = #[(.ref tz), (.ref x1), (.int (0 : Int32)), (.int (0 : Int32)), .null] ∧ Z.Warmed39 U.vm ∧ U.heap = h0 ∧ CHv Z own_EL U.vm h0) (fun _ _ _ _ _ => True) (fun _ U o U' => ∃ v L, o = .returned v ∧ Q3 Z tz x1 u_tz_coder h0 n0 v U'.heap L ∧ CHr Z own_EL U.vm U.heap U'.vm U'.heap ∧ ReturnedEndW U o U' L ({ frames := 1, cells := 4, slots := 8, locals := 12 } : Room).cells ({ frames := 1, cells := 4, slots := 8, locals := 12 } : Room).slots) := by
  refine MetFree.of_bodySF (plainFor_of_name pn_java_lang_String) hisR ?_
  intro p e s m args below meth c s₁ Bd hml0 hP hK
  obtain ⟨rfl, hZ, hh, CH0⟩ := hP
  have hx := Bd.exec
  have hby := Bd.bytes
  have hml : c.maxLocals = 6 := hml0
  have hown : (s.setVm s.vm).vm.findClass "java/lang/String" = some m.cls := findClass_of_methodNamed Bd.named
  have hnm := (name_of_methodNamed Bd.named Bd.method).1
  have X0 : Stand p l e ({ frames := 1, cells := 4, slots := 8, locals := 12 } : Room) (s.setVm s.vm) m #[(.ref tz), (.ref x1), (.int (0 : Int32)), (.int (0 : Int32)), .null] below meth c s₁ [] 0 0 := Stand.of_body Bd
  have e0 : s₁.heap = h0 := by rw [← hh, Bd.state]; rfl
  have N0 := Fr.nil n0
  have K0 : Keep h0 h0 [tz] := Keep.refl _ _
  have pre0 : ∀ t, Steps p.tables e below (s₁.setTop (mkF m 0 #[.val (.ref tz), .val (.ref x1), .val (.int (0 : Int32)), .val (.int (0 : Int32)), .val .null, .unset] [])) t → Steps p.tables e below (s₁.setTop (entryFrame m #[(.ref tz), (.ref x1), (.int (0 : Int32)), (.int (0 : Int32)), .null] 6)) t := fun t k => castTop (ef3 m tz x1) k
  have hZa : Z.Warmed39 (s.setVm s.vm).vm := hZ
  have howna : (s.setVm s.vm).vm.findClass "java/lang/String" = some m.cls := hown
  have hS0 : s.Since s.vm h0.size := (State.WarmedH.refl s).since _
  have hk0 : h0.size ≤ h0.size := Nat.le_refl _
  have CR0 : CHr Z own_EL s.vm h0 s.vm h0 := CHr.refl CH0
  obtain ⟨T8, X8, e8, st8⟩ := initO X0 hx hZa howna (own_wd hw 15 rfl) (own_wd hw 16 rfl) (own_wd hw 17 rfl) e0 (g := (mkF m 1 #[.val (.ref tz), .val (.ref x1), .val (.int (0 : Int32)), .val (.int (0 : Int32)), .val .null, .unset] [(.ref tz)])) rfl (by rw [hml]; rfl) rfl (hb hby d3_1) (by decide) (W := 0) (by show 2 * 0 + _ ≤ _; exact Nat.le_of_eq rfl) (by decide)
  obtain ⟨b9, T9, h9, k9, t9, kb9, X9, e9, E9, hS9, hk9, hZ9, hown9, Ex9, Co9, Va9, Ar9, lta9, ltb9, R9, Lt9, sep9, st9⟩ := ldcCH (s := s) (vm0 := s.vm) X8 hx hZa howna (own_wd hw 98 rfl) (own_wS hw) e8 hS0 hk0 (own_EW hw) (List.mem_of_getElem? (i := 5) rfl) CH0 (vs := []) (z := (0 : Int32)) ⟨by decide +kernel, by decide +kernel⟩ (by decide) (by decide) (g := (mkF m 9 #[.val (.ref tz), .val (.ref x1), .val (.int (0 : Int32)), .val (.int (0 : Int32)), .val .null, .unset] [(.ref tz)])) rfl (hb hby d3_9) (n := 0) (by decide +kernel) (by decide) (by decide) (by decide)
  have O9 : Old Z n0 h9 := O0.ext E9
  have Z9 : n0 ≤ h9.size := Nat.le_trans Z0 E9.1
  have K9 : Keep h0 h9 [tz] := K0.ext E9
  have CH9 : CHv Z own_EL T9.vm h9 := R9.1
  have CR9 : CHr Z own_EL s.vm h0 T9.vm h9 := CR0.trans R9
  obtain ⟨T10, X10, e10, st10⟩ := getF X9 hx hZ9 hown9 (host := "") (Or.inl (own_wd hw 32 rfl)) Via.refl e9 Va9 (g := (mkF m 11 #[.val (.ref tz), .val (.ref x1), .val (.int (0 : Int32)), .val (.int (0 : Int32)), .val .null, .unset] [(.ref b9), (.ref tz)])) rfl rfl (hb hby d3_11)
  have C11 : Exa Z h9 tz "java/lang/String" := (E_tz.ext E9)
  have F12 : Fld Z h9 tz "java/lang/String" "value" "[B" .null := (F_tz_value.ext E9)
  obtain ⟨T13, h13, X13, e13, W13, st13⟩ := putF X10 hx hZ9 hown9 (host := "") (Or.inl (own_wd hw 32 rfl)) Via.refl e10 F12 C11 (Or.inr ⟨(own_wd hw 33 rfl), rfl, hnm⟩) (own_wd hw 6 rfl) (ty := (.array .byte)) (by decide) rfl rfl (g := (mkF m 14 #[.val (.ref tz), .val (.ref x1), .val (.int (0 : Int32)), .val (.int (0 : Int32)), .val .null, .unset] [(.ref t9), (.ref tz)])) rfl rfl (hb hby d3_14)
  have sf14 : Safe Z own_EL T9.vm h9 tz := (CHr.safe R9 E_tz.lt (own_safe_blank hZa.alike E_tz F_tz_value))
  have O13 : Old Z n0 h13 := O9.wr W13 g_tz
  have Z13 : n0 ≤ h13.size := Nat.le_trans Z9 (Keep.of_wr W13).1
  have K13 : Keep h0 h13 [tz] := K9.wr W13 (Or.inl (List.mem_of_getElem? (i := 0) rfl))
  have N13 := Fr.snoc X13 N0 g_tz
  have CH13 : CHv Z own_EL T9.vm h13 := CHv.wr W13 sf14 CH9
  have CR13 : CHr Z own_EL s.vm h0 T9.vm h13 := CR9.trans (CHr.wr W13 sf14 CH9)
  have Fw13 : Fld Z h13 tz "java/lang/String" "value" "[B" (.ref t9) := F12.same W13
  obtain ⟨b15, T15, h15, k15, t15, kb15, X15, e15, E15, hS15, hk15, hZ15, hown15, Ex15, Co15, Va15, Ar15, lta15, ltb15, R15, Lt15, sep15, st15⟩ := ldcCH (s := s) (vm0 := T9.vm) X13 hx hZ9 hown9 (own_wd hw 98 rfl) (own_wS hw) e13 hS9 (Nat.le_trans hk9 (Keep.of_wr W13).1) (own_EW hw) (List.mem_of_getElem? (i := 5) rfl) CH13 (vs := []) (z := (0 : Int32)) ⟨by decide +kernel, by decide +kernel⟩ (by decide) (by decide) (g := (mkF m 18 #[.val (.ref tz), .val (.ref x1), .val (.int (0 : Int32)), .val (.int (0 : Int32)), .val .null, .unset] [(.ref tz)])) rfl (hb hby d3_18) (n := 0) (by decide +kernel) (by decide) (by decide) (by decide)
  have O15 : Old Z n0 h15 := O13.ext E15
  have Z15 : n0 ≤ h15.size := Nat.le_trans Z13 E15.1
  have K15 : Keep h0 h15 [tz] := K13.ext E15
  have CH15 : CHv Z own_EL T15.vm h15 := R15.1
  have CR15 : CHr Z own_EL s.vm h0 T15.vm h15 := CR13.trans R15
  obtain ⟨T16, X16, e16, st16⟩ := getF X15 hx hZ15 hown15 (host := "") (Or.inl (own_wd hw 30 rfl)) Via.refl e15 Co15 (g := (mkF m 20 #[.val (.ref tz), .val (.ref x1), .val (.int (0 : Int32)), .val (.int (0 : Int32)), .val .null, .unset] [(.ref b15), (.ref tz)])) rfl rfl (hb hby d3_20)
  have C17 : Exa Z h15 tz "java/lang/String" := ((C11.wr W13).ext E15)
  have F18 : Fld Z h15 tz "java/lang/String" "coder" "B" u_tz_coder := (((F_u_tz_coder.ext E9).other W13 (Or.inr (slot_ne (Or.inr (own_wd hw 31 rfl)) (Or.inr (own_wd hw 33 rfl)) (by decide) (t := .byte) (t' := (.array .byte)) (by decide) (by decide)))).ext E15)
  obtain ⟨T19, h19, X19, e19, W19, st19⟩ := putFN X16 hx hZ15 hown15 (own_wd hw 30 rfl) Via.refl e16 F18 C17 (Or.inr ⟨(own_wd hw 31 rfl), rfl, hnm⟩) (own_wd hw 6 rfl) (ty := .byte) (v' := (.int (0 : Int32))) (by decide) rfl rfl (g := (mkF m 23 #[.val (.ref tz), .val (.ref x1), .val (.int (0 : Int32)), .val (.int (0 : Int32)), .val .null, .unset] [(.int (0 : Int32)), (.ref tz)])) rfl rfl (hb hby d3_23)
  have sf20 : Safe Z own_EL T15.vm h15 tz := (CHr.safe R15 ((E_tz.ext E9).wr W13).lt (Safe.wr W13 sf14 CH9 sf14))
  have O19 : Old Z n0 h19 := O15.wr W19 g_tz
  have Z19 : n0 ≤ h19.size := Nat.le_trans Z15 (Keep.of_wr W19).1
  have K19 : Keep h0 h19 [tz] := K15.wr W19 (Or.inl (List.mem_of_getElem? (i := 0) rfl))
  have N19 := Fr.snoc X19 N13 g_tz
  have CH19 : CHv Z own_EL T15.vm h19 := CHv.wr W19 sf20 CH15
  have CR19 : CHr Z own_EL s.vm h0 T15.vm h19 := CR15.trans (CHr.wr W19 sf20 CH15)
  have Fw19 : Fld Z h19 tz "java/lang/String" "coder" "B" (.int (0 : Int32)) := F18.same W19
  have C21 : Exa Z h19 tz "java/lang/String" := (C17.wr W19)
  have F22 : Fld Z h19 tz "java/lang/String" "value" "[B" (.ref t9) := ((Fw13.ext E15).other W19 (Or.inr (slot_ne (Or.inr (own_wd hw 33 rfl)) (Or.inr (own_wd hw 31 rfl)) (by decide) (t := (.array .byte)) (t' := .byte) (by decide) (by decide))))
  have V23 : Arv Z h19 t9 kb9 .byte (0 : Int32) [] (.int 0) := (((Ar9.other W13 (Ne.symm (sep9 _ sf14).2)).ext E15).other W19 (Ne.symm (sep9 _ sf14).2))
  obtain ⟨fs, hr, hrun, hended, hW, hsame⟩ := X19.leave (v := none) (fun _ => rfl)
  have hend := hS15.ended hW (show _ ≤ T19.heap.size from by rw [e19]; exact (Nat.le_trans hk15 (Keep.of_wr W19).1)) hsame
  have hcr : CHr Z own_EL s.vm s.heap T19.vm T19.heap := by
    rw [hh, e19]
    exact CR19.trans (CHv.at X19 hZ15 (own_EW hw) CH19)
  refine ⟨_, _, pre0 _ ?_, hrun, hended, _, _, rfl, ?_, hcr, ⟨_, rfl⟩, hend.1, hend.2.1, hend.2.2.mono (by decide) (by decide)⟩
  · show Steps p.tables e below (s₁.setTop (mkF m 0 #[.val (.ref tz), .val (.ref x1), .val (.int (0 : Int32)), .val (.int (0 : Int32)), .val .null, .unset] [])) _
    refine XS.aloadN X0.here hx rfl (hb hby d3_0) rfl rfl ?_
    show Steps p.tables e below (s₁.setTop (mkF m 1 #[.val (.ref tz), .val (.ref x1), .val (.int (0 : Int32)), .val (.int (0 : Int32)), .val .null, .unset] [(.ref tz)])) _
    refine st8 _ ?_
    show Steps p.tables e below (T8.setTop (mkF m 4 #[.val (.ref tz), .val (.ref x1), .val (.int (0 : Int32)), .val (.int (0 : Int32)), .val .null, .unset] [])) _
    refine XS.iloadN X8.here hx rfl (hb hby d3_4) rfl ?_
    refine XS.ifNo X8.here hx rfl (hb hby d3_5) rfl ((if0 _ _).trans (teq (by decide : (0 : Int32) = (0 : Int32))).2) ?_
    refine XS.aloadN X8.here hx rfl (hb hby d3_8) rfl rfl ?_
    show Steps p.tables e below (T8.setTop (mkF m 9 #[.val (.ref tz), .val (.ref x1), .val (.int (0 : Int32)), .val (.int (0 : Int32)), .val .null, .unset] [(.ref tz)])) _
    refine st9 _ ?_
    show Steps p.tables e below (T9.setTop (mkF m 11 #[.val (.ref tz), .val (.ref x1), .val (.int (0 : Int32)), .val (.int (0 : Int32)), .val .null, .unset] [(.ref b9), (.ref tz)])) _
    refine st10 _ ?_
    show Steps p.tables e below (T10.setTop (mkF m 14 #[.val (.ref tz), .val (.ref x1), .val (.int (0 : Int32)), .val (.int (0 : Int32)), .val .null, .unset] [(.ref t9), (.ref tz)])) _
    refine st13 _ ?_
    show Steps p.tables e below (T13.setTop (mkF m 17 #[.val (.ref tz), .val (.ref x1), .val (.int (0 : Int32)), .val (.int (0 : Int32)), .val .null, .unset] [])) _
    refine XS.aloadN X13.here hx rfl (hb hby d3_17) rfl rfl ?_
    show Steps p.tables e below (T13.setTop (mkF m 18 #[.val (.ref tz), .val (.ref x1), .val (.int (0 : Int32)), .val (.int (0 : Int32)), .val .null, .unset] [(.ref tz)])) _
    refine st15 _ ?_
    show Steps p.tables e below (T15.setTop (mkF m 20 #[.val (.ref tz), .val (.ref x1), .val (.int (0 : Int32)), .val (.int (0 : Int32)), .val .null, .unset] [(.ref b15), (.ref tz)])) _
    refine st16 _ ?_
    show Steps p.tables e below (T16.setTop (mkF m 23 #[.val (.ref tz), .val (.ref x1), .val (.int (0 : Int32)), .val (.int (0 : Int32)), .val .null, .unset] [(.int (0 : Int32)), (.ref tz)])) _
    refine st19 _ ?_
    show Steps p.tables e below (T19.setTop (mkF m 26 #[.val (.ref tz), .val (.ref x1), .val (.int (0 : Int32)), .val (.int (0 : Int32)), .val .null, .unset] [])) _
    exact X19.returnOut hx Bd.returns (hb hby d3_26) hr
  · show Q3 Z tz x1 u_tz_coder h0 n0 _ T19.heap _
    rw [e19]
    exact ⟨t9, kb9, rfl, N19, K19, C21, F22, Fw19, V23⟩
theorem d2_0 : decode jdk_42_method_3_code 0 = .ok (.aload_n 0, 1) := by decide +kernel
theorem d2_1 : decode jdk_42_method_3_code 1 = .ok (.aload_n 1, 1) := by decide +kernel
theorem d2_2 : decode jdk_42_method_3_code 2 = .ok (.iconst 0, 1) := by decide +kernel
theorem d2_3 : decode jdk_42_method_3_code 3 = .ok (.aload_n 1, 1) := by decide +kernel
theorem d2_4 : decode jdk_42_method_3_code 4 = .ok (.arraylength, 1) := by decide +kernel
theorem d2_5 : decode jdk_42_method_3_code 5 = .ok (.aconst_null, 1) := by decide +kernel
theorem pd_0 : parseMethodDescriptor "([CIILjava/lang/Void;)V" = some ⟨[(.array .char), .int, .int, (.object "java/lang/Void")], none⟩ := by decide +kernel
theorem d2_6 : decode jdk_42_method_3_code 6 = .ok (.invokespecial 27, 3) := by decide +kernel
theorem d2_9 : decode jdk_42_method_3_code 9 = .ok (.return_, 1) := by decide +kernel
theorem ef2 (m : MethodId) (tz : Addr) (x1 : Addr) : entryFrame m #[(.ref tz), (.ref x1)] 2 = mkF m 0 #[.val (.ref tz), .val (.ref x1)] [] := by first | (simp [entryFrame, mkF, argsToLocals, Value.category]; done) | rfl
def Q2 (Z : State) (tz : Addr) (x1 : Addr) (kx : ClassId) (u_tz_coder : Value) (h0 : Heap) (n0 : Nat) (v : Option Value) (h : Heap) (L : List Loc) : Prop := ∃ (t : Addr), ∃ (kk : ClassId), v = none ∧ Fr n0 L ∧ Keep h0 h [tz] ∧ Exa Z h tz "java/lang/String" ∧ Fld Z h tz "java/lang/String" "value" "[B" (.ref t) ∧ Fld Z h tz "java/lang/String" "coder" "B" (.int (0 : Int32)) ∧ Arv Z h t kk .byte (0 : Int32) [] (.int 0)
set_option maxRecDepth 65536 in
set_option maxHeartbeats 40000000 in
theorem rm2 (l : Launch) (Z : State) (a0 : Array Value) (hw : ∀ d ∈ tables_1, d.before a0 Z = true) (ws : List Jvm.Cond) (tz : Addr) (x1 : Addr) (kx : ClassId) (u_tz_coder : Value) (h0 : Heap) (n0 : Nat) (Z0 : n0 ≤ h0.size) (O0 : Old Z n0 h0) (E_tz : Exa Z h0 tz "java/lang/String") (F_tz_value : Fld Z h0 tz "java/lang/String" "value" "[B" .null) (V_x1 : Arv Z h0 x1 kx .char (0 : Int32) [] (.int (0 : Int32))) (F_u_tz_coder : Fld Z h0 tz "java/lang/String" "coder" "B" u_tz_coder) (g_tz : n0 ≤ tz) :
    MetFree l (⟨"java/lang/String", "<init>", "([C)V"⟩ : MethodName) (head1 (Jvm.Cond.code (⟨"java/lang/String", "<init>", "([C)V"⟩ : MethodName) jdk_42_method_3_code 2 none :: ws) ({ frames := 2, cells := 4, slots := 8, locals := 29 } : Room)) (fun a U => a = #[(.ref tz), (.ref x1)] ∧ Z.Warmed39 U.vm ∧ U.heap = h0 ∧ CHv Z own_EL U.vm h0) (fun _ _ _ _ _ => True) (fun _ U o U' => ∃ v L, o = .returned v ∧ Q2 Z tz x1 kx u_tz_coder h0 n0 v U'.heap L ∧ CHr Z own_EL U.vm U.heap U'.vm U'.heap ∧ ReturnedEndW U o U' L ({ frames := 2, cells := 4, slots := 8, locals := 29 } : Room).cells ({ frames := 2, cells := 4, slots := 8, locals := 29 } : Room).slots) := by
  refine MetFree.of_bodySF (plainFor_of_name pn_java_lang_String) hisR ?_
  intro p e s m args below meth c s₁ Bd hml0 hP hK
  obtain ⟨rfl, hZ, hh, CH0⟩ := hP
  have hx := Bd.exec
  have hby := Bd.bytes
  have hml : c.maxLocals = 2 := hml0
  have hown : (s.setVm s.vm).vm.findClass "java/lang/String" = some m.cls := findClass_of_methodNamed Bd.named
  have hnm := (name_of_methodNamed Bd.named Bd.method).1
  have X0 : Stand p l e ({ frames := 2, cells := 4, slots := 8, locals := 29 } : Room) (s.setVm s.vm) m #[(.ref tz), (.ref x1)] below meth c s₁ [] 0 0 := Stand.of_body Bd
  have e0 : s₁.heap = h0 := by rw [← hh, Bd.state]; rfl
  have N0 := Fr.nil n0
  have K0 : Keep h0 h0 [tz] := Keep.refl _ _
  have pre0 : ∀ t, Steps p.tables e below (s₁.setTop (mkF m 0 #[.val (.ref tz), .val (.ref x1)] [])) t → Steps p.tables e below (s₁.setTop (entryFrame m #[(.ref tz), (.ref x1)] 2)) t := fun t k => castTop (ef2 m tz x1) k
  have hZa : Z.Warmed39 (s.setVm s.vm).vm := hZ
  have howna : (s.setVm s.vm).vm.findClass "java/lang/String" = some m.cls := hown
  have hS0 : s.Since s.vm h0.size := (State.WarmedH.refl s).since _
  have hk0 : h0.size ≤ h0.size := Nat.le_refl _
  have CR0 : CHr Z own_EL s.vm h0 s.vm h0 := CHr.refl CH0
  obtain ⟨cl_a24, Ar_a24, -, S_a24, N_a24, -, -⟩ := id V_x1
  obtain ⟨_, _, ⟨T25, L25, k25, n25⟩, -, X25, hS25, hg25, ⟨Lc25, hQ25, l25, y25, z25, R25⟩, st25⟩ := X0.specialBackS hx (y := (⟨"java/lang/String", "<init>", "([CIILjava/lang/Void;)V"⟩ : MethodName)) rfl howna (mvT hZa (own_wd hw 11 rfl)) (mvT hZa (own_wd hw 12 rfl)) (mvT hZa (own_wd hw 14 rfl)) (by decide) (backOfSH (s := s) (vm0 := s.vm) (W := 0) (rm3 l Z a0 hw [] tz x1 u_tz_coder h0 n0 Z0 O0 E_tz F_tz_value g_tz F_u_tz_coder) hZa (own_wd hw 14 rfl) (own_wd hw 7 rfl) (by decide) (by decide) (own_EW hw) CH0) (g := (mkF m 6 #[.val (.ref tz), .val (.ref x1)] [.null, (.int (0 : Int32)), (.int (0 : Int32)), (.ref x1), (.ref tz)])) rfl (by rw [hml]; rfl) (Steps.refl _) (a := tz) (argsL := [(.ref x1), (.int (0 : Int32)), (.int (0 : Int32)), .null]) (rest := []) (lenOf pd_0 rfl) rfl (by show 2 * 0 + _ ≤ _; exact Nat.le_of_eq rfl) (hb hby d2_6) (fun _ _ => ⟨rfl, e0, (by decide : 0 + 4 ≤ _), (by decide : 0 + 8 ≤ _)⟩)
  dsimp only [Pt.U, Pt.locs, Pt.cells, Pt.slots] at X25 l25 y25 z25 st25 hQ25 hS25 hg25 R25
  subst l25 y25 z25
  obtain ⟨X25, hS25, hZ25, hown25⟩ := rebS hS0 hk0 X25 hS25 (by rw [← e0]; exact hg25) hZa howna
  obtain ⟨t_25, kk_25, rfl, N25q, KK25, Q25_0, Q25_1, Q25_2, Q25_3⟩ := hQ25
  have N25 := Fr.app N0 N25q
  have O25 : Old Z n0 T25.heap := O0.keep KK25 (allS g_tz all0)
  have Z25 : n0 ≤ T25.heap.size := Nat.le_trans Z0 KK25.1
  have K25 : Keep h0 T25.heap [tz] := K0.trans KK25 (allS (Or.inl (List.mem_of_getElem? (i := 0) rfl)) all0)
  have CH25 : CHv Z own_EL T25.vm T25.heap := R25.1
  have CR25 : CHr Z own_EL s.vm h0 T25.vm T25.heap := CR0.trans R25
  obtain ⟨fs, hr, hrun, hended, hW, hsame⟩ := X25.leave (v := none) (fun _ => rfl)
  have hend := hS25.ended hW (show _ ≤ T25.heap.size from (Nat.le_refl _)) hsame
  have hcr : CHr Z own_EL s.vm s.heap T25.vm T25.heap := by
    rw [hh]
    exact CR25.trans (CHv.at X25 hZ25 (own_EW hw) CH25)
  refine ⟨_, _, pre0 _ ?_, hrun, hended, _, _, rfl, ?_, hcr, ⟨_, rfl⟩, hend.1, hend.2.1, hend.2.2.mono (by decide) (by decide)⟩
  · show Steps p.tables e below (s₁.setTop (mkF m 0 #[.val (.ref tz), .val (.ref x1)] [])) _
    refine XS.aloadN X0.here hx rfl (hb hby d2_0) rfl rfl ?_
    refine XS.aloadN X0.here hx rfl (hb hby d2_1) rfl rfl ?_
    refine XS.iconst X0.here hx rfl (hb hby d2_2) ?_
    refine XS.aloadN X0.here hx rfl (hb hby d2_3) rfl rfl ?_
    show Steps p.tables e below (s₁.setTop (mkF m 4 #[.val (.ref tz), .val (.ref x1)] [(.ref x1), (.int (0 : Int32)), (.ref x1), (.ref tz)])) _
    refine X0.arraylength hx (by rw [e0]; exact Ar_a24.1) (State.isArrayOf_alike hZa.alike Ar_a24.2.1) (g := (mkF m 4 #[.val (.ref tz), .val (.ref x1)] [(.ref x1), (.int (0 : Int32)), (.ref x1), (.ref tz)])) rfl rfl (hb hby d2_4) _ ?_
    rw [len_of S_a24 N_a24]
    refine XS.aconstNull X0.here hx rfl (hb hby d2_5) ?_
    show Steps p.tables e below (s₁.setTop (mkF m 6 #[.val (.ref tz), .val (.ref x1)] [.null, (.int (0 : Int32)), (.int (0 : Int32)), (.ref x1), (.ref tz)])) _
    refine st25.trans ?_
    show Steps p.tables e below (T25.setTop (mkF m 9 #[.val (.ref tz), .val (.ref x1)] [])) _
    exact X25.returnOut hx Bd.returns (hb hby d2_9) hr
  · show Q2 Z tz x1 kx u_tz_coder h0 n0 _ T25.heap _
    exact ⟨t_25, kk_25, rfl, N25, K25, Q25_0, Q25_1, Q25_2, Q25_3⟩
theorem d13_0 : decode jdk_42_method_152_code 0 = .ok (.getstatic 38, 3) := by decide +kernel
theorem d13_3 : decode jdk_42_method_152_code 3 = .ok (.ifCond .eq 10, 3) := by decide +kernel
theorem d13_6 : decode jdk_42_method_152_code 6 = .ok (.aload_n 0, 1) := by decide +kernel
theorem d13_7 : decode jdk_42_method_152_code 7 = .ok (.getfield 15, 3) := by decide +kernel
theorem d13_10 : decode jdk_42_method_152_code 10 = .ok (.goto 4, 3) := by decide +kernel
theorem d13_14 : decode jdk_42_method_152_code 14 = .ok (.ireturn, 1) := by decide +kernel
theorem ef13 (m : MethodId) (tz : Addr) : entryFrame m #[(.ref tz)] 1 = mkF m 0 #[.val (.ref tz)] [] := by first | (simp [entryFrame, mkF, argsToLocals, Value.category]; done) | rfl
def Q13 (Z : State) (tz : Addr) (st_COMPACT_STRINGS : Int32) (h0 : Heap) (n0 : Nat) (v : Option Value) (h : Heap) (L : List Loc) : Prop := v = some (.int (0 : Int32)) ∧ Fr n0 L ∧ h = h0
set_option maxRecDepth 65536 in
set_option maxHeartbeats 40000000 in
theorem rm13 (l : Launch) (Z : State) (a0 : Array Value) (hw : ∀ d ∈ tables_1, d.before a0 Z = true) (ws : List Jvm.Cond) (tz : Addr) (st_COMPACT_STRINGS : Int32) (h0 : Heap) (n0 : Nat) (Z0 : n0 ≤ h0.size) (O0 : Old Z n0 h0) (F_tz_coder : Fld Z h0 tz "java/lang/String" "coder" "B" (.int (0 : Int32))) (S_COMPACT_STRINGS : Sta Z Z.heap "java/lang/String" "COMPACT_STRINGS" "Z" (.int st_COMPACT_STRINGS)) (hcomp : ¬ (st_COMPACT_STRINGS = (0 : Int32))) :
    MetFree l (⟨"java/lang/String", "coder", "()B"⟩ : MethodName) (head1 (Jvm.Cond.code (⟨"java/lang/String", "coder", "()B"⟩ : MethodName) jdk_42_method_152_code 1 (some .byte) :: ws) ({ frames := 0, cells := 0, slots := 0, locals := 0 } : Room)) (fun a U => a = #[(.ref tz)] ∧ Z.Warmed39 U.vm ∧ U.heap = h0) (fun _ _ _ _ _ => True) (fun _ U o U' => ∃ v L, o = .returned v ∧ Q13 Z tz st_COMPACT_STRINGS h0 n0 v U'.heap L ∧ FrameEnd U o U' L ({ frames := 0, cells := 0, slots := 0, locals := 0 } : Room).cells ({ frames := 0, cells := 0, slots := 0, locals := 0 } : Room).slots) := by
  refine MetFree.of_bodySF (plainFor_of_name pn_java_lang_String) hisR ?_
  intro p e s m args below meth c s₁ Bd hml0 hP hK
  obtain ⟨rfl, hZ, hh⟩ := hP
  have hx := Bd.exec
  have hby := Bd.bytes
  have hml : c.maxLocals = 1 := hml0
  have hown : s.vm.findClass "java/lang/String" = some m.cls := findClass_of_methodNamed Bd.named
  have hnm := (name_of_methodNamed Bd.named Bd.method).1
  have X0 : Stand p l e ({ frames := 0, cells := 0, slots := 0, locals := 0 } : Room) s m #[(.ref tz)] below meth c s₁ [] 0 0 := Stand.of_body Bd
  have e0 : s₁.heap = h0 := by rw [← hh, Bd.state]; rfl
  have N0 := Fr.nil n0
  have K0 : Keep h0 h0 [] := Keep.refl _ _
  have pre0 : ∀ t, Steps p.tables e below (s₁.setTop (mkF m 0 #[.val (.ref tz)] [])) t → Steps p.tables e below (s₁.setTop (entryFrame m #[(.ref tz)] 1)) t := fun t k => castTop (ef13 m tz) k
  obtain ⟨T26, X26, e26, st26⟩ := getS2 X0 hx hZ hown (host := "") (Or.inl (own_wd hw 18 rfl)) Via.refl e0 (S_COMPACT_STRINGS.ext O0.2) (g := (mkF m 0 #[.val (.ref tz)] [])) rfl (hb hby d13_0)
  obtain ⟨T27, X27, e27, st27⟩ := getF X26 hx hZ hown (host := "") (Or.inl (own_wd hw 30 rfl)) Via.refl e26 F_tz_coder (g := (mkF m 7 #[.val (.ref tz)] [(.ref tz)])) rfl rfl (hb hby d13_7)
  obtain ⟨fs, hr, hrun, hended, hW, hsame⟩ := X27.leave (v := some (.int (0 : Int32))) (fun h => by rw [Bd.returns] at h; cases h)
  refine ⟨_, _, pre0 _ ?_, hrun, hended, _, _, rfl, ?_, ⟨_, rfl⟩, hW, hsame.mono (by decide) (by decide)⟩
  · show Steps p.tables e below (s₁.setTop (mkF m 0 #[.val (.ref tz)] [])) _
    refine st26 _ ?_
    show Steps p.tables e below (T26.setTop (mkF m 3 #[.val (.ref tz)] [(.int st_COMPACT_STRINGS)])) _
    refine XS.ifNo X26.here hx rfl (hb hby d13_3) rfl ((if0 _ _).trans (feq hcomp).1) ?_
    refine XS.aloadN X26.here hx rfl (hb hby d13_6) rfl rfl ?_
    show Steps p.tables e below (T26.setTop (mkF m 7 #[.val (.ref tz)] [(.ref tz)])) _
    refine st27 _ ?_
    show Steps p.tables e below (T27.setTop (mkF m 10 #[.val (.ref tz)] [(.int (0 : Int32))])) _
    refine XS.goto X27.here hx rfl (pc0 := 10) (pc' := 14) rfl (hb hby d13_10) (by decide) (by decide) ?_
    show Steps p.tables e below (T27.setTop (mkF m 14 #[.val (.ref tz)] [(.int (0 : Int32))])) _
    exact retN X27 hx (t := .byte) Bd.returns (by simp) (hb hby d13_14) hr
  · show Q13 Z tz st_COMPACT_STRINGS h0 n0 _ T27.heap _
    rw [e27]
    exact ⟨rfl, N0, rfl⟩
theorem d14_0 : decode jdk_42_method_154_code 0 = .ok (.getstatic 38, 3) := by decide +kernel
theorem d14_3 : decode jdk_42_method_154_code 3 = .ok (.ifCond .eq 14, 3) := by decide +kernel
theorem d14_6 : decode jdk_42_method_154_code 6 = .ok (.aload_n 0, 1) := by decide +kernel
theorem d14_7 : decode jdk_42_method_154_code 7 = .ok (.getfield 15, 3) := by decide +kernel
theorem d14_10 : decode jdk_42_method_154_code 10 = .ok (.ifCond .ne 7, 3) := by decide +kernel
theorem d14_13 : decode jdk_42_method_154_code 13 = .ok (.iconst 1, 1) := by decide +kernel
theorem d14_14 : decode jdk_42_method_154_code 14 = .ok (.goto 4, 3) := by decide +kernel
theorem d14_18 : decode jdk_42_method_154_code 18 = .ok (.ireturn, 1) := by decide +kernel
theorem ef14 (m : MethodId) (tz : Addr) : entryFrame m #[(.ref tz)] 1 = mkF m 0 #[.val (.ref tz)] [] := by first | (simp [entryFrame, mkF, argsToLocals, Value.category]; done) | rfl
def Q14 (Z : State) (tz : Addr) (st_COMPACT_STRINGS : Int32) (h0 : Heap) (n0 : Nat) (v : Option Value) (h : Heap) (L : List Loc) : Prop := v = some (.int (1 : Int32)) ∧ Fr n0 L ∧ h = h0
set_option maxRecDepth 65536 in
set_option maxHeartbeats 40000000 in
theorem rm14 (l : Launch) (Z : State) (a0 : Array Value) (hw : ∀ d ∈ tables_1, d.before a0 Z = true) (ws : List Jvm.Cond) (tz : Addr) (st_COMPACT_STRINGS : Int32) (h0 : Heap) (n0 : Nat) (Z0 : n0 ≤ h0.size) (O0 : Old Z n0 h0) (F_tz_coder : Fld Z h0 tz "java/lang/String" "coder" "B" (.int (0 : Int32))) (S_COMPACT_STRINGS : Sta Z Z.heap "java/lang/String" "COMPACT_STRINGS" "Z" (.int st_COMPACT_STRINGS)) (hcomp : ¬ (st_COMPACT_STRINGS = (0 : Int32))) :
    MetFree l (⟨"java/lang/String", "isLatin1", "()Z"⟩ : MethodName) (head1 (Jvm.Cond.code (⟨"java/lang/String", "isLatin1", "()Z"⟩ : MethodName) jdk_42_method_154_code 1 (some .boolean) :: ws) ({ frames := 0, cells := 0, slots := 0, locals := 0 } : Room)) (fun a U => a = #[(.ref tz)] ∧ Z.Warmed39 U.vm ∧ U.heap = h0) (fun _ _ _ _ _ => True) (fun _ U o U' => ∃ v L, o = .returned v ∧ Q14 Z tz st_COMPACT_STRINGS h0 n0 v U'.heap L ∧ FrameEnd U o U' L ({ frames := 0, cells := 0, slots := 0, locals := 0 } : Room).cells ({ frames := 0, cells := 0, slots := 0, locals := 0 } : Room).slots) := by
  refine MetFree.of_bodySF (plainFor_of_name pn_java_lang_String) hisR ?_
  intro p e s m args below meth c s₁ Bd hml0 hP hK
  obtain ⟨rfl, hZ, hh⟩ := hP
  have hx := Bd.exec
  have hby := Bd.bytes
  have hml : c.maxLocals = 1 := hml0
  have hown : s.vm.findClass "java/lang/String" = some m.cls := findClass_of_methodNamed Bd.named
  have hnm := (name_of_methodNamed Bd.named Bd.method).1
  have X0 : Stand p l e ({ frames := 0, cells := 0, slots := 0, locals := 0 } : Room) s m #[(.ref tz)] below meth c s₁ [] 0 0 := Stand.of_body Bd
  have e0 : s₁.heap = h0 := by rw [← hh, Bd.state]; rfl
  have N0 := Fr.nil n0
  have K0 : Keep h0 h0 [] := Keep.refl _ _
  have pre0 : ∀ t, Steps p.tables e below (s₁.setTop (mkF m 0 #[.val (.ref tz)] [])) t → Steps p.tables e below (s₁.setTop (entryFrame m #[(.ref tz)] 1)) t := fun t k => castTop (ef14 m tz) k
  obtain ⟨T28, X28, e28, st28⟩ := getS2 X0 hx hZ hown (host := "") (Or.inl (own_wd hw 18 rfl)) Via.refl e0 (S_COMPACT_STRINGS.ext O0.2) (g := (mkF m 0 #[.val (.ref tz)] [])) rfl (hb hby d14_0)
  obtain ⟨T29, X29, e29, st29⟩ := getF X28 hx hZ hown (host := "") (Or.inl (own_wd hw 30 rfl)) Via.refl e28 F_tz_coder (g := (mkF m 7 #[.val (.ref tz)] [(.ref tz)])) rfl rfl (hb hby d14_7)
  obtain ⟨fs, hr, hrun, hended, hW, hsame⟩ := X29.leave (v := some (.int (1 : Int32))) (fun h => by rw [Bd.returns] at h; cases h)
  refine ⟨_, _, pre0 _ ?_, hrun, hended, _, _, rfl, ?_, ⟨_, rfl⟩, hW, hsame.mono (by decide) (by decide)⟩
  · show Steps p.tables e below (s₁.setTop (mkF m 0 #[.val (.ref tz)] [])) _
    refine st28 _ ?_
    show Steps p.tables e below (T28.setTop (mkF m 3 #[.val (.ref tz)] [(.int st_COMPACT_STRINGS)])) _
    refine XS.ifNo X28.here hx rfl (hb hby d14_3) rfl ((if0 _ _).trans (feq hcomp).1) ?_
    refine XS.aloadN X28.here hx rfl (hb hby d14_6) rfl rfl ?_
    show Steps p.tables e below (T28.setTop (mkF m 7 #[.val (.ref tz)] [(.ref tz)])) _
    refine st29 _ ?_
    show Steps p.tables e below (T29.setTop (mkF m 10 #[.val (.ref tz)] [(.int (0 : Int32))])) _
    refine XS.ifNo X29.here hx rfl (hb hby d14_10) rfl ((if0 _ _).trans (teq (by decide : (0 : Int32) = (0 : Int32))).2) ?_
    refine XS.iconst X29.here hx rfl (hb hby d14_13) ?_
    refine XS.goto X29.here hx rfl (pc0 := 14) (pc' := 18) rfl (hb hby d14_14) (by decide) (by decide) ?_
    show Steps p.tables e below (T29.setTop (mkF m 18 #[.val (.ref tz)] [(.int (1 : Int32))])) _
    exact retN X29 hx (t := .boolean) Bd.returns (by simp) (hb hby d14_18) hr
  · show Q14 Z tz st_COMPACT_STRINGS h0 n0 _ T29.heap _
    rw [e29]
    exact ⟨rfl, N0, rfl⟩
theorem d11_0 : decode jdk_42_method_126_code 0 = .ok (.aload_n 0, 1) := by decide +kernel
theorem d11_1 : decode jdk_42_method_126_code 1 = .ok (.areturn, 1) := by decide +kernel
theorem ef11 (m : MethodId) (tz : Addr) : entryFrame m #[(.ref tz)] 1 = mkF m 0 #[.val (.ref tz)] [] := by first | (simp [entryFrame, mkF, argsToLocals, Value.category]; done) | rfl
def Q11 (Z : State) (tz : Addr) (h0 : Heap) (n0 : Nat) (v : Option Value) (h : Heap) (L : List Loc) : Prop := v = some (.ref tz) ∧ Fr n0 L ∧ h = h0
set_option maxRecDepth 65536 in
set_option maxHeartbeats 40000000 in
theorem rm11 (l : Launch) (Z : State) (a0 : Array Value) (hw : ∀ d ∈ tables_1, d.before a0 Z = true) (ws : List Jvm.Cond) (tz : Addr) (h0 : Heap) (n0 : Nat) (Z0 : n0 ≤ h0.size) (O0 : Old Z n0 h0) :
    MetFree l (⟨"java/lang/String", "toString", "()Ljava/lang/String;"⟩ : MethodName) (head1 (Jvm.Cond.code (⟨"java/lang/String", "toString", "()Ljava/lang/String;"⟩ : MethodName) jdk_42_method_126_code 1 (some (.object "java/lang/String")) :: ws) ({ frames := 0, cells := 0, slots := 0, locals := 0 } : Room)) (fun a U => a = #[(.ref tz)] ∧ Z.Warmed39 U.vm ∧ U.heap = h0) (fun _ _ _ _ _ => True) (fun _ U o U' => ∃ v L, o = .returned v ∧ Q11 Z tz h0 n0 v U'.heap L ∧ FrameEnd U o U' L ({ frames := 0, cells := 0, slots := 0, locals := 0 } : Room).cells ({ frames := 0, cells := 0, slots := 0, locals := 0 } : Room).slots) := by
  refine MetFree.of_bodySF (plainFor_of_name pn_java_lang_String) hisR ?_
  intro p e s m args below meth c s₁ Bd hml0 hP hK
  obtain ⟨rfl, hZ, hh⟩ := hP
  have hx := Bd.exec
  have hby := Bd.bytes
  have hml : c.maxLocals = 1 := hml0
  have hown : s.vm.findClass "java/lang/String" = some m.cls := findClass_of_methodNamed Bd.named
  have hnm := (name_of_methodNamed Bd.named Bd.method).1
  have X0 : Stand p l e ({ frames := 0, cells := 0, slots := 0, locals := 0 } : Room) s m #[(.ref tz)] below meth c s₁ [] 0 0 := Stand.of_body Bd
  have e0 : s₁.heap = h0 := by rw [← hh, Bd.state]; rfl
  have N0 := Fr.nil n0
  have K0 : Keep h0 h0 [] := Keep.refl _ _
  have pre0 : ∀ t, Steps p.tables e below (s₁.setTop (mkF m 0 #[.val (.ref tz)] [])) t → Steps p.tables e below (s₁.setTop (entryFrame m #[(.ref tz)] 1)) t := fun t k => castTop (ef11 m tz) k
  obtain ⟨fs, hr, hrun, hended, hW, hsame⟩ := X0.leave (v := some (.ref tz)) (fun h => by rw [Bd.returns] at h; cases h)
  refine ⟨_, _, pre0 _ ?_, hrun, hended, _, _, rfl, ?_, ⟨_, rfl⟩, hW, hsame.mono (by decide) (by decide)⟩
  · show Steps p.tables e below (s₁.setTop (mkF m 0 #[.val (.ref tz)] [])) _
    refine XS.aloadN X0.here hx rfl (hb hby d11_0) rfl rfl ?_
    show Steps p.tables e below (s₁.setTop (mkF m 1 #[.val (.ref tz)] [(.ref tz)])) _
    jvm_step X0.here [X0.here.top, hx, (hb hby d11_1), X0.method', Bd.returns, Value.isRef, FieldType.isReference]
    first | (intro acts; rw [hr _ acts rfl rfl rfl]) | rw [hr _ _ rfl rfl rfl]
    exact Steps.refl _
  · show Q11 Z tz h0 n0 _ s₁.heap _
    rw [e0]
    exact ⟨rfl, N0, rfl⟩
theorem d15_0 : decode jdk_43_method_24_code 0 = .ok (.aload_n 1, 1) := by decide +kernel
theorem d15_1 : decode jdk_43_method_24_code 1 = .ok (.arraylength, 1) := by decide +kernel
theorem d15_2 : decode jdk_43_method_24_code 2 = .ok (.ifCond .ne 5, 3) := by decide +kernel
theorem d15_7 : decode jdk_43_method_24_code 7 = .ok (.aload_n 0, 1) := by decide +kernel
theorem d15_8 : decode jdk_43_method_24_code 8 = .ok (.arraylength, 1) := by decide +kernel
theorem d15_9 : decode jdk_43_method_24_code 9 = .ok (.ifCond .ne 5, 3) := by decide +kernel
theorem d15_12 : decode jdk_43_method_24_code 12 = .ok (.iconst (-1), 1) := by decide +kernel
theorem d15_13 : decode jdk_43_method_24_code 13 = .ok (.ireturn, 1) := by decide +kernel
theorem pn_java_lang_StringLatin1 : plainName "java/lang/StringLatin1" = true := by first | (simp [plainName, overriddenIn]; done) | decide +kernel
theorem ef15_0 (m : MethodId) (x1 : Addr) (x2 : Addr) : entryFrame m #[(.ref x1), (.ref x2)] 2 = mkF m 0 #[.val (.ref x1), .val (.ref x2)] [] := by first | (simp [entryFrame, mkF, argsToLocals, Value.category]; done) | rfl
def Q15_0 (Z : State) (x1 : Addr) (x2 : Addr) (d : Int32) (k1 : ClassId) (k2 : ClassId) (h0 : Heap) (n0 : Nat) (v : Option Value) (h : Heap) (L : List Loc) : Prop := ∃ (r : Int32), v = some (.int r) ∧ Fr n0 L ∧ h = h0 ∧ ((r < (0 : Int32)) ↔ ¬ (d ∈ ([] : List Int32)))
set_option maxRecDepth 65536 in
set_option maxHeartbeats 40000000 in
theorem rm15_0 (l : Launch) (Z : State) (a0 : Array Value) (hw : ∀ d ∈ tables_1, d.before a0 Z = true) (ws : List Jvm.Cond) (x1 : Addr) (x2 : Addr) (d : Int32) (k1 : ClassId) (k2 : ClassId) (h0 : Heap) (n0 : Nat) (Z0 : n0 ≤ h0.size) (O0 : Old Z n0 h0) (V_x1 : Arv Z h0 x1 k1 .byte (0 : Int32) [] (.int 0)) (V_x2 : Arv Z h0 x2 k2 .byte (1 : Int32) [(.int d)] (.int 0)) :
    MetFree l (⟨"java/lang/StringLatin1", "indexOf", "([B[B)I"⟩ : MethodName) (head1 (Jvm.Cond.code (⟨"java/lang/StringLatin1", "indexOf", "([B[B)I"⟩ : MethodName) jdk_43_method_24_code 2 (some .int) :: ws) ({ frames := 0, cells := 0, slots := 0, locals := 0 } : Room)) (fun a U => a = #[(.ref x1), (.ref x2)] ∧ Z.Warmed39 U.vm ∧ U.heap = h0) (fun _ _ _ _ _ => True) (fun _ U o U' => ∃ v L, o = .returned v ∧ Q15_0 Z x1 x2 d k1 k2 h0 n0 v U'.heap L ∧ FrameEnd U o U' L ({ frames := 0, cells := 0, slots := 0, locals := 0 } : Room).cells ({ frames := 0, cells := 0, slots := 0, locals := 0 } : Room).slots) := by
  refine MetFree.of_bodySF (plainFor_of_name pn_java_lang_StringLatin1) hisR ?_
  intro p e s m args below meth c s₁ Bd hml0 hP hK
  obtain ⟨rfl, hZ, hh⟩ := hP
  have hx := Bd.exec
  have hby := Bd.bytes
  have hml : c.maxLocals = 2 := hml0
  have hown : s.vm.findClass "java/lang/StringLatin1" = some m.cls := findClass_of_methodNamed Bd.named
  have hnm := (name_of_methodNamed Bd.named Bd.method).1
  have X0 : Stand p l e ({ frames := 0, cells := 0, slots := 0, locals := 0 } : Room) s m #[(.ref x1), (.ref x2)] below meth c s₁ [] 0 0 := Stand.of_body Bd
  have e0 : s₁.heap = h0 := by rw [← hh, Bd.state]; rfl
  have N0 := Fr.nil n0
  have K0 : Keep h0 h0 [] := Keep.refl _ _
  have pre0 : ∀ t, Steps p.tables e below (s₁.setTop (mkF m 0 #[.val (.ref x1), .val (.ref x2)] [])) t → Steps p.tables e below (s₁.setTop (entryFrame m #[(.ref x1), (.ref x2)] 2)) t := fun t k => castTop (ef15_0 m x1 x2) k
  obtain ⟨cl_a30, Ar_a30, -, S_a30, N_a30, -, -⟩ := id V_x2
  obtain ⟨cl_a31, Ar_a31, -, S_a31, N_a31, -, -⟩ := id V_x1
  obtain ⟨fs, hr, hrun, hended, hW, hsame⟩ := X0.leave (v := some (.int (-1 : Int32))) (fun h => by rw [Bd.returns] at h; cases h)
  refine ⟨_, _, pre0 _ ?_, hrun, hended, _, _, rfl, ?_, ⟨_, rfl⟩, hW, hsame.mono (by decide) (by decide)⟩
  · show Steps p.tables e below (s₁.setTop (mkF m 0 #[.val (.ref x1), .val (.ref x2)] [])) _
    refine XS.aloadN X0.here hx rfl (hb hby d15_0) rfl rfl ?_
    show Steps p.tables e below (s₁.setTop (mkF m 1 #[.val (.ref x1), .val (.ref x2)] [(.ref x2)])) _
    refine X0.arraylength hx (by rw [e0]; exact Ar_a30.1) (State.isArrayOf_alike hZ.alike Ar_a30.2.1) (g := (mkF m 1 #[.val (.ref x1), .val (.ref x2)] [(.ref x2)])) rfl rfl (hb hby d15_1) _ ?_
    rw [len_of S_a30 N_a30]
    refine XS.ifYes X0.here hx rfl (pc0 := 2) (pc' := 7) rfl (hb hby d15_2) rfl ((if0 _ _).trans (feq (by decide : ¬ ((1 : Int32) = (0 : Int32)))).2) (by decide) (by decide) ?_
    refine XS.aloadN X0.here hx rfl (hb hby d15_7) rfl rfl ?_
    show Steps p.tables e below (s₁.setTop (mkF m 8 #[.val (.ref x1), .val (.ref x2)] [(.ref x1)])) _
    refine X0.arraylength hx (by rw [e0]; exact Ar_a31.1) (State.isArrayOf_alike hZ.alike Ar_a31.2.1) (g := (mkF m 8 #[.val (.ref x1), .val (.ref x2)] [(.ref x1)])) rfl rfl (hb hby d15_8) _ ?_
    rw [len_of S_a31 N_a31]
    refine XS.ifNo X0.here hx rfl (hb hby d15_9) rfl ((if0 _ _).trans (teq (by decide : (0 : Int32) = (0 : Int32))).2) ?_
    refine XS.iconst X0.here hx rfl (hb hby d15_12) ?_
    show Steps p.tables e below (s₁.setTop (mkF m 13 #[.val (.ref x1), .val (.ref x2)] [(.int (-1 : Int32))])) _
    exact retI X0 hx Bd.returns (hb hby d15_13) hr
  · show Q15_0 Z x1 x2 d k1 k2 h0 n0 _ s₁.heap _
    rw [e0]
    exact ⟨(-1 : Int32), rfl, N0, rfl, (by simp)⟩
theorem d12_0 : decode jdk_42_method_84_code 0 = .ok (.aload_n 0, 1) := by decide +kernel
theorem pd_1 : parseMethodDescriptor "()B" = some ⟨[], some .byte⟩ := by decide +kernel
theorem d12_1 : decode jdk_42_method_84_code 1 = .ok (.invokevirtual 335, 3) := by decide +kernel
theorem d12_4 : decode jdk_42_method_84_code 4 = .ok (.istore_n 2, 1) := by decide +kernel
theorem d12_5 : decode jdk_42_method_84_code 5 = .ok (.iload_n 2, 1) := by decide +kernel
theorem d12_6 : decode jdk_42_method_84_code 6 = .ok (.aload_n 1, 1) := by decide +kernel
theorem d12_7 : decode jdk_42_method_84_code 7 = .ok (.invokevirtual 335, 3) := by decide +kernel
theorem d12_10 : decode jdk_42_method_84_code 10 = .ok (.if_icmp .ne 36, 3) := by decide +kernel
theorem d12_13 : decode jdk_42_method_84_code 13 = .ok (.aload_n 0, 1) := by decide +kernel
theorem pd_2 : parseMethodDescriptor "()Z" = some ⟨[], some .boolean⟩ := by decide +kernel
theorem d12_14 : decode jdk_42_method_84_code 14 = .ok (.invokevirtual 492, 3) := by decide +kernel
theorem d12_17 : decode jdk_42_method_84_code 17 = .ok (.ifCond .eq 17, 3) := by decide +kernel
theorem d12_20 : decode jdk_42_method_84_code 20 = .ok (.aload_n 0, 1) := by decide +kernel
theorem d12_21 : decode jdk_42_method_84_code 21 = .ok (.getfield 9, 3) := by decide +kernel
theorem d12_24 : decode jdk_42_method_84_code 24 = .ok (.aload_n 1, 1) := by decide +kernel
theorem d12_25 : decode jdk_42_method_84_code 25 = .ok (.getfield 9, 3) := by decide +kernel
theorem pd_3 : parseMethodDescriptor "([B[B)I" = some ⟨[(.array .byte), (.array .byte)], some .int⟩ := by decide +kernel
theorem d12_28 : decode jdk_42_method_84_code 28 = .ok (.invokestatic 647, 3) := by decide +kernel
theorem d12_31 : decode jdk_42_method_84_code 31 = .ok (.goto 14, 3) := by decide +kernel
theorem d12_45 : decode jdk_42_method_84_code 45 = .ok (.ireturn, 1) := by decide +kernel
theorem ef12_0 (m : MethodId) (tz : Addr) (x1 : Addr) : entryFrame m #[(.ref tz), (.ref x1)] 3 = mkF m 0 #[.val (.ref tz), .val (.ref x1), .unset] [] := by first | (simp [entryFrame, mkF, argsToLocals, Value.category]; done) | rfl
def Q12_0 (Z : State) (tz : Addr) (x1 : Addr) (tz_value : Addr) (x1_value : Addr) (d : Int32) (k1 : ClassId) (k2 : ClassId) (st_COMPACT_STRINGS : Int32) (h0 : Heap) (n0 : Nat) (v : Option Value) (h : Heap) (L : List Loc) : Prop := ∃ (r : Int32), v = some (.int r) ∧ Fr n0 L ∧ h = h0 ∧ ((r < (0 : Int32)) ↔ ¬ (d ∈ ([] : List Int32)))
set_option maxRecDepth 65536 in
set_option maxHeartbeats 40000000 in
theorem rm12_0 (l : Launch) (Z : State) (a0 : Array Value) (hw : ∀ d ∈ tables_1, d.before a0 Z = true) (ws : List Jvm.Cond) (tz : Addr) (x1 : Addr) (tz_value : Addr) (x1_value : Addr) (d : Int32) (k1 : ClassId) (k2 : ClassId) (st_COMPACT_STRINGS : Int32) (h0 : Heap) (n0 : Nat) (Z0 : n0 ≤ h0.size) (O0 : Old Z n0 h0) (E_tz : Exa Z h0 tz "java/lang/String") (F_tz_value : Fld Z h0 tz "java/lang/String" "value" "[B" (.ref tz_value)) (F_tz_coder : Fld Z h0 tz "java/lang/String" "coder" "B" (.int (0 : Int32))) (V_tz : Arv Z h0 tz_value k1 .byte (0 : Int32) [] (.int 0)) (E_x1 : Exa Z h0 x1 "java/lang/String") (F_x1_value : Fld Z h0 x1 "java/lang/String" "value" "[B" (.ref x1_value)) (F_x1_coder : Fld Z h0 x1 "java/lang/String" "coder" "B" (.int (0 : Int32))) (V_x1 : Arv Z h0 x1_value k2 .byte (1 : Int32) [(.int d)] (.int 0)) (S_COMPACT_STRINGS : Sta Z Z.heap "java/lang/String" "COMPACT_STRINGS" "Z" (.int st_COMPACT_STRINGS)) (hcomp : ¬ (st_COMPACT_STRINGS = (0 : Int32))) :
    MetFree l (⟨"java/lang/String", "indexOf", "(Ljava/lang/String;)I"⟩ : MethodName) (head1 (Jvm.Cond.code (⟨"java/lang/String", "indexOf", "(Ljava/lang/String;)I"⟩ : MethodName) jdk_42_method_84_code 3 (some .int) :: ws) ({ frames := 1, cells := 0, slots := 0, locals := 13 } : Room)) (fun a U => a = #[(.ref tz), (.ref x1)] ∧ Z.Warmed39 U.vm ∧ U.heap = h0) (fun _ _ _ _ _ => True) (fun _ U o U' => ∃ v L, o = .returned v ∧ Q12_0 Z tz x1 tz_value x1_value d k1 k2 st_COMPACT_STRINGS h0 n0 v U'.heap L ∧ FrameEnd U o U' L ({ frames := 1, cells := 0, slots := 0, locals := 13 } : Room).cells ({ frames := 1, cells := 0, slots := 0, locals := 13 } : Room).slots) := by
  refine MetFree.of_bodySF (plainFor_of_name pn_java_lang_String) hisR ?_
  intro p e s m args below meth c s₁ Bd hml0 hP hK
  obtain ⟨rfl, hZ, hh⟩ := hP
  have hx := Bd.exec
  have hby := Bd.bytes
  have hml : c.maxLocals = 3 := hml0
  have hown : s.vm.findClass "java/lang/String" = some m.cls := findClass_of_methodNamed Bd.named
  have hnm := (name_of_methodNamed Bd.named Bd.method).1
  have X0 : Stand p l e ({ frames := 1, cells := 0, slots := 0, locals := 13 } : Room) s m #[(.ref tz), (.ref x1)] below meth c s₁ [] 0 0 := Stand.of_body Bd
  have e0 : s₁.heap = h0 := by rw [← hh, Bd.state]; rfl
  have N0 := Fr.nil n0
  have K0 : Keep h0 h0 [] := Keep.refl _ _
  have pre0 : ∀ t, Steps p.tables e below (s₁.setTop (mkF m 0 #[.val (.ref tz), .val (.ref x1), .unset] [])) t → Steps p.tables e below (s₁.setTop (entryFrame m #[(.ref tz), (.ref x1)] 3)) t := fun t k => castTop (ef12_0 m tz x1) k
  obtain ⟨cq32, kq32, q32a, q32b, q32c⟩ := isOf hZ e0 E_tz
  obtain ⟨_, _, ⟨T32, L32, k32, n32⟩, -, X32, ⟨Lc32, hQ32, l32, y32, z32⟩, st32⟩ := X0.virtualBack hx (y := (⟨"java/lang/String", "coder", "()B"⟩ : MethodName)) (z := (⟨"java/lang/String", "coder", "()B"⟩ : MethodName)) hown (mvT hZ (own_wd hw 63 rfl)) (mvT hZ (own_wd hw 64 rfl)) (notFace_of_selects (args := #[]) (mvT hZ (own_wd hw 66 rfl))) (mvT hZ (own_wd hw 66 rfl)) (mvT hZ (own_wd hw 65 rfl)) (by decide) (backOf (W := 0) (rm13 l Z a0 hw [] tz st_COMPACT_STRINGS h0 n0 Z0 O0 F_tz_coder S_COMPACT_STRINGS hcomp) hZ (own_wd hw 67 rfl) (own_wd hw 7 rfl) (by decide) (by decide)) q32a q32c (g := (mkF m 1 #[.val (.ref tz), .val (.ref x1), .unset] [(.ref tz)])) rfl (by rw [hml]; rfl) (Steps.refl _) (argsL := []) (rest := []) (lenOf pd_1 rfl) rfl (by show 2 * 0 + _ ≤ _; exact Nat.le_of_eq rfl) (hb hby d12_1) (fun _ _ => ⟨rfl, e0, (by decide : 0 + 0 ≤ _), (by decide : 0 + 0 ≤ _)⟩)
  dsimp only [Pt.U, Pt.locs, Pt.cells, Pt.slots] at X32 l32 y32 z32 st32 hQ32
  subst l32 y32 z32
  obtain ⟨rfl, N32q, eh32⟩ := hQ32
  have N32 := Fr.app N0 N32q
  obtain ⟨cq33, kq33, q33a, q33b, q33c⟩ := isOf hZ eh32 E_x1
  obtain ⟨_, _, ⟨T33, L33, k33, n33⟩, -, X33, ⟨Lc33, hQ33, l33, y33, z33⟩, st33⟩ := X32.virtualBack hx (y := (⟨"java/lang/String", "coder", "()B"⟩ : MethodName)) (z := (⟨"java/lang/String", "coder", "()B"⟩ : MethodName)) hown (mvT hZ (own_wd hw 63 rfl)) (mvT hZ (own_wd hw 64 rfl)) (notFace_of_selects (args := #[]) (mvT hZ (own_wd hw 66 rfl))) (mvT hZ (own_wd hw 66 rfl)) (mvT hZ (own_wd hw 65 rfl)) (by decide) (backOf (W := 1) (rm13 l Z a0 hw [] x1 st_COMPACT_STRINGS h0 n0 Z0 O0 F_x1_coder S_COMPACT_STRINGS hcomp) hZ (own_wd hw 67 rfl) (own_wd hw 7 rfl) (by decide) (by decide)) q33a q33c (g := (mkF m 7 #[.val (.ref tz), .val (.ref x1), .val (.int (0 : Int32))] [(.ref x1), (.int (0 : Int32))])) rfl (by rw [hml]; rfl) (Steps.refl _) (argsL := []) (rest := [(.int (0 : Int32))]) (lenOf pd_1 rfl) rfl (by show 2 * 0 + _ ≤ _; exact Nat.le_of_eq rfl) (hb hby d12_7) (fun _ _ => ⟨rfl, eh32, (by decide : 0 + 0 ≤ _), (by decide : 0 + 0 ≤ _)⟩)
  dsimp only [Pt.U, Pt.locs, Pt.cells, Pt.slots] at X33 l33 y33 z33 st33 hQ33
  subst l33 y33 z33
  obtain ⟨rfl, N33q, eh33⟩ := hQ33
  have N33 := Fr.app N32 N33q
  obtain ⟨cq34, kq34, q34a, q34b, q34c⟩ := isOf hZ eh33 E_tz
  obtain ⟨_, _, ⟨T34, L34, k34, n34⟩, -, X34, ⟨Lc34, hQ34, l34, y34, z34⟩, st34⟩ := X33.virtualBack hx (y := (⟨"java/lang/String", "isLatin1", "()Z"⟩ : MethodName)) (z := (⟨"java/lang/String", "isLatin1", "()Z"⟩ : MethodName)) hown (mvT hZ (own_wd hw 68 rfl)) (mvT hZ (own_wd hw 69 rfl)) (notFace_of_selects (args := #[]) (mvT hZ (own_wd hw 71 rfl))) (mvT hZ (own_wd hw 71 rfl)) (mvT hZ (own_wd hw 70 rfl)) (by decide) (backOf (W := 0) (rm14 l Z a0 hw [] tz st_COMPACT_STRINGS h0 n0 Z0 O0 F_tz_coder S_COMPACT_STRINGS hcomp) hZ (own_wd hw 72 rfl) (own_wd hw 7 rfl) (by decide) (by decide)) q34a q34c (g := (mkF m 14 #[.val (.ref tz), .val (.ref x1), .val (.int (0 : Int32))] [(.ref tz)])) rfl (by rw [hml]; rfl) (Steps.refl _) (argsL := []) (rest := []) (lenOf pd_2 rfl) rfl (by show 2 * 0 + _ ≤ _; exact Nat.le_of_eq rfl) (hb hby d12_14) (fun _ _ => ⟨rfl, eh33, (by decide : 0 + 0 ≤ _), (by decide : 0 + 0 ≤ _)⟩)
  dsimp only [Pt.U, Pt.locs, Pt.cells, Pt.slots] at X34 l34 y34 z34 st34 hQ34
  subst l34 y34 z34
  obtain ⟨rfl, N34q, eh34⟩ := hQ34
  have N34 := Fr.app N33 N34q
  obtain ⟨T35, X35, e35, st35⟩ := getF X34 hx hZ hown (host := "") (Or.inl (own_wd hw 32 rfl)) Via.refl eh34 F_tz_value (g := (mkF m 21 #[.val (.ref tz), .val (.ref x1), .val (.int (0 : Int32))] [(.ref tz)])) rfl rfl (hb hby d12_21)
  obtain ⟨T36, X36, e36, st36⟩ := getF X35 hx hZ hown (host := "") (Or.inl (own_wd hw 32 rfl)) Via.refl e35 F_x1_value (g := (mkF m 25 #[.val (.ref tz), .val (.ref x1), .val (.int (0 : Int32))] [(.ref x1), (.ref tz_value)])) rfl rfl (hb hby d12_25)
  obtain ⟨_, _, ⟨T37, L37, k37, n37⟩, -, X37, ⟨Lc37, hQ37, l37, y37, z37⟩, st37⟩ := Jvm.LawKit.callS X36 hx (y := (⟨"java/lang/StringLatin1", "indexOf", "([B[B)I"⟩ : MethodName)) hown (mvT hZ (own_wd hw 73 rfl)) (mvT hZ (own_wd hw 74 rfl)) (mvT hZ (own_wd hw 75 rfl)) (mvT hZ (own_wd hw 76 rfl)) (by decide) (backOf (W := 0) (rm15_0 l Z a0 hw [] tz_value x1_value d k1 k2 h0 n0 Z0 O0 V_tz V_x1) hZ (own_wd hw 76 rfl) (own_wd hw 75 rfl) (by decide) (by decide)) (g := (mkF m 28 #[.val (.ref tz), .val (.ref x1), .val (.int (0 : Int32))] [(.ref x1_value), (.ref tz_value)])) rfl (by rw [hml]; rfl) (argsL := [(.ref tz_value), (.ref x1_value)]) (rest := []) (lenOf pd_3 rfl) rfl (by show 2 * 0 + _ ≤ _; exact Nat.le_of_eq rfl) (hb hby d12_28) (fun _ _ => ⟨rfl, e36, (by decide : 0 + 0 ≤ _), (by decide : 0 + 0 ≤ _)⟩)
  dsimp only [Pt.U, Pt.locs, Pt.cells, Pt.slots] at X37 l37 y37 z37 st37 hQ37
  subst l37 y37 z37
  obtain ⟨r_37, rfl, N37q, eh37, Q37_0⟩ := hQ37
  have N37 := Fr.app N34 N37q
  obtain ⟨fs, hr, hrun, hended, hW, hsame⟩ := X37.leave (v := some (.int r_37)) (fun h => by rw [Bd.returns] at h; cases h)
  refine ⟨_, _, pre0 _ ?_, hrun, hended, _, _, rfl, ?_, ⟨_, rfl⟩, hW, hsame.mono (by decide) (by decide)⟩
  · show Steps p.tables e below (s₁.setTop (mkF m 0 #[.val (.ref tz), .val (.ref x1), .unset] [])) _
    refine XS.aloadN X0.here hx rfl (hb hby d12_0) rfl rfl ?_
    show Steps p.tables e below (s₁.setTop (mkF m 1 #[.val (.ref tz), .val (.ref x1), .unset] [(.ref tz)])) _
    refine st32.trans ?_
    show Steps p.tables e below (T32.setTop (mkF m 4 #[.val (.ref tz), .val (.ref x1), .unset] [(.int (0 : Int32))])) _
    refine XS.istoreN X32.here hx rfl (hb hby d12_4) rfl (l' := #[.val (.ref tz), .val (.ref x1), .val (.int (0 : Int32))]) rfl ?_
    refine XS.iloadN X32.here hx rfl (hb hby d12_5) rfl ?_
    refine XS.aloadN X32.here hx rfl (hb hby d12_6) rfl rfl ?_
    show Steps p.tables e below (T32.setTop (mkF m 7 #[.val (.ref tz), .val (.ref x1), .val (.int (0 : Int32))] [(.ref x1), (.int (0 : Int32))])) _
    refine st33.trans ?_
    show Steps p.tables e below (T33.setTop (mkF m 10 #[.val (.ref tz), .val (.ref x1), .val (.int (0 : Int32))] [(.int (0 : Int32)), (.int (0 : Int32))])) _
    refine XS.icmpNo X33.here hx rfl (hb hby d12_10) rfl (teq (by decide : (0 : Int32) = (0 : Int32))).2 ?_
    refine XS.aloadN X33.here hx rfl (hb hby d12_13) rfl rfl ?_
    show Steps p.tables e below (T33.setTop (mkF m 14 #[.val (.ref tz), .val (.ref x1), .val (.int (0 : Int32))] [(.ref tz)])) _
    refine st34.trans ?_
    show Steps p.tables e below (T34.setTop (mkF m 17 #[.val (.ref tz), .val (.ref x1), .val (.int (0 : Int32))] [(.int (1 : Int32))])) _
    refine XS.ifNo X34.here hx rfl (hb hby d12_17) rfl ((if0 _ _).trans (feq (by decide : ¬ ((1 : Int32) = (0 : Int32)))).1) ?_
    refine XS.aloadN X34.here hx rfl (hb hby d12_20) rfl rfl ?_
    show Steps p.tables e below (T34.setTop (mkF m 21 #[.val (.ref tz), .val (.ref x1), .val (.int (0 : Int32))] [(.ref tz)])) _
    refine st35 _ ?_
    show Steps p.tables e below (T35.setTop (mkF m 24 #[.val (.ref tz), .val (.ref x1), .val (.int (0 : Int32))] [(.ref tz_value)])) _
    refine XS.aloadN X35.here hx rfl (hb hby d12_24) rfl rfl ?_
    show Steps p.tables e below (T35.setTop (mkF m 25 #[.val (.ref tz), .val (.ref x1), .val (.int (0 : Int32))] [(.ref x1), (.ref tz_value)])) _
    refine st36 _ ?_
    show Steps p.tables e below (T36.setTop (mkF m 28 #[.val (.ref tz), .val (.ref x1), .val (.int (0 : Int32))] [(.ref x1_value), (.ref tz_value)])) _
    refine st37 _ ?_
    show Steps p.tables e below (T37.setTop (mkF m 31 #[.val (.ref tz), .val (.ref x1), .val (.int (0 : Int32))] [(.int r_37)])) _
    refine XS.goto X37.here hx rfl (pc0 := 31) (pc' := 45) rfl (hb hby d12_31) (by decide) (by decide) ?_
    show Steps p.tables e below (T37.setTop (mkF m 45 #[.val (.ref tz), .val (.ref x1), .val (.int (0 : Int32))] [(.int r_37)])) _
    exact retI X37 hx Bd.returns (hb hby d12_45) hr
  · show Q12_0 Z tz x1 tz_value x1_value d k1 k2 st_COMPACT_STRINGS h0 n0 _ T37.heap _
    rw [eh37]
    exact ⟨r_37, rfl, N37, rfl, Q37_0⟩
theorem d10_0 : decode jdk_42_method_97_code 0 = .ok (.aload_n 0, 1) := by decide +kernel
theorem d10_1 : decode jdk_42_method_97_code 1 = .ok (.aload_n 1, 1) := by decide +kernel
theorem pd_4 : parseMethodDescriptor "()Ljava/lang/String;" = some ⟨[], some (.object "java/lang/String")⟩ := by decide +kernel
theorem d10_2 : decode jdk_42_method_97_code 2 = .ok (.invokeinterface 710 1, 5) := by decide +kernel
theorem pd_5 : parseMethodDescriptor "(Ljava/lang/String;)I" = some ⟨[(.object "java/lang/String")], some .int⟩ := by decide +kernel
theorem d10_7 : decode jdk_42_method_97_code 7 = .ok (.invokevirtual 711, 3) := by decide +kernel
theorem d10_10 : decode jdk_42_method_97_code 10 = .ok (.ifCond .lt 7, 3) := by decide +kernel
theorem d10_17 : decode jdk_42_method_97_code 17 = .ok (.iconst 0, 1) := by decide +kernel
theorem d10_18 : decode jdk_42_method_97_code 18 = .ok (.ireturn, 1) := by decide +kernel
theorem d10_13 : decode jdk_42_method_97_code 13 = .ok (.iconst 1, 1) := by decide +kernel
theorem d10_14 : decode jdk_42_method_97_code 14 = .ok (.goto 4, 3) := by decide +kernel
theorem ef10_0 (m : MethodId) (tz : Addr) (x1 : Addr) : entryFrame m #[(.ref tz), (.ref x1)] 2 = mkF m 0 #[.val (.ref tz), .val (.ref x1)] [] := by first | (simp [entryFrame, mkF, argsToLocals, Value.category]; done) | rfl
def Q10_0 (Z : State) (tz : Addr) (x1 : Addr) (tz_value : Addr) (x1_value : Addr) (d : Int32) (k1 : ClassId) (k2 : ClassId) (st_COMPACT_STRINGS : Int32) (h0 : Heap) (n0 : Nat) (v : Option Value) (h : Heap) (L : List Loc) : Prop := v = some (.int (own_b (d ∈ ([] : List Int32)))) ∧ Fr n0 L ∧ h = h0
set_option maxRecDepth 65536 in
set_option maxHeartbeats 40000000 in
theorem rm10_0 (l : Launch) (Z : State) (a0 : Array Value) (hw : ∀ d ∈ tables_1, d.before a0 Z = true) (ws : List Jvm.Cond) (tz : Addr) (x1 : Addr) (tz_value : Addr) (x1_value : Addr) (d : Int32) (k1 : ClassId) (k2 : ClassId) (st_COMPACT_STRINGS : Int32) (h0 : Heap) (n0 : Nat) (Z0 : n0 ≤ h0.size) (O0 : Old Z n0 h0) (E_tz : Exa Z h0 tz "java/lang/String") (F_tz_value : Fld Z h0 tz "java/lang/String" "value" "[B" (.ref tz_value)) (F_tz_coder : Fld Z h0 tz "java/lang/String" "coder" "B" (.int (0 : Int32))) (V_tz : Arv Z h0 tz_value k1 .byte (0 : Int32) [] (.int 0)) (E_x1 : Exa Z h0 x1 "java/lang/String") (F_x1_value : Fld Z h0 x1 "java/lang/String" "value" "[B" (.ref x1_value)) (F_x1_coder : Fld Z h0 x1 "java/lang/String" "coder" "B" (.int (0 : Int32))) (V_x1 : Arv Z h0 x1_value k2 .byte (1 : Int32) [(.int d)] (.int 0)) (S_COMPACT_STRINGS : Sta Z Z.heap "java/lang/String" "COMPACT_STRINGS" "Z" (.int st_COMPACT_STRINGS)) (hcomp : ¬ (st_COMPACT_STRINGS = (0 : Int32))) :
    MetFree l (⟨"java/lang/String", "contains", "(Ljava/lang/CharSequence;)Z"⟩ : MethodName) (head1 (Jvm.Cond.code (⟨"java/lang/String", "contains", "(Ljava/lang/CharSequence;)Z"⟩ : MethodName) jdk_42_method_97_code 2 (some .boolean) :: ws) ({ frames := 2, cells := 0, slots := 0, locals := 27 } : Room)) (fun a U => a = #[(.ref tz), (.ref x1)] ∧ Z.Warmed39 U.vm ∧ U.heap = h0) (fun _ _ _ _ _ => True) (fun _ U o U' => ∃ v L, o = .returned v ∧ Q10_0 Z tz x1 tz_value x1_value d k1 k2 st_COMPACT_STRINGS h0 n0 v U'.heap L ∧ FrameEnd U o U' L ({ frames := 2, cells := 0, slots := 0, locals := 27 } : Room).cells ({ frames := 2, cells := 0, slots := 0, locals := 27 } : Room).slots) := by
  refine MetFree.of_bodySF (plainFor_of_name pn_java_lang_String) hisR ?_
  intro p e s m args below meth c s₁ Bd hml0 hP hK
  obtain ⟨rfl, hZ, hh⟩ := hP
  have hx := Bd.exec
  have hby := Bd.bytes
  have hml : c.maxLocals = 2 := hml0
  have hown : s.vm.findClass "java/lang/String" = some m.cls := findClass_of_methodNamed Bd.named
  have hnm := (name_of_methodNamed Bd.named Bd.method).1
  have X0 : Stand p l e ({ frames := 2, cells := 0, slots := 0, locals := 27 } : Room) s m #[(.ref tz), (.ref x1)] below meth c s₁ [] 0 0 := Stand.of_body Bd
  have e0 : s₁.heap = h0 := by rw [← hh, Bd.state]; rfl
  have N0 := Fr.nil n0
  have K0 : Keep h0 h0 [] := Keep.refl _ _
  have pre0 : ∀ t, Steps p.tables e below (s₁.setTop (mkF m 0 #[.val (.ref tz), .val (.ref x1)] [])) t → Steps p.tables e below (s₁.setTop (entryFrame m #[(.ref tz), (.ref x1)] 2)) t := fun t k => castTop (ef10_0 m tz x1) k
  obtain ⟨cq38, kq38, q38a, q38b, q38c⟩ := isOf hZ e0 E_x1
  obtain ⟨_, _, ⟨T38, L38, k38, n38⟩, -, X38, ⟨Lc38, hQ38, l38, y38, z38⟩, st38⟩ := X0.interfaceBack hx (xi := (⟨"java/lang/CharSequence", "toString", "()Ljava/lang/String;"⟩ : MethodName)) (y := (⟨"java/lang/String", "toString", "()Ljava/lang/String;"⟩ : MethodName)) hown (mvT hZ (own_wd hw 49 rfl)) (mvT hZ (own_wd hw 50 rfl)) (mvT hZ (own_wd hw 51 rfl)) (mvT hZ (own_wd hw 52 rfl)) (mvT hZ (own_wd hw 53 rfl)) (mvT hZ (own_wd hw 54 rfl)) (mvT hZ (own_wd hw 55 rfl)) (mvT hZ (own_wd hw 56 rfl)) (by decide) (backOf (W := 1) (rm11 l Z a0 hw [] x1 h0 n0 Z0 O0) hZ (own_wd hw 57 rfl) (own_wd hw 7 rfl) (by decide) (by decide)) q38a q38b q38c (g := (mkF m 2 #[.val (.ref tz), .val (.ref x1)] [(.ref x1), (.ref tz)])) rfl (by rw [hml]; rfl) (Steps.refl _) (argsL := []) (rest := [(.ref tz)]) (lenOf pd_4 rfl) rfl (by show 2 * 0 + _ ≤ _; exact Nat.le_of_eq rfl) (hb hby d10_2) (fun _ _ => ⟨rfl, e0, (by decide : 0 + 0 ≤ _), (by decide : 0 + 0 ≤ _)⟩)
  dsimp only [Pt.U, Pt.locs, Pt.cells, Pt.slots] at X38 l38 y38 z38 st38 hQ38
  subst l38 y38 z38
  obtain ⟨rfl, N38q, eh38⟩ := hQ38
  have N38 := Fr.app N0 N38q
  obtain ⟨cq39, kq39, q39a, q39b, q39c⟩ := isOf hZ eh38 E_tz
  obtain ⟨_, _, ⟨T39, L39, k39, n39⟩, -, X39, ⟨Lc39, hQ39, l39, y39, z39⟩, st39⟩ := X38.virtualBack hx (y := (⟨"java/lang/String", "indexOf", "(Ljava/lang/String;)I"⟩ : MethodName)) (z := (⟨"java/lang/String", "indexOf", "(Ljava/lang/String;)I"⟩ : MethodName)) hown (mvT hZ (own_wd hw 58 rfl)) (mvT hZ (own_wd hw 59 rfl)) (notFace_of_selects (args := #[]) (mvT hZ (own_wd hw 61 rfl))) (mvT hZ (own_wd hw 61 rfl)) (mvT hZ (own_wd hw 60 rfl)) (by decide) (backOf (W := 0) (rm12_0 l Z a0 hw [] tz x1 tz_value x1_value d k1 k2 st_COMPACT_STRINGS h0 n0 Z0 O0 E_tz F_tz_value F_tz_coder V_tz E_x1 F_x1_value F_x1_coder V_x1 S_COMPACT_STRINGS hcomp) hZ (own_wd hw 62 rfl) (own_wd hw 7 rfl) (by decide) (by decide)) q39a q39c (g := (mkF m 7 #[.val (.ref tz), .val (.ref x1)] [(.ref x1), (.ref tz)])) rfl (by rw [hml]; rfl) (Steps.refl _) (argsL := [(.ref x1)]) (rest := []) (lenOf pd_5 rfl) rfl (by show 2 * 0 + _ ≤ _; exact Nat.le_of_eq rfl) (hb hby d10_7) (fun _ _ => ⟨rfl, eh38, (by decide : 0 + 0 ≤ _), (by decide : 0 + 0 ≤ _)⟩)
  dsimp only [Pt.U, Pt.locs, Pt.cells, Pt.slots] at X39 l39 y39 z39 st39 hQ39
  subst l39 y39 z39
  obtain ⟨r_39, rfl, N39q, eh39, Q39_0⟩ := hQ39
  have N39 := Fr.app N38 N39q
  have pre40 : ∀ t, Steps p.tables e below (T39.setTop (mkF m 10 #[.val (.ref tz), .val (.ref x1)] [(.int r_39)])) t → Steps p.tables e below (s₁.setTop (entryFrame m #[(.ref tz), (.ref x1)] 2)) t := by
    intro t kt
    refine pre0 t ?_
    show Steps p.tables e below (s₁.setTop (mkF m 0 #[.val (.ref tz), .val (.ref x1)] [])) _
    refine XS.aloadN X0.here hx rfl (hb hby d10_0) rfl rfl ?_
    refine XS.aloadN X0.here hx rfl (hb hby d10_1) rfl rfl ?_
    show Steps p.tables e below (s₁.setTop (mkF m 2 #[.val (.ref tz), .val (.ref x1)] [(.ref x1), (.ref tz)])) _
    refine st38.trans ?_
    show Steps p.tables e below (T38.setTop (mkF m 7 #[.val (.ref tz), .val (.ref x1)] [(.ref x1), (.ref tz)])) _
    refine st39.trans ?_
    exact kt
  by_cases hc10 : r_39 < (0 : Int32)
  · skip
    obtain ⟨fs, hr, hrun, hended, hW, hsame⟩ := X39.leave (v := some (.int (0 : Int32))) (fun h => by rw [Bd.returns] at h; cases h)
    refine ⟨_, _, pre40 _ ?_, hrun, hended, _, _, rfl, ?_, ⟨_, rfl⟩, hW, hsame.mono (by decide) (by decide)⟩
    · show Steps p.tables e below (T39.setTop (mkF m 10 #[.val (.ref tz), .val (.ref x1)] [(.int r_39)])) _
      refine XS.ifYes X39.here hx rfl (pc0 := 10) (pc' := 17) rfl (hb hby d10_10) rfl ((if0 _ _).trans (tlt hc10).1) (by decide) (by decide) ?_
      refine XS.iconst X39.here hx rfl (hb hby d10_17) ?_
      show Steps p.tables e below (T39.setTop (mkF m 18 #[.val (.ref tz), .val (.ref x1)] [(.int (0 : Int32))])) _
      exact retN X39 hx (t := .boolean) Bd.returns (by simp) (hb hby d10_18) hr
    · show Q10_0 Z tz x1 tz_value x1_value d k1 k2 st_COMPACT_STRINGS h0 n0 _ T39.heap _
      rw [eh39]
      exact ⟨(by rw [own_bf (Q39_0.mp hc10)]), N39, rfl⟩
  · skip
    obtain ⟨fs, hr, hrun, hended, hW, hsame⟩ := X39.leave (v := some (.int (1 : Int32))) (fun h => by rw [Bd.returns] at h; cases h)
    refine ⟨_, _, pre40 _ ?_, hrun, hended, _, _, rfl, ?_, ⟨_, rfl⟩, hW, hsame.mono (by decide) (by decide)⟩
    · show Steps p.tables e below (T39.setTop (mkF m 10 #[.val (.ref tz), .val (.ref x1)] [(.int r_39)])) _
      refine XS.ifNo X39.here hx rfl (hb hby d10_10) rfl ((if0 _ _).trans (flt hc10).1) ?_
      refine XS.iconst X39.here hx rfl (hb hby d10_13) ?_
      refine XS.goto X39.here hx rfl (pc0 := 14) (pc' := 18) rfl (hb hby d10_14) (by decide) (by decide) ?_
      show Steps p.tables e below (T39.setTop (mkF m 18 #[.val (.ref tz), .val (.ref x1)] [(.int (1 : Int32))])) _
      exact retN X39 hx (t := .boolean) Bd.returns (by simp) (hb hby d10_18) hr
    · show Q10_0 Z tz x1 tz_value x1_value d k1 k2 st_COMPACT_STRINGS h0 n0 _ T39.heap _
      rw [eh39]
      exact ⟨(by rw [own_bt (own_nn Q39_0 hc10)]), N39, rfl⟩
theorem d17_0 : decode jdk_42_method_55_code 0 = .ok (.aload_n 0, 1) := by decide +kernel
theorem d17_1 : decode jdk_42_method_55_code 1 = .ok (.getfield 9, 3) := by decide +kernel
theorem d17_4 : decode jdk_42_method_55_code 4 = .ok (.arraylength, 1) := by decide +kernel
theorem d17_5 : decode jdk_42_method_55_code 5 = .ok (.ifCond .ne 7, 3) := by decide +kernel
theorem d17_8 : decode jdk_42_method_55_code 8 = .ok (.iconst 1, 1) := by decide +kernel
theorem d17_9 : decode jdk_42_method_55_code 9 = .ok (.goto 4, 3) := by decide +kernel
theorem d17_13 : decode jdk_42_method_55_code 13 = .ok (.ireturn, 1) := by decide +kernel
theorem ef17_0 (m : MethodId) (tz : Addr) : entryFrame m #[(.ref tz)] 1 = mkF m 0 #[.val (.ref tz)] [] := by first | (simp [entryFrame, mkF, argsToLocals, Value.category]; done) | rfl
def Q17_0 (Z : State) (tz : Addr) (tz_value : Addr) (k1 : ClassId) (h0 : Heap) (n0 : Nat) (v : Option Value) (h : Heap) (L : List Loc) : Prop := v = some (.int (1 : Int32)) ∧ Fr n0 L ∧ h = h0
set_option maxRecDepth 65536 in
set_option maxHeartbeats 40000000 in
theorem rm17_0 (l : Launch) (Z : State) (a0 : Array Value) (hw : ∀ d ∈ tables_1, d.before a0 Z = true) (ws : List Jvm.Cond) (tz : Addr) (tz_value : Addr) (k1 : ClassId) (h0 : Heap) (n0 : Nat) (Z0 : n0 ≤ h0.size) (O0 : Old Z n0 h0) (F_tz_value : Fld Z h0 tz "java/lang/String" "value" "[B" (.ref tz_value)) (V_tz : Arv Z h0 tz_value k1 .byte (0 : Int32) [] (.int 0)) :
    MetFree l (⟨"java/lang/String", "isEmpty", "()Z"⟩ : MethodName) (head1 (Jvm.Cond.code (⟨"java/lang/String", "isEmpty", "()Z"⟩ : MethodName) jdk_42_method_55_code 1 (some .boolean) :: ws) ({ frames := 0, cells := 0, slots := 0, locals := 0 } : Room)) (fun a U => a = #[(.ref tz)] ∧ Z.Warmed39 U.vm ∧ U.heap = h0) (fun _ _ _ _ _ => True) (fun _ U o U' => ∃ v L, o = .returned v ∧ Q17_0 Z tz tz_value k1 h0 n0 v U'.heap L ∧ FrameEnd U o U' L ({ frames := 0, cells := 0, slots := 0, locals := 0 } : Room).cells ({ frames := 0, cells := 0, slots := 0, locals := 0 } : Room).slots) := by
  refine MetFree.of_bodySF (plainFor_of_name pn_java_lang_String) hisR ?_
  intro p e s m args below meth c s₁ Bd hml0 hP hK
  obtain ⟨rfl, hZ, hh⟩ := hP
  have hx := Bd.exec
  have hby := Bd.bytes
  have hml : c.maxLocals = 1 := hml0
  have hown : s.vm.findClass "java/lang/String" = some m.cls := findClass_of_methodNamed Bd.named
  have hnm := (name_of_methodNamed Bd.named Bd.method).1
  have X0 : Stand p l e ({ frames := 0, cells := 0, slots := 0, locals := 0 } : Room) s m #[(.ref tz)] below meth c s₁ [] 0 0 := Stand.of_body Bd
  have e0 : s₁.heap = h0 := by rw [← hh, Bd.state]; rfl
  have N0 := Fr.nil n0
  have K0 : Keep h0 h0 [] := Keep.refl _ _
  have pre0 : ∀ t, Steps p.tables e below (s₁.setTop (mkF m 0 #[.val (.ref tz)] [])) t → Steps p.tables e below (s₁.setTop (entryFrame m #[(.ref tz)] 1)) t := fun t k => castTop (ef17_0 m tz) k
  obtain ⟨T41, X41, e41, st41⟩ := getF X0 hx hZ hown (host := "") (Or.inl (own_wd hw 32 rfl)) Via.refl e0 F_tz_value (g := (mkF m 1 #[.val (.ref tz)] [(.ref tz)])) rfl rfl (hb hby d17_1)
  obtain ⟨cl_a42, Ar_a42, -, S_a42, N_a42, -, -⟩ := id V_tz
  obtain ⟨fs, hr, hrun, hended, hW, hsame⟩ := X41.leave (v := some (.int (1 : Int32))) (fun h => by rw [Bd.returns] at h; cases h)
  refine ⟨_, _, pre0 _ ?_, hrun, hended, _, _, rfl, ?_, ⟨_, rfl⟩, hW, hsame.mono (by decide) (by decide)⟩
  · show Steps p.tables e below (s₁.setTop (mkF m 0 #[.val (.ref tz)] [])) _
    refine XS.aloadN X0.here hx rfl (hb hby d17_0) rfl rfl ?_
    show Steps p.tables e below (s₁.setTop (mkF m 1 #[.val (.ref tz)] [(.ref tz)])) _
    refine st41 _ ?_
    show Steps p.tables e below (T41.setTop (mkF m 4 #[.val (.ref tz)] [(.ref tz_value)])) _
    refine X41.arraylength hx (by rw [e41]; exact Ar_a42.1) (State.isArrayOf_alike hZ.alike Ar_a42.2.1) (g := (mkF m 4 #[.val (.ref tz)] [(.ref tz_value)])) rfl rfl (hb hby d17_4) _ ?_
    rw [len_of S_a42 N_a42]
    refine XS.ifNo X41.here hx rfl (hb hby d17_5) rfl ((if0 _ _).trans (teq (by decide : (0 : Int32) = (0 : Int32))).2) ?_
    refine XS.iconst X41.here hx rfl (hb hby d17_8) ?_
    refine XS.goto X41.here hx rfl (pc0 := 9) (pc' := 13) rfl (hb hby d17_9) (by decide) (by decide) ?_
    show Steps p.tables e below (T41.setTop (mkF m 13 #[.val (.ref tz)] [(.int (1 : Int32))])) _
    exact retN X41 hx (t := .boolean) Bd.returns (by simp) (hb hby d17_13) hr
  · show Q17_0 Z tz tz_value k1 h0 n0 _ T41.heap _
    rw [e41]
    exact ⟨rfl, N0, rfl⟩
theorem d9_0 : decode prog_20_method_2_code 0 = .ok (.aload_n 0, 1) := by decide +kernel
theorem d9_1 : decode prog_20_method_2_code 1 = .ok (.ldc 7, 2) := by decide +kernel
theorem pd_6 : parseMethodDescriptor "(Ljava/lang/CharSequence;)Z" = some ⟨[(.object "java/lang/CharSequence")], some .boolean⟩ := by decide +kernel
theorem d9_3 : decode prog_20_method_2_code 3 = .ok (.invokevirtual 9, 3) := by decide +kernel
theorem d9_6 : decode prog_20_method_2_code 6 = .ok (.ifCond .ne 21, 3) := by decide +kernel
theorem d9_9 : decode prog_20_method_2_code 9 = .ok (.aload_n 0, 1) := by decide +kernel
theorem d9_10 : decode prog_20_method_2_code 10 = .ok (.ldc 15, 2) := by decide +kernel
theorem d9_12 : decode prog_20_method_2_code 12 = .ok (.invokevirtual 9, 3) := by decide +kernel
theorem d9_15 : decode prog_20_method_2_code 15 = .ok (.ifCond .ne 12, 3) := by decide +kernel
theorem d9_18 : decode prog_20_method_2_code 18 = .ok (.aload_n 0, 1) := by decide +kernel
theorem d9_19 : decode prog_20_method_2_code 19 = .ok (.ldc 17, 2) := by decide +kernel
theorem d9_21 : decode prog_20_method_2_code 21 = .ok (.invokevirtual 9, 3) := by decide +kernel
theorem d9_24 : decode prog_20_method_2_code 24 = .ok (.ifCond .eq 7, 3) := by decide +kernel
theorem d9_31 : decode prog_20_method_2_code 31 = .ok (.iconst 0, 1) := by decide +kernel
theorem d9_32 : decode prog_20_method_2_code 32 = .ok (.istore_n 1, 1) := by decide +kernel
theorem d9_33 : decode prog_20_method_2_code 33 = .ok (.iload_n 1, 1) := by decide +kernel
theorem d9_34 : decode prog_20_method_2_code 34 = .ok (.ifCond .ne 32, 3) := by decide +kernel
theorem d9_37 : decode prog_20_method_2_code 37 = .ok (.aload_n 0, 1) := by decide +kernel
theorem d9_38 : decode prog_20_method_2_code 38 = .ok (.invokevirtual 19, 3) := by decide +kernel
theorem d9_41 : decode prog_20_method_2_code 41 = .ok (.ifCond .ne 25, 3) := by decide +kernel
theorem d9_66 : decode prog_20_method_2_code 66 = .ok (.iconst 0, 1) := by decide +kernel
theorem d9_67 : decode prog_20_method_2_code 67 = .ok (.ireturn, 1) := by decide +kernel
theorem d9_27 : decode prog_20_method_2_code 27 = .ok (.iconst 1, 1) := by decide +kernel
theorem d9_28 : decode prog_20_method_2_code 28 = .ok (.goto 4, 3) := by decide +kernel
theorem pn_com_example_stock_stock_io_FileNames : plainName "com/example/stock/stock/io/FileNames" = true := by first | (simp [plainName, overriddenIn]; done) | decide +kernel
theorem ef9_0 (m : MethodId) (x1 : Addr) : entryFrame m #[(.ref x1)] 2 = mkF m 0 #[.val (.ref x1), .unset] [] := by first | (simp [entryFrame, mkF, argsToLocals, Value.category]; done) | rfl
def Q9_0 (Z : State) (x1 : Addr) (x1_value : Addr) (k1 : ClassId) (st_COMPACT_STRINGS : Int32) (h0 : Heap) (n0 : Nat) (v : Option Value) (h : Heap) (L : List Loc) : Prop := v = some (.int (own_b (¬ (([] : List Int32) = []) ∧ ¬ ((47 : Int32) ∈ ([] : List Int32)) ∧ ¬ ((92 : Int32) ∈ ([] : List Int32)) ∧ ¬ ((58 : Int32) ∈ ([] : List Int32)) ∧ ¬ (([] : List Int32) = ([(46 : Int32)] : List Int32)) ∧ ¬ (([] : List Int32) = ([(46 : Int32), (46 : Int32)] : List Int32))))) ∧ Fr n0 L ∧ Keep h0 h []
set_option maxRecDepth 65536 in
set_option maxHeartbeats 40000000 in
theorem rm9_0 (l : Launch) (Z : State) (a0 : Array Value) (hw : ∀ d ∈ tables_1, d.before a0 Z = true) (ws : List Jvm.Cond) (x1 : Addr) (x1_value : Addr) (k1 : ClassId) (st_COMPACT_STRINGS : Int32) (h0 : Heap) (n0 : Nat) (Z0 : n0 ≤ h0.size) (O0 : Old Z n0 h0) (E_x1 : Exa Z h0 x1 "java/lang/String") (F_x1_value : Fld Z h0 x1 "java/lang/String" "value" "[B" (.ref x1_value)) (F_x1_coder : Fld Z h0 x1 "java/lang/String" "coder" "B" (.int (0 : Int32))) (V_x1 : Arv Z h0 x1_value k1 .byte (0 : Int32) [] (.int 0)) (hp : ∀ c ∈ ([] : List Int32), ¬ c < 0 ∧ ¬ (255 : Int32) < c) (S_COMPACT_STRINGS : Sta Z Z.heap "java/lang/String" "COMPACT_STRINGS" "Z" (.int st_COMPACT_STRINGS)) (hcomp : ¬ (st_COMPACT_STRINGS = (0 : Int32))) :
    MetFree l (⟨"com/example/stock/stock/io/FileNames", "isBare", "(Ljava/lang/String;)Z"⟩ : MethodName) (head1 (Jvm.Cond.code (⟨"com/example/stock/stock/io/FileNames", "isBare", "(Ljava/lang/String;)Z"⟩ : MethodName) prog_20_method_2_code 2 (some .boolean) :: ws) ({ frames := 3, cells := 6, slots := 24, locals := 40 } : Room)) (fun a U => a = #[(.ref x1)] ∧ Z.Warmed39 U.vm ∧ U.heap = h0 ∧ CHv Z own_EL U.vm h0) (fun _ _ _ _ _ => True) (fun _ U o U' => ∃ v L, o = .returned v ∧ Q9_0 Z x1 x1_value k1 st_COMPACT_STRINGS h0 n0 v U'.heap L ∧ CHr Z own_EL U.vm U.heap U'.vm U'.heap ∧ ReturnedEndW U o U' L ({ frames := 3, cells := 6, slots := 24, locals := 40 } : Room).cells ({ frames := 3, cells := 6, slots := 24, locals := 40 } : Room).slots) := by
  refine MetFree.of_bodySF (plainFor_of_name pn_com_example_stock_stock_io_FileNames) hisR ?_
  intro p e s m args below meth c s₁ Bd hml0 hP hK
  obtain ⟨rfl, hZ, hh, CH0⟩ := hP
  have hx := Bd.exec
  have hby := Bd.bytes
  have hml : c.maxLocals = 2 := hml0
  have hown : (s.setVm s.vm).vm.findClass "com/example/stock/stock/io/FileNames" = some m.cls := findClass_of_methodNamed Bd.named
  have hnm := (name_of_methodNamed Bd.named Bd.method).1
  have X0 : Stand p l e ({ frames := 3, cells := 6, slots := 24, locals := 40 } : Room) (s.setVm s.vm) m #[(.ref x1)] below meth c s₁ [] 0 0 := Stand.of_body Bd
  have e0 : s₁.heap = h0 := by rw [← hh, Bd.state]; rfl
  have N0 := Fr.nil n0
  have K0 : Keep h0 h0 [] := Keep.refl _ _
  have pre0 : ∀ t, Steps p.tables e below (s₁.setTop (mkF m 0 #[.val (.ref x1), .unset] [])) t → Steps p.tables e below (s₁.setTop (entryFrame m #[(.ref x1)] 2)) t := fun t k => castTop (ef9_0 m x1) k
  have hZa : Z.Warmed39 (s.setVm s.vm).vm := hZ
  have howna : (s.setVm s.vm).vm.findClass "com/example/stock/stock/io/FileNames" = some m.cls := hown
  have hS0 : s.Since s.vm h0.size := (State.WarmedH.refl s).since _
  have hk0 : h0.size ≤ h0.size := Nat.le_refl _
  have CR0 : CHr Z own_EL s.vm h0 s.vm h0 := CHr.refl CH0
  obtain ⟨b43, T43, h43, k43, t43, kb43, X43, e43, E43, hS43, hk43, hZ43, hown43, Ex43, Co43, Va43, Ar43, lta43, ltb43, R43, Lt43, sep43, st43⟩ := ldcCH (s := s) (vm0 := s.vm) X0 hx hZa howna (own_wd hw 41 rfl) (own_wS hw) e0 hS0 hk0 (own_EW hw) (List.mem_of_getElem? (i := 0) rfl) CH0 (vs := [(.int (47 : Int32))]) (z := (1 : Int32)) ⟨by decide +kernel, by decide +kernel⟩ (by decide) (by decide) (g := (mkF m 1 #[.val (.ref x1), .unset] [(.ref x1)])) rfl (hb hby d9_1) (n := 4) (by decide +kernel) (by decide) (by decide) (by decide)
  have O43 : Old Z n0 h43 := O0.ext E43
  have Z43 : n0 ≤ h43.size := Nat.le_trans Z0 E43.1
  have K43 : Keep h0 h43 [] := K0.ext E43
  have CH43 : CHv Z own_EL T43.vm h43 := R43.1
  have CR43 : CHr Z own_EL s.vm h0 T43.vm h43 := CR0.trans R43
  have F44 : Fld Z h43 x1 "java/lang/String" "value" "[B" (.ref x1_value) := (F_x1_value.ext E43)
  have F45 : Fld Z h43 x1 "java/lang/String" "coder" "B" (.int (0 : Int32)) := (F_x1_coder.ext E43)
  have C46 : Exa Z h43 x1 "java/lang/String" := (E_x1.ext E43)
  have V47 : Arv Z h43 x1_value k1 .byte (0 : Int32) [] (.int 0) := (V_x1.ext E43)
  obtain ⟨cq48, kq48, q48a, q48b, q48c⟩ := isOf hZ43 e43 C46
  obtain ⟨_, _, ⟨T48, L48, k48, n48⟩, -, X48, ⟨Lc48, hQ48, l48, y48, z48⟩, st48⟩ := X43.virtualBack hx (y := (⟨"java/lang/String", "contains", "(Ljava/lang/CharSequence;)Z"⟩ : MethodName)) (z := (⟨"java/lang/String", "contains", "(Ljava/lang/CharSequence;)Z"⟩ : MethodName)) hown43 (mvT hZ43 (own_wd hw 44 rfl)) (mvT hZ43 (own_wd hw 45 rfl)) (notFace_of_selects (args := #[]) (mvT hZ43 (own_wd hw 47 rfl))) (mvT hZ43 (own_wd hw 47 rfl)) (mvT hZ43 (own_wd hw 46 rfl)) (by decide) (backOf (W := 0) (rm10_0 l Z a0 hw [] x1 b43 x1_value t43 (47 : Int32) k1 kb43 st_COMPACT_STRINGS h43 n0 Z43 O43 C46 F44 F45 V47 Ex43 Va43 Co43 Ar43 S_COMPACT_STRINGS hcomp) hZ43 (own_wd hw 48 rfl) (own_wd hw 7 rfl) (by decide) (by decide)) q48a q48c (g := (mkF m 3 #[.val (.ref x1), .unset] [(.ref b43), (.ref x1)])) rfl (by rw [hml]; rfl) (Steps.refl _) (argsL := [(.ref b43)]) (rest := []) (lenOf pd_6 rfl) rfl (by show 2 * 0 + _ ≤ _; exact Nat.le_of_eq rfl) (hb hby d9_3) (fun _ _ => ⟨rfl, e43, (by decide : 2 + 0 ≤ _), (by decide : 8 + 0 ≤ _)⟩)
  dsimp only [Pt.U, Pt.locs, Pt.cells, Pt.slots] at X48 l48 y48 z48 st48 hQ48
  subst l48 y48 z48
  obtain ⟨rfl, N48q, eh48⟩ := hQ48
  have N48 := Fr.app N0 N48q
  have pre49 : ∀ t, Steps p.tables e below (T48.setTop (mkF m 6 #[.val (.ref x1), .unset] [(.int (own_b ((47 : Int32) ∈ ([] : List Int32))))])) t → Steps p.tables e below (s₁.setTop (entryFrame m #[(.ref x1)] 2)) t := by
    intro t kt
    refine pre0 t ?_
    show Steps p.tables e below (s₁.setTop (mkF m 0 #[.val (.ref x1), .unset] [])) _
    refine XS.aloadN X0.here hx rfl (hb hby d9_0) rfl rfl ?_
    show Steps p.tables e below (s₁.setTop (mkF m 1 #[.val (.ref x1), .unset] [(.ref x1)])) _
    refine st43 _ ?_
    show Steps p.tables e below (T43.setTop (mkF m 3 #[.val (.ref x1), .unset] [(.ref b43), (.ref x1)])) _
    refine st48.trans ?_
    exact kt
  by_cases hc6 : (own_b ((47 : Int32) ∈ ([] : List Int32))) = (0 : Int32)
  · skip
    have hq50 : ¬ ((47 : Int32) ∈ ([] : List Int32)) := own_b_not hc6
    obtain ⟨b51, T51, h51, k51, t51, kb51, X51, e51, E51, hS51, hk51, hZ51, hown51, Ex51, Co51, Va51, Ar51, lta51, ltb51, R51, Lt51, sep51, st51⟩ := ldcCH (s := s) (vm0 := T43.vm) X48 hx hZ43 hown43 (own_wd hw 80 rfl) (own_wS hw) eh48 hS43 hk43 (own_EW hw) (List.mem_of_getElem? (i := 1) rfl) CH43 (vs := [(.int (92 : Int32))]) (z := (1 : Int32)) ⟨by decide +kernel, by decide +kernel⟩ (by decide) (by decide) (g := (mkF m 10 #[.val (.ref x1), .unset] [(.ref x1)])) rfl (hb hby d9_10) (n := 4) (by decide +kernel) (by decide) (by decide) (by decide)
    have O51 : Old Z n0 h51 := O43.ext E51
    have Z51 : n0 ≤ h51.size := Nat.le_trans Z43 E51.1
    have K51 : Keep h0 h51 [] := K43.ext E51
    have CH51 : CHv Z own_EL T51.vm h51 := R51.1
    have CR51 : CHr Z own_EL s.vm h0 T51.vm h51 := CR43.trans R51
    have F52 : Fld Z h51 x1 "java/lang/String" "value" "[B" (.ref x1_value) := (F44.ext E51)
    have F53 : Fld Z h51 x1 "java/lang/String" "coder" "B" (.int (0 : Int32)) := (F45.ext E51)
    have C54 : Exa Z h51 x1 "java/lang/String" := (C46.ext E51)
    have V55 : Arv Z h51 x1_value k1 .byte (0 : Int32) [] (.int 0) := (V47.ext E51)
    obtain ⟨cq56, kq56, q56a, q56b, q56c⟩ := isOf hZ51 e51 C54
    obtain ⟨_, _, ⟨T56, L56, k56, n56⟩, -, X56, ⟨Lc56, hQ56, l56, y56, z56⟩, st56⟩ := X51.virtualBack hx (y := (⟨"java/lang/String", "contains", "(Ljava/lang/CharSequence;)Z"⟩ : MethodName)) (z := (⟨"java/lang/String", "contains", "(Ljava/lang/CharSequence;)Z"⟩ : MethodName)) hown51 (mvT hZ51 (own_wd hw 44 rfl)) (mvT hZ51 (own_wd hw 45 rfl)) (notFace_of_selects (args := #[]) (mvT hZ51 (own_wd hw 47 rfl))) (mvT hZ51 (own_wd hw 47 rfl)) (mvT hZ51 (own_wd hw 46 rfl)) (by decide) (backOf (W := 0) (rm10_0 l Z a0 hw [] x1 b51 x1_value t51 (92 : Int32) k1 kb51 st_COMPACT_STRINGS h51 n0 Z51 O51 C54 F52 F53 V55 Ex51 Va51 Co51 Ar51 S_COMPACT_STRINGS hcomp) hZ51 (own_wd hw 48 rfl) (own_wd hw 7 rfl) (by decide) (by decide)) q56a q56c (g := (mkF m 12 #[.val (.ref x1), .unset] [(.ref b51), (.ref x1)])) rfl (by rw [hml]; rfl) (Steps.refl _) (argsL := [(.ref b51)]) (rest := []) (lenOf pd_6 rfl) rfl (by show 2 * 0 + _ ≤ _; exact Nat.le_of_eq rfl) (hb hby d9_12) (fun _ _ => ⟨rfl, e51, (by decide : 4 + 0 ≤ _), (by decide : 16 + 0 ≤ _)⟩)
    dsimp only [Pt.U, Pt.locs, Pt.cells, Pt.slots] at X56 l56 y56 z56 st56 hQ56
    subst l56 y56 z56
    obtain ⟨rfl, N56q, eh56⟩ := hQ56
    have N56 := Fr.app N48 N56q
    have pre57 : ∀ t, Steps p.tables e below (T56.setTop (mkF m 15 #[.val (.ref x1), .unset] [(.int (own_b ((92 : Int32) ∈ ([] : List Int32))))])) t → Steps p.tables e below (s₁.setTop (entryFrame m #[(.ref x1)] 2)) t := by
      intro t kt
      refine pre49 t ?_
      show Steps p.tables e below (T48.setTop (mkF m 6 #[.val (.ref x1), .unset] [(.int (own_b ((47 : Int32) ∈ ([] : List Int32))))])) _
      refine XS.ifNo X48.here hx rfl (hb hby d9_6) rfl ((if0 _ _).trans (teq hc6).2) ?_
      refine XS.aloadN X48.here hx rfl (hb hby d9_9) rfl rfl ?_
      show Steps p.tables e below (T48.setTop (mkF m 10 #[.val (.ref x1), .unset] [(.ref x1)])) _
      refine st51 _ ?_
      show Steps p.tables e below (T51.setTop (mkF m 12 #[.val (.ref x1), .unset] [(.ref b51), (.ref x1)])) _
      refine st56.trans ?_
      exact kt
    by_cases hc15 : (own_b ((92 : Int32) ∈ ([] : List Int32))) = (0 : Int32)
    · skip
      have hq58 : ¬ ((92 : Int32) ∈ ([] : List Int32)) := own_b_not hc15
      obtain ⟨b59, T59, h59, k59, t59, kb59, X59, e59, E59, hS59, hk59, hZ59, hown59, Ex59, Co59, Va59, Ar59, lta59, ltb59, R59, Lt59, sep59, st59⟩ := ldcCH (s := s) (vm0 := T51.vm) X56 hx hZ51 hown51 (own_wd hw 81 rfl) (own_wS hw) eh56 hS51 hk51 (own_EW hw) (List.mem_of_getElem? (i := 2) rfl) CH51 (vs := [(.int (58 : Int32))]) (z := (1 : Int32)) ⟨by decide +kernel, by decide +kernel⟩ (by decide) (by decide) (g := (mkF m 19 #[.val (.ref x1), .unset] [(.ref x1)])) rfl (hb hby d9_19) (n := 4) (by decide +kernel) (by decide) (by decide) (by decide)
      have O59 : Old Z n0 h59 := O51.ext E59
      have Z59 : n0 ≤ h59.size := Nat.le_trans Z51 E59.1
      have K59 : Keep h0 h59 [] := K51.ext E59
      have CH59 : CHv Z own_EL T59.vm h59 := R59.1
      have CR59 : CHr Z own_EL s.vm h0 T59.vm h59 := CR51.trans R59
      have F60 : Fld Z h59 x1 "java/lang/String" "value" "[B" (.ref x1_value) := (F52.ext E59)
      have F61 : Fld Z h59 x1 "java/lang/String" "coder" "B" (.int (0 : Int32)) := (F53.ext E59)
      have C62 : Exa Z h59 x1 "java/lang/String" := (C54.ext E59)
      have V63 : Arv Z h59 x1_value k1 .byte (0 : Int32) [] (.int 0) := (V55.ext E59)
      obtain ⟨cq64, kq64, q64a, q64b, q64c⟩ := isOf hZ59 e59 C62
      obtain ⟨_, _, ⟨T64, L64, k64, n64⟩, -, X64, ⟨Lc64, hQ64, l64, y64, z64⟩, st64⟩ := X59.virtualBack hx (y := (⟨"java/lang/String", "contains", "(Ljava/lang/CharSequence;)Z"⟩ : MethodName)) (z := (⟨"java/lang/String", "contains", "(Ljava/lang/CharSequence;)Z"⟩ : MethodName)) hown59 (mvT hZ59 (own_wd hw 44 rfl)) (mvT hZ59 (own_wd hw 45 rfl)) (notFace_of_selects (args := #[]) (mvT hZ59 (own_wd hw 47 rfl))) (mvT hZ59 (own_wd hw 47 rfl)) (mvT hZ59 (own_wd hw 46 rfl)) (by decide) (backOf (W := 0) (rm10_0 l Z a0 hw [] x1 b59 x1_value t59 (58 : Int32) k1 kb59 st_COMPACT_STRINGS h59 n0 Z59 O59 C62 F60 F61 V63 Ex59 Va59 Co59 Ar59 S_COMPACT_STRINGS hcomp) hZ59 (own_wd hw 48 rfl) (own_wd hw 7 rfl) (by decide) (by decide)) q64a q64c (g := (mkF m 21 #[.val (.ref x1), .unset] [(.ref b59), (.ref x1)])) rfl (by rw [hml]; rfl) (Steps.refl _) (argsL := [(.ref b59)]) (rest := []) (lenOf pd_6 rfl) rfl (by show 2 * 0 + _ ≤ _; exact Nat.le_of_eq rfl) (hb hby d9_21) (fun _ _ => ⟨rfl, e59, (by decide : 6 + 0 ≤ _), (by decide : 24 + 0 ≤ _)⟩)
      dsimp only [Pt.U, Pt.locs, Pt.cells, Pt.slots] at X64 l64 y64 z64 st64 hQ64
      subst l64 y64 z64
      obtain ⟨rfl, N64q, eh64⟩ := hQ64
      have N64 := Fr.app N56 N64q
      have pre65 : ∀ t, Steps p.tables e below (T64.setTop (mkF m 24 #[.val (.ref x1), .unset] [(.int (own_b ((58 : Int32) ∈ ([] : List Int32))))])) t → Steps p.tables e below (s₁.setTop (entryFrame m #[(.ref x1)] 2)) t := by
        intro t kt
        refine pre57 t ?_
        show Steps p.tables e below (T56.setTop (mkF m 15 #[.val (.ref x1), .unset] [(.int (own_b ((92 : Int32) ∈ ([] : List Int32))))])) _
        refine XS.ifNo X56.here hx rfl (hb hby d9_15) rfl ((if0 _ _).trans (teq hc15).2) ?_
        refine XS.aloadN X56.here hx rfl (hb hby d9_18) rfl rfl ?_
        show Steps p.tables e below (T56.setTop (mkF m 19 #[.val (.ref x1), .unset] [(.ref x1)])) _
        refine st59 _ ?_
        show Steps p.tables e below (T59.setTop (mkF m 21 #[.val (.ref x1), .unset] [(.ref b59), (.ref x1)])) _
        refine st64.trans ?_
        exact kt
      by_cases hc24 : (own_b ((58 : Int32) ∈ ([] : List Int32))) = (0 : Int32)
      · skip
        have hq66 : ¬ ((58 : Int32) ∈ ([] : List Int32)) := own_b_not hc24
        obtain ⟨cq67, kq67, q67a, q67b, q67c⟩ := isOf hZ59 eh64 C62
        obtain ⟨_, _, ⟨T67, L67, k67, n67⟩, -, X67, ⟨Lc67, hQ67, l67, y67, z67⟩, st67⟩ := X64.virtualBack hx (y := (⟨"java/lang/String", "isEmpty", "()Z"⟩ : MethodName)) (z := (⟨"java/lang/String", "isEmpty", "()Z"⟩ : MethodName)) hown59 (mvT hZ59 (own_wd hw 82 rfl)) (mvT hZ59 (own_wd hw 83 rfl)) (notFace_of_selects (args := #[]) (mvT hZ59 (own_wd hw 85 rfl))) (mvT hZ59 (own_wd hw 85 rfl)) (mvT hZ59 (own_wd hw 84 rfl)) (by decide) (backOf (W := 0) (rm17_0 l Z a0 hw [] x1 x1_value k1 h59 n0 Z59 O59 F60 V63) hZ59 (own_wd hw 86 rfl) (own_wd hw 7 rfl) (by decide) (by decide)) q67a q67c (g := (mkF m 38 #[.val (.ref x1), .val (.int (0 : Int32))] [(.ref x1)])) rfl (by rw [hml]; rfl) (Steps.refl _) (argsL := []) (rest := []) (lenOf pd_2 rfl) rfl (by show 2 * 0 + _ ≤ _; exact Nat.le_of_eq rfl) (hb hby d9_38) (fun _ _ => ⟨rfl, eh64, (by decide : 6 + 0 ≤ _), (by decide : 24 + 0 ≤ _)⟩)
        dsimp only [Pt.U, Pt.locs, Pt.cells, Pt.slots] at X67 l67 y67 z67 st67 hQ67
        subst l67 y67 z67
        obtain ⟨rfl, N67q, eh67⟩ := hQ67
        have N67 := Fr.app N64 N67q
        obtain ⟨fs, hr, hrun, hended, hW, hsame⟩ := X67.leave (v := some (.int (0 : Int32))) (fun h => by rw [Bd.returns] at h; cases h)
        have hend := hS59.ended hW (show _ ≤ T67.heap.size from by rw [eh67]; exact hk59) hsame
        have hcr : CHr Z own_EL s.vm s.heap T67.vm T67.heap := by
          rw [hh, eh67]
          exact CR59.trans (CHv.at X67 hZ59 (own_EW hw) CH59)
        refine ⟨_, _, pre65 _ ?_, hrun, hended, _, _, rfl, ?_, hcr, ⟨_, rfl⟩, hend.1, hend.2.1, hend.2.2.mono (by decide) (by decide)⟩
        · show Steps p.tables e below (T64.setTop (mkF m 24 #[.val (.ref x1), .unset] [(.int (own_b ((58 : Int32) ∈ ([] : List Int32))))])) _
          refine XS.ifYes X64.here hx rfl (pc0 := 24) (pc' := 31) rfl (hb hby d9_24) rfl ((if0 _ _).trans (teq hc24).1) (by decide) (by decide) ?_
          refine XS.iconst X64.here hx rfl (hb hby d9_31) ?_
          refine XS.istoreN X64.here hx rfl (hb hby d9_32) rfl (l' := #[.val (.ref x1), .val (.int (0 : Int32))]) rfl ?_
          refine XS.iloadN X64.here hx rfl (hb hby d9_33) rfl ?_
          refine XS.ifNo X64.here hx rfl (hb hby d9_34) rfl ((if0 _ _).trans (teq (by decide : (0 : Int32) = (0 : Int32))).2) ?_
          refine XS.aloadN X64.here hx rfl (hb hby d9_37) rfl rfl ?_
          show Steps p.tables e below (T64.setTop (mkF m 38 #[.val (.ref x1), .val (.int (0 : Int32))] [(.ref x1)])) _
          refine st67.trans ?_
          show Steps p.tables e below (T67.setTop (mkF m 41 #[.val (.ref x1), .val (.int (0 : Int32))] [(.int (1 : Int32))])) _
          refine XS.ifYes X67.here hx rfl (pc0 := 41) (pc' := 66) rfl (hb hby d9_41) rfl ((if0 _ _).trans (feq (by decide : ¬ ((1 : Int32) = (0 : Int32)))).2) (by decide) (by decide) ?_
          refine XS.iconst X67.here hx rfl (hb hby d9_66) ?_
          show Steps p.tables e below (T67.setTop (mkF m 67 #[.val (.ref x1), .val (.int (0 : Int32))] [(.int (0 : Int32))])) _
          exact retN X67 hx (t := .boolean) Bd.returns (by simp) (hb hby d9_67) hr
        · show Q9_0 Z x1 x1_value k1 st_COMPACT_STRINGS h0 n0 _ T67.heap _
          rw [eh67]
          exact ⟨(by rw [own_bf (fun q => q.1 rfl)]; try rfl), N67, K59⟩
      · skip
        have hq68 : (58 : Int32) ∈ ([] : List Int32) := own_b_of hc24
        obtain ⟨fs, hr, hrun, hended, hW, hsame⟩ := X64.leave (v := some (.int (0 : Int32))) (fun h => by rw [Bd.returns] at h; cases h)
        have hend := hS59.ended hW (show _ ≤ T64.heap.size from by rw [eh64]; exact hk59) hsame
        have hcr : CHr Z own_EL s.vm s.heap T64.vm T64.heap := by
          rw [hh, eh64]
          exact CR59.trans (CHv.at X64 hZ59 (own_EW hw) CH59)
        refine ⟨_, _, pre65 _ ?_, hrun, hended, _, _, rfl, ?_, hcr, ⟨_, rfl⟩, hend.1, hend.2.1, hend.2.2.mono (by decide) (by decide)⟩
        · show Steps p.tables e below (T64.setTop (mkF m 24 #[.val (.ref x1), .unset] [(.int (own_b ((58 : Int32) ∈ ([] : List Int32))))])) _
          refine XS.ifNo X64.here hx rfl (hb hby d9_24) rfl ((if0 _ _).trans (feq hc24).1) ?_
          refine XS.iconst X64.here hx rfl (hb hby d9_27) ?_
          refine XS.goto X64.here hx rfl (pc0 := 28) (pc' := 32) rfl (hb hby d9_28) (by decide) (by decide) ?_
          refine XS.istoreN X64.here hx rfl (hb hby d9_32) rfl (l' := #[.val (.ref x1), .val (.int (1 : Int32))]) rfl ?_
          refine XS.iloadN X64.here hx rfl (hb hby d9_33) rfl ?_
          refine XS.ifYes X64.here hx rfl (pc0 := 34) (pc' := 66) rfl (hb hby d9_34) rfl ((if0 _ _).trans (feq (by decide : ¬ ((1 : Int32) = (0 : Int32)))).2) (by decide) (by decide) ?_
          show Steps p.tables e below (T64.setTop (mkF m 66 #[.val (.ref x1), .val (.int (1 : Int32))] [])) _
          refine XS.iconst X64.here hx rfl (hb hby d9_66) ?_
          show Steps p.tables e below (T64.setTop (mkF m 67 #[.val (.ref x1), .val (.int (1 : Int32))] [(.int (0 : Int32))])) _
          exact retN X64 hx (t := .boolean) Bd.returns (by simp) (hb hby d9_67) hr
        · show Q9_0 Z x1 x1_value k1 st_COMPACT_STRINGS h0 n0 _ T64.heap _
          rw [eh64]
          exact ⟨(by rw [own_bf (fun q => q.1 rfl)]; try rfl), N64, K59⟩
    · skip
      have hq69 : (92 : Int32) ∈ ([] : List Int32) := own_b_of hc15
      obtain ⟨fs, hr, hrun, hended, hW, hsame⟩ := X56.leave (v := some (.int (0 : Int32))) (fun h => by rw [Bd.returns] at h; cases h)
      have hend := hS51.ended hW (show _ ≤ T56.heap.size from by rw [eh56]; exact hk51) hsame
      have hcr : CHr Z own_EL s.vm s.heap T56.vm T56.heap := by
        rw [hh, eh56]
        exact CR51.trans (CHv.at X56 hZ51 (own_EW hw) CH51)
      refine ⟨_, _, pre57 _ ?_, hrun, hended, _, _, rfl, ?_, hcr, ⟨_, rfl⟩, hend.1, hend.2.1, hend.2.2.mono (by decide) (by decide)⟩
      · show Steps p.tables e below (T56.setTop (mkF m 15 #[.val (.ref x1), .unset] [(.int (own_b ((92 : Int32) ∈ ([] : List Int32))))])) _
        refine XS.ifYes X56.here hx rfl (pc0 := 15) (pc' := 27) rfl (hb hby d9_15) rfl ((if0 _ _).trans (feq hc15).2) (by decide) (by decide) ?_
        refine XS.iconst X56.here hx rfl (hb hby d9_27) ?_
        refine XS.goto X56.here hx rfl (pc0 := 28) (pc' := 32) rfl (hb hby d9_28) (by decide) (by decide) ?_
        refine XS.istoreN X56.here hx rfl (hb hby d9_32) rfl (l' := #[.val (.ref x1), .val (.int (1 : Int32))]) rfl ?_
        refine XS.iloadN X56.here hx rfl (hb hby d9_33) rfl ?_
        refine XS.ifYes X56.here hx rfl (pc0 := 34) (pc' := 66) rfl (hb hby d9_34) rfl ((if0 _ _).trans (feq (by decide : ¬ ((1 : Int32) = (0 : Int32)))).2) (by decide) (by decide) ?_
        show Steps p.tables e below (T56.setTop (mkF m 66 #[.val (.ref x1), .val (.int (1 : Int32))] [])) _
        refine XS.iconst X56.here hx rfl (hb hby d9_66) ?_
        show Steps p.tables e below (T56.setTop (mkF m 67 #[.val (.ref x1), .val (.int (1 : Int32))] [(.int (0 : Int32))])) _
        exact retN X56 hx (t := .boolean) Bd.returns (by simp) (hb hby d9_67) hr
      · show Q9_0 Z x1 x1_value k1 st_COMPACT_STRINGS h0 n0 _ T56.heap _
        rw [eh56]
        exact ⟨(by rw [own_bf (fun q => q.1 rfl)]; try rfl), N56, K51⟩
  · skip
    have hq70 : (47 : Int32) ∈ ([] : List Int32) := own_b_of hc6
    obtain ⟨fs, hr, hrun, hended, hW, hsame⟩ := X48.leave (v := some (.int (0 : Int32))) (fun h => by rw [Bd.returns] at h; cases h)
    have hend := hS43.ended hW (show _ ≤ T48.heap.size from by rw [eh48]; exact hk43) hsame
    have hcr : CHr Z own_EL s.vm s.heap T48.vm T48.heap := by
      rw [hh, eh48]
      exact CR43.trans (CHv.at X48 hZ43 (own_EW hw) CH43)
    refine ⟨_, _, pre49 _ ?_, hrun, hended, _, _, rfl, ?_, hcr, ⟨_, rfl⟩, hend.1, hend.2.1, hend.2.2.mono (by decide) (by decide)⟩
    · show Steps p.tables e below (T48.setTop (mkF m 6 #[.val (.ref x1), .unset] [(.int (own_b ((47 : Int32) ∈ ([] : List Int32))))])) _
      refine XS.ifYes X48.here hx rfl (pc0 := 6) (pc' := 27) rfl (hb hby d9_6) rfl ((if0 _ _).trans (feq hc6).2) (by decide) (by decide) ?_
      refine XS.iconst X48.here hx rfl (hb hby d9_27) ?_
      refine XS.goto X48.here hx rfl (pc0 := 28) (pc' := 32) rfl (hb hby d9_28) (by decide) (by decide) ?_
      refine XS.istoreN X48.here hx rfl (hb hby d9_32) rfl (l' := #[.val (.ref x1), .val (.int (1 : Int32))]) rfl ?_
      refine XS.iloadN X48.here hx rfl (hb hby d9_33) rfl ?_
      refine XS.ifYes X48.here hx rfl (pc0 := 34) (pc' := 66) rfl (hb hby d9_34) rfl ((if0 _ _).trans (feq (by decide : ¬ ((1 : Int32) = (0 : Int32)))).2) (by decide) (by decide) ?_
      show Steps p.tables e below (T48.setTop (mkF m 66 #[.val (.ref x1), .val (.int (1 : Int32))] [])) _
      refine XS.iconst X48.here hx rfl (hb hby d9_66) ?_
      show Steps p.tables e below (T48.setTop (mkF m 67 #[.val (.ref x1), .val (.int (1 : Int32))] [(.int (0 : Int32))])) _
      exact retN X48 hx (t := .boolean) Bd.returns (by simp) (hb hby d9_67) hr
    · show Q9_0 Z x1 x1_value k1 st_COMPACT_STRINGS h0 n0 _ T48.heap _
      rw [eh48]
      exact ⟨(by rw [own_bf (fun q => q.1 rfl)]; try rfl), N48, K43⟩
theorem d16_0 : decode jdk_43_method_25_code 0 = .ok (.aload_n 2, 1) := by decide +kernel
theorem d16_1 : decode jdk_43_method_25_code 1 = .ok (.iconst 0, 1) := by decide +kernel
theorem d16_2 : decode jdk_43_method_25_code 2 = .ok (.baload, 1) := by decide +kernel
theorem d16_3 : decode jdk_43_method_25_code 3 = .ok (.istore 5, 2) := by decide +kernel
theorem d16_5 : decode jdk_43_method_25_code 5 = .ok (.iload_n 1, 1) := by decide +kernel
theorem d16_6 : decode jdk_43_method_25_code 6 = .ok (.iload_n 3, 1) := by decide +kernel
theorem d16_7 : decode jdk_43_method_25_code 7 = .ok (.isub, 1) := by decide +kernel
theorem d16_8 : decode jdk_43_method_25_code 8 = .ok (.istore 6, 2) := by decide +kernel
theorem d16_10 : decode jdk_43_method_25_code 10 = .ok (.iload 4, 2) := by decide +kernel
theorem d16_12 : decode jdk_43_method_25_code 12 = .ok (.istore 7, 2) := by decide +kernel
theorem d16_14 : decode jdk_43_method_25_code 14 = .ok (.iload 7, 2) := by decide +kernel
theorem d16_16 : decode jdk_43_method_25_code 16 = .ok (.iload 6, 2) := by decide +kernel
theorem d16_18 : decode jdk_43_method_25_code 18 = .ok (.if_icmp .gt 101, 3) := by decide +kernel
theorem d16_21 : decode jdk_43_method_25_code 21 = .ok (.aload_n 0, 1) := by decide +kernel
theorem d16_22 : decode jdk_43_method_25_code 22 = .ok (.iload 7, 2) := by decide +kernel
theorem d16_24 : decode jdk_43_method_25_code 24 = .ok (.baload, 1) := by decide +kernel
theorem d16_25 : decode jdk_43_method_25_code 25 = .ok (.iload 5, 2) := by decide +kernel
theorem d16_27 : decode jdk_43_method_25_code 27 = .ok (.if_icmp .eq 25, 3) := by decide +kernel
theorem d16_52 : decode jdk_43_method_25_code 52 = .ok (.iload 7, 2) := by decide +kernel
theorem d16_54 : decode jdk_43_method_25_code 54 = .ok (.iload 6, 2) := by decide +kernel
theorem d16_56 : decode jdk_43_method_25_code 56 = .ok (.if_icmp .gt 57, 3) := by decide +kernel
theorem d16_59 : decode jdk_43_method_25_code 59 = .ok (.iload 7, 2) := by decide +kernel
theorem d16_61 : decode jdk_43_method_25_code 61 = .ok (.iconst 1, 1) := by decide +kernel
theorem d16_62 : decode jdk_43_method_25_code 62 = .ok (.iadd, 1) := by decide +kernel
theorem d16_63 : decode jdk_43_method_25_code 63 = .ok (.istore 8, 2) := by decide +kernel
theorem d16_65 : decode jdk_43_method_25_code 65 = .ok (.iload 8, 2) := by decide +kernel
theorem d16_67 : decode jdk_43_method_25_code 67 = .ok (.iload_n 3, 1) := by decide +kernel
theorem d16_68 : decode jdk_43_method_25_code 68 = .ok (.iadd, 1) := by decide +kernel
theorem d16_69 : decode jdk_43_method_25_code 69 = .ok (.iconst 1, 1) := by decide +kernel
theorem d16_70 : decode jdk_43_method_25_code 70 = .ok (.isub, 1) := by decide +kernel
theorem d16_71 : decode jdk_43_method_25_code 71 = .ok (.istore 9, 2) := by decide +kernel
theorem d16_73 : decode jdk_43_method_25_code 73 = .ok (.iconst 1, 1) := by decide +kernel
theorem d16_74 : decode jdk_43_method_25_code 74 = .ok (.istore 10, 2) := by decide +kernel
theorem d16_76 : decode jdk_43_method_25_code 76 = .ok (.iload 8, 2) := by decide +kernel
theorem d16_78 : decode jdk_43_method_25_code 78 = .ok (.iload 9, 2) := by decide +kernel
theorem d16_80 : decode jdk_43_method_25_code 80 = .ok (.if_icmp .ge 23, 3) := by decide +kernel
theorem d16_103 : decode jdk_43_method_25_code 103 = .ok (.iload 8, 2) := by decide +kernel
theorem d16_105 : decode jdk_43_method_25_code 105 = .ok (.iload 9, 2) := by decide +kernel
theorem d16_107 : decode jdk_43_method_25_code 107 = .ok (.if_icmp .ne 6, 3) := by decide +kernel
theorem d16_110 : decode jdk_43_method_25_code 110 = .ok (.iload 7, 2) := by decide +kernel
theorem d16_112 : decode jdk_43_method_25_code 112 = .ok (.ireturn, 1) := by decide +kernel
theorem d16_30 : decode jdk_43_method_25_code 30 = .ok (.iinc 7 1, 3) := by decide +kernel
theorem d16_33 : decode jdk_43_method_25_code 33 = .ok (.iload 7, 2) := by decide +kernel
theorem d16_35 : decode jdk_43_method_25_code 35 = .ok (.iload 6, 2) := by decide +kernel
theorem d16_37 : decode jdk_43_method_25_code 37 = .ok (.if_icmp .gt 15, 3) := by decide +kernel
theorem d16_113 : decode jdk_43_method_25_code 113 = .ok (.iinc 7 1, 3) := by decide +kernel
theorem d16_116 : decode jdk_43_method_25_code 116 = .ok (.goto (-102), 3) := by decide +kernel
theorem d16_119 : decode jdk_43_method_25_code 119 = .ok (.iconst (-1), 1) := by decide +kernel
theorem d16_120 : decode jdk_43_method_25_code 120 = .ok (.ireturn, 1) := by decide +kernel
theorem ef16_1 (m : MethodId) (x1 : Addr) (x3 : Addr) : entryFrame m #[(.ref x1), (.int (1 : Int32)), (.ref x3), (.int (1 : Int32)), (.int (0 : Int32))] 11 = mkF m 0 #[.val (.ref x1), .val (.int (1 : Int32)), .val (.ref x3), .val (.int (1 : Int32)), .val (.int (0 : Int32)), .unset, .unset, .unset, .unset, .unset, .unset] [] := by first | (simp [entryFrame, mkF, argsToLocals, Value.category]; done) | rfl
def Q16_1 (Z : State) (x1 : Addr) (x3 : Addr) (z0 : Int32) (d : Int32) (k1 : ClassId) (k2 : ClassId) (h0 : Heap) (n0 : Nat) (v : Option Value) (h : Heap) (L : List Loc) : Prop := ∃ (r : Int32), v = some (.int r) ∧ Fr n0 L ∧ h = h0 ∧ ((r < (0 : Int32)) ↔ ¬ (d ∈ ([z0] : List Int32)))
set_option maxRecDepth 65536 in
set_option maxHeartbeats 40000000 in
theorem rm16_1 (l : Launch) (Z : State) (a0 : Array Value) (hw : ∀ d ∈ tables_1, d.before a0 Z = true) (ws : List Jvm.Cond) (x1 : Addr) (x3 : Addr) (z0 : Int32) (d : Int32) (k1 : ClassId) (k2 : ClassId) (h0 : Heap) (n0 : Nat) (Z0 : n0 ≤ h0.size) (O0 : Old Z n0 h0) (V_x1 : Arv Z h0 x1 k1 .byte (1 : Int32) [(.int z0)] (.int 0)) (V_x3 : Arv Z h0 x3 k2 .byte (1 : Int32) [(.int d)] (.int 0)) :
    MetFree l (⟨"java/lang/StringLatin1", "indexOf", "([BI[BII)I"⟩ : MethodName) (head1 (Jvm.Cond.code (⟨"java/lang/StringLatin1", "indexOf", "([BI[BII)I"⟩ : MethodName) jdk_43_method_25_code 11 (some .int) :: ws) ({ frames := 0, cells := 0, slots := 0, locals := 0 } : Room)) (fun a U => a = #[(.ref x1), (.int (1 : Int32)), (.ref x3), (.int (1 : Int32)), (.int (0 : Int32))] ∧ Z.Warmed39 U.vm ∧ U.heap = h0) (fun _ _ _ _ _ => True) (fun _ U o U' => ∃ v L, o = .returned v ∧ Q16_1 Z x1 x3 z0 d k1 k2 h0 n0 v U'.heap L ∧ FrameEnd U o U' L ({ frames := 0, cells := 0, slots := 0, locals := 0 } : Room).cells ({ frames := 0, cells := 0, slots := 0, locals := 0 } : Room).slots) := by
  refine MetFree.of_bodySF (plainFor_of_name pn_java_lang_StringLatin1) hisR ?_
  intro p e s m args below meth c s₁ Bd hml0 hP hK
  obtain ⟨rfl, hZ, hh⟩ := hP
  have hx := Bd.exec
  have hby := Bd.bytes
  have hml : c.maxLocals = 11 := hml0
  have hown : s.vm.findClass "java/lang/StringLatin1" = some m.cls := findClass_of_methodNamed Bd.named
  have hnm := (name_of_methodNamed Bd.named Bd.method).1
  have X0 : Stand p l e ({ frames := 0, cells := 0, slots := 0, locals := 0 } : Room) s m #[(.ref x1), (.int (1 : Int32)), (.ref x3), (.int (1 : Int32)), (.int (0 : Int32))] below meth c s₁ [] 0 0 := Stand.of_body Bd
  have e0 : s₁.heap = h0 := by rw [← hh, Bd.state]; rfl
  have N0 := Fr.nil n0
  have K0 : Keep h0 h0 [] := Keep.refl _ _
  have pre0 : ∀ t, Steps p.tables e below (s₁.setTop (mkF m 0 #[.val (.ref x1), .val (.int (1 : Int32)), .val (.ref x3), .val (.int (1 : Int32)), .val (.int (0 : Int32)), .unset, .unset, .unset, .unset, .unset, .unset] [])) t → Steps p.tables e below (s₁.setTop (entryFrame m #[(.ref x1), (.int (1 : Int32)), (.ref x3), (.int (1 : Int32)), (.int (0 : Int32))] 11)) t := fun t k => castTop (ef16_1 m x1 x3) k
  obtain ⟨cl_a71, Ar_a71, -, S_a71, N_a71, H_a71, -⟩ := id V_x3
  have hin_a71 : ¬ ((0 : Int32) < 0 ∨ cl_a71.slots.size ≤ ((0 : Int32)).toNatClampNeg) := inb_of S_a71 ⟨by decide, by decide⟩
  have hat_a71 : cl_a71.slots[((0 : Int32)).toNatClampNeg]? = some (.int d) := H_a71.at hin_a71 rfl
  obtain ⟨cl_a72, Ar_a72, -, S_a72, N_a72, H_a72, -⟩ := id V_x1
  have hin_a72 : ¬ ((0 : Int32) < 0 ∨ cl_a72.slots.size ≤ ((0 : Int32)).toNatClampNeg) := inb_of S_a72 ⟨by decide, by decide⟩
  have hat_a72 : cl_a72.slots[((0 : Int32)).toNatClampNeg]? = some (.int z0) := H_a72.at hin_a72 rfl
  have pre73 : ∀ t, Steps p.tables e below (s₁.setTop (mkF m 27 #[.val (.ref x1), .val (.int (1 : Int32)), .val (.ref x3), .val (.int (1 : Int32)), .val (.int (0 : Int32)), .val (.int d), .val (.int ((1 : Int32) - (1 : Int32))), .val (.int (0 : Int32)), .unset, .unset, .unset] [(.int d), (.int z0)])) t → Steps p.tables e below (s₁.setTop (entryFrame m #[(.ref x1), (.int (1 : Int32)), (.ref x3), (.int (1 : Int32)), (.int (0 : Int32))] 11)) t := by
    intro t kt
    refine pre0 t ?_
    show Steps p.tables e below (s₁.setTop (mkF m 0 #[.val (.ref x1), .val (.int (1 : Int32)), .val (.ref x3), .val (.int (1 : Int32)), .val (.int (0 : Int32)), .unset, .unset, .unset, .unset, .unset, .unset] [])) _
    refine XS.aloadN X0.here hx rfl (hb hby d16_0) rfl rfl ?_
    refine XS.iconst X0.here hx rfl (hb hby d16_1) ?_
    show Steps p.tables e below (s₁.setTop (mkF m 2 #[.val (.ref x1), .val (.int (1 : Int32)), .val (.ref x3), .val (.int (1 : Int32)), .val (.int (0 : Int32)), .unset, .unset, .unset, .unset, .unset, .unset] [(.int (0 : Int32)), (.ref x3)])) _
    refine X0.baloadBytes hx (j := (0 : Int32)) (v := (.int d)) (by rw [e0]; exact Ar_a71.1) (State.isArrayOf_alike hZ.alike Ar_a71.2.1) Ar_a71.2.2 hin_a71 hat_a71 (g := (mkF m 2 #[.val (.ref x1), .val (.int (1 : Int32)), .val (.ref x3), .val (.int (1 : Int32)), .val (.int (0 : Int32)), .unset, .unset, .unset, .unset, .unset, .unset] [(.int (0 : Int32)), (.ref x3)])) rfl rfl (hb hby d16_2) _ ?_
    refine XS.istore X0.here hx rfl (hb hby d16_3) rfl (l' := #[.val (.ref x1), .val (.int (1 : Int32)), .val (.ref x3), .val (.int (1 : Int32)), .val (.int (0 : Int32)), .val (.int d), .unset, .unset, .unset, .unset, .unset]) rfl ?_
    refine XS.iloadN X0.here hx rfl (hb hby d16_5) rfl ?_
    refine XS.iloadN X0.here hx rfl (hb hby d16_6) rfl ?_
    refine XS.isub X0.here hx rfl (hb hby d16_7) rfl ?_
    refine XS.istore X0.here hx rfl (hb hby d16_8) rfl (l' := #[.val (.ref x1), .val (.int (1 : Int32)), .val (.ref x3), .val (.int (1 : Int32)), .val (.int (0 : Int32)), .val (.int d), .val (.int ((1 : Int32) - (1 : Int32))), .unset, .unset, .unset, .unset]) rfl ?_
    show Steps p.tables e below (s₁.setTop (mkF m 10 #[.val (.ref x1), .val (.int (1 : Int32)), .val (.ref x3), .val (.int (1 : Int32)), .val (.int (0 : Int32)), .val (.int d), .val (.int ((1 : Int32) - (1 : Int32))), .unset, .unset, .unset, .unset] [])) _
    refine XS.iload X0.here hx rfl (hb hby d16_10) rfl ?_
    refine XS.istore X0.here hx rfl (hb hby d16_12) rfl (l' := #[.val (.ref x1), .val (.int (1 : Int32)), .val (.ref x3), .val (.int (1 : Int32)), .val (.int (0 : Int32)), .val (.int d), .val (.int ((1 : Int32) - (1 : Int32))), .val (.int (0 : Int32)), .unset, .unset, .unset]) rfl ?_
    refine XS.iload X0.here hx rfl (hb hby d16_14) rfl ?_
    refine XS.iload X0.here hx rfl (hb hby d16_16) rfl ?_
    refine XS.icmpNo X0.here hx rfl (hb hby d16_18) rfl (flt (by decide : ¬ (((1 : Int32) - (1 : Int32)) < (0 : Int32)))).2.2.1 ?_
    refine XS.aloadN X0.here hx rfl (hb hby d16_21) rfl rfl ?_
    show Steps p.tables e below (s₁.setTop (mkF m 22 #[.val (.ref x1), .val (.int (1 : Int32)), .val (.ref x3), .val (.int (1 : Int32)), .val (.int (0 : Int32)), .val (.int d), .val (.int ((1 : Int32) - (1 : Int32))), .val (.int (0 : Int32)), .unset, .unset, .unset] [(.ref x1)])) _
    refine XS.iload X0.here hx rfl (hb hby d16_22) rfl ?_
    show Steps p.tables e below (s₁.setTop (mkF m 24 #[.val (.ref x1), .val (.int (1 : Int32)), .val (.ref x3), .val (.int (1 : Int32)), .val (.int (0 : Int32)), .val (.int d), .val (.int ((1 : Int32) - (1 : Int32))), .val (.int (0 : Int32)), .unset, .unset, .unset] [(.int (0 : Int32)), (.ref x1)])) _
    refine X0.baloadBytes hx (j := (0 : Int32)) (v := (.int z0)) (by rw [e0]; exact Ar_a72.1) (State.isArrayOf_alike hZ.alike Ar_a72.2.1) Ar_a72.2.2 hin_a72 hat_a72 (g := (mkF m 24 #[.val (.ref x1), .val (.int (1 : Int32)), .val (.ref x3), .val (.int (1 : Int32)), .val (.int (0 : Int32)), .val (.int d), .val (.int ((1 : Int32) - (1 : Int32))), .val (.int (0 : Int32)), .unset, .unset, .unset] [(.int (0 : Int32)), (.ref x1)])) rfl rfl (hb hby d16_24) _ ?_
    refine XS.iload X0.here hx rfl (hb hby d16_25) rfl ?_
    exact kt
  by_cases hc27 : z0 = d
  · skip
    obtain ⟨fs, hr, hrun, hended, hW, hsame⟩ := X0.leave (v := some (.int (0 : Int32))) (fun h => by rw [Bd.returns] at h; cases h)
    refine ⟨_, _, pre73 _ ?_, hrun, hended, _, _, rfl, ?_, ⟨_, rfl⟩, hW, hsame.mono (by decide) (by decide)⟩
    · show Steps p.tables e below (s₁.setTop (mkF m 27 #[.val (.ref x1), .val (.int (1 : Int32)), .val (.ref x3), .val (.int (1 : Int32)), .val (.int (0 : Int32)), .val (.int d), .val (.int ((1 : Int32) - (1 : Int32))), .val (.int (0 : Int32)), .unset, .unset, .unset] [(.int d), (.int z0)])) _
      refine XS.icmpYes X0.here hx rfl (pc0 := 27) (pc' := 52) rfl (hb hby d16_27) rfl (teq hc27).1 (by decide) (by decide) ?_
      refine XS.iload X0.here hx rfl (hb hby d16_52) rfl ?_
      refine XS.iload X0.here hx rfl (hb hby d16_54) rfl ?_
      refine XS.icmpNo X0.here hx rfl (hb hby d16_56) rfl (flt (by decide : ¬ (((1 : Int32) - (1 : Int32)) < (0 : Int32)))).2.2.1 ?_
      show Steps p.tables e below (s₁.setTop (mkF m 59 #[.val (.ref x1), .val (.int (1 : Int32)), .val (.ref x3), .val (.int (1 : Int32)), .val (.int (0 : Int32)), .val (.int d), .val (.int ((1 : Int32) - (1 : Int32))), .val (.int (0 : Int32)), .unset, .unset, .unset] [])) _
      refine XS.iload X0.here hx rfl (hb hby d16_59) rfl ?_
      refine XS.iconst X0.here hx rfl (hb hby d16_61) ?_
      refine XS.iadd X0.here hx rfl (hb hby d16_62) rfl ?_
      refine XS.istore X0.here hx rfl (hb hby d16_63) rfl (l' := #[.val (.ref x1), .val (.int (1 : Int32)), .val (.ref x3), .val (.int (1 : Int32)), .val (.int (0 : Int32)), .val (.int d), .val (.int ((1 : Int32) - (1 : Int32))), .val (.int (0 : Int32)), .val (.int ((0 : Int32) + (1 : Int32))), .unset, .unset]) rfl ?_
      refine XS.iload X0.here hx rfl (hb hby d16_65) rfl ?_
      refine XS.iloadN X0.here hx rfl (hb hby d16_67) rfl ?_
      show Steps p.tables e below (s₁.setTop (mkF m 68 #[.val (.ref x1), .val (.int (1 : Int32)), .val (.ref x3), .val (.int (1 : Int32)), .val (.int (0 : Int32)), .val (.int d), .val (.int ((1 : Int32) - (1 : Int32))), .val (.int (0 : Int32)), .val (.int ((0 : Int32) + (1 : Int32))), .unset, .unset] [(.int (1 : Int32)), (.int ((0 : Int32) + (1 : Int32)))])) _
      refine XS.iadd X0.here hx rfl (hb hby d16_68) rfl ?_
      refine XS.iconst X0.here hx rfl (hb hby d16_69) ?_
      refine XS.isub X0.here hx rfl (hb hby d16_70) rfl ?_
      refine XS.istore X0.here hx rfl (hb hby d16_71) rfl (l' := #[.val (.ref x1), .val (.int (1 : Int32)), .val (.ref x3), .val (.int (1 : Int32)), .val (.int (0 : Int32)), .val (.int d), .val (.int ((1 : Int32) - (1 : Int32))), .val (.int (0 : Int32)), .val (.int ((0 : Int32) + (1 : Int32))), .val (.int ((((0 : Int32) + (1 : Int32)) + (1 : Int32)) - (1 : Int32))), .unset]) rfl ?_
      refine XS.iconst X0.here hx rfl (hb hby d16_73) ?_
      refine XS.istore X0.here hx rfl (hb hby d16_74) rfl (l' := #[.val (.ref x1), .val (.int (1 : Int32)), .val (.ref x3), .val (.int (1 : Int32)), .val (.int (0 : Int32)), .val (.int d), .val (.int ((1 : Int32) - (1 : Int32))), .val (.int (0 : Int32)), .val (.int ((0 : Int32) + (1 : Int32))), .val (.int ((((0 : Int32) + (1 : Int32)) + (1 : Int32)) - (1 : Int32))), .val (.int (1 : Int32))]) rfl ?_
      show Steps p.tables e below (s₁.setTop (mkF m 76 #[.val (.ref x1), .val (.int (1 : Int32)), .val (.ref x3), .val (.int (1 : Int32)), .val (.int (0 : Int32)), .val (.int d), .val (.int ((1 : Int32) - (1 : Int32))), .val (.int (0 : Int32)), .val (.int ((0 : Int32) + (1 : Int32))), .val (.int ((((0 : Int32) + (1 : Int32)) + (1 : Int32)) - (1 : Int32))), .val (.int (1 : Int32))] [])) _
      refine XS.iload X0.here hx rfl (hb hby d16_76) rfl ?_
      refine XS.iload X0.here hx rfl (hb hby d16_78) rfl ?_
      refine XS.icmpYes X0.here hx rfl (pc0 := 80) (pc' := 103) rfl (hb hby d16_80) rfl (flt (by decide : ¬ (((0 : Int32) + (1 : Int32)) < ((((0 : Int32) + (1 : Int32)) + (1 : Int32)) - (1 : Int32))))).2.1 (by decide) (by decide) ?_
      refine XS.iload X0.here hx rfl (hb hby d16_103) rfl ?_
      refine XS.iload X0.here hx rfl (hb hby d16_105) rfl ?_
      refine XS.icmpNo X0.here hx rfl (hb hby d16_107) rfl (teq (by decide : ((0 : Int32) + (1 : Int32)) = ((((0 : Int32) + (1 : Int32)) + (1 : Int32)) - (1 : Int32)))).2 ?_
      show Steps p.tables e below (s₁.setTop (mkF m 110 #[.val (.ref x1), .val (.int (1 : Int32)), .val (.ref x3), .val (.int (1 : Int32)), .val (.int (0 : Int32)), .val (.int d), .val (.int ((1 : Int32) - (1 : Int32))), .val (.int (0 : Int32)), .val (.int ((0 : Int32) + (1 : Int32))), .val (.int ((((0 : Int32) + (1 : Int32)) + (1 : Int32)) - (1 : Int32))), .val (.int (1 : Int32))] [])) _
      refine XS.iload X0.here hx rfl (hb hby d16_110) rfl ?_
      show Steps p.tables e below (s₁.setTop (mkF m 112 #[.val (.ref x1), .val (.int (1 : Int32)), .val (.ref x3), .val (.int (1 : Int32)), .val (.int (0 : Int32)), .val (.int d), .val (.int ((1 : Int32) - (1 : Int32))), .val (.int (0 : Int32)), .val (.int ((0 : Int32) + (1 : Int32))), .val (.int ((((0 : Int32) + (1 : Int32)) + (1 : Int32)) - (1 : Int32))), .val (.int (1 : Int32))] [(.int (0 : Int32))])) _
      exact retI X0 hx Bd.returns (hb hby d16_112) hr
    · show Q16_1 Z x1 x3 z0 d k1 k2 h0 n0 _ s₁.heap _
      rw [e0]
      exact ⟨(0 : Int32), rfl, N0, rfl, ⟨fun q => absurd q (by decide), fun q => absurd (show d ∈ ([z0] : List Int32) by rw [← hc27]; simp) q⟩⟩
  · skip
    obtain ⟨fs, hr, hrun, hended, hW, hsame⟩ := X0.leave (v := some (.int (-1 : Int32))) (fun h => by rw [Bd.returns] at h; cases h)
    refine ⟨_, _, pre73 _ ?_, hrun, hended, _, _, rfl, ?_, ⟨_, rfl⟩, hW, hsame.mono (by decide) (by decide)⟩
    · show Steps p.tables e below (s₁.setTop (mkF m 27 #[.val (.ref x1), .val (.int (1 : Int32)), .val (.ref x3), .val (.int (1 : Int32)), .val (.int (0 : Int32)), .val (.int d), .val (.int ((1 : Int32) - (1 : Int32))), .val (.int (0 : Int32)), .unset, .unset, .unset] [(.int d), (.int z0)])) _
      refine XS.icmpNo X0.here hx rfl (hb hby d16_27) rfl (feq hc27).1 ?_
      refine XS.iinc X0.here hx rfl (hb hby d16_30) rfl (l' := #[.val (.ref x1), .val (.int (1 : Int32)), .val (.ref x3), .val (.int (1 : Int32)), .val (.int (0 : Int32)), .val (.int d), .val (.int ((1 : Int32) - (1 : Int32))), .val (.int ((0 : Int32) + (1 : Int32))), .unset, .unset, .unset]) rfl ?_
      refine XS.iload X0.here hx rfl (hb hby d16_33) rfl ?_
      refine XS.iload X0.here hx rfl (hb hby d16_35) rfl ?_
      show Steps p.tables e below (s₁.setTop (mkF m 37 #[.val (.ref x1), .val (.int (1 : Int32)), .val (.ref x3), .val (.int (1 : Int32)), .val (.int (0 : Int32)), .val (.int d), .val (.int ((1 : Int32) - (1 : Int32))), .val (.int ((0 : Int32) + (1 : Int32))), .unset, .unset, .unset] [(.int ((1 : Int32) - (1 : Int32))), (.int ((0 : Int32) + (1 : Int32)))])) _
      refine XS.icmpYes X0.here hx rfl (pc0 := 37) (pc' := 52) rfl (hb hby d16_37) rfl (tlt (by decide : ((1 : Int32) - (1 : Int32)) < ((0 : Int32) + (1 : Int32)))).2.2.1 (by decide) (by decide) ?_
      refine XS.iload X0.here hx rfl (hb hby d16_52) rfl ?_
      refine XS.iload X0.here hx rfl (hb hby d16_54) rfl ?_
      refine XS.icmpYes X0.here hx rfl (pc0 := 56) (pc' := 113) rfl (hb hby d16_56) rfl (tlt (by decide : ((1 : Int32) - (1 : Int32)) < ((0 : Int32) + (1 : Int32)))).2.2.1 (by decide) (by decide) ?_
      refine XS.iinc X0.here hx rfl (hb hby d16_113) rfl (l' := #[.val (.ref x1), .val (.int (1 : Int32)), .val (.ref x3), .val (.int (1 : Int32)), .val (.int (0 : Int32)), .val (.int d), .val (.int ((1 : Int32) - (1 : Int32))), .val (.int (((0 : Int32) + (1 : Int32)) + (1 : Int32))), .unset, .unset, .unset]) rfl ?_
      refine XS.goto X0.here hx rfl (pc0 := 116) (pc' := 14) rfl (hb hby d16_116) (by decide) (by decide) ?_
      show Steps p.tables e below (s₁.setTop (mkF m 14 #[.val (.ref x1), .val (.int (1 : Int32)), .val (.ref x3), .val (.int (1 : Int32)), .val (.int (0 : Int32)), .val (.int d), .val (.int ((1 : Int32) - (1 : Int32))), .val (.int (((0 : Int32) + (1 : Int32)) + (1 : Int32))), .unset, .unset, .unset] [])) _
      refine XS.iload X0.here hx rfl (hb hby d16_14) rfl ?_
      refine XS.iload X0.here hx rfl (hb hby d16_16) rfl ?_
      refine XS.icmpYes X0.here hx rfl (pc0 := 18) (pc' := 119) rfl (hb hby d16_18) rfl (tlt (by decide : ((1 : Int32) - (1 : Int32)) < (((0 : Int32) + (1 : Int32)) + (1 : Int32)))).2.2.1 (by decide) (by decide) ?_
      refine XS.iconst X0.here hx rfl (hb hby d16_119) ?_
      show Steps p.tables e below (s₁.setTop (mkF m 120 #[.val (.ref x1), .val (.int (1 : Int32)), .val (.ref x3), .val (.int (1 : Int32)), .val (.int (0 : Int32)), .val (.int d), .val (.int ((1 : Int32) - (1 : Int32))), .val (.int (((0 : Int32) + (1 : Int32)) + (1 : Int32))), .unset, .unset, .unset] [(.int (-1 : Int32))])) _
      exact retI X0 hx Bd.returns (hb hby d16_120) hr
    · show Q16_1 Z x1 x3 z0 d k1 k2 h0 n0 _ s₁.heap _
      rw [e0]
      exact ⟨(-1 : Int32), rfl, N0, rfl, ⟨fun _ q => by simp only [List.mem_cons, List.not_mem_nil, or_false] at q; exact hc27 q.symm, fun _ => by decide⟩⟩
theorem d15_14 : decode jdk_43_method_24_code 14 = .ok (.aload_n 0, 1) := by decide +kernel
theorem d15_15 : decode jdk_43_method_24_code 15 = .ok (.aload_n 0, 1) := by decide +kernel
theorem d15_16 : decode jdk_43_method_24_code 16 = .ok (.arraylength, 1) := by decide +kernel
theorem d15_17 : decode jdk_43_method_24_code 17 = .ok (.aload_n 1, 1) := by decide +kernel
theorem d15_18 : decode jdk_43_method_24_code 18 = .ok (.aload_n 1, 1) := by decide +kernel
theorem d15_19 : decode jdk_43_method_24_code 19 = .ok (.arraylength, 1) := by decide +kernel
theorem d15_20 : decode jdk_43_method_24_code 20 = .ok (.iconst 0, 1) := by decide +kernel
theorem pd_7 : parseMethodDescriptor "([BI[BII)I" = some ⟨[(.array .byte), .int, (.array .byte), .int, .int], some .int⟩ := by decide +kernel
theorem d15_21 : decode jdk_43_method_24_code 21 = .ok (.invokestatic 99, 3) := by decide +kernel
theorem d15_24 : decode jdk_43_method_24_code 24 = .ok (.ireturn, 1) := by decide +kernel
theorem ef15_1 (m : MethodId) (x1 : Addr) (x2 : Addr) : entryFrame m #[(.ref x1), (.ref x2)] 2 = mkF m 0 #[.val (.ref x1), .val (.ref x2)] [] := by first | (simp [entryFrame, mkF, argsToLocals, Value.category]; done) | rfl
def Q15_1 (Z : State) (x1 : Addr) (x2 : Addr) (z0 : Int32) (d : Int32) (k1 : ClassId) (k2 : ClassId) (h0 : Heap) (n0 : Nat) (v : Option Value) (h : Heap) (L : List Loc) : Prop := ∃ (r : Int32), v = some (.int r) ∧ Fr n0 L ∧ h = h0 ∧ ((r < (0 : Int32)) ↔ ¬ (d ∈ ([z0] : List Int32)))
set_option maxRecDepth 65536 in
set_option maxHeartbeats 40000000 in
theorem rm15_1 (l : Launch) (Z : State) (a0 : Array Value) (hw : ∀ d ∈ tables_1, d.before a0 Z = true) (ws : List Jvm.Cond) (x1 : Addr) (x2 : Addr) (z0 : Int32) (d : Int32) (k1 : ClassId) (k2 : ClassId) (h0 : Heap) (n0 : Nat) (Z0 : n0 ≤ h0.size) (O0 : Old Z n0 h0) (V_x1 : Arv Z h0 x1 k1 .byte (1 : Int32) [(.int z0)] (.int 0)) (V_x2 : Arv Z h0 x2 k2 .byte (1 : Int32) [(.int d)] (.int 0)) :
    MetFree l (⟨"java/lang/StringLatin1", "indexOf", "([B[B)I"⟩ : MethodName) (head1 (Jvm.Cond.code (⟨"java/lang/StringLatin1", "indexOf", "([B[B)I"⟩ : MethodName) jdk_43_method_24_code 2 (some .int) :: ws) ({ frames := 1, cells := 0, slots := 0, locals := 22 } : Room)) (fun a U => a = #[(.ref x1), (.ref x2)] ∧ Z.Warmed39 U.vm ∧ U.heap = h0) (fun _ _ _ _ _ => True) (fun _ U o U' => ∃ v L, o = .returned v ∧ Q15_1 Z x1 x2 z0 d k1 k2 h0 n0 v U'.heap L ∧ FrameEnd U o U' L ({ frames := 1, cells := 0, slots := 0, locals := 22 } : Room).cells ({ frames := 1, cells := 0, slots := 0, locals := 22 } : Room).slots) := by
  refine MetFree.of_bodySF (plainFor_of_name pn_java_lang_StringLatin1) hisR ?_
  intro p e s m args below meth c s₁ Bd hml0 hP hK
  obtain ⟨rfl, hZ, hh⟩ := hP
  have hx := Bd.exec
  have hby := Bd.bytes
  have hml : c.maxLocals = 2 := hml0
  have hown : s.vm.findClass "java/lang/StringLatin1" = some m.cls := findClass_of_methodNamed Bd.named
  have hnm := (name_of_methodNamed Bd.named Bd.method).1
  have X0 : Stand p l e ({ frames := 1, cells := 0, slots := 0, locals := 22 } : Room) s m #[(.ref x1), (.ref x2)] below meth c s₁ [] 0 0 := Stand.of_body Bd
  have e0 : s₁.heap = h0 := by rw [← hh, Bd.state]; rfl
  have N0 := Fr.nil n0
  have K0 : Keep h0 h0 [] := Keep.refl _ _
  have pre0 : ∀ t, Steps p.tables e below (s₁.setTop (mkF m 0 #[.val (.ref x1), .val (.ref x2)] [])) t → Steps p.tables e below (s₁.setTop (entryFrame m #[(.ref x1), (.ref x2)] 2)) t := fun t k => castTop (ef15_1 m x1 x2) k
  obtain ⟨cl_a74, Ar_a74, -, S_a74, N_a74, -, -⟩ := id V_x2
  obtain ⟨cl_a75, Ar_a75, -, S_a75, N_a75, -, -⟩ := id V_x1
  obtain ⟨cl_a76, Ar_a76, -, S_a76, N_a76, -, -⟩ := id V_x1
  obtain ⟨cl_a77, Ar_a77, -, S_a77, N_a77, -, -⟩ := id V_x2
  obtain ⟨_, _, ⟨T78, L78, k78, n78⟩, -, X78, ⟨Lc78, hQ78, l78, y78, z78⟩, st78⟩ := Jvm.LawKit.callS X0 hx (y := (⟨"java/lang/StringLatin1", "indexOf", "([BI[BII)I"⟩ : MethodName)) hown (mvT hZ (own_wd hw 77 rfl)) (mvT hZ (own_wd hw 78 rfl)) (mvT hZ (own_wd hw 75 rfl)) (mvT hZ (own_wd hw 79 rfl)) (by decide) (backOf (W := 0) (rm16_1 l Z a0 hw [] x1 x2 z0 d k1 k2 h0 n0 Z0 O0 V_x1 V_x2) hZ (own_wd hw 79 rfl) (own_wd hw 75 rfl) (by decide) (by decide)) (g := (mkF m 21 #[.val (.ref x1), .val (.ref x2)] [(.int (0 : Int32)), (.int (1 : Int32)), (.ref x2), (.int (1 : Int32)), (.ref x1)])) rfl (by rw [hml]; rfl) (argsL := [(.ref x1), (.int (1 : Int32)), (.ref x2), (.int (1 : Int32)), (.int (0 : Int32))]) (rest := []) (lenOf pd_7 rfl) rfl (by show 2 * 0 + _ ≤ _; exact Nat.le_of_eq rfl) (hb hby d15_21) (fun _ _ => ⟨rfl, e0, (by decide : 0 + 0 ≤ _), (by decide : 0 + 0 ≤ _)⟩)
  dsimp only [Pt.U, Pt.locs, Pt.cells, Pt.slots] at X78 l78 y78 z78 st78 hQ78
  subst l78 y78 z78
  obtain ⟨r_78, rfl, N78q, eh78, Q78_0⟩ := hQ78
  have N78 := Fr.app N0 N78q
  obtain ⟨fs, hr, hrun, hended, hW, hsame⟩ := X78.leave (v := some (.int r_78)) (fun h => by rw [Bd.returns] at h; cases h)
  refine ⟨_, _, pre0 _ ?_, hrun, hended, _, _, rfl, ?_, ⟨_, rfl⟩, hW, hsame.mono (by decide) (by decide)⟩
  · show Steps p.tables e below (s₁.setTop (mkF m 0 #[.val (.ref x1), .val (.ref x2)] [])) _
    refine XS.aloadN X0.here hx rfl (hb hby d15_0) rfl rfl ?_
    show Steps p.tables e below (s₁.setTop (mkF m 1 #[.val (.ref x1), .val (.ref x2)] [(.ref x2)])) _
    refine X0.arraylength hx (by rw [e0]; exact Ar_a74.1) (State.isArrayOf_alike hZ.alike Ar_a74.2.1) (g := (mkF m 1 #[.val (.ref x1), .val (.ref x2)] [(.ref x2)])) rfl rfl (hb hby d15_1) _ ?_
    rw [len_of S_a74 N_a74]
    refine XS.ifYes X0.here hx rfl (pc0 := 2) (pc' := 7) rfl (hb hby d15_2) rfl ((if0 _ _).trans (feq (by decide : ¬ ((1 : Int32) = (0 : Int32)))).2) (by decide) (by decide) ?_
    refine XS.aloadN X0.here hx rfl (hb hby d15_7) rfl rfl ?_
    show Steps p.tables e below (s₁.setTop (mkF m 8 #[.val (.ref x1), .val (.ref x2)] [(.ref x1)])) _
    refine X0.arraylength hx (by rw [e0]; exact Ar_a75.1) (State.isArrayOf_alike hZ.alike Ar_a75.2.1) (g := (mkF m 8 #[.val (.ref x1), .val (.ref x2)] [(.ref x1)])) rfl rfl (hb hby d15_8) _ ?_
    rw [len_of S_a75 N_a75]
    refine XS.ifYes X0.here hx rfl (pc0 := 9) (pc' := 14) rfl (hb hby d15_9) rfl ((if0 _ _).trans (feq (by decide : ¬ ((1 : Int32) = (0 : Int32)))).2) (by decide) (by decide) ?_
    refine XS.aloadN X0.here hx rfl (hb hby d15_14) rfl rfl ?_
    refine XS.aloadN X0.here hx rfl (hb hby d15_15) rfl rfl ?_
    show Steps p.tables e below (s₁.setTop (mkF m 16 #[.val (.ref x1), .val (.ref x2)] [(.ref x1), (.ref x1)])) _
    refine X0.arraylength hx (by rw [e0]; exact Ar_a76.1) (State.isArrayOf_alike hZ.alike Ar_a76.2.1) (g := (mkF m 16 #[.val (.ref x1), .val (.ref x2)] [(.ref x1), (.ref x1)])) rfl rfl (hb hby d15_16) _ ?_
    rw [len_of S_a76 N_a76]
    refine XS.aloadN X0.here hx rfl (hb hby d15_17) rfl rfl ?_
    refine XS.aloadN X0.here hx rfl (hb hby d15_18) rfl rfl ?_
    show Steps p.tables e below (s₁.setTop (mkF m 19 #[.val (.ref x1), .val (.ref x2)] [(.ref x2), (.ref x2), (.int (1 : Int32)), (.ref x1)])) _
    refine X0.arraylength hx (by rw [e0]; exact Ar_a77.1) (State.isArrayOf_alike hZ.alike Ar_a77.2.1) (g := (mkF m 19 #[.val (.ref x1), .val (.ref x2)] [(.ref x2), (.ref x2), (.int (1 : Int32)), (.ref x1)])) rfl rfl (hb hby d15_19) _ ?_
    rw [len_of S_a77 N_a77]
    refine XS.iconst X0.here hx rfl (hb hby d15_20) ?_
    show Steps p.tables e below (s₁.setTop (mkF m 21 #[.val (.ref x1), .val (.ref x2)] [(.int (0 : Int32)), (.int (1 : Int32)), (.ref x2), (.int (1 : Int32)), (.ref x1)])) _
    refine st78 _ ?_
    show Steps p.tables e below (T78.setTop (mkF m 24 #[.val (.ref x1), .val (.ref x2)] [(.int r_78)])) _
    exact retI X78 hx Bd.returns (hb hby d15_24) hr
  · show Q15_1 Z x1 x2 z0 d k1 k2 h0 n0 _ T78.heap _
    rw [eh78]
    exact ⟨r_78, rfl, N78, rfl, Q78_0⟩
theorem ef12_1 (m : MethodId) (tz : Addr) (x1 : Addr) : entryFrame m #[(.ref tz), (.ref x1)] 3 = mkF m 0 #[.val (.ref tz), .val (.ref x1), .unset] [] := by first | (simp [entryFrame, mkF, argsToLocals, Value.category]; done) | rfl
def Q12_1 (Z : State) (tz : Addr) (x1 : Addr) (tz_value : Addr) (x1_value : Addr) (z0 : Int32) (d : Int32) (k1 : ClassId) (k2 : ClassId) (st_COMPACT_STRINGS : Int32) (h0 : Heap) (n0 : Nat) (v : Option Value) (h : Heap) (L : List Loc) : Prop := ∃ (r : Int32), v = some (.int r) ∧ Fr n0 L ∧ h = h0 ∧ ((r < (0 : Int32)) ↔ ¬ (d ∈ ([z0] : List Int32)))
set_option maxRecDepth 65536 in
set_option maxHeartbeats 40000000 in
theorem rm12_1 (l : Launch) (Z : State) (a0 : Array Value) (hw : ∀ d ∈ tables_1, d.before a0 Z = true) (ws : List Jvm.Cond) (tz : Addr) (x1 : Addr) (tz_value : Addr) (x1_value : Addr) (z0 : Int32) (d : Int32) (k1 : ClassId) (k2 : ClassId) (st_COMPACT_STRINGS : Int32) (h0 : Heap) (n0 : Nat) (Z0 : n0 ≤ h0.size) (O0 : Old Z n0 h0) (E_tz : Exa Z h0 tz "java/lang/String") (F_tz_value : Fld Z h0 tz "java/lang/String" "value" "[B" (.ref tz_value)) (F_tz_coder : Fld Z h0 tz "java/lang/String" "coder" "B" (.int (0 : Int32))) (V_tz : Arv Z h0 tz_value k1 .byte (1 : Int32) [(.int z0)] (.int 0)) (E_x1 : Exa Z h0 x1 "java/lang/String") (F_x1_value : Fld Z h0 x1 "java/lang/String" "value" "[B" (.ref x1_value)) (F_x1_coder : Fld Z h0 x1 "java/lang/String" "coder" "B" (.int (0 : Int32))) (V_x1 : Arv Z h0 x1_value k2 .byte (1 : Int32) [(.int d)] (.int 0)) (S_COMPACT_STRINGS : Sta Z Z.heap "java/lang/String" "COMPACT_STRINGS" "Z" (.int st_COMPACT_STRINGS)) (hcomp : ¬ (st_COMPACT_STRINGS = (0 : Int32))) :
    MetFree l (⟨"java/lang/String", "indexOf", "(Ljava/lang/String;)I"⟩ : MethodName) (head1 (Jvm.Cond.code (⟨"java/lang/String", "indexOf", "(Ljava/lang/String;)I"⟩ : MethodName) jdk_42_method_84_code 3 (some .int) :: ws) ({ frames := 2, cells := 0, slots := 0, locals := 35 } : Room)) (fun a U => a = #[(.ref tz), (.ref x1)] ∧ Z.Warmed39 U.vm ∧ U.heap = h0) (fun _ _ _ _ _ => True) (fun _ U o U' => ∃ v L, o = .returned v ∧ Q12_1 Z tz x1 tz_value x1_value z0 d k1 k2 st_COMPACT_STRINGS h0 n0 v U'.heap L ∧ FrameEnd U o U' L ({ frames := 2, cells := 0, slots := 0, locals := 35 } : Room).cells ({ frames := 2, cells := 0, slots := 0, locals := 35 } : Room).slots) := by
  refine MetFree.of_bodySF (plainFor_of_name pn_java_lang_String) hisR ?_
  intro p e s m args below meth c s₁ Bd hml0 hP hK
  obtain ⟨rfl, hZ, hh⟩ := hP
  have hx := Bd.exec
  have hby := Bd.bytes
  have hml : c.maxLocals = 3 := hml0
  have hown : s.vm.findClass "java/lang/String" = some m.cls := findClass_of_methodNamed Bd.named
  have hnm := (name_of_methodNamed Bd.named Bd.method).1
  have X0 : Stand p l e ({ frames := 2, cells := 0, slots := 0, locals := 35 } : Room) s m #[(.ref tz), (.ref x1)] below meth c s₁ [] 0 0 := Stand.of_body Bd
  have e0 : s₁.heap = h0 := by rw [← hh, Bd.state]; rfl
  have N0 := Fr.nil n0
  have K0 : Keep h0 h0 [] := Keep.refl _ _
  have pre0 : ∀ t, Steps p.tables e below (s₁.setTop (mkF m 0 #[.val (.ref tz), .val (.ref x1), .unset] [])) t → Steps p.tables e below (s₁.setTop (entryFrame m #[(.ref tz), (.ref x1)] 3)) t := fun t k => castTop (ef12_1 m tz x1) k
  obtain ⟨cq79, kq79, q79a, q79b, q79c⟩ := isOf hZ e0 E_tz
  obtain ⟨_, _, ⟨T79, L79, k79, n79⟩, -, X79, ⟨Lc79, hQ79, l79, y79, z79⟩, st79⟩ := X0.virtualBack hx (y := (⟨"java/lang/String", "coder", "()B"⟩ : MethodName)) (z := (⟨"java/lang/String", "coder", "()B"⟩ : MethodName)) hown (mvT hZ (own_wd hw 63 rfl)) (mvT hZ (own_wd hw 64 rfl)) (notFace_of_selects (args := #[]) (mvT hZ (own_wd hw 66 rfl))) (mvT hZ (own_wd hw 66 rfl)) (mvT hZ (own_wd hw 65 rfl)) (by decide) (backOf (W := 0) (rm13 l Z a0 hw [] tz st_COMPACT_STRINGS h0 n0 Z0 O0 F_tz_coder S_COMPACT_STRINGS hcomp) hZ (own_wd hw 67 rfl) (own_wd hw 7 rfl) (by decide) (by decide)) q79a q79c (g := (mkF m 1 #[.val (.ref tz), .val (.ref x1), .unset] [(.ref tz)])) rfl (by rw [hml]; rfl) (Steps.refl _) (argsL := []) (rest := []) (lenOf pd_1 rfl) rfl (by show 2 * 0 + _ ≤ _; exact Nat.le_of_eq rfl) (hb hby d12_1) (fun _ _ => ⟨rfl, e0, (by decide : 0 + 0 ≤ _), (by decide : 0 + 0 ≤ _)⟩)
  dsimp only [Pt.U, Pt.locs, Pt.cells, Pt.slots] at X79 l79 y79 z79 st79 hQ79
  subst l79 y79 z79
  obtain ⟨rfl, N79q, eh79⟩ := hQ79
  have N79 := Fr.app N0 N79q
  obtain ⟨cq80, kq80, q80a, q80b, q80c⟩ := isOf hZ eh79 E_x1
  obtain ⟨_, _, ⟨T80, L80, k80, n80⟩, -, X80, ⟨Lc80, hQ80, l80, y80, z80⟩, st80⟩ := X79.virtualBack hx (y := (⟨"java/lang/String", "coder", "()B"⟩ : MethodName)) (z := (⟨"java/lang/String", "coder", "()B"⟩ : MethodName)) hown (mvT hZ (own_wd hw 63 rfl)) (mvT hZ (own_wd hw 64 rfl)) (notFace_of_selects (args := #[]) (mvT hZ (own_wd hw 66 rfl))) (mvT hZ (own_wd hw 66 rfl)) (mvT hZ (own_wd hw 65 rfl)) (by decide) (backOf (W := 1) (rm13 l Z a0 hw [] x1 st_COMPACT_STRINGS h0 n0 Z0 O0 F_x1_coder S_COMPACT_STRINGS hcomp) hZ (own_wd hw 67 rfl) (own_wd hw 7 rfl) (by decide) (by decide)) q80a q80c (g := (mkF m 7 #[.val (.ref tz), .val (.ref x1), .val (.int (0 : Int32))] [(.ref x1), (.int (0 : Int32))])) rfl (by rw [hml]; rfl) (Steps.refl _) (argsL := []) (rest := [(.int (0 : Int32))]) (lenOf pd_1 rfl) rfl (by show 2 * 0 + _ ≤ _; exact Nat.le_of_eq rfl) (hb hby d12_7) (fun _ _ => ⟨rfl, eh79, (by decide : 0 + 0 ≤ _), (by decide : 0 + 0 ≤ _)⟩)
  dsimp only [Pt.U, Pt.locs, Pt.cells, Pt.slots] at X80 l80 y80 z80 st80 hQ80
  subst l80 y80 z80
  obtain ⟨rfl, N80q, eh80⟩ := hQ80
  have N80 := Fr.app N79 N80q
  obtain ⟨cq81, kq81, q81a, q81b, q81c⟩ := isOf hZ eh80 E_tz
  obtain ⟨_, _, ⟨T81, L81, k81, n81⟩, -, X81, ⟨Lc81, hQ81, l81, y81, z81⟩, st81⟩ := X80.virtualBack hx (y := (⟨"java/lang/String", "isLatin1", "()Z"⟩ : MethodName)) (z := (⟨"java/lang/String", "isLatin1", "()Z"⟩ : MethodName)) hown (mvT hZ (own_wd hw 68 rfl)) (mvT hZ (own_wd hw 69 rfl)) (notFace_of_selects (args := #[]) (mvT hZ (own_wd hw 71 rfl))) (mvT hZ (own_wd hw 71 rfl)) (mvT hZ (own_wd hw 70 rfl)) (by decide) (backOf (W := 0) (rm14 l Z a0 hw [] tz st_COMPACT_STRINGS h0 n0 Z0 O0 F_tz_coder S_COMPACT_STRINGS hcomp) hZ (own_wd hw 72 rfl) (own_wd hw 7 rfl) (by decide) (by decide)) q81a q81c (g := (mkF m 14 #[.val (.ref tz), .val (.ref x1), .val (.int (0 : Int32))] [(.ref tz)])) rfl (by rw [hml]; rfl) (Steps.refl _) (argsL := []) (rest := []) (lenOf pd_2 rfl) rfl (by show 2 * 0 + _ ≤ _; exact Nat.le_of_eq rfl) (hb hby d12_14) (fun _ _ => ⟨rfl, eh80, (by decide : 0 + 0 ≤ _), (by decide : 0 + 0 ≤ _)⟩)
  dsimp only [Pt.U, Pt.locs, Pt.cells, Pt.slots] at X81 l81 y81 z81 st81 hQ81
  subst l81 y81 z81
  obtain ⟨rfl, N81q, eh81⟩ := hQ81
  have N81 := Fr.app N80 N81q
  obtain ⟨T82, X82, e82, st82⟩ := getF X81 hx hZ hown (host := "") (Or.inl (own_wd hw 32 rfl)) Via.refl eh81 F_tz_value (g := (mkF m 21 #[.val (.ref tz), .val (.ref x1), .val (.int (0 : Int32))] [(.ref tz)])) rfl rfl (hb hby d12_21)
  obtain ⟨T83, X83, e83, st83⟩ := getF X82 hx hZ hown (host := "") (Or.inl (own_wd hw 32 rfl)) Via.refl e82 F_x1_value (g := (mkF m 25 #[.val (.ref tz), .val (.ref x1), .val (.int (0 : Int32))] [(.ref x1), (.ref tz_value)])) rfl rfl (hb hby d12_25)
  obtain ⟨_, _, ⟨T84, L84, k84, n84⟩, -, X84, ⟨Lc84, hQ84, l84, y84, z84⟩, st84⟩ := Jvm.LawKit.callS X83 hx (y := (⟨"java/lang/StringLatin1", "indexOf", "([B[B)I"⟩ : MethodName)) hown (mvT hZ (own_wd hw 73 rfl)) (mvT hZ (own_wd hw 74 rfl)) (mvT hZ (own_wd hw 75 rfl)) (mvT hZ (own_wd hw 76 rfl)) (by decide) (backOf (W := 0) (rm15_1 l Z a0 hw [] tz_value x1_value z0 d k1 k2 h0 n0 Z0 O0 V_tz V_x1) hZ (own_wd hw 76 rfl) (own_wd hw 75 rfl) (by decide) (by decide)) (g := (mkF m 28 #[.val (.ref tz), .val (.ref x1), .val (.int (0 : Int32))] [(.ref x1_value), (.ref tz_value)])) rfl (by rw [hml]; rfl) (argsL := [(.ref tz_value), (.ref x1_value)]) (rest := []) (lenOf pd_3 rfl) rfl (by show 2 * 0 + _ ≤ _; exact Nat.le_of_eq rfl) (hb hby d12_28) (fun _ _ => ⟨rfl, e83, (by decide : 0 + 0 ≤ _), (by decide : 0 + 0 ≤ _)⟩)
  dsimp only [Pt.U, Pt.locs, Pt.cells, Pt.slots] at X84 l84 y84 z84 st84 hQ84
  subst l84 y84 z84
  obtain ⟨r_84, rfl, N84q, eh84, Q84_0⟩ := hQ84
  have N84 := Fr.app N81 N84q
  obtain ⟨fs, hr, hrun, hended, hW, hsame⟩ := X84.leave (v := some (.int r_84)) (fun h => by rw [Bd.returns] at h; cases h)
  refine ⟨_, _, pre0 _ ?_, hrun, hended, _, _, rfl, ?_, ⟨_, rfl⟩, hW, hsame.mono (by decide) (by decide)⟩
  · show Steps p.tables e below (s₁.setTop (mkF m 0 #[.val (.ref tz), .val (.ref x1), .unset] [])) _
    refine XS.aloadN X0.here hx rfl (hb hby d12_0) rfl rfl ?_
    show Steps p.tables e below (s₁.setTop (mkF m 1 #[.val (.ref tz), .val (.ref x1), .unset] [(.ref tz)])) _
    refine st79.trans ?_
    show Steps p.tables e below (T79.setTop (mkF m 4 #[.val (.ref tz), .val (.ref x1), .unset] [(.int (0 : Int32))])) _
    refine XS.istoreN X79.here hx rfl (hb hby d12_4) rfl (l' := #[.val (.ref tz), .val (.ref x1), .val (.int (0 : Int32))]) rfl ?_
    refine XS.iloadN X79.here hx rfl (hb hby d12_5) rfl ?_
    refine XS.aloadN X79.here hx rfl (hb hby d12_6) rfl rfl ?_
    show Steps p.tables e below (T79.setTop (mkF m 7 #[.val (.ref tz), .val (.ref x1), .val (.int (0 : Int32))] [(.ref x1), (.int (0 : Int32))])) _
    refine st80.trans ?_
    show Steps p.tables e below (T80.setTop (mkF m 10 #[.val (.ref tz), .val (.ref x1), .val (.int (0 : Int32))] [(.int (0 : Int32)), (.int (0 : Int32))])) _
    refine XS.icmpNo X80.here hx rfl (hb hby d12_10) rfl (teq (by decide : (0 : Int32) = (0 : Int32))).2 ?_
    refine XS.aloadN X80.here hx rfl (hb hby d12_13) rfl rfl ?_
    show Steps p.tables e below (T80.setTop (mkF m 14 #[.val (.ref tz), .val (.ref x1), .val (.int (0 : Int32))] [(.ref tz)])) _
    refine st81.trans ?_
    show Steps p.tables e below (T81.setTop (mkF m 17 #[.val (.ref tz), .val (.ref x1), .val (.int (0 : Int32))] [(.int (1 : Int32))])) _
    refine XS.ifNo X81.here hx rfl (hb hby d12_17) rfl ((if0 _ _).trans (feq (by decide : ¬ ((1 : Int32) = (0 : Int32)))).1) ?_
    refine XS.aloadN X81.here hx rfl (hb hby d12_20) rfl rfl ?_
    show Steps p.tables e below (T81.setTop (mkF m 21 #[.val (.ref tz), .val (.ref x1), .val (.int (0 : Int32))] [(.ref tz)])) _
    refine st82 _ ?_
    show Steps p.tables e below (T82.setTop (mkF m 24 #[.val (.ref tz), .val (.ref x1), .val (.int (0 : Int32))] [(.ref tz_value)])) _
    refine XS.aloadN X82.here hx rfl (hb hby d12_24) rfl rfl ?_
    show Steps p.tables e below (T82.setTop (mkF m 25 #[.val (.ref tz), .val (.ref x1), .val (.int (0 : Int32))] [(.ref x1), (.ref tz_value)])) _
    refine st83 _ ?_
    show Steps p.tables e below (T83.setTop (mkF m 28 #[.val (.ref tz), .val (.ref x1), .val (.int (0 : Int32))] [(.ref x1_value), (.ref tz_value)])) _
    refine st84 _ ?_
    show Steps p.tables e below (T84.setTop (mkF m 31 #[.val (.ref tz), .val (.ref x1), .val (.int (0 : Int32))] [(.int r_84)])) _
    refine XS.goto X84.here hx rfl (pc0 := 31) (pc' := 45) rfl (hb hby d12_31) (by decide) (by decide) ?_
    show Steps p.tables e below (T84.setTop (mkF m 45 #[.val (.ref tz), .val (.ref x1), .val (.int (0 : Int32))] [(.int r_84)])) _
    exact retI X84 hx Bd.returns (hb hby d12_45) hr
  · show Q12_1 Z tz x1 tz_value x1_value z0 d k1 k2 st_COMPACT_STRINGS h0 n0 _ T84.heap _
    rw [eh84]
    exact ⟨r_84, rfl, N84, rfl, Q84_0⟩
theorem ef10_1 (m : MethodId) (tz : Addr) (x1 : Addr) : entryFrame m #[(.ref tz), (.ref x1)] 2 = mkF m 0 #[.val (.ref tz), .val (.ref x1)] [] := by first | (simp [entryFrame, mkF, argsToLocals, Value.category]; done) | rfl
def Q10_1 (Z : State) (tz : Addr) (x1 : Addr) (tz_value : Addr) (x1_value : Addr) (z0 : Int32) (d : Int32) (k1 : ClassId) (k2 : ClassId) (st_COMPACT_STRINGS : Int32) (h0 : Heap) (n0 : Nat) (v : Option Value) (h : Heap) (L : List Loc) : Prop := v = some (.int (own_b (d ∈ ([z0] : List Int32)))) ∧ Fr n0 L ∧ h = h0
set_option maxRecDepth 65536 in
set_option maxHeartbeats 40000000 in
theorem rm10_1 (l : Launch) (Z : State) (a0 : Array Value) (hw : ∀ d ∈ tables_1, d.before a0 Z = true) (ws : List Jvm.Cond) (tz : Addr) (x1 : Addr) (tz_value : Addr) (x1_value : Addr) (z0 : Int32) (d : Int32) (k1 : ClassId) (k2 : ClassId) (st_COMPACT_STRINGS : Int32) (h0 : Heap) (n0 : Nat) (Z0 : n0 ≤ h0.size) (O0 : Old Z n0 h0) (E_tz : Exa Z h0 tz "java/lang/String") (F_tz_value : Fld Z h0 tz "java/lang/String" "value" "[B" (.ref tz_value)) (F_tz_coder : Fld Z h0 tz "java/lang/String" "coder" "B" (.int (0 : Int32))) (V_tz : Arv Z h0 tz_value k1 .byte (1 : Int32) [(.int z0)] (.int 0)) (E_x1 : Exa Z h0 x1 "java/lang/String") (F_x1_value : Fld Z h0 x1 "java/lang/String" "value" "[B" (.ref x1_value)) (F_x1_coder : Fld Z h0 x1 "java/lang/String" "coder" "B" (.int (0 : Int32))) (V_x1 : Arv Z h0 x1_value k2 .byte (1 : Int32) [(.int d)] (.int 0)) (S_COMPACT_STRINGS : Sta Z Z.heap "java/lang/String" "COMPACT_STRINGS" "Z" (.int st_COMPACT_STRINGS)) (hcomp : ¬ (st_COMPACT_STRINGS = (0 : Int32))) :
    MetFree l (⟨"java/lang/String", "contains", "(Ljava/lang/CharSequence;)Z"⟩ : MethodName) (head1 (Jvm.Cond.code (⟨"java/lang/String", "contains", "(Ljava/lang/CharSequence;)Z"⟩ : MethodName) jdk_42_method_97_code 2 (some .boolean) :: ws) ({ frames := 3, cells := 0, slots := 0, locals := 49 } : Room)) (fun a U => a = #[(.ref tz), (.ref x1)] ∧ Z.Warmed39 U.vm ∧ U.heap = h0) (fun _ _ _ _ _ => True) (fun _ U o U' => ∃ v L, o = .returned v ∧ Q10_1 Z tz x1 tz_value x1_value z0 d k1 k2 st_COMPACT_STRINGS h0 n0 v U'.heap L ∧ FrameEnd U o U' L ({ frames := 3, cells := 0, slots := 0, locals := 49 } : Room).cells ({ frames := 3, cells := 0, slots := 0, locals := 49 } : Room).slots) := by
  refine MetFree.of_bodySF (plainFor_of_name pn_java_lang_String) hisR ?_
  intro p e s m args below meth c s₁ Bd hml0 hP hK
  obtain ⟨rfl, hZ, hh⟩ := hP
  have hx := Bd.exec
  have hby := Bd.bytes
  have hml : c.maxLocals = 2 := hml0
  have hown : s.vm.findClass "java/lang/String" = some m.cls := findClass_of_methodNamed Bd.named
  have hnm := (name_of_methodNamed Bd.named Bd.method).1
  have X0 : Stand p l e ({ frames := 3, cells := 0, slots := 0, locals := 49 } : Room) s m #[(.ref tz), (.ref x1)] below meth c s₁ [] 0 0 := Stand.of_body Bd
  have e0 : s₁.heap = h0 := by rw [← hh, Bd.state]; rfl
  have N0 := Fr.nil n0
  have K0 : Keep h0 h0 [] := Keep.refl _ _
  have pre0 : ∀ t, Steps p.tables e below (s₁.setTop (mkF m 0 #[.val (.ref tz), .val (.ref x1)] [])) t → Steps p.tables e below (s₁.setTop (entryFrame m #[(.ref tz), (.ref x1)] 2)) t := fun t k => castTop (ef10_1 m tz x1) k
  obtain ⟨cq85, kq85, q85a, q85b, q85c⟩ := isOf hZ e0 E_x1
  obtain ⟨_, _, ⟨T85, L85, k85, n85⟩, -, X85, ⟨Lc85, hQ85, l85, y85, z85⟩, st85⟩ := X0.interfaceBack hx (xi := (⟨"java/lang/CharSequence", "toString", "()Ljava/lang/String;"⟩ : MethodName)) (y := (⟨"java/lang/String", "toString", "()Ljava/lang/String;"⟩ : MethodName)) hown (mvT hZ (own_wd hw 49 rfl)) (mvT hZ (own_wd hw 50 rfl)) (mvT hZ (own_wd hw 51 rfl)) (mvT hZ (own_wd hw 52 rfl)) (mvT hZ (own_wd hw 53 rfl)) (mvT hZ (own_wd hw 54 rfl)) (mvT hZ (own_wd hw 55 rfl)) (mvT hZ (own_wd hw 56 rfl)) (by decide) (backOf (W := 1) (rm11 l Z a0 hw [] x1 h0 n0 Z0 O0) hZ (own_wd hw 57 rfl) (own_wd hw 7 rfl) (by decide) (by decide)) q85a q85b q85c (g := (mkF m 2 #[.val (.ref tz), .val (.ref x1)] [(.ref x1), (.ref tz)])) rfl (by rw [hml]; rfl) (Steps.refl _) (argsL := []) (rest := [(.ref tz)]) (lenOf pd_4 rfl) rfl (by show 2 * 0 + _ ≤ _; exact Nat.le_of_eq rfl) (hb hby d10_2) (fun _ _ => ⟨rfl, e0, (by decide : 0 + 0 ≤ _), (by decide : 0 + 0 ≤ _)⟩)
  dsimp only [Pt.U, Pt.locs, Pt.cells, Pt.slots] at X85 l85 y85 z85 st85 hQ85
  subst l85 y85 z85
  obtain ⟨rfl, N85q, eh85⟩ := hQ85
  have N85 := Fr.app N0 N85q
  obtain ⟨cq86, kq86, q86a, q86b, q86c⟩ := isOf hZ eh85 E_tz
  obtain ⟨_, _, ⟨T86, L86, k86, n86⟩, -, X86, ⟨Lc86, hQ86, l86, y86, z86⟩, st86⟩ := X85.virtualBack hx (y := (⟨"java/lang/String", "indexOf", "(Ljava/lang/String;)I"⟩ : MethodName)) (z := (⟨"java/lang/String", "indexOf", "(Ljava/lang/String;)I"⟩ : MethodName)) hown (mvT hZ (own_wd hw 58 rfl)) (mvT hZ (own_wd hw 59 rfl)) (notFace_of_selects (args := #[]) (mvT hZ (own_wd hw 61 rfl))) (mvT hZ (own_wd hw 61 rfl)) (mvT hZ (own_wd hw 60 rfl)) (by decide) (backOf (W := 0) (rm12_1 l Z a0 hw [] tz x1 tz_value x1_value z0 d k1 k2 st_COMPACT_STRINGS h0 n0 Z0 O0 E_tz F_tz_value F_tz_coder V_tz E_x1 F_x1_value F_x1_coder V_x1 S_COMPACT_STRINGS hcomp) hZ (own_wd hw 62 rfl) (own_wd hw 7 rfl) (by decide) (by decide)) q86a q86c (g := (mkF m 7 #[.val (.ref tz), .val (.ref x1)] [(.ref x1), (.ref tz)])) rfl (by rw [hml]; rfl) (Steps.refl _) (argsL := [(.ref x1)]) (rest := []) (lenOf pd_5 rfl) rfl (by show 2 * 0 + _ ≤ _; exact Nat.le_of_eq rfl) (hb hby d10_7) (fun _ _ => ⟨rfl, eh85, (by decide : 0 + 0 ≤ _), (by decide : 0 + 0 ≤ _)⟩)
  dsimp only [Pt.U, Pt.locs, Pt.cells, Pt.slots] at X86 l86 y86 z86 st86 hQ86
  subst l86 y86 z86
  obtain ⟨r_86, rfl, N86q, eh86, Q86_0⟩ := hQ86
  have N86 := Fr.app N85 N86q
  have pre87 : ∀ t, Steps p.tables e below (T86.setTop (mkF m 10 #[.val (.ref tz), .val (.ref x1)] [(.int r_86)])) t → Steps p.tables e below (s₁.setTop (entryFrame m #[(.ref tz), (.ref x1)] 2)) t := by
    intro t kt
    refine pre0 t ?_
    show Steps p.tables e below (s₁.setTop (mkF m 0 #[.val (.ref tz), .val (.ref x1)] [])) _
    refine XS.aloadN X0.here hx rfl (hb hby d10_0) rfl rfl ?_
    refine XS.aloadN X0.here hx rfl (hb hby d10_1) rfl rfl ?_
    show Steps p.tables e below (s₁.setTop (mkF m 2 #[.val (.ref tz), .val (.ref x1)] [(.ref x1), (.ref tz)])) _
    refine st85.trans ?_
    show Steps p.tables e below (T85.setTop (mkF m 7 #[.val (.ref tz), .val (.ref x1)] [(.ref x1), (.ref tz)])) _
    refine st86.trans ?_
    exact kt
  by_cases hc10 : r_86 < (0 : Int32)
  · skip
    obtain ⟨fs, hr, hrun, hended, hW, hsame⟩ := X86.leave (v := some (.int (0 : Int32))) (fun h => by rw [Bd.returns] at h; cases h)
    refine ⟨_, _, pre87 _ ?_, hrun, hended, _, _, rfl, ?_, ⟨_, rfl⟩, hW, hsame.mono (by decide) (by decide)⟩
    · show Steps p.tables e below (T86.setTop (mkF m 10 #[.val (.ref tz), .val (.ref x1)] [(.int r_86)])) _
      refine XS.ifYes X86.here hx rfl (pc0 := 10) (pc' := 17) rfl (hb hby d10_10) rfl ((if0 _ _).trans (tlt hc10).1) (by decide) (by decide) ?_
      refine XS.iconst X86.here hx rfl (hb hby d10_17) ?_
      show Steps p.tables e below (T86.setTop (mkF m 18 #[.val (.ref tz), .val (.ref x1)] [(.int (0 : Int32))])) _
      exact retN X86 hx (t := .boolean) Bd.returns (by simp) (hb hby d10_18) hr
    · show Q10_1 Z tz x1 tz_value x1_value z0 d k1 k2 st_COMPACT_STRINGS h0 n0 _ T86.heap _
      rw [eh86]
      exact ⟨(by rw [own_bf (Q86_0.mp hc10)]), N86, rfl⟩
  · skip
    obtain ⟨fs, hr, hrun, hended, hW, hsame⟩ := X86.leave (v := some (.int (1 : Int32))) (fun h => by rw [Bd.returns] at h; cases h)
    refine ⟨_, _, pre87 _ ?_, hrun, hended, _, _, rfl, ?_, ⟨_, rfl⟩, hW, hsame.mono (by decide) (by decide)⟩
    · show Steps p.tables e below (T86.setTop (mkF m 10 #[.val (.ref tz), .val (.ref x1)] [(.int r_86)])) _
      refine XS.ifNo X86.here hx rfl (hb hby d10_10) rfl ((if0 _ _).trans (flt hc10).1) ?_
      refine XS.iconst X86.here hx rfl (hb hby d10_13) ?_
      refine XS.goto X86.here hx rfl (pc0 := 14) (pc' := 18) rfl (hb hby d10_14) (by decide) (by decide) ?_
      show Steps p.tables e below (T86.setTop (mkF m 18 #[.val (.ref tz), .val (.ref x1)] [(.int (1 : Int32))])) _
      exact retN X86 hx (t := .boolean) Bd.returns (by simp) (hb hby d10_18) hr
    · show Q10_1 Z tz x1 tz_value x1_value z0 d k1 k2 st_COMPACT_STRINGS h0 n0 _ T86.heap _
      rw [eh86]
      exact ⟨(by rw [own_bt (own_nn Q86_0 hc10)]), N86, rfl⟩
theorem d17_12 : decode jdk_42_method_55_code 12 = .ok (.iconst 0, 1) := by decide +kernel
theorem ef17_1 (m : MethodId) (tz : Addr) : entryFrame m #[(.ref tz)] 1 = mkF m 0 #[.val (.ref tz)] [] := by first | (simp [entryFrame, mkF, argsToLocals, Value.category]; done) | rfl
def Q17_1 (Z : State) (tz : Addr) (tz_value : Addr) (z0 : Int32) (k1 : ClassId) (h0 : Heap) (n0 : Nat) (v : Option Value) (h : Heap) (L : List Loc) : Prop := v = some (.int (0 : Int32)) ∧ Fr n0 L ∧ h = h0
set_option maxRecDepth 65536 in
set_option maxHeartbeats 40000000 in
theorem rm17_1 (l : Launch) (Z : State) (a0 : Array Value) (hw : ∀ d ∈ tables_1, d.before a0 Z = true) (ws : List Jvm.Cond) (tz : Addr) (tz_value : Addr) (z0 : Int32) (k1 : ClassId) (h0 : Heap) (n0 : Nat) (Z0 : n0 ≤ h0.size) (O0 : Old Z n0 h0) (F_tz_value : Fld Z h0 tz "java/lang/String" "value" "[B" (.ref tz_value)) (V_tz : Arv Z h0 tz_value k1 .byte (1 : Int32) [(.int z0)] (.int 0)) :
    MetFree l (⟨"java/lang/String", "isEmpty", "()Z"⟩ : MethodName) (head1 (Jvm.Cond.code (⟨"java/lang/String", "isEmpty", "()Z"⟩ : MethodName) jdk_42_method_55_code 1 (some .boolean) :: ws) ({ frames := 0, cells := 0, slots := 0, locals := 0 } : Room)) (fun a U => a = #[(.ref tz)] ∧ Z.Warmed39 U.vm ∧ U.heap = h0) (fun _ _ _ _ _ => True) (fun _ U o U' => ∃ v L, o = .returned v ∧ Q17_1 Z tz tz_value z0 k1 h0 n0 v U'.heap L ∧ FrameEnd U o U' L ({ frames := 0, cells := 0, slots := 0, locals := 0 } : Room).cells ({ frames := 0, cells := 0, slots := 0, locals := 0 } : Room).slots) := by
  refine MetFree.of_bodySF (plainFor_of_name pn_java_lang_String) hisR ?_
  intro p e s m args below meth c s₁ Bd hml0 hP hK
  obtain ⟨rfl, hZ, hh⟩ := hP
  have hx := Bd.exec
  have hby := Bd.bytes
  have hml : c.maxLocals = 1 := hml0
  have hown : s.vm.findClass "java/lang/String" = some m.cls := findClass_of_methodNamed Bd.named
  have hnm := (name_of_methodNamed Bd.named Bd.method).1
  have X0 : Stand p l e ({ frames := 0, cells := 0, slots := 0, locals := 0 } : Room) s m #[(.ref tz)] below meth c s₁ [] 0 0 := Stand.of_body Bd
  have e0 : s₁.heap = h0 := by rw [← hh, Bd.state]; rfl
  have N0 := Fr.nil n0
  have K0 : Keep h0 h0 [] := Keep.refl _ _
  have pre0 : ∀ t, Steps p.tables e below (s₁.setTop (mkF m 0 #[.val (.ref tz)] [])) t → Steps p.tables e below (s₁.setTop (entryFrame m #[(.ref tz)] 1)) t := fun t k => castTop (ef17_1 m tz) k
  obtain ⟨T88, X88, e88, st88⟩ := getF X0 hx hZ hown (host := "") (Or.inl (own_wd hw 32 rfl)) Via.refl e0 F_tz_value (g := (mkF m 1 #[.val (.ref tz)] [(.ref tz)])) rfl rfl (hb hby d17_1)
  obtain ⟨cl_a89, Ar_a89, -, S_a89, N_a89, -, -⟩ := id V_tz
  obtain ⟨fs, hr, hrun, hended, hW, hsame⟩ := X88.leave (v := some (.int (0 : Int32))) (fun h => by rw [Bd.returns] at h; cases h)
  refine ⟨_, _, pre0 _ ?_, hrun, hended, _, _, rfl, ?_, ⟨_, rfl⟩, hW, hsame.mono (by decide) (by decide)⟩
  · show Steps p.tables e below (s₁.setTop (mkF m 0 #[.val (.ref tz)] [])) _
    refine XS.aloadN X0.here hx rfl (hb hby d17_0) rfl rfl ?_
    show Steps p.tables e below (s₁.setTop (mkF m 1 #[.val (.ref tz)] [(.ref tz)])) _
    refine st88 _ ?_
    show Steps p.tables e below (T88.setTop (mkF m 4 #[.val (.ref tz)] [(.ref tz_value)])) _
    refine X88.arraylength hx (by rw [e88]; exact Ar_a89.1) (State.isArrayOf_alike hZ.alike Ar_a89.2.1) (g := (mkF m 4 #[.val (.ref tz)] [(.ref tz_value)])) rfl rfl (hb hby d17_4) _ ?_
    rw [len_of S_a89 N_a89]
    refine XS.ifYes X88.here hx rfl (pc0 := 5) (pc' := 12) rfl (hb hby d17_5) rfl ((if0 _ _).trans (feq (by decide : ¬ ((1 : Int32) = (0 : Int32)))).2) (by decide) (by decide) ?_
    refine XS.iconst X88.here hx rfl (hb hby d17_12) ?_
    show Steps p.tables e below (T88.setTop (mkF m 13 #[.val (.ref tz)] [(.int (0 : Int32))])) _
    exact retN X88 hx (t := .boolean) Bd.returns (by simp) (hb hby d17_13) hr
  · show Q17_1 Z tz tz_value z0 k1 h0 n0 _ T88.heap _
    rw [e88]
    exact ⟨rfl, N0, rfl⟩
theorem d9_44 : decode prog_20_method_2_code 44 = .ok (.aload_n 0, 1) := by decide +kernel
theorem d9_45 : decode prog_20_method_2_code 45 = .ok (.ldc 23, 2) := by decide +kernel
theorem pd_8 : parseMethodDescriptor "(Ljava/lang/Object;)Z" = some ⟨[(.object "java/lang/Object")], some .boolean⟩ := by decide +kernel
theorem d9_47 : decode prog_20_method_2_code 47 = .ok (.invokevirtual 25, 3) := by decide +kernel
theorem d9_50 : decode prog_20_method_2_code 50 = .ok (.ifCond .ne 16, 3) := by decide +kernel
theorem d9_53 : decode prog_20_method_2_code 53 = .ok (.aload_n 0, 1) := by decide +kernel
theorem d9_54 : decode prog_20_method_2_code 54 = .ok (.ldc 29, 2) := by decide +kernel
theorem d9_56 : decode prog_20_method_2_code 56 = .ok (.invokevirtual 25, 3) := by decide +kernel
theorem d9_59 : decode prog_20_method_2_code 59 = .ok (.ifCond .ne 7, 3) := by decide +kernel
theorem d9_62 : decode prog_20_method_2_code 62 = .ok (.iconst 1, 1) := by decide +kernel
theorem d9_63 : decode prog_20_method_2_code 63 = .ok (.goto 4, 3) := by decide +kernel
theorem ef9_1 (m : MethodId) (x1 : Addr) : entryFrame m #[(.ref x1)] 2 = mkF m 0 #[.val (.ref x1), .unset] [] := by first | (simp [entryFrame, mkF, argsToLocals, Value.category]; done) | rfl
def Q9_1 (Z : State) (x1 : Addr) (x1_value : Addr) (y0 : Int32) (k1 : ClassId) (st_COMPACT_STRINGS : Int32) (h0 : Heap) (n0 : Nat) (v : Option Value) (h : Heap) (L : List Loc) : Prop := v = some (.int (own_b (¬ (([y0] : List Int32) = []) ∧ ¬ ((47 : Int32) ∈ ([(y0.toInt8.toInt32)] : List Int32)) ∧ ¬ ((92 : Int32) ∈ ([(y0.toInt8.toInt32)] : List Int32)) ∧ ¬ ((58 : Int32) ∈ ([(y0.toInt8.toInt32)] : List Int32)) ∧ ¬ (([y0] : List Int32) = ([(46 : Int32)] : List Int32)) ∧ ¬ (([y0] : List Int32) = ([(46 : Int32), (46 : Int32)] : List Int32))))) ∧ Fr n0 L ∧ Keep h0 h []
set_option maxRecDepth 65536 in
set_option maxHeartbeats 40000000 in
theorem rm9_1 (l : Launch) (Z : State) (a0 : Array Value) (hw : ∀ d ∈ tables_1, d.before a0 Z = true) (ws : List Jvm.Cond) (x1 : Addr) (x1_value : Addr) (y0 : Int32) (k1 : ClassId) (st_COMPACT_STRINGS : Int32) (h0 : Heap) (n0 : Nat) (Z0 : n0 ≤ h0.size) (O0 : Old Z n0 h0) (E_x1 : Exa Z h0 x1 "java/lang/String") (F_x1_value : Fld Z h0 x1 "java/lang/String" "value" "[B" (.ref x1_value)) (F_x1_coder : Fld Z h0 x1 "java/lang/String" "coder" "B" (.int (0 : Int32))) (V_x1 : Arv Z h0 x1_value k1 .byte (1 : Int32) [(.int (y0.toInt8.toInt32))] (.int 0)) (hp : ∀ c ∈ ([y0] : List Int32), ¬ c < 0 ∧ ¬ (255 : Int32) < c) (S_COMPACT_STRINGS : Sta Z Z.heap "java/lang/String" "COMPACT_STRINGS" "Z" (.int st_COMPACT_STRINGS)) (hcomp : ¬ (st_COMPACT_STRINGS = (0 : Int32))) :
    MetFree l (⟨"com/example/stock/stock/io/FileNames", "isBare", "(Ljava/lang/String;)Z"⟩ : MethodName) (head1 (Jvm.Cond.code (⟨"com/example/stock/stock/io/FileNames", "isBare", "(Ljava/lang/String;)Z"⟩ : MethodName) prog_20_method_2_code 2 (some .boolean) :: ws) ({ frames := 4, cells := 10, slots := 44, locals := 62 } : Room)) (fun a U => a = #[(.ref x1)] ∧ Z.Warmed39 U.vm ∧ U.heap = h0 ∧ CHv Z own_EL U.vm h0) (fun _ _ _ _ _ => True) (fun _ U o U' => ∃ v L, o = .returned v ∧ Q9_1 Z x1 x1_value y0 k1 st_COMPACT_STRINGS h0 n0 v U'.heap L ∧ CHr Z own_EL U.vm U.heap U'.vm U'.heap ∧ ReturnedEndW U o U' L ({ frames := 4, cells := 10, slots := 44, locals := 62 } : Room).cells ({ frames := 4, cells := 10, slots := 44, locals := 62 } : Room).slots) := by
  refine MetFree.of_bodySF (plainFor_of_name pn_com_example_stock_stock_io_FileNames) hisR ?_
  intro p e s m args below meth c s₁ Bd hml0 hP hK
  obtain ⟨rfl, hZ, hh, CH0⟩ := hP
  have hx := Bd.exec
  have hby := Bd.bytes
  have hml : c.maxLocals = 2 := hml0
  have hown : (s.setVm s.vm).vm.findClass "com/example/stock/stock/io/FileNames" = some m.cls := findClass_of_methodNamed Bd.named
  have hnm := (name_of_methodNamed Bd.named Bd.method).1
  have X0 : Stand p l e ({ frames := 4, cells := 10, slots := 44, locals := 62 } : Room) (s.setVm s.vm) m #[(.ref x1)] below meth c s₁ [] 0 0 := Stand.of_body Bd
  have e0 : s₁.heap = h0 := by rw [← hh, Bd.state]; rfl
  have N0 := Fr.nil n0
  have K0 : Keep h0 h0 [] := Keep.refl _ _
  have pre0 : ∀ t, Steps p.tables e below (s₁.setTop (mkF m 0 #[.val (.ref x1), .unset] [])) t → Steps p.tables e below (s₁.setTop (entryFrame m #[(.ref x1)] 2)) t := fun t k => castTop (ef9_1 m x1) k
  have hZa : Z.Warmed39 (s.setVm s.vm).vm := hZ
  have howna : (s.setVm s.vm).vm.findClass "com/example/stock/stock/io/FileNames" = some m.cls := hown
  have hS0 : s.Since s.vm h0.size := (State.WarmedH.refl s).since _
  have hk0 : h0.size ≤ h0.size := Nat.le_refl _
  have CR0 : CHr Z own_EL s.vm h0 s.vm h0 := CHr.refl CH0
  obtain ⟨b90, T90, h90, k90, t90, kb90, X90, e90, E90, hS90, hk90, hZ90, hown90, Ex90, Co90, Va90, Ar90, lta90, ltb90, R90, Lt90, sep90, st90⟩ := ldcCH (s := s) (vm0 := s.vm) X0 hx hZa howna (own_wd hw 41 rfl) (own_wS hw) e0 hS0 hk0 (own_EW hw) (List.mem_of_getElem? (i := 0) rfl) CH0 (vs := [(.int (47 : Int32))]) (z := (1 : Int32)) ⟨by decide +kernel, by decide +kernel⟩ (by decide) (by decide) (g := (mkF m 1 #[.val (.ref x1), .unset] [(.ref x1)])) rfl (hb hby d9_1) (n := 4) (by decide +kernel) (by decide) (by decide) (by decide)
  have O90 : Old Z n0 h90 := O0.ext E90
  have Z90 : n0 ≤ h90.size := Nat.le_trans Z0 E90.1
  have K90 : Keep h0 h90 [] := K0.ext E90
  have CH90 : CHv Z own_EL T90.vm h90 := R90.1
  have CR90 : CHr Z own_EL s.vm h0 T90.vm h90 := CR0.trans R90
  have F91 : Fld Z h90 x1 "java/lang/String" "value" "[B" (.ref x1_value) := (F_x1_value.ext E90)
  have F92 : Fld Z h90 x1 "java/lang/String" "coder" "B" (.int (0 : Int32)) := (F_x1_coder.ext E90)
  have C93 : Exa Z h90 x1 "java/lang/String" := (E_x1.ext E90)
  have V94 : Arv Z h90 x1_value k1 .byte (1 : Int32) [(.int (y0.toInt8.toInt32))] (.int 0) := (V_x1.ext E90)
  obtain ⟨cq95, kq95, q95a, q95b, q95c⟩ := isOf hZ90 e90 C93
  obtain ⟨_, _, ⟨T95, L95, k95, n95⟩, -, X95, ⟨Lc95, hQ95, l95, y95, z95⟩, st95⟩ := X90.virtualBack hx (y := (⟨"java/lang/String", "contains", "(Ljava/lang/CharSequence;)Z"⟩ : MethodName)) (z := (⟨"java/lang/String", "contains", "(Ljava/lang/CharSequence;)Z"⟩ : MethodName)) hown90 (mvT hZ90 (own_wd hw 44 rfl)) (mvT hZ90 (own_wd hw 45 rfl)) (notFace_of_selects (args := #[]) (mvT hZ90 (own_wd hw 47 rfl))) (mvT hZ90 (own_wd hw 47 rfl)) (mvT hZ90 (own_wd hw 46 rfl)) (by decide) (backOf (W := 0) (rm10_1 l Z a0 hw [] x1 b90 x1_value t90 (y0.toInt8.toInt32) (47 : Int32) k1 kb90 st_COMPACT_STRINGS h90 n0 Z90 O90 C93 F91 F92 V94 Ex90 Va90 Co90 Ar90 S_COMPACT_STRINGS hcomp) hZ90 (own_wd hw 48 rfl) (own_wd hw 7 rfl) (by decide) (by decide)) q95a q95c (g := (mkF m 3 #[.val (.ref x1), .unset] [(.ref b90), (.ref x1)])) rfl (by rw [hml]; rfl) (Steps.refl _) (argsL := [(.ref b90)]) (rest := []) (lenOf pd_6 rfl) rfl (by show 2 * 0 + _ ≤ _; exact Nat.le_of_eq rfl) (hb hby d9_3) (fun _ _ => ⟨rfl, e90, (by decide : 2 + 0 ≤ _), (by decide : 8 + 0 ≤ _)⟩)
  dsimp only [Pt.U, Pt.locs, Pt.cells, Pt.slots] at X95 l95 y95 z95 st95 hQ95
  subst l95 y95 z95
  obtain ⟨rfl, N95q, eh95⟩ := hQ95
  have N95 := Fr.app N0 N95q
  have pre96 : ∀ t, Steps p.tables e below (T95.setTop (mkF m 6 #[.val (.ref x1), .unset] [(.int (own_b ((47 : Int32) ∈ ([(y0.toInt8.toInt32)] : List Int32))))])) t → Steps p.tables e below (s₁.setTop (entryFrame m #[(.ref x1)] 2)) t := by
    intro t kt
    refine pre0 t ?_
    show Steps p.tables e below (s₁.setTop (mkF m 0 #[.val (.ref x1), .unset] [])) _
    refine XS.aloadN X0.here hx rfl (hb hby d9_0) rfl rfl ?_
    show Steps p.tables e below (s₁.setTop (mkF m 1 #[.val (.ref x1), .unset] [(.ref x1)])) _
    refine st90 _ ?_
    show Steps p.tables e below (T90.setTop (mkF m 3 #[.val (.ref x1), .unset] [(.ref b90), (.ref x1)])) _
    refine st95.trans ?_
    exact kt
  by_cases hc6 : (own_b ((47 : Int32) ∈ ([(y0.toInt8.toInt32)] : List Int32))) = (0 : Int32)
  · skip
    have hq97 : ¬ ((47 : Int32) ∈ ([(y0.toInt8.toInt32)] : List Int32)) := own_b_not hc6
    obtain ⟨b98, T98, h98, k98, t98, kb98, X98, e98, E98, hS98, hk98, hZ98, hown98, Ex98, Co98, Va98, Ar98, lta98, ltb98, R98, Lt98, sep98, st98⟩ := ldcCH (s := s) (vm0 := T90.vm) X95 hx hZ90 hown90 (own_wd hw 80 rfl) (own_wS hw) eh95 hS90 hk90 (own_EW hw) (List.mem_of_getElem? (i := 1) rfl) CH90 (vs := [(.int (92 : Int32))]) (z := (1 : Int32)) ⟨by decide +kernel, by decide +kernel⟩ (by decide) (by decide) (g := (mkF m 10 #[.val (.ref x1), .unset] [(.ref x1)])) rfl (hb hby d9_10) (n := 4) (by decide +kernel) (by decide) (by decide) (by decide)
    have O98 : Old Z n0 h98 := O90.ext E98
    have Z98 : n0 ≤ h98.size := Nat.le_trans Z90 E98.1
    have K98 : Keep h0 h98 [] := K90.ext E98
    have CH98 : CHv Z own_EL T98.vm h98 := R98.1
    have CR98 : CHr Z own_EL s.vm h0 T98.vm h98 := CR90.trans R98
    have F99 : Fld Z h98 x1 "java/lang/String" "value" "[B" (.ref x1_value) := (F91.ext E98)
    have F100 : Fld Z h98 x1 "java/lang/String" "coder" "B" (.int (0 : Int32)) := (F92.ext E98)
    have C101 : Exa Z h98 x1 "java/lang/String" := (C93.ext E98)
    have V102 : Arv Z h98 x1_value k1 .byte (1 : Int32) [(.int (y0.toInt8.toInt32))] (.int 0) := (V94.ext E98)
    obtain ⟨cq103, kq103, q103a, q103b, q103c⟩ := isOf hZ98 e98 C101
    obtain ⟨_, _, ⟨T103, L103, k103, n103⟩, -, X103, ⟨Lc103, hQ103, l103, y103, z103⟩, st103⟩ := X98.virtualBack hx (y := (⟨"java/lang/String", "contains", "(Ljava/lang/CharSequence;)Z"⟩ : MethodName)) (z := (⟨"java/lang/String", "contains", "(Ljava/lang/CharSequence;)Z"⟩ : MethodName)) hown98 (mvT hZ98 (own_wd hw 44 rfl)) (mvT hZ98 (own_wd hw 45 rfl)) (notFace_of_selects (args := #[]) (mvT hZ98 (own_wd hw 47 rfl))) (mvT hZ98 (own_wd hw 47 rfl)) (mvT hZ98 (own_wd hw 46 rfl)) (by decide) (backOf (W := 0) (rm10_1 l Z a0 hw [] x1 b98 x1_value t98 (y0.toInt8.toInt32) (92 : Int32) k1 kb98 st_COMPACT_STRINGS h98 n0 Z98 O98 C101 F99 F100 V102 Ex98 Va98 Co98 Ar98 S_COMPACT_STRINGS hcomp) hZ98 (own_wd hw 48 rfl) (own_wd hw 7 rfl) (by decide) (by decide)) q103a q103c (g := (mkF m 12 #[.val (.ref x1), .unset] [(.ref b98), (.ref x1)])) rfl (by rw [hml]; rfl) (Steps.refl _) (argsL := [(.ref b98)]) (rest := []) (lenOf pd_6 rfl) rfl (by show 2 * 0 + _ ≤ _; exact Nat.le_of_eq rfl) (hb hby d9_12) (fun _ _ => ⟨rfl, e98, (by decide : 4 + 0 ≤ _), (by decide : 16 + 0 ≤ _)⟩)
    dsimp only [Pt.U, Pt.locs, Pt.cells, Pt.slots] at X103 l103 y103 z103 st103 hQ103
    subst l103 y103 z103
    obtain ⟨rfl, N103q, eh103⟩ := hQ103
    have N103 := Fr.app N95 N103q
    have pre104 : ∀ t, Steps p.tables e below (T103.setTop (mkF m 15 #[.val (.ref x1), .unset] [(.int (own_b ((92 : Int32) ∈ ([(y0.toInt8.toInt32)] : List Int32))))])) t → Steps p.tables e below (s₁.setTop (entryFrame m #[(.ref x1)] 2)) t := by
      intro t kt
      refine pre96 t ?_
      show Steps p.tables e below (T95.setTop (mkF m 6 #[.val (.ref x1), .unset] [(.int (own_b ((47 : Int32) ∈ ([(y0.toInt8.toInt32)] : List Int32))))])) _
      refine XS.ifNo X95.here hx rfl (hb hby d9_6) rfl ((if0 _ _).trans (teq hc6).2) ?_
      refine XS.aloadN X95.here hx rfl (hb hby d9_9) rfl rfl ?_
      show Steps p.tables e below (T95.setTop (mkF m 10 #[.val (.ref x1), .unset] [(.ref x1)])) _
      refine st98 _ ?_
      show Steps p.tables e below (T98.setTop (mkF m 12 #[.val (.ref x1), .unset] [(.ref b98), (.ref x1)])) _
      refine st103.trans ?_
      exact kt
    by_cases hc15 : (own_b ((92 : Int32) ∈ ([(y0.toInt8.toInt32)] : List Int32))) = (0 : Int32)
    · skip
      have hq105 : ¬ ((92 : Int32) ∈ ([(y0.toInt8.toInt32)] : List Int32)) := own_b_not hc15
      obtain ⟨b106, T106, h106, k106, t106, kb106, X106, e106, E106, hS106, hk106, hZ106, hown106, Ex106, Co106, Va106, Ar106, lta106, ltb106, R106, Lt106, sep106, st106⟩ := ldcCH (s := s) (vm0 := T98.vm) X103 hx hZ98 hown98 (own_wd hw 81 rfl) (own_wS hw) eh103 hS98 hk98 (own_EW hw) (List.mem_of_getElem? (i := 2) rfl) CH98 (vs := [(.int (58 : Int32))]) (z := (1 : Int32)) ⟨by decide +kernel, by decide +kernel⟩ (by decide) (by decide) (g := (mkF m 19 #[.val (.ref x1), .unset] [(.ref x1)])) rfl (hb hby d9_19) (n := 4) (by decide +kernel) (by decide) (by decide) (by decide)
      have O106 : Old Z n0 h106 := O98.ext E106
      have Z106 : n0 ≤ h106.size := Nat.le_trans Z98 E106.1
      have K106 : Keep h0 h106 [] := K98.ext E106
      have CH106 : CHv Z own_EL T106.vm h106 := R106.1
      have CR106 : CHr Z own_EL s.vm h0 T106.vm h106 := CR98.trans R106
      have F107 : Fld Z h106 x1 "java/lang/String" "value" "[B" (.ref x1_value) := (F99.ext E106)
      have F108 : Fld Z h106 x1 "java/lang/String" "coder" "B" (.int (0 : Int32)) := (F100.ext E106)
      have C109 : Exa Z h106 x1 "java/lang/String" := (C101.ext E106)
      have V110 : Arv Z h106 x1_value k1 .byte (1 : Int32) [(.int (y0.toInt8.toInt32))] (.int 0) := (V102.ext E106)
      obtain ⟨cq111, kq111, q111a, q111b, q111c⟩ := isOf hZ106 e106 C109
      obtain ⟨_, _, ⟨T111, L111, k111, n111⟩, -, X111, ⟨Lc111, hQ111, l111, y111, z111⟩, st111⟩ := X106.virtualBack hx (y := (⟨"java/lang/String", "contains", "(Ljava/lang/CharSequence;)Z"⟩ : MethodName)) (z := (⟨"java/lang/String", "contains", "(Ljava/lang/CharSequence;)Z"⟩ : MethodName)) hown106 (mvT hZ106 (own_wd hw 44 rfl)) (mvT hZ106 (own_wd hw 45 rfl)) (notFace_of_selects (args := #[]) (mvT hZ106 (own_wd hw 47 rfl))) (mvT hZ106 (own_wd hw 47 rfl)) (mvT hZ106 (own_wd hw 46 rfl)) (by decide) (backOf (W := 0) (rm10_1 l Z a0 hw [] x1 b106 x1_value t106 (y0.toInt8.toInt32) (58 : Int32) k1 kb106 st_COMPACT_STRINGS h106 n0 Z106 O106 C109 F107 F108 V110 Ex106 Va106 Co106 Ar106 S_COMPACT_STRINGS hcomp) hZ106 (own_wd hw 48 rfl) (own_wd hw 7 rfl) (by decide) (by decide)) q111a q111c (g := (mkF m 21 #[.val (.ref x1), .unset] [(.ref b106), (.ref x1)])) rfl (by rw [hml]; rfl) (Steps.refl _) (argsL := [(.ref b106)]) (rest := []) (lenOf pd_6 rfl) rfl (by show 2 * 0 + _ ≤ _; exact Nat.le_of_eq rfl) (hb hby d9_21) (fun _ _ => ⟨rfl, e106, (by decide : 6 + 0 ≤ _), (by decide : 24 + 0 ≤ _)⟩)
      dsimp only [Pt.U, Pt.locs, Pt.cells, Pt.slots] at X111 l111 y111 z111 st111 hQ111
      subst l111 y111 z111
      obtain ⟨rfl, N111q, eh111⟩ := hQ111
      have N111 := Fr.app N103 N111q
      have pre112 : ∀ t, Steps p.tables e below (T111.setTop (mkF m 24 #[.val (.ref x1), .unset] [(.int (own_b ((58 : Int32) ∈ ([(y0.toInt8.toInt32)] : List Int32))))])) t → Steps p.tables e below (s₁.setTop (entryFrame m #[(.ref x1)] 2)) t := by
        intro t kt
        refine pre104 t ?_
        show Steps p.tables e below (T103.setTop (mkF m 15 #[.val (.ref x1), .unset] [(.int (own_b ((92 : Int32) ∈ ([(y0.toInt8.toInt32)] : List Int32))))])) _
        refine XS.ifNo X103.here hx rfl (hb hby d9_15) rfl ((if0 _ _).trans (teq hc15).2) ?_
        refine XS.aloadN X103.here hx rfl (hb hby d9_18) rfl rfl ?_
        show Steps p.tables e below (T103.setTop (mkF m 19 #[.val (.ref x1), .unset] [(.ref x1)])) _
        refine st106 _ ?_
        show Steps p.tables e below (T106.setTop (mkF m 21 #[.val (.ref x1), .unset] [(.ref b106), (.ref x1)])) _
        refine st111.trans ?_
        exact kt
      by_cases hc24 : (own_b ((58 : Int32) ∈ ([(y0.toInt8.toInt32)] : List Int32))) = (0 : Int32)
      · skip
        have hq113 : ¬ ((58 : Int32) ∈ ([(y0.toInt8.toInt32)] : List Int32)) := own_b_not hc24
        obtain ⟨cq114, kq114, q114a, q114b, q114c⟩ := isOf hZ106 eh111 C109
        obtain ⟨_, _, ⟨T114, L114, k114, n114⟩, -, X114, ⟨Lc114, hQ114, l114, y114, z114⟩, st114⟩ := X111.virtualBack hx (y := (⟨"java/lang/String", "isEmpty", "()Z"⟩ : MethodName)) (z := (⟨"java/lang/String", "isEmpty", "()Z"⟩ : MethodName)) hown106 (mvT hZ106 (own_wd hw 82 rfl)) (mvT hZ106 (own_wd hw 83 rfl)) (notFace_of_selects (args := #[]) (mvT hZ106 (own_wd hw 85 rfl))) (mvT hZ106 (own_wd hw 85 rfl)) (mvT hZ106 (own_wd hw 84 rfl)) (by decide) (backOf (W := 0) (rm17_1 l Z a0 hw [] x1 x1_value (y0.toInt8.toInt32) k1 h106 n0 Z106 O106 F107 V110) hZ106 (own_wd hw 86 rfl) (own_wd hw 7 rfl) (by decide) (by decide)) q114a q114c (g := (mkF m 38 #[.val (.ref x1), .val (.int (0 : Int32))] [(.ref x1)])) rfl (by rw [hml]; rfl) (Steps.refl _) (argsL := []) (rest := []) (lenOf pd_2 rfl) rfl (by show 2 * 0 + _ ≤ _; exact Nat.le_of_eq rfl) (hb hby d9_38) (fun _ _ => ⟨rfl, eh111, (by decide : 6 + 0 ≤ _), (by decide : 24 + 0 ≤ _)⟩)
        dsimp only [Pt.U, Pt.locs, Pt.cells, Pt.slots] at X114 l114 y114 z114 st114 hQ114
        subst l114 y114 z114
        obtain ⟨rfl, N114q, eh114⟩ := hQ114
        have N114 := Fr.app N111 N114q
        obtain ⟨b115, T115, h115, k115, t115, kb115, X115, e115, E115, hS115, hk115, hZ115, hown115, Ex115, Co115, Va115, Ar115, lta115, ltb115, R115, Lt115, sep115, st115⟩ := ldcCH (s := s) (vm0 := T106.vm) X114 hx hZ106 hown106 (own_wd hw 87 rfl) (own_wS hw) eh114 hS106 hk106 (own_EW hw) (List.mem_of_getElem? (i := 3) rfl) CH106 (vs := [(.int (46 : Int32))]) (z := (1 : Int32)) ⟨by decide +kernel, by decide +kernel⟩ (by decide) (by decide) (g := (mkF m 45 #[.val (.ref x1), .val (.int (0 : Int32))] [(.ref x1)])) rfl (hb hby d9_45) (n := 4) (by decide +kernel) (by decide) (by decide) (by decide)
        have O115 : Old Z n0 h115 := O106.ext E115
        have Z115 : n0 ≤ h115.size := Nat.le_trans Z106 E115.1
        have K115 : Keep h0 h115 [] := K106.ext E115
        have CH115 : CHv Z own_EL T115.vm h115 := R115.1
        have CR115 : CHr Z own_EL s.vm h0 T115.vm h115 := CR106.trans R115
        have C116 : Exa Z h115 x1 "java/lang/String" := (C109.ext E115)
        have F117 : Fld Z h115 x1 "java/lang/String" "value" "[B" (.ref x1_value) := (F107.ext E115)
        have F118 : Fld Z h115 x1 "java/lang/String" "coder" "B" (.int (0 : Int32)) := (F108.ext E115)
        have V119 : Arv Z h115 x1_value k1 .byte (1 : Int32) [(.int (y0.toInt8.toInt32))] (.int 0) := (V110.ext E115)
        have cd120 : StrChars.Road.CodA ([y0] : List Int32) 0 (1 : Int32) [(.int (y0.toInt8.toInt32))] := StrChars.Road.codOf (n := 1) rfl (fun c hc => (hp c hc).2)
        have hb121 : ∀ c ∈ ([y0] : List Int32), ¬ c < 0 ∧ ¬ (65535 : Int32) < c := own_up _ hp
        have cd122 : StrChars.Road.CodA ([(46 : Int32)] : List Int32) 0 (1 : Int32) [(.int (46 : Int32))] := Or.inl ⟨rfl, by decide +kernel, by decide +kernel, by decide +kernel⟩
        have hb123 : ∀ c ∈ ([(46 : Int32)] : List Int32), ¬ c < 0 ∧ ¬ (65535 : Int32) < c := by decide +kernel
        obtain ⟨cq124, kq124, q124a, q124b, q124c⟩ := isOf hZ115 e115 C116
        obtain ⟨_, _, ⟨T124, L124, k124, n124⟩, -, X124, ⟨Lc124, hQ124, l124, y124, z124⟩, st124⟩ := X115.virtualBack hx (y := (⟨"java/lang/String", "equals", "(Ljava/lang/Object;)Z"⟩ : MethodName)) (z := (⟨"java/lang/String", "equals", "(Ljava/lang/Object;)Z"⟩ : MethodName)) hown115 (mvT hZ115 (own_wd hw 88 rfl)) (mvT hZ115 (own_wd hw 89 rfl)) (notFace_of_selects (args := #[]) (mvT hZ115 (own_wd hw 91 rfl))) (mvT hZ115 (own_wd hw 91 rfl)) (mvT hZ115 (own_wd hw 90 rfl)) (by decide) (StrChars.Road.eqW (W := 0) hZ115 (own_heq hw) (kI := 4) (own_wd hw 6 rfl) C116 F117 F118 V119 cd120 hb121 (Nat.le_of_ble_eq_true rfl) Ex115 Va115 Co115 Ar115 cd122 hb123 (Nat.le_of_ble_eq_true rfl) (S_COMPACT_STRINGS.ext O115.2) hcomp (by decide) (by decide)) q124a q124c (g := (mkF m 47 #[.val (.ref x1), .val (.int (0 : Int32))] [(.ref b115), (.ref x1)])) rfl (by rw [hml]; rfl) (Steps.refl _) (argsL := [(.ref b115)]) (rest := []) (lenOf pd_8 rfl) rfl (by show 2 * 0 + _ ≤ _; exact Nat.le_of_eq rfl) (hb hby d9_47) (fun _ _ => ⟨rfl, e115, (by decide : 8 + 0 ≤ _), (by decide : 32 + 0 ≤ _)⟩)
        dsimp only [Pt.U, Pt.locs, Pt.cells, Pt.slots] at X124 l124 y124 z124 st124 hQ124
        subst l124 y124 z124
        obtain ⟨hv124, rfl, eh124⟩ := hQ124
        have N124 := Fr.app N114 (Fr.nil n0)
        obtain rfl : _ = some (Value.int (own_b (([y0] : List Int32) = ([(46 : Int32)] : List Int32)))) := by rcases hv124 with ⟨q1, q2⟩ | ⟨q1, q2⟩; exact q1.trans (by rw [own_bt q2]); exact q1.trans (by rw [own_bf q2])
        have pre125 : ∀ t, Steps p.tables e below (T124.setTop (mkF m 50 #[.val (.ref x1), .val (.int (0 : Int32))] [(.int (own_b (([y0] : List Int32) = ([(46 : Int32)] : List Int32))))])) t → Steps p.tables e below (s₁.setTop (entryFrame m #[(.ref x1)] 2)) t := by
          intro t kt
          refine pre112 t ?_
          show Steps p.tables e below (T111.setTop (mkF m 24 #[.val (.ref x1), .unset] [(.int (own_b ((58 : Int32) ∈ ([(y0.toInt8.toInt32)] : List Int32))))])) _
          refine XS.ifYes X111.here hx rfl (pc0 := 24) (pc' := 31) rfl (hb hby d9_24) rfl ((if0 _ _).trans (teq hc24).1) (by decide) (by decide) ?_
          refine XS.iconst X111.here hx rfl (hb hby d9_31) ?_
          refine XS.istoreN X111.here hx rfl (hb hby d9_32) rfl (l' := #[.val (.ref x1), .val (.int (0 : Int32))]) rfl ?_
          refine XS.iloadN X111.here hx rfl (hb hby d9_33) rfl ?_
          refine XS.ifNo X111.here hx rfl (hb hby d9_34) rfl ((if0 _ _).trans (teq (by decide : (0 : Int32) = (0 : Int32))).2) ?_
          refine XS.aloadN X111.here hx rfl (hb hby d9_37) rfl rfl ?_
          show Steps p.tables e below (T111.setTop (mkF m 38 #[.val (.ref x1), .val (.int (0 : Int32))] [(.ref x1)])) _
          refine st114.trans ?_
          show Steps p.tables e below (T114.setTop (mkF m 41 #[.val (.ref x1), .val (.int (0 : Int32))] [(.int (0 : Int32))])) _
          refine XS.ifNo X114.here hx rfl (hb hby d9_41) rfl ((if0 _ _).trans (teq (by decide : (0 : Int32) = (0 : Int32))).2) ?_
          refine XS.aloadN X114.here hx rfl (hb hby d9_44) rfl rfl ?_
          show Steps p.tables e below (T114.setTop (mkF m 45 #[.val (.ref x1), .val (.int (0 : Int32))] [(.ref x1)])) _
          refine st115 _ ?_
          show Steps p.tables e below (T115.setTop (mkF m 47 #[.val (.ref x1), .val (.int (0 : Int32))] [(.ref b115), (.ref x1)])) _
          refine st124.trans ?_
          exact kt
        by_cases hc50 : (own_b (([y0] : List Int32) = ([(46 : Int32)] : List Int32))) = (0 : Int32)
        · skip
          have hq126 : ¬ (([y0] : List Int32) = ([(46 : Int32)] : List Int32)) := own_b_not hc50
          obtain ⟨b127, T127, h127, k127, t127, kb127, X127, e127, E127, hS127, hk127, hZ127, hown127, Ex127, Co127, Va127, Ar127, lta127, ltb127, R127, Lt127, sep127, st127⟩ := ldcCH (s := s) (vm0 := T115.vm) X124 hx hZ115 hown115 (own_wd hw 97 rfl) (own_wS hw) eh124 hS115 hk115 (own_EW hw) (List.mem_of_getElem? (i := 4) rfl) CH115 (vs := [(.int (46 : Int32)), (.int (46 : Int32))]) (z := (2 : Int32)) ⟨by decide +kernel, by decide +kernel⟩ (by decide) (by decide) (g := (mkF m 54 #[.val (.ref x1), .val (.int (0 : Int32))] [(.ref x1)])) rfl (hb hby d9_54) (n := 8) (by decide +kernel) (by decide) (by decide) (by decide)
          have O127 : Old Z n0 h127 := O115.ext E127
          have Z127 : n0 ≤ h127.size := Nat.le_trans Z115 E127.1
          have K127 : Keep h0 h127 [] := K115.ext E127
          have CH127 : CHv Z own_EL T127.vm h127 := R127.1
          have CR127 : CHr Z own_EL s.vm h0 T127.vm h127 := CR115.trans R127
          have C128 : Exa Z h127 x1 "java/lang/String" := (C116.ext E127)
          have F129 : Fld Z h127 x1 "java/lang/String" "value" "[B" (.ref x1_value) := (F117.ext E127)
          have F130 : Fld Z h127 x1 "java/lang/String" "coder" "B" (.int (0 : Int32)) := (F118.ext E127)
          have V131 : Arv Z h127 x1_value k1 .byte (1 : Int32) [(.int (y0.toInt8.toInt32))] (.int 0) := (V119.ext E127)
          have cd132 : StrChars.Road.CodA ([(46 : Int32), (46 : Int32)] : List Int32) 0 (2 : Int32) [(.int (46 : Int32)), (.int (46 : Int32))] := Or.inl ⟨rfl, by decide +kernel, by decide +kernel, by decide +kernel⟩
          have hb133 : ∀ c ∈ ([(46 : Int32), (46 : Int32)] : List Int32), ¬ c < 0 ∧ ¬ (65535 : Int32) < c := by decide +kernel
          obtain ⟨cq134, kq134, q134a, q134b, q134c⟩ := isOf hZ127 e127 C128
          obtain ⟨_, _, ⟨T134, L134, k134, n134⟩, -, X134, ⟨Lc134, hQ134, l134, y134, z134⟩, st134⟩ := X127.virtualBack hx (y := (⟨"java/lang/String", "equals", "(Ljava/lang/Object;)Z"⟩ : MethodName)) (z := (⟨"java/lang/String", "equals", "(Ljava/lang/Object;)Z"⟩ : MethodName)) hown127 (mvT hZ127 (own_wd hw 88 rfl)) (mvT hZ127 (own_wd hw 89 rfl)) (notFace_of_selects (args := #[]) (mvT hZ127 (own_wd hw 91 rfl))) (mvT hZ127 (own_wd hw 91 rfl)) (mvT hZ127 (own_wd hw 90 rfl)) (by decide) (StrChars.Road.eqW (W := 0) hZ127 (own_heq hw) (kI := 4) (own_wd hw 6 rfl) C128 F129 F130 V131 cd120 hb121 (Nat.le_of_ble_eq_true rfl) Ex127 Va127 Co127 Ar127 cd132 hb133 (Nat.le_of_ble_eq_true rfl) (S_COMPACT_STRINGS.ext O127.2) hcomp (by decide) (by decide)) q134a q134c (g := (mkF m 56 #[.val (.ref x1), .val (.int (0 : Int32))] [(.ref b127), (.ref x1)])) rfl (by rw [hml]; rfl) (Steps.refl _) (argsL := [(.ref b127)]) (rest := []) (lenOf pd_8 rfl) rfl (by show 2 * 0 + _ ≤ _; exact Nat.le_of_eq rfl) (hb hby d9_56) (fun _ _ => ⟨rfl, e127, (by decide : 10 + 0 ≤ _), (by decide : 44 + 0 ≤ _)⟩)
          dsimp only [Pt.U, Pt.locs, Pt.cells, Pt.slots] at X134 l134 y134 z134 st134 hQ134
          subst l134 y134 z134
          obtain ⟨hv134, rfl, eh134⟩ := hQ134
          have N134 := Fr.app N124 (Fr.nil n0)
          obtain rfl : _ = some (Value.int (own_b (([y0] : List Int32) = ([(46 : Int32), (46 : Int32)] : List Int32)))) := by rcases hv134 with ⟨q1, q2⟩ | ⟨q1, q2⟩; exact q1.trans (by rw [own_bt q2]); exact q1.trans (by rw [own_bf q2])
          have pre135 : ∀ t, Steps p.tables e below (T134.setTop (mkF m 59 #[.val (.ref x1), .val (.int (0 : Int32))] [(.int (own_b (([y0] : List Int32) = ([(46 : Int32), (46 : Int32)] : List Int32))))])) t → Steps p.tables e below (s₁.setTop (entryFrame m #[(.ref x1)] 2)) t := by
            intro t kt
            refine pre125 t ?_
            show Steps p.tables e below (T124.setTop (mkF m 50 #[.val (.ref x1), .val (.int (0 : Int32))] [(.int (own_b (([y0] : List Int32) = ([(46 : Int32)] : List Int32))))])) _
            refine XS.ifNo X124.here hx rfl (hb hby d9_50) rfl ((if0 _ _).trans (teq hc50).2) ?_
            refine XS.aloadN X124.here hx rfl (hb hby d9_53) rfl rfl ?_
            show Steps p.tables e below (T124.setTop (mkF m 54 #[.val (.ref x1), .val (.int (0 : Int32))] [(.ref x1)])) _
            refine st127 _ ?_
            show Steps p.tables e below (T127.setTop (mkF m 56 #[.val (.ref x1), .val (.int (0 : Int32))] [(.ref b127), (.ref x1)])) _
            refine st134.trans ?_
            exact kt
          by_cases hc59 : (own_b (([y0] : List Int32) = ([(46 : Int32), (46 : Int32)] : List Int32))) = (0 : Int32)
          · skip
            have hq136 : ¬ (([y0] : List Int32) = ([(46 : Int32), (46 : Int32)] : List Int32)) := own_b_not hc59
            obtain ⟨fs, hr, hrun, hended, hW, hsame⟩ := X134.leave (v := some (.int (1 : Int32))) (fun h => by rw [Bd.returns] at h; cases h)
            have hend := hS127.ended hW (show _ ≤ T134.heap.size from by rw [eh134]; exact hk127) hsame
            have hcr : CHr Z own_EL s.vm s.heap T134.vm T134.heap := by
              rw [hh, eh134]
              exact CR127.trans (CHv.at X134 hZ127 (own_EW hw) CH127)
            refine ⟨_, _, pre135 _ ?_, hrun, hended, _, _, rfl, ?_, hcr, ⟨_, rfl⟩, hend.1, hend.2.1, hend.2.2.mono (by decide) (by decide)⟩
            · show Steps p.tables e below (T134.setTop (mkF m 59 #[.val (.ref x1), .val (.int (0 : Int32))] [(.int (own_b (([y0] : List Int32) = ([(46 : Int32), (46 : Int32)] : List Int32))))])) _
              refine XS.ifNo X134.here hx rfl (hb hby d9_59) rfl ((if0 _ _).trans (teq hc59).2) ?_
              refine XS.iconst X134.here hx rfl (hb hby d9_62) ?_
              refine XS.goto X134.here hx rfl (pc0 := 63) (pc' := 67) rfl (hb hby d9_63) (by decide) (by decide) ?_
              show Steps p.tables e below (T134.setTop (mkF m 67 #[.val (.ref x1), .val (.int (0 : Int32))] [(.int (1 : Int32))])) _
              exact retN X134 hx (t := .boolean) Bd.returns (by simp) (hb hby d9_67) hr
            · show Q9_1 Z x1 x1_value y0 k1 st_COMPACT_STRINGS h0 n0 _ T134.heap _
              rw [eh134]
              exact ⟨(by rw [own_bt ⟨(fun q => nomatch q), hq97, hq105, hq113, hq126, hq136⟩]; try rfl), N134, K127⟩
          · skip
            have hq137 : ([y0] : List Int32) = ([(46 : Int32), (46 : Int32)] : List Int32) := own_b_of hc59
            obtain ⟨fs, hr, hrun, hended, hW, hsame⟩ := X134.leave (v := some (.int (0 : Int32))) (fun h => by rw [Bd.returns] at h; cases h)
            have hend := hS127.ended hW (show _ ≤ T134.heap.size from by rw [eh134]; exact hk127) hsame
            have hcr : CHr Z own_EL s.vm s.heap T134.vm T134.heap := by
              rw [hh, eh134]
              exact CR127.trans (CHv.at X134 hZ127 (own_EW hw) CH127)
            refine ⟨_, _, pre135 _ ?_, hrun, hended, _, _, rfl, ?_, hcr, ⟨_, rfl⟩, hend.1, hend.2.1, hend.2.2.mono (by decide) (by decide)⟩
            · show Steps p.tables e below (T134.setTop (mkF m 59 #[.val (.ref x1), .val (.int (0 : Int32))] [(.int (own_b (([y0] : List Int32) = ([(46 : Int32), (46 : Int32)] : List Int32))))])) _
              refine XS.ifYes X134.here hx rfl (pc0 := 59) (pc' := 66) rfl (hb hby d9_59) rfl ((if0 _ _).trans (feq hc59).2) (by decide) (by decide) ?_
              refine XS.iconst X134.here hx rfl (hb hby d9_66) ?_
              show Steps p.tables e below (T134.setTop (mkF m 67 #[.val (.ref x1), .val (.int (0 : Int32))] [(.int (0 : Int32))])) _
              exact retN X134 hx (t := .boolean) Bd.returns (by simp) (hb hby d9_67) hr
            · show Q9_1 Z x1 x1_value y0 k1 st_COMPACT_STRINGS h0 n0 _ T134.heap _
              rw [eh134]
              exact ⟨(by rw [own_bf (fun q => q.2.2.2.2.2 hq137)]; try rfl), N134, K127⟩
        · skip
          have hq138 : ([y0] : List Int32) = ([(46 : Int32)] : List Int32) := own_b_of hc50
          obtain ⟨fs, hr, hrun, hended, hW, hsame⟩ := X124.leave (v := some (.int (0 : Int32))) (fun h => by rw [Bd.returns] at h; cases h)
          have hend := hS115.ended hW (show _ ≤ T124.heap.size from by rw [eh124]; exact hk115) hsame
          have hcr : CHr Z own_EL s.vm s.heap T124.vm T124.heap := by
            rw [hh, eh124]
            exact CR115.trans (CHv.at X124 hZ115 (own_EW hw) CH115)
          refine ⟨_, _, pre125 _ ?_, hrun, hended, _, _, rfl, ?_, hcr, ⟨_, rfl⟩, hend.1, hend.2.1, hend.2.2.mono (by decide) (by decide)⟩
          · show Steps p.tables e below (T124.setTop (mkF m 50 #[.val (.ref x1), .val (.int (0 : Int32))] [(.int (own_b (([y0] : List Int32) = ([(46 : Int32)] : List Int32))))])) _
            refine XS.ifYes X124.here hx rfl (pc0 := 50) (pc' := 66) rfl (hb hby d9_50) rfl ((if0 _ _).trans (feq hc50).2) (by decide) (by decide) ?_
            refine XS.iconst X124.here hx rfl (hb hby d9_66) ?_
            show Steps p.tables e below (T124.setTop (mkF m 67 #[.val (.ref x1), .val (.int (0 : Int32))] [(.int (0 : Int32))])) _
            exact retN X124 hx (t := .boolean) Bd.returns (by simp) (hb hby d9_67) hr
          · show Q9_1 Z x1 x1_value y0 k1 st_COMPACT_STRINGS h0 n0 _ T124.heap _
            rw [eh124]
            exact ⟨(by rw [own_bf (fun q => q.2.2.2.2.1 hq138)]; try rfl), N124, K115⟩
      · skip
        have hq139 : (58 : Int32) ∈ ([(y0.toInt8.toInt32)] : List Int32) := own_b_of hc24
        obtain ⟨fs, hr, hrun, hended, hW, hsame⟩ := X111.leave (v := some (.int (0 : Int32))) (fun h => by rw [Bd.returns] at h; cases h)
        have hend := hS106.ended hW (show _ ≤ T111.heap.size from by rw [eh111]; exact hk106) hsame
        have hcr : CHr Z own_EL s.vm s.heap T111.vm T111.heap := by
          rw [hh, eh111]
          exact CR106.trans (CHv.at X111 hZ106 (own_EW hw) CH106)
        refine ⟨_, _, pre112 _ ?_, hrun, hended, _, _, rfl, ?_, hcr, ⟨_, rfl⟩, hend.1, hend.2.1, hend.2.2.mono (by decide) (by decide)⟩
        · show Steps p.tables e below (T111.setTop (mkF m 24 #[.val (.ref x1), .unset] [(.int (own_b ((58 : Int32) ∈ ([(y0.toInt8.toInt32)] : List Int32))))])) _
          refine XS.ifNo X111.here hx rfl (hb hby d9_24) rfl ((if0 _ _).trans (feq hc24).1) ?_
          refine XS.iconst X111.here hx rfl (hb hby d9_27) ?_
          refine XS.goto X111.here hx rfl (pc0 := 28) (pc' := 32) rfl (hb hby d9_28) (by decide) (by decide) ?_
          refine XS.istoreN X111.here hx rfl (hb hby d9_32) rfl (l' := #[.val (.ref x1), .val (.int (1 : Int32))]) rfl ?_
          refine XS.iloadN X111.here hx rfl (hb hby d9_33) rfl ?_
          refine XS.ifYes X111.here hx rfl (pc0 := 34) (pc' := 66) rfl (hb hby d9_34) rfl ((if0 _ _).trans (feq (by decide : ¬ ((1 : Int32) = (0 : Int32)))).2) (by decide) (by decide) ?_
          show Steps p.tables e below (T111.setTop (mkF m 66 #[.val (.ref x1), .val (.int (1 : Int32))] [])) _
          refine XS.iconst X111.here hx rfl (hb hby d9_66) ?_
          show Steps p.tables e below (T111.setTop (mkF m 67 #[.val (.ref x1), .val (.int (1 : Int32))] [(.int (0 : Int32))])) _
          exact retN X111 hx (t := .boolean) Bd.returns (by simp) (hb hby d9_67) hr
        · show Q9_1 Z x1 x1_value y0 k1 st_COMPACT_STRINGS h0 n0 _ T111.heap _
          rw [eh111]
          exact ⟨(by rw [own_bf (fun q => q.2.2.2.1 hq139)]; try rfl), N111, K106⟩
    · skip
      have hq140 : (92 : Int32) ∈ ([(y0.toInt8.toInt32)] : List Int32) := own_b_of hc15
      obtain ⟨fs, hr, hrun, hended, hW, hsame⟩ := X103.leave (v := some (.int (0 : Int32))) (fun h => by rw [Bd.returns] at h; cases h)
      have hend := hS98.ended hW (show _ ≤ T103.heap.size from by rw [eh103]; exact hk98) hsame
      have hcr : CHr Z own_EL s.vm s.heap T103.vm T103.heap := by
        rw [hh, eh103]
        exact CR98.trans (CHv.at X103 hZ98 (own_EW hw) CH98)
      refine ⟨_, _, pre104 _ ?_, hrun, hended, _, _, rfl, ?_, hcr, ⟨_, rfl⟩, hend.1, hend.2.1, hend.2.2.mono (by decide) (by decide)⟩
      · show Steps p.tables e below (T103.setTop (mkF m 15 #[.val (.ref x1), .unset] [(.int (own_b ((92 : Int32) ∈ ([(y0.toInt8.toInt32)] : List Int32))))])) _
        refine XS.ifYes X103.here hx rfl (pc0 := 15) (pc' := 27) rfl (hb hby d9_15) rfl ((if0 _ _).trans (feq hc15).2) (by decide) (by decide) ?_
        refine XS.iconst X103.here hx rfl (hb hby d9_27) ?_
        refine XS.goto X103.here hx rfl (pc0 := 28) (pc' := 32) rfl (hb hby d9_28) (by decide) (by decide) ?_
        refine XS.istoreN X103.here hx rfl (hb hby d9_32) rfl (l' := #[.val (.ref x1), .val (.int (1 : Int32))]) rfl ?_
        refine XS.iloadN X103.here hx rfl (hb hby d9_33) rfl ?_
        refine XS.ifYes X103.here hx rfl (pc0 := 34) (pc' := 66) rfl (hb hby d9_34) rfl ((if0 _ _).trans (feq (by decide : ¬ ((1 : Int32) = (0 : Int32)))).2) (by decide) (by decide) ?_
        show Steps p.tables e below (T103.setTop (mkF m 66 #[.val (.ref x1), .val (.int (1 : Int32))] [])) _
        refine XS.iconst X103.here hx rfl (hb hby d9_66) ?_
        show Steps p.tables e below (T103.setTop (mkF m 67 #[.val (.ref x1), .val (.int (1 : Int32))] [(.int (0 : Int32))])) _
        exact retN X103 hx (t := .boolean) Bd.returns (by simp) (hb hby d9_67) hr
      · show Q9_1 Z x1 x1_value y0 k1 st_COMPACT_STRINGS h0 n0 _ T103.heap _
        rw [eh103]
        exact ⟨(by rw [own_bf (fun q => q.2.2.1 hq140)]; try rfl), N103, K98⟩
  · skip
    have hq141 : (47 : Int32) ∈ ([(y0.toInt8.toInt32)] : List Int32) := own_b_of hc6
    obtain ⟨fs, hr, hrun, hended, hW, hsame⟩ := X95.leave (v := some (.int (0 : Int32))) (fun h => by rw [Bd.returns] at h; cases h)
    have hend := hS90.ended hW (show _ ≤ T95.heap.size from by rw [eh95]; exact hk90) hsame
    have hcr : CHr Z own_EL s.vm s.heap T95.vm T95.heap := by
      rw [hh, eh95]
      exact CR90.trans (CHv.at X95 hZ90 (own_EW hw) CH90)
    refine ⟨_, _, pre96 _ ?_, hrun, hended, _, _, rfl, ?_, hcr, ⟨_, rfl⟩, hend.1, hend.2.1, hend.2.2.mono (by decide) (by decide)⟩
    · show Steps p.tables e below (T95.setTop (mkF m 6 #[.val (.ref x1), .unset] [(.int (own_b ((47 : Int32) ∈ ([(y0.toInt8.toInt32)] : List Int32))))])) _
      refine XS.ifYes X95.here hx rfl (pc0 := 6) (pc' := 27) rfl (hb hby d9_6) rfl ((if0 _ _).trans (feq hc6).2) (by decide) (by decide) ?_
      refine XS.iconst X95.here hx rfl (hb hby d9_27) ?_
      refine XS.goto X95.here hx rfl (pc0 := 28) (pc' := 32) rfl (hb hby d9_28) (by decide) (by decide) ?_
      refine XS.istoreN X95.here hx rfl (hb hby d9_32) rfl (l' := #[.val (.ref x1), .val (.int (1 : Int32))]) rfl ?_
      refine XS.iloadN X95.here hx rfl (hb hby d9_33) rfl ?_
      refine XS.ifYes X95.here hx rfl (pc0 := 34) (pc' := 66) rfl (hb hby d9_34) rfl ((if0 _ _).trans (feq (by decide : ¬ ((1 : Int32) = (0 : Int32)))).2) (by decide) (by decide) ?_
      show Steps p.tables e below (T95.setTop (mkF m 66 #[.val (.ref x1), .val (.int (1 : Int32))] [])) _
      refine XS.iconst X95.here hx rfl (hb hby d9_66) ?_
      show Steps p.tables e below (T95.setTop (mkF m 67 #[.val (.ref x1), .val (.int (1 : Int32))] [(.int (0 : Int32))])) _
      exact retN X95 hx (t := .boolean) Bd.returns (by simp) (hb hby d9_67) hr
    · show Q9_1 Z x1 x1_value y0 k1 st_COMPACT_STRINGS h0 n0 _ T95.heap _
      rw [eh95]
      exact ⟨(by rw [own_bf (fun q => q.2.1 hq141)]; try rfl), N95, K90⟩
theorem d16_40 : decode jdk_43_method_25_code 40 = .ok (.aload_n 0, 1) := by decide +kernel
theorem d16_41 : decode jdk_43_method_25_code 41 = .ok (.iload 7, 2) := by decide +kernel
theorem d16_43 : decode jdk_43_method_25_code 43 = .ok (.baload, 1) := by decide +kernel
theorem d16_44 : decode jdk_43_method_25_code 44 = .ok (.iload 5, 2) := by decide +kernel
theorem d16_46 : decode jdk_43_method_25_code 46 = .ok (.if_icmp .eq 6, 3) := by decide +kernel
theorem d16_49 : decode jdk_43_method_25_code 49 = .ok (.goto (-19), 3) := by decide +kernel
theorem ef16_2 (m : MethodId) (x1 : Addr) (x3 : Addr) : entryFrame m #[(.ref x1), (.int (2 : Int32)), (.ref x3), (.int (1 : Int32)), (.int (0 : Int32))] 11 = mkF m 0 #[.val (.ref x1), .val (.int (2 : Int32)), .val (.ref x3), .val (.int (1 : Int32)), .val (.int (0 : Int32)), .unset, .unset, .unset, .unset, .unset, .unset] [] := by first | (simp [entryFrame, mkF, argsToLocals, Value.category]; done) | rfl
def Q16_2 (Z : State) (x1 : Addr) (x3 : Addr) (z0 : Int32) (z1 : Int32) (d : Int32) (k1 : ClassId) (k2 : ClassId) (h0 : Heap) (n0 : Nat) (v : Option Value) (h : Heap) (L : List Loc) : Prop := ∃ (r : Int32), v = some (.int r) ∧ Fr n0 L ∧ h = h0 ∧ ((r < (0 : Int32)) ↔ ¬ (d ∈ ([z0, z1] : List Int32)))
set_option maxRecDepth 65536 in
set_option maxHeartbeats 40000000 in
theorem rm16_2 (l : Launch) (Z : State) (a0 : Array Value) (hw : ∀ d ∈ tables_1, d.before a0 Z = true) (ws : List Jvm.Cond) (x1 : Addr) (x3 : Addr) (z0 : Int32) (z1 : Int32) (d : Int32) (k1 : ClassId) (k2 : ClassId) (h0 : Heap) (n0 : Nat) (Z0 : n0 ≤ h0.size) (O0 : Old Z n0 h0) (V_x1 : Arv Z h0 x1 k1 .byte (2 : Int32) [(.int z0), (.int z1)] (.int 0)) (V_x3 : Arv Z h0 x3 k2 .byte (1 : Int32) [(.int d)] (.int 0)) :
    MetFree l (⟨"java/lang/StringLatin1", "indexOf", "([BI[BII)I"⟩ : MethodName) (head1 (Jvm.Cond.code (⟨"java/lang/StringLatin1", "indexOf", "([BI[BII)I"⟩ : MethodName) jdk_43_method_25_code 11 (some .int) :: ws) ({ frames := 0, cells := 0, slots := 0, locals := 0 } : Room)) (fun a U => a = #[(.ref x1), (.int (2 : Int32)), (.ref x3), (.int (1 : Int32)), (.int (0 : Int32))] ∧ Z.Warmed39 U.vm ∧ U.heap = h0) (fun _ _ _ _ _ => True) (fun _ U o U' => ∃ v L, o = .returned v ∧ Q16_2 Z x1 x3 z0 z1 d k1 k2 h0 n0 v U'.heap L ∧ FrameEnd U o U' L ({ frames := 0, cells := 0, slots := 0, locals := 0 } : Room).cells ({ frames := 0, cells := 0, slots := 0, locals := 0 } : Room).slots) := by
  refine MetFree.of_bodySF (plainFor_of_name pn_java_lang_StringLatin1) hisR ?_
  intro p e s m args below meth c s₁ Bd hml0 hP hK
  obtain ⟨rfl, hZ, hh⟩ := hP
  have hx := Bd.exec
  have hby := Bd.bytes
  have hml : c.maxLocals = 11 := hml0
  have hown : s.vm.findClass "java/lang/StringLatin1" = some m.cls := findClass_of_methodNamed Bd.named
  have hnm := (name_of_methodNamed Bd.named Bd.method).1
  have X0 : Stand p l e ({ frames := 0, cells := 0, slots := 0, locals := 0 } : Room) s m #[(.ref x1), (.int (2 : Int32)), (.ref x3), (.int (1 : Int32)), (.int (0 : Int32))] below meth c s₁ [] 0 0 := Stand.of_body Bd
  have e0 : s₁.heap = h0 := by rw [← hh, Bd.state]; rfl
  have N0 := Fr.nil n0
  have K0 : Keep h0 h0 [] := Keep.refl _ _
  have pre0 : ∀ t, Steps p.tables e below (s₁.setTop (mkF m 0 #[.val (.ref x1), .val (.int (2 : Int32)), .val (.ref x3), .val (.int (1 : Int32)), .val (.int (0 : Int32)), .unset, .unset, .unset, .unset, .unset, .unset] [])) t → Steps p.tables e below (s₁.setTop (entryFrame m #[(.ref x1), (.int (2 : Int32)), (.ref x3), (.int (1 : Int32)), (.int (0 : Int32))] 11)) t := fun t k => castTop (ef16_2 m x1 x3) k
  obtain ⟨cl_a142, Ar_a142, -, S_a142, N_a142, H_a142, -⟩ := id V_x3
  have hin_a142 : ¬ ((0 : Int32) < 0 ∨ cl_a142.slots.size ≤ ((0 : Int32)).toNatClampNeg) := inb_of S_a142 ⟨by decide, by decide⟩
  have hat_a142 : cl_a142.slots[((0 : Int32)).toNatClampNeg]? = some (.int d) := H_a142.at hin_a142 rfl
  obtain ⟨cl_a143, Ar_a143, -, S_a143, N_a143, H_a143, -⟩ := id V_x1
  have hin_a143 : ¬ ((0 : Int32) < 0 ∨ cl_a143.slots.size ≤ ((0 : Int32)).toNatClampNeg) := inb_of S_a143 ⟨by decide, by decide⟩
  have hat_a143 : cl_a143.slots[((0 : Int32)).toNatClampNeg]? = some (.int z0) := H_a143.at hin_a143 rfl
  have pre144 : ∀ t, Steps p.tables e below (s₁.setTop (mkF m 27 #[.val (.ref x1), .val (.int (2 : Int32)), .val (.ref x3), .val (.int (1 : Int32)), .val (.int (0 : Int32)), .val (.int d), .val (.int ((2 : Int32) - (1 : Int32))), .val (.int (0 : Int32)), .unset, .unset, .unset] [(.int d), (.int z0)])) t → Steps p.tables e below (s₁.setTop (entryFrame m #[(.ref x1), (.int (2 : Int32)), (.ref x3), (.int (1 : Int32)), (.int (0 : Int32))] 11)) t := by
    intro t kt
    refine pre0 t ?_
    show Steps p.tables e below (s₁.setTop (mkF m 0 #[.val (.ref x1), .val (.int (2 : Int32)), .val (.ref x3), .val (.int (1 : Int32)), .val (.int (0 : Int32)), .unset, .unset, .unset, .unset, .unset, .unset] [])) _
    refine XS.aloadN X0.here hx rfl (hb hby d16_0) rfl rfl ?_
    refine XS.iconst X0.here hx rfl (hb hby d16_1) ?_
    show Steps p.tables e below (s₁.setTop (mkF m 2 #[.val (.ref x1), .val (.int (2 : Int32)), .val (.ref x3), .val (.int (1 : Int32)), .val (.int (0 : Int32)), .unset, .unset, .unset, .unset, .unset, .unset] [(.int (0 : Int32)), (.ref x3)])) _
    refine X0.baloadBytes hx (j := (0 : Int32)) (v := (.int d)) (by rw [e0]; exact Ar_a142.1) (State.isArrayOf_alike hZ.alike Ar_a142.2.1) Ar_a142.2.2 hin_a142 hat_a142 (g := (mkF m 2 #[.val (.ref x1), .val (.int (2 : Int32)), .val (.ref x3), .val (.int (1 : Int32)), .val (.int (0 : Int32)), .unset, .unset, .unset, .unset, .unset, .unset] [(.int (0 : Int32)), (.ref x3)])) rfl rfl (hb hby d16_2) _ ?_
    refine XS.istore X0.here hx rfl (hb hby d16_3) rfl (l' := #[.val (.ref x1), .val (.int (2 : Int32)), .val (.ref x3), .val (.int (1 : Int32)), .val (.int (0 : Int32)), .val (.int d), .unset, .unset, .unset, .unset, .unset]) rfl ?_
    refine XS.iloadN X0.here hx rfl (hb hby d16_5) rfl ?_
    refine XS.iloadN X0.here hx rfl (hb hby d16_6) rfl ?_
    refine XS.isub X0.here hx rfl (hb hby d16_7) rfl ?_
    refine XS.istore X0.here hx rfl (hb hby d16_8) rfl (l' := #[.val (.ref x1), .val (.int (2 : Int32)), .val (.ref x3), .val (.int (1 : Int32)), .val (.int (0 : Int32)), .val (.int d), .val (.int ((2 : Int32) - (1 : Int32))), .unset, .unset, .unset, .unset]) rfl ?_
    show Steps p.tables e below (s₁.setTop (mkF m 10 #[.val (.ref x1), .val (.int (2 : Int32)), .val (.ref x3), .val (.int (1 : Int32)), .val (.int (0 : Int32)), .val (.int d), .val (.int ((2 : Int32) - (1 : Int32))), .unset, .unset, .unset, .unset] [])) _
    refine XS.iload X0.here hx rfl (hb hby d16_10) rfl ?_
    refine XS.istore X0.here hx rfl (hb hby d16_12) rfl (l' := #[.val (.ref x1), .val (.int (2 : Int32)), .val (.ref x3), .val (.int (1 : Int32)), .val (.int (0 : Int32)), .val (.int d), .val (.int ((2 : Int32) - (1 : Int32))), .val (.int (0 : Int32)), .unset, .unset, .unset]) rfl ?_
    refine XS.iload X0.here hx rfl (hb hby d16_14) rfl ?_
    refine XS.iload X0.here hx rfl (hb hby d16_16) rfl ?_
    refine XS.icmpNo X0.here hx rfl (hb hby d16_18) rfl (flt (by decide : ¬ (((2 : Int32) - (1 : Int32)) < (0 : Int32)))).2.2.1 ?_
    refine XS.aloadN X0.here hx rfl (hb hby d16_21) rfl rfl ?_
    show Steps p.tables e below (s₁.setTop (mkF m 22 #[.val (.ref x1), .val (.int (2 : Int32)), .val (.ref x3), .val (.int (1 : Int32)), .val (.int (0 : Int32)), .val (.int d), .val (.int ((2 : Int32) - (1 : Int32))), .val (.int (0 : Int32)), .unset, .unset, .unset] [(.ref x1)])) _
    refine XS.iload X0.here hx rfl (hb hby d16_22) rfl ?_
    show Steps p.tables e below (s₁.setTop (mkF m 24 #[.val (.ref x1), .val (.int (2 : Int32)), .val (.ref x3), .val (.int (1 : Int32)), .val (.int (0 : Int32)), .val (.int d), .val (.int ((2 : Int32) - (1 : Int32))), .val (.int (0 : Int32)), .unset, .unset, .unset] [(.int (0 : Int32)), (.ref x1)])) _
    refine X0.baloadBytes hx (j := (0 : Int32)) (v := (.int z0)) (by rw [e0]; exact Ar_a143.1) (State.isArrayOf_alike hZ.alike Ar_a143.2.1) Ar_a143.2.2 hin_a143 hat_a143 (g := (mkF m 24 #[.val (.ref x1), .val (.int (2 : Int32)), .val (.ref x3), .val (.int (1 : Int32)), .val (.int (0 : Int32)), .val (.int d), .val (.int ((2 : Int32) - (1 : Int32))), .val (.int (0 : Int32)), .unset, .unset, .unset] [(.int (0 : Int32)), (.ref x1)])) rfl rfl (hb hby d16_24) _ ?_
    refine XS.iload X0.here hx rfl (hb hby d16_25) rfl ?_
    exact kt
  by_cases hc27 : z0 = d
  · skip
    obtain ⟨fs, hr, hrun, hended, hW, hsame⟩ := X0.leave (v := some (.int (0 : Int32))) (fun h => by rw [Bd.returns] at h; cases h)
    refine ⟨_, _, pre144 _ ?_, hrun, hended, _, _, rfl, ?_, ⟨_, rfl⟩, hW, hsame.mono (by decide) (by decide)⟩
    · show Steps p.tables e below (s₁.setTop (mkF m 27 #[.val (.ref x1), .val (.int (2 : Int32)), .val (.ref x3), .val (.int (1 : Int32)), .val (.int (0 : Int32)), .val (.int d), .val (.int ((2 : Int32) - (1 : Int32))), .val (.int (0 : Int32)), .unset, .unset, .unset] [(.int d), (.int z0)])) _
      refine XS.icmpYes X0.here hx rfl (pc0 := 27) (pc' := 52) rfl (hb hby d16_27) rfl (teq hc27).1 (by decide) (by decide) ?_
      refine XS.iload X0.here hx rfl (hb hby d16_52) rfl ?_
      refine XS.iload X0.here hx rfl (hb hby d16_54) rfl ?_
      refine XS.icmpNo X0.here hx rfl (hb hby d16_56) rfl (flt (by decide : ¬ (((2 : Int32) - (1 : Int32)) < (0 : Int32)))).2.2.1 ?_
      show Steps p.tables e below (s₁.setTop (mkF m 59 #[.val (.ref x1), .val (.int (2 : Int32)), .val (.ref x3), .val (.int (1 : Int32)), .val (.int (0 : Int32)), .val (.int d), .val (.int ((2 : Int32) - (1 : Int32))), .val (.int (0 : Int32)), .unset, .unset, .unset] [])) _
      refine XS.iload X0.here hx rfl (hb hby d16_59) rfl ?_
      refine XS.iconst X0.here hx rfl (hb hby d16_61) ?_
      refine XS.iadd X0.here hx rfl (hb hby d16_62) rfl ?_
      refine XS.istore X0.here hx rfl (hb hby d16_63) rfl (l' := #[.val (.ref x1), .val (.int (2 : Int32)), .val (.ref x3), .val (.int (1 : Int32)), .val (.int (0 : Int32)), .val (.int d), .val (.int ((2 : Int32) - (1 : Int32))), .val (.int (0 : Int32)), .val (.int ((0 : Int32) + (1 : Int32))), .unset, .unset]) rfl ?_
      refine XS.iload X0.here hx rfl (hb hby d16_65) rfl ?_
      refine XS.iloadN X0.here hx rfl (hb hby d16_67) rfl ?_
      show Steps p.tables e below (s₁.setTop (mkF m 68 #[.val (.ref x1), .val (.int (2 : Int32)), .val (.ref x3), .val (.int (1 : Int32)), .val (.int (0 : Int32)), .val (.int d), .val (.int ((2 : Int32) - (1 : Int32))), .val (.int (0 : Int32)), .val (.int ((0 : Int32) + (1 : Int32))), .unset, .unset] [(.int (1 : Int32)), (.int ((0 : Int32) + (1 : Int32)))])) _
      refine XS.iadd X0.here hx rfl (hb hby d16_68) rfl ?_
      refine XS.iconst X0.here hx rfl (hb hby d16_69) ?_
      refine XS.isub X0.here hx rfl (hb hby d16_70) rfl ?_
      refine XS.istore X0.here hx rfl (hb hby d16_71) rfl (l' := #[.val (.ref x1), .val (.int (2 : Int32)), .val (.ref x3), .val (.int (1 : Int32)), .val (.int (0 : Int32)), .val (.int d), .val (.int ((2 : Int32) - (1 : Int32))), .val (.int (0 : Int32)), .val (.int ((0 : Int32) + (1 : Int32))), .val (.int ((((0 : Int32) + (1 : Int32)) + (1 : Int32)) - (1 : Int32))), .unset]) rfl ?_
      refine XS.iconst X0.here hx rfl (hb hby d16_73) ?_
      refine XS.istore X0.here hx rfl (hb hby d16_74) rfl (l' := #[.val (.ref x1), .val (.int (2 : Int32)), .val (.ref x3), .val (.int (1 : Int32)), .val (.int (0 : Int32)), .val (.int d), .val (.int ((2 : Int32) - (1 : Int32))), .val (.int (0 : Int32)), .val (.int ((0 : Int32) + (1 : Int32))), .val (.int ((((0 : Int32) + (1 : Int32)) + (1 : Int32)) - (1 : Int32))), .val (.int (1 : Int32))]) rfl ?_
      show Steps p.tables e below (s₁.setTop (mkF m 76 #[.val (.ref x1), .val (.int (2 : Int32)), .val (.ref x3), .val (.int (1 : Int32)), .val (.int (0 : Int32)), .val (.int d), .val (.int ((2 : Int32) - (1 : Int32))), .val (.int (0 : Int32)), .val (.int ((0 : Int32) + (1 : Int32))), .val (.int ((((0 : Int32) + (1 : Int32)) + (1 : Int32)) - (1 : Int32))), .val (.int (1 : Int32))] [])) _
      refine XS.iload X0.here hx rfl (hb hby d16_76) rfl ?_
      refine XS.iload X0.here hx rfl (hb hby d16_78) rfl ?_
      refine XS.icmpYes X0.here hx rfl (pc0 := 80) (pc' := 103) rfl (hb hby d16_80) rfl (flt (by decide : ¬ (((0 : Int32) + (1 : Int32)) < ((((0 : Int32) + (1 : Int32)) + (1 : Int32)) - (1 : Int32))))).2.1 (by decide) (by decide) ?_
      refine XS.iload X0.here hx rfl (hb hby d16_103) rfl ?_
      refine XS.iload X0.here hx rfl (hb hby d16_105) rfl ?_
      refine XS.icmpNo X0.here hx rfl (hb hby d16_107) rfl (teq (by decide : ((0 : Int32) + (1 : Int32)) = ((((0 : Int32) + (1 : Int32)) + (1 : Int32)) - (1 : Int32)))).2 ?_
      show Steps p.tables e below (s₁.setTop (mkF m 110 #[.val (.ref x1), .val (.int (2 : Int32)), .val (.ref x3), .val (.int (1 : Int32)), .val (.int (0 : Int32)), .val (.int d), .val (.int ((2 : Int32) - (1 : Int32))), .val (.int (0 : Int32)), .val (.int ((0 : Int32) + (1 : Int32))), .val (.int ((((0 : Int32) + (1 : Int32)) + (1 : Int32)) - (1 : Int32))), .val (.int (1 : Int32))] [])) _
      refine XS.iload X0.here hx rfl (hb hby d16_110) rfl ?_
      show Steps p.tables e below (s₁.setTop (mkF m 112 #[.val (.ref x1), .val (.int (2 : Int32)), .val (.ref x3), .val (.int (1 : Int32)), .val (.int (0 : Int32)), .val (.int d), .val (.int ((2 : Int32) - (1 : Int32))), .val (.int (0 : Int32)), .val (.int ((0 : Int32) + (1 : Int32))), .val (.int ((((0 : Int32) + (1 : Int32)) + (1 : Int32)) - (1 : Int32))), .val (.int (1 : Int32))] [(.int (0 : Int32))])) _
      exact retI X0 hx Bd.returns (hb hby d16_112) hr
    · show Q16_2 Z x1 x3 z0 z1 d k1 k2 h0 n0 _ s₁.heap _
      rw [e0]
      exact ⟨(0 : Int32), rfl, N0, rfl, ⟨fun q => absurd q (by decide), fun q => absurd (show d ∈ ([z0, z1] : List Int32) by rw [← hc27]; simp) q⟩⟩
  · skip
    obtain ⟨cl_a145, Ar_a145, -, S_a145, N_a145, H_a145, -⟩ := id V_x1
    have hin_a145 : ¬ (((0 : Int32) + (1 : Int32)) < 0 ∨ cl_a145.slots.size ≤ (((0 : Int32) + (1 : Int32))).toNatClampNeg) := inb_of S_a145 ⟨by decide, by decide⟩
    have hat_a145 : cl_a145.slots[(((0 : Int32) + (1 : Int32))).toNatClampNeg]? = some (.int z1) := H_a145.at hin_a145 rfl
    have pre146 : ∀ t, Steps p.tables e below (s₁.setTop (mkF m 46 #[.val (.ref x1), .val (.int (2 : Int32)), .val (.ref x3), .val (.int (1 : Int32)), .val (.int (0 : Int32)), .val (.int d), .val (.int ((2 : Int32) - (1 : Int32))), .val (.int ((0 : Int32) + (1 : Int32))), .unset, .unset, .unset] [(.int d), (.int z1)])) t → Steps p.tables e below (s₁.setTop (entryFrame m #[(.ref x1), (.int (2 : Int32)), (.ref x3), (.int (1 : Int32)), (.int (0 : Int32))] 11)) t := by
      intro t kt
      refine pre144 t ?_
      show Steps p.tables e below (s₁.setTop (mkF m 27 #[.val (.ref x1), .val (.int (2 : Int32)), .val (.ref x3), .val (.int (1 : Int32)), .val (.int (0 : Int32)), .val (.int d), .val (.int ((2 : Int32) - (1 : Int32))), .val (.int (0 : Int32)), .unset, .unset, .unset] [(.int d), (.int z0)])) _
      refine XS.icmpNo X0.here hx rfl (hb hby d16_27) rfl (feq hc27).1 ?_
      refine XS.iinc X0.here hx rfl (hb hby d16_30) rfl (l' := #[.val (.ref x1), .val (.int (2 : Int32)), .val (.ref x3), .val (.int (1 : Int32)), .val (.int (0 : Int32)), .val (.int d), .val (.int ((2 : Int32) - (1 : Int32))), .val (.int ((0 : Int32) + (1 : Int32))), .unset, .unset, .unset]) rfl ?_
      refine XS.iload X0.here hx rfl (hb hby d16_33) rfl ?_
      refine XS.iload X0.here hx rfl (hb hby d16_35) rfl ?_
      show Steps p.tables e below (s₁.setTop (mkF m 37 #[.val (.ref x1), .val (.int (2 : Int32)), .val (.ref x3), .val (.int (1 : Int32)), .val (.int (0 : Int32)), .val (.int d), .val (.int ((2 : Int32) - (1 : Int32))), .val (.int ((0 : Int32) + (1 : Int32))), .unset, .unset, .unset] [(.int ((2 : Int32) - (1 : Int32))), (.int ((0 : Int32) + (1 : Int32)))])) _
      refine XS.icmpNo X0.here hx rfl (hb hby d16_37) rfl (flt (by decide : ¬ (((2 : Int32) - (1 : Int32)) < ((0 : Int32) + (1 : Int32))))).2.2.1 ?_
      refine XS.aloadN X0.here hx rfl (hb hby d16_40) rfl rfl ?_
      refine XS.iload X0.here hx rfl (hb hby d16_41) rfl ?_
      show Steps p.tables e below (s₁.setTop (mkF m 43 #[.val (.ref x1), .val (.int (2 : Int32)), .val (.ref x3), .val (.int (1 : Int32)), .val (.int (0 : Int32)), .val (.int d), .val (.int ((2 : Int32) - (1 : Int32))), .val (.int ((0 : Int32) + (1 : Int32))), .unset, .unset, .unset] [(.int ((0 : Int32) + (1 : Int32))), (.ref x1)])) _
      refine X0.baloadBytes hx (j := ((0 : Int32) + (1 : Int32))) (v := (.int z1)) (by rw [e0]; exact Ar_a145.1) (State.isArrayOf_alike hZ.alike Ar_a145.2.1) Ar_a145.2.2 hin_a145 hat_a145 (g := (mkF m 43 #[.val (.ref x1), .val (.int (2 : Int32)), .val (.ref x3), .val (.int (1 : Int32)), .val (.int (0 : Int32)), .val (.int d), .val (.int ((2 : Int32) - (1 : Int32))), .val (.int ((0 : Int32) + (1 : Int32))), .unset, .unset, .unset] [(.int ((0 : Int32) + (1 : Int32))), (.ref x1)])) rfl rfl (hb hby d16_43) _ ?_
      refine XS.iload X0.here hx rfl (hb hby d16_44) rfl ?_
      exact kt
    by_cases hc46 : z1 = d
    · skip
      obtain ⟨fs, hr, hrun, hended, hW, hsame⟩ := X0.leave (v := some (.int ((0 : Int32) + (1 : Int32)))) (fun h => by rw [Bd.returns] at h; cases h)
      refine ⟨_, _, pre146 _ ?_, hrun, hended, _, _, rfl, ?_, ⟨_, rfl⟩, hW, hsame.mono (by decide) (by decide)⟩
      · show Steps p.tables e below (s₁.setTop (mkF m 46 #[.val (.ref x1), .val (.int (2 : Int32)), .val (.ref x3), .val (.int (1 : Int32)), .val (.int (0 : Int32)), .val (.int d), .val (.int ((2 : Int32) - (1 : Int32))), .val (.int ((0 : Int32) + (1 : Int32))), .unset, .unset, .unset] [(.int d), (.int z1)])) _
        refine XS.icmpYes X0.here hx rfl (pc0 := 46) (pc' := 52) rfl (hb hby d16_46) rfl (teq hc46).1 (by decide) (by decide) ?_
        refine XS.iload X0.here hx rfl (hb hby d16_52) rfl ?_
        refine XS.iload X0.here hx rfl (hb hby d16_54) rfl ?_
        refine XS.icmpNo X0.here hx rfl (hb hby d16_56) rfl (flt (by decide : ¬ (((2 : Int32) - (1 : Int32)) < ((0 : Int32) + (1 : Int32))))).2.2.1 ?_
        show Steps p.tables e below (s₁.setTop (mkF m 59 #[.val (.ref x1), .val (.int (2 : Int32)), .val (.ref x3), .val (.int (1 : Int32)), .val (.int (0 : Int32)), .val (.int d), .val (.int ((2 : Int32) - (1 : Int32))), .val (.int ((0 : Int32) + (1 : Int32))), .unset, .unset, .unset] [])) _
        refine XS.iload X0.here hx rfl (hb hby d16_59) rfl ?_
        refine XS.iconst X0.here hx rfl (hb hby d16_61) ?_
        refine XS.iadd X0.here hx rfl (hb hby d16_62) rfl ?_
        refine XS.istore X0.here hx rfl (hb hby d16_63) rfl (l' := #[.val (.ref x1), .val (.int (2 : Int32)), .val (.ref x3), .val (.int (1 : Int32)), .val (.int (0 : Int32)), .val (.int d), .val (.int ((2 : Int32) - (1 : Int32))), .val (.int ((0 : Int32) + (1 : Int32))), .val (.int (((0 : Int32) + (1 : Int32)) + (1 : Int32))), .unset, .unset]) rfl ?_
        refine XS.iload X0.here hx rfl (hb hby d16_65) rfl ?_
        refine XS.iloadN X0.here hx rfl (hb hby d16_67) rfl ?_
        show Steps p.tables e below (s₁.setTop (mkF m 68 #[.val (.ref x1), .val (.int (2 : Int32)), .val (.ref x3), .val (.int (1 : Int32)), .val (.int (0 : Int32)), .val (.int d), .val (.int ((2 : Int32) - (1 : Int32))), .val (.int ((0 : Int32) + (1 : Int32))), .val (.int (((0 : Int32) + (1 : Int32)) + (1 : Int32))), .unset, .unset] [(.int (1 : Int32)), (.int (((0 : Int32) + (1 : Int32)) + (1 : Int32)))])) _
        refine XS.iadd X0.here hx rfl (hb hby d16_68) rfl ?_
        refine XS.iconst X0.here hx rfl (hb hby d16_69) ?_
        refine XS.isub X0.here hx rfl (hb hby d16_70) rfl ?_
        refine XS.istore X0.here hx rfl (hb hby d16_71) rfl (l' := #[.val (.ref x1), .val (.int (2 : Int32)), .val (.ref x3), .val (.int (1 : Int32)), .val (.int (0 : Int32)), .val (.int d), .val (.int ((2 : Int32) - (1 : Int32))), .val (.int ((0 : Int32) + (1 : Int32))), .val (.int (((0 : Int32) + (1 : Int32)) + (1 : Int32))), .val (.int (((((0 : Int32) + (1 : Int32)) + (1 : Int32)) + (1 : Int32)) - (1 : Int32))), .unset]) rfl ?_
        refine XS.iconst X0.here hx rfl (hb hby d16_73) ?_
        refine XS.istore X0.here hx rfl (hb hby d16_74) rfl (l' := #[.val (.ref x1), .val (.int (2 : Int32)), .val (.ref x3), .val (.int (1 : Int32)), .val (.int (0 : Int32)), .val (.int d), .val (.int ((2 : Int32) - (1 : Int32))), .val (.int ((0 : Int32) + (1 : Int32))), .val (.int (((0 : Int32) + (1 : Int32)) + (1 : Int32))), .val (.int (((((0 : Int32) + (1 : Int32)) + (1 : Int32)) + (1 : Int32)) - (1 : Int32))), .val (.int (1 : Int32))]) rfl ?_
        show Steps p.tables e below (s₁.setTop (mkF m 76 #[.val (.ref x1), .val (.int (2 : Int32)), .val (.ref x3), .val (.int (1 : Int32)), .val (.int (0 : Int32)), .val (.int d), .val (.int ((2 : Int32) - (1 : Int32))), .val (.int ((0 : Int32) + (1 : Int32))), .val (.int (((0 : Int32) + (1 : Int32)) + (1 : Int32))), .val (.int (((((0 : Int32) + (1 : Int32)) + (1 : Int32)) + (1 : Int32)) - (1 : Int32))), .val (.int (1 : Int32))] [])) _
        refine XS.iload X0.here hx rfl (hb hby d16_76) rfl ?_
        refine XS.iload X0.here hx rfl (hb hby d16_78) rfl ?_
        refine XS.icmpYes X0.here hx rfl (pc0 := 80) (pc' := 103) rfl (hb hby d16_80) rfl (flt (by decide : ¬ ((((0 : Int32) + (1 : Int32)) + (1 : Int32)) < (((((0 : Int32) + (1 : Int32)) + (1 : Int32)) + (1 : Int32)) - (1 : Int32))))).2.1 (by decide) (by decide) ?_
        refine XS.iload X0.here hx rfl (hb hby d16_103) rfl ?_
        refine XS.iload X0.here hx rfl (hb hby d16_105) rfl ?_
        refine XS.icmpNo X0.here hx rfl (hb hby d16_107) rfl (teq (by decide : (((0 : Int32) + (1 : Int32)) + (1 : Int32)) = (((((0 : Int32) + (1 : Int32)) + (1 : Int32)) + (1 : Int32)) - (1 : Int32)))).2 ?_
        show Steps p.tables e below (s₁.setTop (mkF m 110 #[.val (.ref x1), .val (.int (2 : Int32)), .val (.ref x3), .val (.int (1 : Int32)), .val (.int (0 : Int32)), .val (.int d), .val (.int ((2 : Int32) - (1 : Int32))), .val (.int ((0 : Int32) + (1 : Int32))), .val (.int (((0 : Int32) + (1 : Int32)) + (1 : Int32))), .val (.int (((((0 : Int32) + (1 : Int32)) + (1 : Int32)) + (1 : Int32)) - (1 : Int32))), .val (.int (1 : Int32))] [])) _
        refine XS.iload X0.here hx rfl (hb hby d16_110) rfl ?_
        show Steps p.tables e below (s₁.setTop (mkF m 112 #[.val (.ref x1), .val (.int (2 : Int32)), .val (.ref x3), .val (.int (1 : Int32)), .val (.int (0 : Int32)), .val (.int d), .val (.int ((2 : Int32) - (1 : Int32))), .val (.int ((0 : Int32) + (1 : Int32))), .val (.int (((0 : Int32) + (1 : Int32)) + (1 : Int32))), .val (.int (((((0 : Int32) + (1 : Int32)) + (1 : Int32)) + (1 : Int32)) - (1 : Int32))), .val (.int (1 : Int32))] [(.int ((0 : Int32) + (1 : Int32)))])) _
        exact retI X0 hx Bd.returns (hb hby d16_112) hr
      · show Q16_2 Z x1 x3 z0 z1 d k1 k2 h0 n0 _ s₁.heap _
        rw [e0]
        exact ⟨((0 : Int32) + (1 : Int32)), rfl, N0, rfl, ⟨fun q => absurd q (by decide), fun q => absurd (show d ∈ ([z0, z1] : List Int32) by rw [← hc46]; simp) q⟩⟩
    · skip
      obtain ⟨fs, hr, hrun, hended, hW, hsame⟩ := X0.leave (v := some (.int (-1 : Int32))) (fun h => by rw [Bd.returns] at h; cases h)
      refine ⟨_, _, pre146 _ ?_, hrun, hended, _, _, rfl, ?_, ⟨_, rfl⟩, hW, hsame.mono (by decide) (by decide)⟩
      · show Steps p.tables e below (s₁.setTop (mkF m 46 #[.val (.ref x1), .val (.int (2 : Int32)), .val (.ref x3), .val (.int (1 : Int32)), .val (.int (0 : Int32)), .val (.int d), .val (.int ((2 : Int32) - (1 : Int32))), .val (.int ((0 : Int32) + (1 : Int32))), .unset, .unset, .unset] [(.int d), (.int z1)])) _
        refine XS.icmpNo X0.here hx rfl (hb hby d16_46) rfl (feq hc46).1 ?_
        refine XS.goto X0.here hx rfl (pc0 := 49) (pc' := 30) rfl (hb hby d16_49) (by decide) (by decide) ?_
        refine XS.iinc X0.here hx rfl (hb hby d16_30) rfl (l' := #[.val (.ref x1), .val (.int (2 : Int32)), .val (.ref x3), .val (.int (1 : Int32)), .val (.int (0 : Int32)), .val (.int d), .val (.int ((2 : Int32) - (1 : Int32))), .val (.int (((0 : Int32) + (1 : Int32)) + (1 : Int32))), .unset, .unset, .unset]) rfl ?_
        refine XS.iload X0.here hx rfl (hb hby d16_33) rfl ?_
        show Steps p.tables e below (s₁.setTop (mkF m 35 #[.val (.ref x1), .val (.int (2 : Int32)), .val (.ref x3), .val (.int (1 : Int32)), .val (.int (0 : Int32)), .val (.int d), .val (.int ((2 : Int32) - (1 : Int32))), .val (.int (((0 : Int32) + (1 : Int32)) + (1 : Int32))), .unset, .unset, .unset] [(.int (((0 : Int32) + (1 : Int32)) + (1 : Int32)))])) _
        refine XS.iload X0.here hx rfl (hb hby d16_35) rfl ?_
        refine XS.icmpYes X0.here hx rfl (pc0 := 37) (pc' := 52) rfl (hb hby d16_37) rfl (tlt (by decide : ((2 : Int32) - (1 : Int32)) < (((0 : Int32) + (1 : Int32)) + (1 : Int32)))).2.2.1 (by decide) (by decide) ?_
        refine XS.iload X0.here hx rfl (hb hby d16_52) rfl ?_
        refine XS.iload X0.here hx rfl (hb hby d16_54) rfl ?_
        refine XS.icmpYes X0.here hx rfl (pc0 := 56) (pc' := 113) rfl (hb hby d16_56) rfl (tlt (by decide : ((2 : Int32) - (1 : Int32)) < (((0 : Int32) + (1 : Int32)) + (1 : Int32)))).2.2.1 (by decide) (by decide) ?_
        refine XS.iinc X0.here hx rfl (hb hby d16_113) rfl (l' := #[.val (.ref x1), .val (.int (2 : Int32)), .val (.ref x3), .val (.int (1 : Int32)), .val (.int (0 : Int32)), .val (.int d), .val (.int ((2 : Int32) - (1 : Int32))), .val (.int ((((0 : Int32) + (1 : Int32)) + (1 : Int32)) + (1 : Int32))), .unset, .unset, .unset]) rfl ?_
        show Steps p.tables e below (s₁.setTop (mkF m 116 #[.val (.ref x1), .val (.int (2 : Int32)), .val (.ref x3), .val (.int (1 : Int32)), .val (.int (0 : Int32)), .val (.int d), .val (.int ((2 : Int32) - (1 : Int32))), .val (.int ((((0 : Int32) + (1 : Int32)) + (1 : Int32)) + (1 : Int32))), .unset, .unset, .unset] [])) _
        refine XS.goto X0.here hx rfl (pc0 := 116) (pc' := 14) rfl (hb hby d16_116) (by decide) (by decide) ?_
        refine XS.iload X0.here hx rfl (hb hby d16_14) rfl ?_
        refine XS.iload X0.here hx rfl (hb hby d16_16) rfl ?_
        refine XS.icmpYes X0.here hx rfl (pc0 := 18) (pc' := 119) rfl (hb hby d16_18) rfl (tlt (by decide : ((2 : Int32) - (1 : Int32)) < ((((0 : Int32) + (1 : Int32)) + (1 : Int32)) + (1 : Int32)))).2.2.1 (by decide) (by decide) ?_
        refine XS.iconst X0.here hx rfl (hb hby d16_119) ?_
        show Steps p.tables e below (s₁.setTop (mkF m 120 #[.val (.ref x1), .val (.int (2 : Int32)), .val (.ref x3), .val (.int (1 : Int32)), .val (.int (0 : Int32)), .val (.int d), .val (.int ((2 : Int32) - (1 : Int32))), .val (.int ((((0 : Int32) + (1 : Int32)) + (1 : Int32)) + (1 : Int32))), .unset, .unset, .unset] [(.int (-1 : Int32))])) _
        exact retI X0 hx Bd.returns (hb hby d16_120) hr
      · show Q16_2 Z x1 x3 z0 z1 d k1 k2 h0 n0 _ s₁.heap _
        rw [e0]
        exact ⟨(-1 : Int32), rfl, N0, rfl, ⟨fun _ q => by simp only [List.mem_cons, List.not_mem_nil, or_false] at q; rcases q with q | q; exact hc27 q.symm; exact hc46 q.symm, fun _ => by decide⟩⟩
theorem ef15_2 (m : MethodId) (x1 : Addr) (x2 : Addr) : entryFrame m #[(.ref x1), (.ref x2)] 2 = mkF m 0 #[.val (.ref x1), .val (.ref x2)] [] := by first | (simp [entryFrame, mkF, argsToLocals, Value.category]; done) | rfl
def Q15_2 (Z : State) (x1 : Addr) (x2 : Addr) (z0 : Int32) (z1 : Int32) (d : Int32) (k1 : ClassId) (k2 : ClassId) (h0 : Heap) (n0 : Nat) (v : Option Value) (h : Heap) (L : List Loc) : Prop := ∃ (r : Int32), v = some (.int r) ∧ Fr n0 L ∧ h = h0 ∧ ((r < (0 : Int32)) ↔ ¬ (d ∈ ([z0, z1] : List Int32)))
set_option maxRecDepth 65536 in
set_option maxHeartbeats 40000000 in
theorem rm15_2 (l : Launch) (Z : State) (a0 : Array Value) (hw : ∀ d ∈ tables_1, d.before a0 Z = true) (ws : List Jvm.Cond) (x1 : Addr) (x2 : Addr) (z0 : Int32) (z1 : Int32) (d : Int32) (k1 : ClassId) (k2 : ClassId) (h0 : Heap) (n0 : Nat) (Z0 : n0 ≤ h0.size) (O0 : Old Z n0 h0) (V_x1 : Arv Z h0 x1 k1 .byte (2 : Int32) [(.int z0), (.int z1)] (.int 0)) (V_x2 : Arv Z h0 x2 k2 .byte (1 : Int32) [(.int d)] (.int 0)) :
    MetFree l (⟨"java/lang/StringLatin1", "indexOf", "([B[B)I"⟩ : MethodName) (head1 (Jvm.Cond.code (⟨"java/lang/StringLatin1", "indexOf", "([B[B)I"⟩ : MethodName) jdk_43_method_24_code 2 (some .int) :: ws) ({ frames := 1, cells := 0, slots := 0, locals := 22 } : Room)) (fun a U => a = #[(.ref x1), (.ref x2)] ∧ Z.Warmed39 U.vm ∧ U.heap = h0) (fun _ _ _ _ _ => True) (fun _ U o U' => ∃ v L, o = .returned v ∧ Q15_2 Z x1 x2 z0 z1 d k1 k2 h0 n0 v U'.heap L ∧ FrameEnd U o U' L ({ frames := 1, cells := 0, slots := 0, locals := 22 } : Room).cells ({ frames := 1, cells := 0, slots := 0, locals := 22 } : Room).slots) := by
  refine MetFree.of_bodySF (plainFor_of_name pn_java_lang_StringLatin1) hisR ?_
  intro p e s m args below meth c s₁ Bd hml0 hP hK
  obtain ⟨rfl, hZ, hh⟩ := hP
  have hx := Bd.exec
  have hby := Bd.bytes
  have hml : c.maxLocals = 2 := hml0
  have hown : s.vm.findClass "java/lang/StringLatin1" = some m.cls := findClass_of_methodNamed Bd.named
  have hnm := (name_of_methodNamed Bd.named Bd.method).1
  have X0 : Stand p l e ({ frames := 1, cells := 0, slots := 0, locals := 22 } : Room) s m #[(.ref x1), (.ref x2)] below meth c s₁ [] 0 0 := Stand.of_body Bd
  have e0 : s₁.heap = h0 := by rw [← hh, Bd.state]; rfl
  have N0 := Fr.nil n0
  have K0 : Keep h0 h0 [] := Keep.refl _ _
  have pre0 : ∀ t, Steps p.tables e below (s₁.setTop (mkF m 0 #[.val (.ref x1), .val (.ref x2)] [])) t → Steps p.tables e below (s₁.setTop (entryFrame m #[(.ref x1), (.ref x2)] 2)) t := fun t k => castTop (ef15_2 m x1 x2) k
  obtain ⟨cl_a147, Ar_a147, -, S_a147, N_a147, -, -⟩ := id V_x2
  obtain ⟨cl_a148, Ar_a148, -, S_a148, N_a148, -, -⟩ := id V_x1
  obtain ⟨cl_a149, Ar_a149, -, S_a149, N_a149, -, -⟩ := id V_x1
  obtain ⟨cl_a150, Ar_a150, -, S_a150, N_a150, -, -⟩ := id V_x2
  obtain ⟨_, _, ⟨T151, L151, k151, n151⟩, -, X151, ⟨Lc151, hQ151, l151, y151, z151⟩, st151⟩ := Jvm.LawKit.callS X0 hx (y := (⟨"java/lang/StringLatin1", "indexOf", "([BI[BII)I"⟩ : MethodName)) hown (mvT hZ (own_wd hw 77 rfl)) (mvT hZ (own_wd hw 78 rfl)) (mvT hZ (own_wd hw 75 rfl)) (mvT hZ (own_wd hw 79 rfl)) (by decide) (backOf (W := 0) (rm16_2 l Z a0 hw [] x1 x2 z0 z1 d k1 k2 h0 n0 Z0 O0 V_x1 V_x2) hZ (own_wd hw 79 rfl) (own_wd hw 75 rfl) (by decide) (by decide)) (g := (mkF m 21 #[.val (.ref x1), .val (.ref x2)] [(.int (0 : Int32)), (.int (1 : Int32)), (.ref x2), (.int (2 : Int32)), (.ref x1)])) rfl (by rw [hml]; rfl) (argsL := [(.ref x1), (.int (2 : Int32)), (.ref x2), (.int (1 : Int32)), (.int (0 : Int32))]) (rest := []) (lenOf pd_7 rfl) rfl (by show 2 * 0 + _ ≤ _; exact Nat.le_of_eq rfl) (hb hby d15_21) (fun _ _ => ⟨rfl, e0, (by decide : 0 + 0 ≤ _), (by decide : 0 + 0 ≤ _)⟩)
  dsimp only [Pt.U, Pt.locs, Pt.cells, Pt.slots] at X151 l151 y151 z151 st151 hQ151
  subst l151 y151 z151
  obtain ⟨r_151, rfl, N151q, eh151, Q151_0⟩ := hQ151
  have N151 := Fr.app N0 N151q
  obtain ⟨fs, hr, hrun, hended, hW, hsame⟩ := X151.leave (v := some (.int r_151)) (fun h => by rw [Bd.returns] at h; cases h)
  refine ⟨_, _, pre0 _ ?_, hrun, hended, _, _, rfl, ?_, ⟨_, rfl⟩, hW, hsame.mono (by decide) (by decide)⟩
  · show Steps p.tables e below (s₁.setTop (mkF m 0 #[.val (.ref x1), .val (.ref x2)] [])) _
    refine XS.aloadN X0.here hx rfl (hb hby d15_0) rfl rfl ?_
    show Steps p.tables e below (s₁.setTop (mkF m 1 #[.val (.ref x1), .val (.ref x2)] [(.ref x2)])) _
    refine X0.arraylength hx (by rw [e0]; exact Ar_a147.1) (State.isArrayOf_alike hZ.alike Ar_a147.2.1) (g := (mkF m 1 #[.val (.ref x1), .val (.ref x2)] [(.ref x2)])) rfl rfl (hb hby d15_1) _ ?_
    rw [len_of S_a147 N_a147]
    refine XS.ifYes X0.here hx rfl (pc0 := 2) (pc' := 7) rfl (hb hby d15_2) rfl ((if0 _ _).trans (feq (by decide : ¬ ((1 : Int32) = (0 : Int32)))).2) (by decide) (by decide) ?_
    refine XS.aloadN X0.here hx rfl (hb hby d15_7) rfl rfl ?_
    show Steps p.tables e below (s₁.setTop (mkF m 8 #[.val (.ref x1), .val (.ref x2)] [(.ref x1)])) _
    refine X0.arraylength hx (by rw [e0]; exact Ar_a148.1) (State.isArrayOf_alike hZ.alike Ar_a148.2.1) (g := (mkF m 8 #[.val (.ref x1), .val (.ref x2)] [(.ref x1)])) rfl rfl (hb hby d15_8) _ ?_
    rw [len_of S_a148 N_a148]
    refine XS.ifYes X0.here hx rfl (pc0 := 9) (pc' := 14) rfl (hb hby d15_9) rfl ((if0 _ _).trans (feq (by decide : ¬ ((2 : Int32) = (0 : Int32)))).2) (by decide) (by decide) ?_
    refine XS.aloadN X0.here hx rfl (hb hby d15_14) rfl rfl ?_
    refine XS.aloadN X0.here hx rfl (hb hby d15_15) rfl rfl ?_
    show Steps p.tables e below (s₁.setTop (mkF m 16 #[.val (.ref x1), .val (.ref x2)] [(.ref x1), (.ref x1)])) _
    refine X0.arraylength hx (by rw [e0]; exact Ar_a149.1) (State.isArrayOf_alike hZ.alike Ar_a149.2.1) (g := (mkF m 16 #[.val (.ref x1), .val (.ref x2)] [(.ref x1), (.ref x1)])) rfl rfl (hb hby d15_16) _ ?_
    rw [len_of S_a149 N_a149]
    refine XS.aloadN X0.here hx rfl (hb hby d15_17) rfl rfl ?_
    refine XS.aloadN X0.here hx rfl (hb hby d15_18) rfl rfl ?_
    show Steps p.tables e below (s₁.setTop (mkF m 19 #[.val (.ref x1), .val (.ref x2)] [(.ref x2), (.ref x2), (.int (2 : Int32)), (.ref x1)])) _
    refine X0.arraylength hx (by rw [e0]; exact Ar_a150.1) (State.isArrayOf_alike hZ.alike Ar_a150.2.1) (g := (mkF m 19 #[.val (.ref x1), .val (.ref x2)] [(.ref x2), (.ref x2), (.int (2 : Int32)), (.ref x1)])) rfl rfl (hb hby d15_19) _ ?_
    rw [len_of S_a150 N_a150]
    refine XS.iconst X0.here hx rfl (hb hby d15_20) ?_
    show Steps p.tables e below (s₁.setTop (mkF m 21 #[.val (.ref x1), .val (.ref x2)] [(.int (0 : Int32)), (.int (1 : Int32)), (.ref x2), (.int (2 : Int32)), (.ref x1)])) _
    refine st151 _ ?_
    show Steps p.tables e below (T151.setTop (mkF m 24 #[.val (.ref x1), .val (.ref x2)] [(.int r_151)])) _
    exact retI X151 hx Bd.returns (hb hby d15_24) hr
  · show Q15_2 Z x1 x2 z0 z1 d k1 k2 h0 n0 _ T151.heap _
    rw [eh151]
    exact ⟨r_151, rfl, N151, rfl, Q151_0⟩
theorem ef12_2 (m : MethodId) (tz : Addr) (x1 : Addr) : entryFrame m #[(.ref tz), (.ref x1)] 3 = mkF m 0 #[.val (.ref tz), .val (.ref x1), .unset] [] := by first | (simp [entryFrame, mkF, argsToLocals, Value.category]; done) | rfl
def Q12_2 (Z : State) (tz : Addr) (x1 : Addr) (tz_value : Addr) (x1_value : Addr) (z0 : Int32) (z1 : Int32) (d : Int32) (k1 : ClassId) (k2 : ClassId) (st_COMPACT_STRINGS : Int32) (h0 : Heap) (n0 : Nat) (v : Option Value) (h : Heap) (L : List Loc) : Prop := ∃ (r : Int32), v = some (.int r) ∧ Fr n0 L ∧ h = h0 ∧ ((r < (0 : Int32)) ↔ ¬ (d ∈ ([z0, z1] : List Int32)))
set_option maxRecDepth 65536 in
set_option maxHeartbeats 40000000 in
theorem rm12_2 (l : Launch) (Z : State) (a0 : Array Value) (hw : ∀ d ∈ tables_1, d.before a0 Z = true) (ws : List Jvm.Cond) (tz : Addr) (x1 : Addr) (tz_value : Addr) (x1_value : Addr) (z0 : Int32) (z1 : Int32) (d : Int32) (k1 : ClassId) (k2 : ClassId) (st_COMPACT_STRINGS : Int32) (h0 : Heap) (n0 : Nat) (Z0 : n0 ≤ h0.size) (O0 : Old Z n0 h0) (E_tz : Exa Z h0 tz "java/lang/String") (F_tz_value : Fld Z h0 tz "java/lang/String" "value" "[B" (.ref tz_value)) (F_tz_coder : Fld Z h0 tz "java/lang/String" "coder" "B" (.int (0 : Int32))) (V_tz : Arv Z h0 tz_value k1 .byte (2 : Int32) [(.int z0), (.int z1)] (.int 0)) (E_x1 : Exa Z h0 x1 "java/lang/String") (F_x1_value : Fld Z h0 x1 "java/lang/String" "value" "[B" (.ref x1_value)) (F_x1_coder : Fld Z h0 x1 "java/lang/String" "coder" "B" (.int (0 : Int32))) (V_x1 : Arv Z h0 x1_value k2 .byte (1 : Int32) [(.int d)] (.int 0)) (S_COMPACT_STRINGS : Sta Z Z.heap "java/lang/String" "COMPACT_STRINGS" "Z" (.int st_COMPACT_STRINGS)) (hcomp : ¬ (st_COMPACT_STRINGS = (0 : Int32))) :
    MetFree l (⟨"java/lang/String", "indexOf", "(Ljava/lang/String;)I"⟩ : MethodName) (head1 (Jvm.Cond.code (⟨"java/lang/String", "indexOf", "(Ljava/lang/String;)I"⟩ : MethodName) jdk_42_method_84_code 3 (some .int) :: ws) ({ frames := 2, cells := 0, slots := 0, locals := 35 } : Room)) (fun a U => a = #[(.ref tz), (.ref x1)] ∧ Z.Warmed39 U.vm ∧ U.heap = h0) (fun _ _ _ _ _ => True) (fun _ U o U' => ∃ v L, o = .returned v ∧ Q12_2 Z tz x1 tz_value x1_value z0 z1 d k1 k2 st_COMPACT_STRINGS h0 n0 v U'.heap L ∧ FrameEnd U o U' L ({ frames := 2, cells := 0, slots := 0, locals := 35 } : Room).cells ({ frames := 2, cells := 0, slots := 0, locals := 35 } : Room).slots) := by
  refine MetFree.of_bodySF (plainFor_of_name pn_java_lang_String) hisR ?_
  intro p e s m args below meth c s₁ Bd hml0 hP hK
  obtain ⟨rfl, hZ, hh⟩ := hP
  have hx := Bd.exec
  have hby := Bd.bytes
  have hml : c.maxLocals = 3 := hml0
  have hown : s.vm.findClass "java/lang/String" = some m.cls := findClass_of_methodNamed Bd.named
  have hnm := (name_of_methodNamed Bd.named Bd.method).1
  have X0 : Stand p l e ({ frames := 2, cells := 0, slots := 0, locals := 35 } : Room) s m #[(.ref tz), (.ref x1)] below meth c s₁ [] 0 0 := Stand.of_body Bd
  have e0 : s₁.heap = h0 := by rw [← hh, Bd.state]; rfl
  have N0 := Fr.nil n0
  have K0 : Keep h0 h0 [] := Keep.refl _ _
  have pre0 : ∀ t, Steps p.tables e below (s₁.setTop (mkF m 0 #[.val (.ref tz), .val (.ref x1), .unset] [])) t → Steps p.tables e below (s₁.setTop (entryFrame m #[(.ref tz), (.ref x1)] 3)) t := fun t k => castTop (ef12_2 m tz x1) k
  obtain ⟨cq152, kq152, q152a, q152b, q152c⟩ := isOf hZ e0 E_tz
  obtain ⟨_, _, ⟨T152, L152, k152, n152⟩, -, X152, ⟨Lc152, hQ152, l152, y152, z152⟩, st152⟩ := X0.virtualBack hx (y := (⟨"java/lang/String", "coder", "()B"⟩ : MethodName)) (z := (⟨"java/lang/String", "coder", "()B"⟩ : MethodName)) hown (mvT hZ (own_wd hw 63 rfl)) (mvT hZ (own_wd hw 64 rfl)) (notFace_of_selects (args := #[]) (mvT hZ (own_wd hw 66 rfl))) (mvT hZ (own_wd hw 66 rfl)) (mvT hZ (own_wd hw 65 rfl)) (by decide) (backOf (W := 0) (rm13 l Z a0 hw [] tz st_COMPACT_STRINGS h0 n0 Z0 O0 F_tz_coder S_COMPACT_STRINGS hcomp) hZ (own_wd hw 67 rfl) (own_wd hw 7 rfl) (by decide) (by decide)) q152a q152c (g := (mkF m 1 #[.val (.ref tz), .val (.ref x1), .unset] [(.ref tz)])) rfl (by rw [hml]; rfl) (Steps.refl _) (argsL := []) (rest := []) (lenOf pd_1 rfl) rfl (by show 2 * 0 + _ ≤ _; exact Nat.le_of_eq rfl) (hb hby d12_1) (fun _ _ => ⟨rfl, e0, (by decide : 0 + 0 ≤ _), (by decide : 0 + 0 ≤ _)⟩)
  dsimp only [Pt.U, Pt.locs, Pt.cells, Pt.slots] at X152 l152 y152 z152 st152 hQ152
  subst l152 y152 z152
  obtain ⟨rfl, N152q, eh152⟩ := hQ152
  have N152 := Fr.app N0 N152q
  obtain ⟨cq153, kq153, q153a, q153b, q153c⟩ := isOf hZ eh152 E_x1
  obtain ⟨_, _, ⟨T153, L153, k153, n153⟩, -, X153, ⟨Lc153, hQ153, l153, y153, z153⟩, st153⟩ := X152.virtualBack hx (y := (⟨"java/lang/String", "coder", "()B"⟩ : MethodName)) (z := (⟨"java/lang/String", "coder", "()B"⟩ : MethodName)) hown (mvT hZ (own_wd hw 63 rfl)) (mvT hZ (own_wd hw 64 rfl)) (notFace_of_selects (args := #[]) (mvT hZ (own_wd hw 66 rfl))) (mvT hZ (own_wd hw 66 rfl)) (mvT hZ (own_wd hw 65 rfl)) (by decide) (backOf (W := 1) (rm13 l Z a0 hw [] x1 st_COMPACT_STRINGS h0 n0 Z0 O0 F_x1_coder S_COMPACT_STRINGS hcomp) hZ (own_wd hw 67 rfl) (own_wd hw 7 rfl) (by decide) (by decide)) q153a q153c (g := (mkF m 7 #[.val (.ref tz), .val (.ref x1), .val (.int (0 : Int32))] [(.ref x1), (.int (0 : Int32))])) rfl (by rw [hml]; rfl) (Steps.refl _) (argsL := []) (rest := [(.int (0 : Int32))]) (lenOf pd_1 rfl) rfl (by show 2 * 0 + _ ≤ _; exact Nat.le_of_eq rfl) (hb hby d12_7) (fun _ _ => ⟨rfl, eh152, (by decide : 0 + 0 ≤ _), (by decide : 0 + 0 ≤ _)⟩)
  dsimp only [Pt.U, Pt.locs, Pt.cells, Pt.slots] at X153 l153 y153 z153 st153 hQ153
  subst l153 y153 z153
  obtain ⟨rfl, N153q, eh153⟩ := hQ153
  have N153 := Fr.app N152 N153q
  obtain ⟨cq154, kq154, q154a, q154b, q154c⟩ := isOf hZ eh153 E_tz
  obtain ⟨_, _, ⟨T154, L154, k154, n154⟩, -, X154, ⟨Lc154, hQ154, l154, y154, z154⟩, st154⟩ := X153.virtualBack hx (y := (⟨"java/lang/String", "isLatin1", "()Z"⟩ : MethodName)) (z := (⟨"java/lang/String", "isLatin1", "()Z"⟩ : MethodName)) hown (mvT hZ (own_wd hw 68 rfl)) (mvT hZ (own_wd hw 69 rfl)) (notFace_of_selects (args := #[]) (mvT hZ (own_wd hw 71 rfl))) (mvT hZ (own_wd hw 71 rfl)) (mvT hZ (own_wd hw 70 rfl)) (by decide) (backOf (W := 0) (rm14 l Z a0 hw [] tz st_COMPACT_STRINGS h0 n0 Z0 O0 F_tz_coder S_COMPACT_STRINGS hcomp) hZ (own_wd hw 72 rfl) (own_wd hw 7 rfl) (by decide) (by decide)) q154a q154c (g := (mkF m 14 #[.val (.ref tz), .val (.ref x1), .val (.int (0 : Int32))] [(.ref tz)])) rfl (by rw [hml]; rfl) (Steps.refl _) (argsL := []) (rest := []) (lenOf pd_2 rfl) rfl (by show 2 * 0 + _ ≤ _; exact Nat.le_of_eq rfl) (hb hby d12_14) (fun _ _ => ⟨rfl, eh153, (by decide : 0 + 0 ≤ _), (by decide : 0 + 0 ≤ _)⟩)
  dsimp only [Pt.U, Pt.locs, Pt.cells, Pt.slots] at X154 l154 y154 z154 st154 hQ154
  subst l154 y154 z154
  obtain ⟨rfl, N154q, eh154⟩ := hQ154
  have N154 := Fr.app N153 N154q
  obtain ⟨T155, X155, e155, st155⟩ := getF X154 hx hZ hown (host := "") (Or.inl (own_wd hw 32 rfl)) Via.refl eh154 F_tz_value (g := (mkF m 21 #[.val (.ref tz), .val (.ref x1), .val (.int (0 : Int32))] [(.ref tz)])) rfl rfl (hb hby d12_21)
  obtain ⟨T156, X156, e156, st156⟩ := getF X155 hx hZ hown (host := "") (Or.inl (own_wd hw 32 rfl)) Via.refl e155 F_x1_value (g := (mkF m 25 #[.val (.ref tz), .val (.ref x1), .val (.int (0 : Int32))] [(.ref x1), (.ref tz_value)])) rfl rfl (hb hby d12_25)
  obtain ⟨_, _, ⟨T157, L157, k157, n157⟩, -, X157, ⟨Lc157, hQ157, l157, y157, z157⟩, st157⟩ := Jvm.LawKit.callS X156 hx (y := (⟨"java/lang/StringLatin1", "indexOf", "([B[B)I"⟩ : MethodName)) hown (mvT hZ (own_wd hw 73 rfl)) (mvT hZ (own_wd hw 74 rfl)) (mvT hZ (own_wd hw 75 rfl)) (mvT hZ (own_wd hw 76 rfl)) (by decide) (backOf (W := 0) (rm15_2 l Z a0 hw [] tz_value x1_value z0 z1 d k1 k2 h0 n0 Z0 O0 V_tz V_x1) hZ (own_wd hw 76 rfl) (own_wd hw 75 rfl) (by decide) (by decide)) (g := (mkF m 28 #[.val (.ref tz), .val (.ref x1), .val (.int (0 : Int32))] [(.ref x1_value), (.ref tz_value)])) rfl (by rw [hml]; rfl) (argsL := [(.ref tz_value), (.ref x1_value)]) (rest := []) (lenOf pd_3 rfl) rfl (by show 2 * 0 + _ ≤ _; exact Nat.le_of_eq rfl) (hb hby d12_28) (fun _ _ => ⟨rfl, e156, (by decide : 0 + 0 ≤ _), (by decide : 0 + 0 ≤ _)⟩)
  dsimp only [Pt.U, Pt.locs, Pt.cells, Pt.slots] at X157 l157 y157 z157 st157 hQ157
  subst l157 y157 z157
  obtain ⟨r_157, rfl, N157q, eh157, Q157_0⟩ := hQ157
  have N157 := Fr.app N154 N157q
  obtain ⟨fs, hr, hrun, hended, hW, hsame⟩ := X157.leave (v := some (.int r_157)) (fun h => by rw [Bd.returns] at h; cases h)
  refine ⟨_, _, pre0 _ ?_, hrun, hended, _, _, rfl, ?_, ⟨_, rfl⟩, hW, hsame.mono (by decide) (by decide)⟩
  · show Steps p.tables e below (s₁.setTop (mkF m 0 #[.val (.ref tz), .val (.ref x1), .unset] [])) _
    refine XS.aloadN X0.here hx rfl (hb hby d12_0) rfl rfl ?_
    show Steps p.tables e below (s₁.setTop (mkF m 1 #[.val (.ref tz), .val (.ref x1), .unset] [(.ref tz)])) _
    refine st152.trans ?_
    show Steps p.tables e below (T152.setTop (mkF m 4 #[.val (.ref tz), .val (.ref x1), .unset] [(.int (0 : Int32))])) _
    refine XS.istoreN X152.here hx rfl (hb hby d12_4) rfl (l' := #[.val (.ref tz), .val (.ref x1), .val (.int (0 : Int32))]) rfl ?_
    refine XS.iloadN X152.here hx rfl (hb hby d12_5) rfl ?_
    refine XS.aloadN X152.here hx rfl (hb hby d12_6) rfl rfl ?_
    show Steps p.tables e below (T152.setTop (mkF m 7 #[.val (.ref tz), .val (.ref x1), .val (.int (0 : Int32))] [(.ref x1), (.int (0 : Int32))])) _
    refine st153.trans ?_
    show Steps p.tables e below (T153.setTop (mkF m 10 #[.val (.ref tz), .val (.ref x1), .val (.int (0 : Int32))] [(.int (0 : Int32)), (.int (0 : Int32))])) _
    refine XS.icmpNo X153.here hx rfl (hb hby d12_10) rfl (teq (by decide : (0 : Int32) = (0 : Int32))).2 ?_
    refine XS.aloadN X153.here hx rfl (hb hby d12_13) rfl rfl ?_
    show Steps p.tables e below (T153.setTop (mkF m 14 #[.val (.ref tz), .val (.ref x1), .val (.int (0 : Int32))] [(.ref tz)])) _
    refine st154.trans ?_
    show Steps p.tables e below (T154.setTop (mkF m 17 #[.val (.ref tz), .val (.ref x1), .val (.int (0 : Int32))] [(.int (1 : Int32))])) _
    refine XS.ifNo X154.here hx rfl (hb hby d12_17) rfl ((if0 _ _).trans (feq (by decide : ¬ ((1 : Int32) = (0 : Int32)))).1) ?_
    refine XS.aloadN X154.here hx rfl (hb hby d12_20) rfl rfl ?_
    show Steps p.tables e below (T154.setTop (mkF m 21 #[.val (.ref tz), .val (.ref x1), .val (.int (0 : Int32))] [(.ref tz)])) _
    refine st155 _ ?_
    show Steps p.tables e below (T155.setTop (mkF m 24 #[.val (.ref tz), .val (.ref x1), .val (.int (0 : Int32))] [(.ref tz_value)])) _
    refine XS.aloadN X155.here hx rfl (hb hby d12_24) rfl rfl ?_
    show Steps p.tables e below (T155.setTop (mkF m 25 #[.val (.ref tz), .val (.ref x1), .val (.int (0 : Int32))] [(.ref x1), (.ref tz_value)])) _
    refine st156 _ ?_
    show Steps p.tables e below (T156.setTop (mkF m 28 #[.val (.ref tz), .val (.ref x1), .val (.int (0 : Int32))] [(.ref x1_value), (.ref tz_value)])) _
    refine st157 _ ?_
    show Steps p.tables e below (T157.setTop (mkF m 31 #[.val (.ref tz), .val (.ref x1), .val (.int (0 : Int32))] [(.int r_157)])) _
    refine XS.goto X157.here hx rfl (pc0 := 31) (pc' := 45) rfl (hb hby d12_31) (by decide) (by decide) ?_
    show Steps p.tables e below (T157.setTop (mkF m 45 #[.val (.ref tz), .val (.ref x1), .val (.int (0 : Int32))] [(.int r_157)])) _
    exact retI X157 hx Bd.returns (hb hby d12_45) hr
  · show Q12_2 Z tz x1 tz_value x1_value z0 z1 d k1 k2 st_COMPACT_STRINGS h0 n0 _ T157.heap _
    rw [eh157]
    exact ⟨r_157, rfl, N157, rfl, Q157_0⟩
theorem ef10_2 (m : MethodId) (tz : Addr) (x1 : Addr) : entryFrame m #[(.ref tz), (.ref x1)] 2 = mkF m 0 #[.val (.ref tz), .val (.ref x1)] [] := by first | (simp [entryFrame, mkF, argsToLocals, Value.category]; done) | rfl
def Q10_2 (Z : State) (tz : Addr) (x1 : Addr) (tz_value : Addr) (x1_value : Addr) (z0 : Int32) (z1 : Int32) (d : Int32) (k1 : ClassId) (k2 : ClassId) (st_COMPACT_STRINGS : Int32) (h0 : Heap) (n0 : Nat) (v : Option Value) (h : Heap) (L : List Loc) : Prop := v = some (.int (own_b (d ∈ ([z0, z1] : List Int32)))) ∧ Fr n0 L ∧ h = h0
set_option maxRecDepth 65536 in
set_option maxHeartbeats 40000000 in
theorem rm10_2 (l : Launch) (Z : State) (a0 : Array Value) (hw : ∀ d ∈ tables_1, d.before a0 Z = true) (ws : List Jvm.Cond) (tz : Addr) (x1 : Addr) (tz_value : Addr) (x1_value : Addr) (z0 : Int32) (z1 : Int32) (d : Int32) (k1 : ClassId) (k2 : ClassId) (st_COMPACT_STRINGS : Int32) (h0 : Heap) (n0 : Nat) (Z0 : n0 ≤ h0.size) (O0 : Old Z n0 h0) (E_tz : Exa Z h0 tz "java/lang/String") (F_tz_value : Fld Z h0 tz "java/lang/String" "value" "[B" (.ref tz_value)) (F_tz_coder : Fld Z h0 tz "java/lang/String" "coder" "B" (.int (0 : Int32))) (V_tz : Arv Z h0 tz_value k1 .byte (2 : Int32) [(.int z0), (.int z1)] (.int 0)) (E_x1 : Exa Z h0 x1 "java/lang/String") (F_x1_value : Fld Z h0 x1 "java/lang/String" "value" "[B" (.ref x1_value)) (F_x1_coder : Fld Z h0 x1 "java/lang/String" "coder" "B" (.int (0 : Int32))) (V_x1 : Arv Z h0 x1_value k2 .byte (1 : Int32) [(.int d)] (.int 0)) (S_COMPACT_STRINGS : Sta Z Z.heap "java/lang/String" "COMPACT_STRINGS" "Z" (.int st_COMPACT_STRINGS)) (hcomp : ¬ (st_COMPACT_STRINGS = (0 : Int32))) :
    MetFree l (⟨"java/lang/String", "contains", "(Ljava/lang/CharSequence;)Z"⟩ : MethodName) (head1 (Jvm.Cond.code (⟨"java/lang/String", "contains", "(Ljava/lang/CharSequence;)Z"⟩ : MethodName) jdk_42_method_97_code 2 (some .boolean) :: ws) ({ frames := 3, cells := 0, slots := 0, locals := 49 } : Room)) (fun a U => a = #[(.ref tz), (.ref x1)] ∧ Z.Warmed39 U.vm ∧ U.heap = h0) (fun _ _ _ _ _ => True) (fun _ U o U' => ∃ v L, o = .returned v ∧ Q10_2 Z tz x1 tz_value x1_value z0 z1 d k1 k2 st_COMPACT_STRINGS h0 n0 v U'.heap L ∧ FrameEnd U o U' L ({ frames := 3, cells := 0, slots := 0, locals := 49 } : Room).cells ({ frames := 3, cells := 0, slots := 0, locals := 49 } : Room).slots) := by
  refine MetFree.of_bodySF (plainFor_of_name pn_java_lang_String) hisR ?_
  intro p e s m args below meth c s₁ Bd hml0 hP hK
  obtain ⟨rfl, hZ, hh⟩ := hP
  have hx := Bd.exec
  have hby := Bd.bytes
  have hml : c.maxLocals = 2 := hml0
  have hown : s.vm.findClass "java/lang/String" = some m.cls := findClass_of_methodNamed Bd.named
  have hnm := (name_of_methodNamed Bd.named Bd.method).1
  have X0 : Stand p l e ({ frames := 3, cells := 0, slots := 0, locals := 49 } : Room) s m #[(.ref tz), (.ref x1)] below meth c s₁ [] 0 0 := Stand.of_body Bd
  have e0 : s₁.heap = h0 := by rw [← hh, Bd.state]; rfl
  have N0 := Fr.nil n0
  have K0 : Keep h0 h0 [] := Keep.refl _ _
  have pre0 : ∀ t, Steps p.tables e below (s₁.setTop (mkF m 0 #[.val (.ref tz), .val (.ref x1)] [])) t → Steps p.tables e below (s₁.setTop (entryFrame m #[(.ref tz), (.ref x1)] 2)) t := fun t k => castTop (ef10_2 m tz x1) k
  obtain ⟨cq158, kq158, q158a, q158b, q158c⟩ := isOf hZ e0 E_x1
  obtain ⟨_, _, ⟨T158, L158, k158, n158⟩, -, X158, ⟨Lc158, hQ158, l158, y158, z158⟩, st158⟩ := X0.interfaceBack hx (xi := (⟨"java/lang/CharSequence", "toString", "()Ljava/lang/String;"⟩ : MethodName)) (y := (⟨"java/lang/String", "toString", "()Ljava/lang/String;"⟩ : MethodName)) hown (mvT hZ (own_wd hw 49 rfl)) (mvT hZ (own_wd hw 50 rfl)) (mvT hZ (own_wd hw 51 rfl)) (mvT hZ (own_wd hw 52 rfl)) (mvT hZ (own_wd hw 53 rfl)) (mvT hZ (own_wd hw 54 rfl)) (mvT hZ (own_wd hw 55 rfl)) (mvT hZ (own_wd hw 56 rfl)) (by decide) (backOf (W := 1) (rm11 l Z a0 hw [] x1 h0 n0 Z0 O0) hZ (own_wd hw 57 rfl) (own_wd hw 7 rfl) (by decide) (by decide)) q158a q158b q158c (g := (mkF m 2 #[.val (.ref tz), .val (.ref x1)] [(.ref x1), (.ref tz)])) rfl (by rw [hml]; rfl) (Steps.refl _) (argsL := []) (rest := [(.ref tz)]) (lenOf pd_4 rfl) rfl (by show 2 * 0 + _ ≤ _; exact Nat.le_of_eq rfl) (hb hby d10_2) (fun _ _ => ⟨rfl, e0, (by decide : 0 + 0 ≤ _), (by decide : 0 + 0 ≤ _)⟩)
  dsimp only [Pt.U, Pt.locs, Pt.cells, Pt.slots] at X158 l158 y158 z158 st158 hQ158
  subst l158 y158 z158
  obtain ⟨rfl, N158q, eh158⟩ := hQ158
  have N158 := Fr.app N0 N158q
  obtain ⟨cq159, kq159, q159a, q159b, q159c⟩ := isOf hZ eh158 E_tz
  obtain ⟨_, _, ⟨T159, L159, k159, n159⟩, -, X159, ⟨Lc159, hQ159, l159, y159, z159⟩, st159⟩ := X158.virtualBack hx (y := (⟨"java/lang/String", "indexOf", "(Ljava/lang/String;)I"⟩ : MethodName)) (z := (⟨"java/lang/String", "indexOf", "(Ljava/lang/String;)I"⟩ : MethodName)) hown (mvT hZ (own_wd hw 58 rfl)) (mvT hZ (own_wd hw 59 rfl)) (notFace_of_selects (args := #[]) (mvT hZ (own_wd hw 61 rfl))) (mvT hZ (own_wd hw 61 rfl)) (mvT hZ (own_wd hw 60 rfl)) (by decide) (backOf (W := 0) (rm12_2 l Z a0 hw [] tz x1 tz_value x1_value z0 z1 d k1 k2 st_COMPACT_STRINGS h0 n0 Z0 O0 E_tz F_tz_value F_tz_coder V_tz E_x1 F_x1_value F_x1_coder V_x1 S_COMPACT_STRINGS hcomp) hZ (own_wd hw 62 rfl) (own_wd hw 7 rfl) (by decide) (by decide)) q159a q159c (g := (mkF m 7 #[.val (.ref tz), .val (.ref x1)] [(.ref x1), (.ref tz)])) rfl (by rw [hml]; rfl) (Steps.refl _) (argsL := [(.ref x1)]) (rest := []) (lenOf pd_5 rfl) rfl (by show 2 * 0 + _ ≤ _; exact Nat.le_of_eq rfl) (hb hby d10_7) (fun _ _ => ⟨rfl, eh158, (by decide : 0 + 0 ≤ _), (by decide : 0 + 0 ≤ _)⟩)
  dsimp only [Pt.U, Pt.locs, Pt.cells, Pt.slots] at X159 l159 y159 z159 st159 hQ159
  subst l159 y159 z159
  obtain ⟨r_159, rfl, N159q, eh159, Q159_0⟩ := hQ159
  have N159 := Fr.app N158 N159q
  have pre160 : ∀ t, Steps p.tables e below (T159.setTop (mkF m 10 #[.val (.ref tz), .val (.ref x1)] [(.int r_159)])) t → Steps p.tables e below (s₁.setTop (entryFrame m #[(.ref tz), (.ref x1)] 2)) t := by
    intro t kt
    refine pre0 t ?_
    show Steps p.tables e below (s₁.setTop (mkF m 0 #[.val (.ref tz), .val (.ref x1)] [])) _
    refine XS.aloadN X0.here hx rfl (hb hby d10_0) rfl rfl ?_
    refine XS.aloadN X0.here hx rfl (hb hby d10_1) rfl rfl ?_
    show Steps p.tables e below (s₁.setTop (mkF m 2 #[.val (.ref tz), .val (.ref x1)] [(.ref x1), (.ref tz)])) _
    refine st158.trans ?_
    show Steps p.tables e below (T158.setTop (mkF m 7 #[.val (.ref tz), .val (.ref x1)] [(.ref x1), (.ref tz)])) _
    refine st159.trans ?_
    exact kt
  by_cases hc10 : r_159 < (0 : Int32)
  · skip
    obtain ⟨fs, hr, hrun, hended, hW, hsame⟩ := X159.leave (v := some (.int (0 : Int32))) (fun h => by rw [Bd.returns] at h; cases h)
    refine ⟨_, _, pre160 _ ?_, hrun, hended, _, _, rfl, ?_, ⟨_, rfl⟩, hW, hsame.mono (by decide) (by decide)⟩
    · show Steps p.tables e below (T159.setTop (mkF m 10 #[.val (.ref tz), .val (.ref x1)] [(.int r_159)])) _
      refine XS.ifYes X159.here hx rfl (pc0 := 10) (pc' := 17) rfl (hb hby d10_10) rfl ((if0 _ _).trans (tlt hc10).1) (by decide) (by decide) ?_
      refine XS.iconst X159.here hx rfl (hb hby d10_17) ?_
      show Steps p.tables e below (T159.setTop (mkF m 18 #[.val (.ref tz), .val (.ref x1)] [(.int (0 : Int32))])) _
      exact retN X159 hx (t := .boolean) Bd.returns (by simp) (hb hby d10_18) hr
    · show Q10_2 Z tz x1 tz_value x1_value z0 z1 d k1 k2 st_COMPACT_STRINGS h0 n0 _ T159.heap _
      rw [eh159]
      exact ⟨(by rw [own_bf (Q159_0.mp hc10)]), N159, rfl⟩
  · skip
    obtain ⟨fs, hr, hrun, hended, hW, hsame⟩ := X159.leave (v := some (.int (1 : Int32))) (fun h => by rw [Bd.returns] at h; cases h)
    refine ⟨_, _, pre160 _ ?_, hrun, hended, _, _, rfl, ?_, ⟨_, rfl⟩, hW, hsame.mono (by decide) (by decide)⟩
    · show Steps p.tables e below (T159.setTop (mkF m 10 #[.val (.ref tz), .val (.ref x1)] [(.int r_159)])) _
      refine XS.ifNo X159.here hx rfl (hb hby d10_10) rfl ((if0 _ _).trans (flt hc10).1) ?_
      refine XS.iconst X159.here hx rfl (hb hby d10_13) ?_
      refine XS.goto X159.here hx rfl (pc0 := 14) (pc' := 18) rfl (hb hby d10_14) (by decide) (by decide) ?_
      show Steps p.tables e below (T159.setTop (mkF m 18 #[.val (.ref tz), .val (.ref x1)] [(.int (1 : Int32))])) _
      exact retN X159 hx (t := .boolean) Bd.returns (by simp) (hb hby d10_18) hr
    · show Q10_2 Z tz x1 tz_value x1_value z0 z1 d k1 k2 st_COMPACT_STRINGS h0 n0 _ T159.heap _
      rw [eh159]
      exact ⟨(by rw [own_bt (own_nn Q159_0 hc10)]), N159, rfl⟩
theorem ef17_2 (m : MethodId) (tz : Addr) : entryFrame m #[(.ref tz)] 1 = mkF m 0 #[.val (.ref tz)] [] := by first | (simp [entryFrame, mkF, argsToLocals, Value.category]; done) | rfl
def Q17_2 (Z : State) (tz : Addr) (tz_value : Addr) (z0 : Int32) (z1 : Int32) (k1 : ClassId) (h0 : Heap) (n0 : Nat) (v : Option Value) (h : Heap) (L : List Loc) : Prop := v = some (.int (0 : Int32)) ∧ Fr n0 L ∧ h = h0
set_option maxRecDepth 65536 in
set_option maxHeartbeats 40000000 in
theorem rm17_2 (l : Launch) (Z : State) (a0 : Array Value) (hw : ∀ d ∈ tables_1, d.before a0 Z = true) (ws : List Jvm.Cond) (tz : Addr) (tz_value : Addr) (z0 : Int32) (z1 : Int32) (k1 : ClassId) (h0 : Heap) (n0 : Nat) (Z0 : n0 ≤ h0.size) (O0 : Old Z n0 h0) (F_tz_value : Fld Z h0 tz "java/lang/String" "value" "[B" (.ref tz_value)) (V_tz : Arv Z h0 tz_value k1 .byte (2 : Int32) [(.int z0), (.int z1)] (.int 0)) :
    MetFree l (⟨"java/lang/String", "isEmpty", "()Z"⟩ : MethodName) (head1 (Jvm.Cond.code (⟨"java/lang/String", "isEmpty", "()Z"⟩ : MethodName) jdk_42_method_55_code 1 (some .boolean) :: ws) ({ frames := 0, cells := 0, slots := 0, locals := 0 } : Room)) (fun a U => a = #[(.ref tz)] ∧ Z.Warmed39 U.vm ∧ U.heap = h0) (fun _ _ _ _ _ => True) (fun _ U o U' => ∃ v L, o = .returned v ∧ Q17_2 Z tz tz_value z0 z1 k1 h0 n0 v U'.heap L ∧ FrameEnd U o U' L ({ frames := 0, cells := 0, slots := 0, locals := 0 } : Room).cells ({ frames := 0, cells := 0, slots := 0, locals := 0 } : Room).slots) := by
  refine MetFree.of_bodySF (plainFor_of_name pn_java_lang_String) hisR ?_
  intro p e s m args below meth c s₁ Bd hml0 hP hK
  obtain ⟨rfl, hZ, hh⟩ := hP
  have hx := Bd.exec
  have hby := Bd.bytes
  have hml : c.maxLocals = 1 := hml0
  have hown : s.vm.findClass "java/lang/String" = some m.cls := findClass_of_methodNamed Bd.named
  have hnm := (name_of_methodNamed Bd.named Bd.method).1
  have X0 : Stand p l e ({ frames := 0, cells := 0, slots := 0, locals := 0 } : Room) s m #[(.ref tz)] below meth c s₁ [] 0 0 := Stand.of_body Bd
  have e0 : s₁.heap = h0 := by rw [← hh, Bd.state]; rfl
  have N0 := Fr.nil n0
  have K0 : Keep h0 h0 [] := Keep.refl _ _
  have pre0 : ∀ t, Steps p.tables e below (s₁.setTop (mkF m 0 #[.val (.ref tz)] [])) t → Steps p.tables e below (s₁.setTop (entryFrame m #[(.ref tz)] 1)) t := fun t k => castTop (ef17_2 m tz) k
  obtain ⟨T161, X161, e161, st161⟩ := getF X0 hx hZ hown (host := "") (Or.inl (own_wd hw 32 rfl)) Via.refl e0 F_tz_value (g := (mkF m 1 #[.val (.ref tz)] [(.ref tz)])) rfl rfl (hb hby d17_1)
  obtain ⟨cl_a162, Ar_a162, -, S_a162, N_a162, -, -⟩ := id V_tz
  obtain ⟨fs, hr, hrun, hended, hW, hsame⟩ := X161.leave (v := some (.int (0 : Int32))) (fun h => by rw [Bd.returns] at h; cases h)
  refine ⟨_, _, pre0 _ ?_, hrun, hended, _, _, rfl, ?_, ⟨_, rfl⟩, hW, hsame.mono (by decide) (by decide)⟩
  · show Steps p.tables e below (s₁.setTop (mkF m 0 #[.val (.ref tz)] [])) _
    refine XS.aloadN X0.here hx rfl (hb hby d17_0) rfl rfl ?_
    show Steps p.tables e below (s₁.setTop (mkF m 1 #[.val (.ref tz)] [(.ref tz)])) _
    refine st161 _ ?_
    show Steps p.tables e below (T161.setTop (mkF m 4 #[.val (.ref tz)] [(.ref tz_value)])) _
    refine X161.arraylength hx (by rw [e161]; exact Ar_a162.1) (State.isArrayOf_alike hZ.alike Ar_a162.2.1) (g := (mkF m 4 #[.val (.ref tz)] [(.ref tz_value)])) rfl rfl (hb hby d17_4) _ ?_
    rw [len_of S_a162 N_a162]
    refine XS.ifYes X161.here hx rfl (pc0 := 5) (pc' := 12) rfl (hb hby d17_5) rfl ((if0 _ _).trans (feq (by decide : ¬ ((2 : Int32) = (0 : Int32)))).2) (by decide) (by decide) ?_
    refine XS.iconst X161.here hx rfl (hb hby d17_12) ?_
    show Steps p.tables e below (T161.setTop (mkF m 13 #[.val (.ref tz)] [(.int (0 : Int32))])) _
    exact retN X161 hx (t := .boolean) Bd.returns (by simp) (hb hby d17_13) hr
  · show Q17_2 Z tz tz_value z0 z1 k1 h0 n0 _ T161.heap _
    rw [e161]
    exact ⟨rfl, N0, rfl⟩
theorem ef9_2 (m : MethodId) (x1 : Addr) : entryFrame m #[(.ref x1)] 2 = mkF m 0 #[.val (.ref x1), .unset] [] := by first | (simp [entryFrame, mkF, argsToLocals, Value.category]; done) | rfl
def Q9_2 (Z : State) (x1 : Addr) (x1_value : Addr) (y0 : Int32) (y1 : Int32) (k1 : ClassId) (st_COMPACT_STRINGS : Int32) (h0 : Heap) (n0 : Nat) (v : Option Value) (h : Heap) (L : List Loc) : Prop := v = some (.int (own_b (¬ (([y0, y1] : List Int32) = []) ∧ ¬ ((47 : Int32) ∈ ([(y0.toInt8.toInt32), (y1.toInt8.toInt32)] : List Int32)) ∧ ¬ ((92 : Int32) ∈ ([(y0.toInt8.toInt32), (y1.toInt8.toInt32)] : List Int32)) ∧ ¬ ((58 : Int32) ∈ ([(y0.toInt8.toInt32), (y1.toInt8.toInt32)] : List Int32)) ∧ ¬ (([y0, y1] : List Int32) = ([(46 : Int32)] : List Int32)) ∧ ¬ (([y0, y1] : List Int32) = ([(46 : Int32), (46 : Int32)] : List Int32))))) ∧ Fr n0 L ∧ Keep h0 h []
set_option maxRecDepth 65536 in
set_option maxHeartbeats 40000000 in
theorem rm9_2 (l : Launch) (Z : State) (a0 : Array Value) (hw : ∀ d ∈ tables_1, d.before a0 Z = true) (ws : List Jvm.Cond) (x1 : Addr) (x1_value : Addr) (y0 : Int32) (y1 : Int32) (k1 : ClassId) (st_COMPACT_STRINGS : Int32) (h0 : Heap) (n0 : Nat) (Z0 : n0 ≤ h0.size) (O0 : Old Z n0 h0) (E_x1 : Exa Z h0 x1 "java/lang/String") (F_x1_value : Fld Z h0 x1 "java/lang/String" "value" "[B" (.ref x1_value)) (F_x1_coder : Fld Z h0 x1 "java/lang/String" "coder" "B" (.int (0 : Int32))) (V_x1 : Arv Z h0 x1_value k1 .byte (2 : Int32) [(.int (y0.toInt8.toInt32)), (.int (y1.toInt8.toInt32))] (.int 0)) (hp : ∀ c ∈ ([y0, y1] : List Int32), ¬ c < 0 ∧ ¬ (255 : Int32) < c) (S_COMPACT_STRINGS : Sta Z Z.heap "java/lang/String" "COMPACT_STRINGS" "Z" (.int st_COMPACT_STRINGS)) (hcomp : ¬ (st_COMPACT_STRINGS = (0 : Int32))) :
    MetFree l (⟨"com/example/stock/stock/io/FileNames", "isBare", "(Ljava/lang/String;)Z"⟩ : MethodName) (head1 (Jvm.Cond.code (⟨"com/example/stock/stock/io/FileNames", "isBare", "(Ljava/lang/String;)Z"⟩ : MethodName) prog_20_method_2_code 2 (some .boolean) :: ws) ({ frames := 4, cells := 10, slots := 44, locals := 62 } : Room)) (fun a U => a = #[(.ref x1)] ∧ Z.Warmed39 U.vm ∧ U.heap = h0 ∧ CHv Z own_EL U.vm h0) (fun _ _ _ _ _ => True) (fun _ U o U' => ∃ v L, o = .returned v ∧ Q9_2 Z x1 x1_value y0 y1 k1 st_COMPACT_STRINGS h0 n0 v U'.heap L ∧ CHr Z own_EL U.vm U.heap U'.vm U'.heap ∧ ReturnedEndW U o U' L ({ frames := 4, cells := 10, slots := 44, locals := 62 } : Room).cells ({ frames := 4, cells := 10, slots := 44, locals := 62 } : Room).slots) := by
  refine MetFree.of_bodySF (plainFor_of_name pn_com_example_stock_stock_io_FileNames) hisR ?_
  intro p e s m args below meth c s₁ Bd hml0 hP hK
  obtain ⟨rfl, hZ, hh, CH0⟩ := hP
  have hx := Bd.exec
  have hby := Bd.bytes
  have hml : c.maxLocals = 2 := hml0
  have hown : (s.setVm s.vm).vm.findClass "com/example/stock/stock/io/FileNames" = some m.cls := findClass_of_methodNamed Bd.named
  have hnm := (name_of_methodNamed Bd.named Bd.method).1
  have X0 : Stand p l e ({ frames := 4, cells := 10, slots := 44, locals := 62 } : Room) (s.setVm s.vm) m #[(.ref x1)] below meth c s₁ [] 0 0 := Stand.of_body Bd
  have e0 : s₁.heap = h0 := by rw [← hh, Bd.state]; rfl
  have N0 := Fr.nil n0
  have K0 : Keep h0 h0 [] := Keep.refl _ _
  have pre0 : ∀ t, Steps p.tables e below (s₁.setTop (mkF m 0 #[.val (.ref x1), .unset] [])) t → Steps p.tables e below (s₁.setTop (entryFrame m #[(.ref x1)] 2)) t := fun t k => castTop (ef9_2 m x1) k
  have hZa : Z.Warmed39 (s.setVm s.vm).vm := hZ
  have howna : (s.setVm s.vm).vm.findClass "com/example/stock/stock/io/FileNames" = some m.cls := hown
  have hS0 : s.Since s.vm h0.size := (State.WarmedH.refl s).since _
  have hk0 : h0.size ≤ h0.size := Nat.le_refl _
  have CR0 : CHr Z own_EL s.vm h0 s.vm h0 := CHr.refl CH0
  obtain ⟨b163, T163, h163, k163, t163, kb163, X163, e163, E163, hS163, hk163, hZ163, hown163, Ex163, Co163, Va163, Ar163, lta163, ltb163, R163, Lt163, sep163, st163⟩ := ldcCH (s := s) (vm0 := s.vm) X0 hx hZa howna (own_wd hw 41 rfl) (own_wS hw) e0 hS0 hk0 (own_EW hw) (List.mem_of_getElem? (i := 0) rfl) CH0 (vs := [(.int (47 : Int32))]) (z := (1 : Int32)) ⟨by decide +kernel, by decide +kernel⟩ (by decide) (by decide) (g := (mkF m 1 #[.val (.ref x1), .unset] [(.ref x1)])) rfl (hb hby d9_1) (n := 4) (by decide +kernel) (by decide) (by decide) (by decide)
  have O163 : Old Z n0 h163 := O0.ext E163
  have Z163 : n0 ≤ h163.size := Nat.le_trans Z0 E163.1
  have K163 : Keep h0 h163 [] := K0.ext E163
  have CH163 : CHv Z own_EL T163.vm h163 := R163.1
  have CR163 : CHr Z own_EL s.vm h0 T163.vm h163 := CR0.trans R163
  have F164 : Fld Z h163 x1 "java/lang/String" "value" "[B" (.ref x1_value) := (F_x1_value.ext E163)
  have F165 : Fld Z h163 x1 "java/lang/String" "coder" "B" (.int (0 : Int32)) := (F_x1_coder.ext E163)
  have C166 : Exa Z h163 x1 "java/lang/String" := (E_x1.ext E163)
  have V167 : Arv Z h163 x1_value k1 .byte (2 : Int32) [(.int (y0.toInt8.toInt32)), (.int (y1.toInt8.toInt32))] (.int 0) := (V_x1.ext E163)
  obtain ⟨cq168, kq168, q168a, q168b, q168c⟩ := isOf hZ163 e163 C166
  obtain ⟨_, _, ⟨T168, L168, k168, n168⟩, -, X168, ⟨Lc168, hQ168, l168, y168, z168⟩, st168⟩ := X163.virtualBack hx (y := (⟨"java/lang/String", "contains", "(Ljava/lang/CharSequence;)Z"⟩ : MethodName)) (z := (⟨"java/lang/String", "contains", "(Ljava/lang/CharSequence;)Z"⟩ : MethodName)) hown163 (mvT hZ163 (own_wd hw 44 rfl)) (mvT hZ163 (own_wd hw 45 rfl)) (notFace_of_selects (args := #[]) (mvT hZ163 (own_wd hw 47 rfl))) (mvT hZ163 (own_wd hw 47 rfl)) (mvT hZ163 (own_wd hw 46 rfl)) (by decide) (backOf (W := 0) (rm10_2 l Z a0 hw [] x1 b163 x1_value t163 (y0.toInt8.toInt32) (y1.toInt8.toInt32) (47 : Int32) k1 kb163 st_COMPACT_STRINGS h163 n0 Z163 O163 C166 F164 F165 V167 Ex163 Va163 Co163 Ar163 S_COMPACT_STRINGS hcomp) hZ163 (own_wd hw 48 rfl) (own_wd hw 7 rfl) (by decide) (by decide)) q168a q168c (g := (mkF m 3 #[.val (.ref x1), .unset] [(.ref b163), (.ref x1)])) rfl (by rw [hml]; rfl) (Steps.refl _) (argsL := [(.ref b163)]) (rest := []) (lenOf pd_6 rfl) rfl (by show 2 * 0 + _ ≤ _; exact Nat.le_of_eq rfl) (hb hby d9_3) (fun _ _ => ⟨rfl, e163, (by decide : 2 + 0 ≤ _), (by decide : 8 + 0 ≤ _)⟩)
  dsimp only [Pt.U, Pt.locs, Pt.cells, Pt.slots] at X168 l168 y168 z168 st168 hQ168
  subst l168 y168 z168
  obtain ⟨rfl, N168q, eh168⟩ := hQ168
  have N168 := Fr.app N0 N168q
  have pre169 : ∀ t, Steps p.tables e below (T168.setTop (mkF m 6 #[.val (.ref x1), .unset] [(.int (own_b ((47 : Int32) ∈ ([(y0.toInt8.toInt32), (y1.toInt8.toInt32)] : List Int32))))])) t → Steps p.tables e below (s₁.setTop (entryFrame m #[(.ref x1)] 2)) t := by
    intro t kt
    refine pre0 t ?_
    show Steps p.tables e below (s₁.setTop (mkF m 0 #[.val (.ref x1), .unset] [])) _
    refine XS.aloadN X0.here hx rfl (hb hby d9_0) rfl rfl ?_
    show Steps p.tables e below (s₁.setTop (mkF m 1 #[.val (.ref x1), .unset] [(.ref x1)])) _
    refine st163 _ ?_
    show Steps p.tables e below (T163.setTop (mkF m 3 #[.val (.ref x1), .unset] [(.ref b163), (.ref x1)])) _
    refine st168.trans ?_
    exact kt
  by_cases hc6 : (own_b ((47 : Int32) ∈ ([(y0.toInt8.toInt32), (y1.toInt8.toInt32)] : List Int32))) = (0 : Int32)
  · skip
    have hq170 : ¬ ((47 : Int32) ∈ ([(y0.toInt8.toInt32), (y1.toInt8.toInt32)] : List Int32)) := own_b_not hc6
    obtain ⟨b171, T171, h171, k171, t171, kb171, X171, e171, E171, hS171, hk171, hZ171, hown171, Ex171, Co171, Va171, Ar171, lta171, ltb171, R171, Lt171, sep171, st171⟩ := ldcCH (s := s) (vm0 := T163.vm) X168 hx hZ163 hown163 (own_wd hw 80 rfl) (own_wS hw) eh168 hS163 hk163 (own_EW hw) (List.mem_of_getElem? (i := 1) rfl) CH163 (vs := [(.int (92 : Int32))]) (z := (1 : Int32)) ⟨by decide +kernel, by decide +kernel⟩ (by decide) (by decide) (g := (mkF m 10 #[.val (.ref x1), .unset] [(.ref x1)])) rfl (hb hby d9_10) (n := 4) (by decide +kernel) (by decide) (by decide) (by decide)
    have O171 : Old Z n0 h171 := O163.ext E171
    have Z171 : n0 ≤ h171.size := Nat.le_trans Z163 E171.1
    have K171 : Keep h0 h171 [] := K163.ext E171
    have CH171 : CHv Z own_EL T171.vm h171 := R171.1
    have CR171 : CHr Z own_EL s.vm h0 T171.vm h171 := CR163.trans R171
    have F172 : Fld Z h171 x1 "java/lang/String" "value" "[B" (.ref x1_value) := (F164.ext E171)
    have F173 : Fld Z h171 x1 "java/lang/String" "coder" "B" (.int (0 : Int32)) := (F165.ext E171)
    have C174 : Exa Z h171 x1 "java/lang/String" := (C166.ext E171)
    have V175 : Arv Z h171 x1_value k1 .byte (2 : Int32) [(.int (y0.toInt8.toInt32)), (.int (y1.toInt8.toInt32))] (.int 0) := (V167.ext E171)
    obtain ⟨cq176, kq176, q176a, q176b, q176c⟩ := isOf hZ171 e171 C174
    obtain ⟨_, _, ⟨T176, L176, k176, n176⟩, -, X176, ⟨Lc176, hQ176, l176, y176, z176⟩, st176⟩ := X171.virtualBack hx (y := (⟨"java/lang/String", "contains", "(Ljava/lang/CharSequence;)Z"⟩ : MethodName)) (z := (⟨"java/lang/String", "contains", "(Ljava/lang/CharSequence;)Z"⟩ : MethodName)) hown171 (mvT hZ171 (own_wd hw 44 rfl)) (mvT hZ171 (own_wd hw 45 rfl)) (notFace_of_selects (args := #[]) (mvT hZ171 (own_wd hw 47 rfl))) (mvT hZ171 (own_wd hw 47 rfl)) (mvT hZ171 (own_wd hw 46 rfl)) (by decide) (backOf (W := 0) (rm10_2 l Z a0 hw [] x1 b171 x1_value t171 (y0.toInt8.toInt32) (y1.toInt8.toInt32) (92 : Int32) k1 kb171 st_COMPACT_STRINGS h171 n0 Z171 O171 C174 F172 F173 V175 Ex171 Va171 Co171 Ar171 S_COMPACT_STRINGS hcomp) hZ171 (own_wd hw 48 rfl) (own_wd hw 7 rfl) (by decide) (by decide)) q176a q176c (g := (mkF m 12 #[.val (.ref x1), .unset] [(.ref b171), (.ref x1)])) rfl (by rw [hml]; rfl) (Steps.refl _) (argsL := [(.ref b171)]) (rest := []) (lenOf pd_6 rfl) rfl (by show 2 * 0 + _ ≤ _; exact Nat.le_of_eq rfl) (hb hby d9_12) (fun _ _ => ⟨rfl, e171, (by decide : 4 + 0 ≤ _), (by decide : 16 + 0 ≤ _)⟩)
    dsimp only [Pt.U, Pt.locs, Pt.cells, Pt.slots] at X176 l176 y176 z176 st176 hQ176
    subst l176 y176 z176
    obtain ⟨rfl, N176q, eh176⟩ := hQ176
    have N176 := Fr.app N168 N176q
    have pre177 : ∀ t, Steps p.tables e below (T176.setTop (mkF m 15 #[.val (.ref x1), .unset] [(.int (own_b ((92 : Int32) ∈ ([(y0.toInt8.toInt32), (y1.toInt8.toInt32)] : List Int32))))])) t → Steps p.tables e below (s₁.setTop (entryFrame m #[(.ref x1)] 2)) t := by
      intro t kt
      refine pre169 t ?_
      show Steps p.tables e below (T168.setTop (mkF m 6 #[.val (.ref x1), .unset] [(.int (own_b ((47 : Int32) ∈ ([(y0.toInt8.toInt32), (y1.toInt8.toInt32)] : List Int32))))])) _
      refine XS.ifNo X168.here hx rfl (hb hby d9_6) rfl ((if0 _ _).trans (teq hc6).2) ?_
      refine XS.aloadN X168.here hx rfl (hb hby d9_9) rfl rfl ?_
      show Steps p.tables e below (T168.setTop (mkF m 10 #[.val (.ref x1), .unset] [(.ref x1)])) _
      refine st171 _ ?_
      show Steps p.tables e below (T171.setTop (mkF m 12 #[.val (.ref x1), .unset] [(.ref b171), (.ref x1)])) _
      refine st176.trans ?_
      exact kt
    by_cases hc15 : (own_b ((92 : Int32) ∈ ([(y0.toInt8.toInt32), (y1.toInt8.toInt32)] : List Int32))) = (0 : Int32)
    · skip
      have hq178 : ¬ ((92 : Int32) ∈ ([(y0.toInt8.toInt32), (y1.toInt8.toInt32)] : List Int32)) := own_b_not hc15
      obtain ⟨b179, T179, h179, k179, t179, kb179, X179, e179, E179, hS179, hk179, hZ179, hown179, Ex179, Co179, Va179, Ar179, lta179, ltb179, R179, Lt179, sep179, st179⟩ := ldcCH (s := s) (vm0 := T171.vm) X176 hx hZ171 hown171 (own_wd hw 81 rfl) (own_wS hw) eh176 hS171 hk171 (own_EW hw) (List.mem_of_getElem? (i := 2) rfl) CH171 (vs := [(.int (58 : Int32))]) (z := (1 : Int32)) ⟨by decide +kernel, by decide +kernel⟩ (by decide) (by decide) (g := (mkF m 19 #[.val (.ref x1), .unset] [(.ref x1)])) rfl (hb hby d9_19) (n := 4) (by decide +kernel) (by decide) (by decide) (by decide)
      have O179 : Old Z n0 h179 := O171.ext E179
      have Z179 : n0 ≤ h179.size := Nat.le_trans Z171 E179.1
      have K179 : Keep h0 h179 [] := K171.ext E179
      have CH179 : CHv Z own_EL T179.vm h179 := R179.1
      have CR179 : CHr Z own_EL s.vm h0 T179.vm h179 := CR171.trans R179
      have F180 : Fld Z h179 x1 "java/lang/String" "value" "[B" (.ref x1_value) := (F172.ext E179)
      have F181 : Fld Z h179 x1 "java/lang/String" "coder" "B" (.int (0 : Int32)) := (F173.ext E179)
      have C182 : Exa Z h179 x1 "java/lang/String" := (C174.ext E179)
      have V183 : Arv Z h179 x1_value k1 .byte (2 : Int32) [(.int (y0.toInt8.toInt32)), (.int (y1.toInt8.toInt32))] (.int 0) := (V175.ext E179)
      obtain ⟨cq184, kq184, q184a, q184b, q184c⟩ := isOf hZ179 e179 C182
      obtain ⟨_, _, ⟨T184, L184, k184, n184⟩, -, X184, ⟨Lc184, hQ184, l184, y184, z184⟩, st184⟩ := X179.virtualBack hx (y := (⟨"java/lang/String", "contains", "(Ljava/lang/CharSequence;)Z"⟩ : MethodName)) (z := (⟨"java/lang/String", "contains", "(Ljava/lang/CharSequence;)Z"⟩ : MethodName)) hown179 (mvT hZ179 (own_wd hw 44 rfl)) (mvT hZ179 (own_wd hw 45 rfl)) (notFace_of_selects (args := #[]) (mvT hZ179 (own_wd hw 47 rfl))) (mvT hZ179 (own_wd hw 47 rfl)) (mvT hZ179 (own_wd hw 46 rfl)) (by decide) (backOf (W := 0) (rm10_2 l Z a0 hw [] x1 b179 x1_value t179 (y0.toInt8.toInt32) (y1.toInt8.toInt32) (58 : Int32) k1 kb179 st_COMPACT_STRINGS h179 n0 Z179 O179 C182 F180 F181 V183 Ex179 Va179 Co179 Ar179 S_COMPACT_STRINGS hcomp) hZ179 (own_wd hw 48 rfl) (own_wd hw 7 rfl) (by decide) (by decide)) q184a q184c (g := (mkF m 21 #[.val (.ref x1), .unset] [(.ref b179), (.ref x1)])) rfl (by rw [hml]; rfl) (Steps.refl _) (argsL := [(.ref b179)]) (rest := []) (lenOf pd_6 rfl) rfl (by show 2 * 0 + _ ≤ _; exact Nat.le_of_eq rfl) (hb hby d9_21) (fun _ _ => ⟨rfl, e179, (by decide : 6 + 0 ≤ _), (by decide : 24 + 0 ≤ _)⟩)
      dsimp only [Pt.U, Pt.locs, Pt.cells, Pt.slots] at X184 l184 y184 z184 st184 hQ184
      subst l184 y184 z184
      obtain ⟨rfl, N184q, eh184⟩ := hQ184
      have N184 := Fr.app N176 N184q
      have pre185 : ∀ t, Steps p.tables e below (T184.setTop (mkF m 24 #[.val (.ref x1), .unset] [(.int (own_b ((58 : Int32) ∈ ([(y0.toInt8.toInt32), (y1.toInt8.toInt32)] : List Int32))))])) t → Steps p.tables e below (s₁.setTop (entryFrame m #[(.ref x1)] 2)) t := by
        intro t kt
        refine pre177 t ?_
        show Steps p.tables e below (T176.setTop (mkF m 15 #[.val (.ref x1), .unset] [(.int (own_b ((92 : Int32) ∈ ([(y0.toInt8.toInt32), (y1.toInt8.toInt32)] : List Int32))))])) _
        refine XS.ifNo X176.here hx rfl (hb hby d9_15) rfl ((if0 _ _).trans (teq hc15).2) ?_
        refine XS.aloadN X176.here hx rfl (hb hby d9_18) rfl rfl ?_
        show Steps p.tables e below (T176.setTop (mkF m 19 #[.val (.ref x1), .unset] [(.ref x1)])) _
        refine st179 _ ?_
        show Steps p.tables e below (T179.setTop (mkF m 21 #[.val (.ref x1), .unset] [(.ref b179), (.ref x1)])) _
        refine st184.trans ?_
        exact kt
      by_cases hc24 : (own_b ((58 : Int32) ∈ ([(y0.toInt8.toInt32), (y1.toInt8.toInt32)] : List Int32))) = (0 : Int32)
      · skip
        have hq186 : ¬ ((58 : Int32) ∈ ([(y0.toInt8.toInt32), (y1.toInt8.toInt32)] : List Int32)) := own_b_not hc24
        obtain ⟨cq187, kq187, q187a, q187b, q187c⟩ := isOf hZ179 eh184 C182
        obtain ⟨_, _, ⟨T187, L187, k187, n187⟩, -, X187, ⟨Lc187, hQ187, l187, y187, z187⟩, st187⟩ := X184.virtualBack hx (y := (⟨"java/lang/String", "isEmpty", "()Z"⟩ : MethodName)) (z := (⟨"java/lang/String", "isEmpty", "()Z"⟩ : MethodName)) hown179 (mvT hZ179 (own_wd hw 82 rfl)) (mvT hZ179 (own_wd hw 83 rfl)) (notFace_of_selects (args := #[]) (mvT hZ179 (own_wd hw 85 rfl))) (mvT hZ179 (own_wd hw 85 rfl)) (mvT hZ179 (own_wd hw 84 rfl)) (by decide) (backOf (W := 0) (rm17_2 l Z a0 hw [] x1 x1_value (y0.toInt8.toInt32) (y1.toInt8.toInt32) k1 h179 n0 Z179 O179 F180 V183) hZ179 (own_wd hw 86 rfl) (own_wd hw 7 rfl) (by decide) (by decide)) q187a q187c (g := (mkF m 38 #[.val (.ref x1), .val (.int (0 : Int32))] [(.ref x1)])) rfl (by rw [hml]; rfl) (Steps.refl _) (argsL := []) (rest := []) (lenOf pd_2 rfl) rfl (by show 2 * 0 + _ ≤ _; exact Nat.le_of_eq rfl) (hb hby d9_38) (fun _ _ => ⟨rfl, eh184, (by decide : 6 + 0 ≤ _), (by decide : 24 + 0 ≤ _)⟩)
        dsimp only [Pt.U, Pt.locs, Pt.cells, Pt.slots] at X187 l187 y187 z187 st187 hQ187
        subst l187 y187 z187
        obtain ⟨rfl, N187q, eh187⟩ := hQ187
        have N187 := Fr.app N184 N187q
        obtain ⟨b188, T188, h188, k188, t188, kb188, X188, e188, E188, hS188, hk188, hZ188, hown188, Ex188, Co188, Va188, Ar188, lta188, ltb188, R188, Lt188, sep188, st188⟩ := ldcCH (s := s) (vm0 := T179.vm) X187 hx hZ179 hown179 (own_wd hw 87 rfl) (own_wS hw) eh187 hS179 hk179 (own_EW hw) (List.mem_of_getElem? (i := 3) rfl) CH179 (vs := [(.int (46 : Int32))]) (z := (1 : Int32)) ⟨by decide +kernel, by decide +kernel⟩ (by decide) (by decide) (g := (mkF m 45 #[.val (.ref x1), .val (.int (0 : Int32))] [(.ref x1)])) rfl (hb hby d9_45) (n := 4) (by decide +kernel) (by decide) (by decide) (by decide)
        have O188 : Old Z n0 h188 := O179.ext E188
        have Z188 : n0 ≤ h188.size := Nat.le_trans Z179 E188.1
        have K188 : Keep h0 h188 [] := K179.ext E188
        have CH188 : CHv Z own_EL T188.vm h188 := R188.1
        have CR188 : CHr Z own_EL s.vm h0 T188.vm h188 := CR179.trans R188
        have C189 : Exa Z h188 x1 "java/lang/String" := (C182.ext E188)
        have F190 : Fld Z h188 x1 "java/lang/String" "value" "[B" (.ref x1_value) := (F180.ext E188)
        have F191 : Fld Z h188 x1 "java/lang/String" "coder" "B" (.int (0 : Int32)) := (F181.ext E188)
        have V192 : Arv Z h188 x1_value k1 .byte (2 : Int32) [(.int (y0.toInt8.toInt32)), (.int (y1.toInt8.toInt32))] (.int 0) := (V183.ext E188)
        have cd193 : StrChars.Road.CodA ([y0, y1] : List Int32) 0 (2 : Int32) [(.int (y0.toInt8.toInt32)), (.int (y1.toInt8.toInt32))] := StrChars.Road.codOf (n := 2) rfl (fun c hc => (hp c hc).2)
        have hb194 : ∀ c ∈ ([y0, y1] : List Int32), ¬ c < 0 ∧ ¬ (65535 : Int32) < c := own_up _ hp
        have cd195 : StrChars.Road.CodA ([(46 : Int32)] : List Int32) 0 (1 : Int32) [(.int (46 : Int32))] := Or.inl ⟨rfl, by decide +kernel, by decide +kernel, by decide +kernel⟩
        have hb196 : ∀ c ∈ ([(46 : Int32)] : List Int32), ¬ c < 0 ∧ ¬ (65535 : Int32) < c := by decide +kernel
        obtain ⟨cq197, kq197, q197a, q197b, q197c⟩ := isOf hZ188 e188 C189
        obtain ⟨_, _, ⟨T197, L197, k197, n197⟩, -, X197, ⟨Lc197, hQ197, l197, y197, z197⟩, st197⟩ := X188.virtualBack hx (y := (⟨"java/lang/String", "equals", "(Ljava/lang/Object;)Z"⟩ : MethodName)) (z := (⟨"java/lang/String", "equals", "(Ljava/lang/Object;)Z"⟩ : MethodName)) hown188 (mvT hZ188 (own_wd hw 88 rfl)) (mvT hZ188 (own_wd hw 89 rfl)) (notFace_of_selects (args := #[]) (mvT hZ188 (own_wd hw 91 rfl))) (mvT hZ188 (own_wd hw 91 rfl)) (mvT hZ188 (own_wd hw 90 rfl)) (by decide) (StrChars.Road.eqW (W := 0) hZ188 (own_heq hw) (kI := 4) (own_wd hw 6 rfl) C189 F190 F191 V192 cd193 hb194 (Nat.le_of_ble_eq_true rfl) Ex188 Va188 Co188 Ar188 cd195 hb196 (Nat.le_of_ble_eq_true rfl) (S_COMPACT_STRINGS.ext O188.2) hcomp (by decide) (by decide)) q197a q197c (g := (mkF m 47 #[.val (.ref x1), .val (.int (0 : Int32))] [(.ref b188), (.ref x1)])) rfl (by rw [hml]; rfl) (Steps.refl _) (argsL := [(.ref b188)]) (rest := []) (lenOf pd_8 rfl) rfl (by show 2 * 0 + _ ≤ _; exact Nat.le_of_eq rfl) (hb hby d9_47) (fun _ _ => ⟨rfl, e188, (by decide : 8 + 0 ≤ _), (by decide : 32 + 0 ≤ _)⟩)
        dsimp only [Pt.U, Pt.locs, Pt.cells, Pt.slots] at X197 l197 y197 z197 st197 hQ197
        subst l197 y197 z197
        obtain ⟨hv197, rfl, eh197⟩ := hQ197
        have N197 := Fr.app N187 (Fr.nil n0)
        obtain rfl : _ = some (Value.int (own_b (([y0, y1] : List Int32) = ([(46 : Int32)] : List Int32)))) := by rcases hv197 with ⟨q1, q2⟩ | ⟨q1, q2⟩; exact q1.trans (by rw [own_bt q2]); exact q1.trans (by rw [own_bf q2])
        have pre198 : ∀ t, Steps p.tables e below (T197.setTop (mkF m 50 #[.val (.ref x1), .val (.int (0 : Int32))] [(.int (own_b (([y0, y1] : List Int32) = ([(46 : Int32)] : List Int32))))])) t → Steps p.tables e below (s₁.setTop (entryFrame m #[(.ref x1)] 2)) t := by
          intro t kt
          refine pre185 t ?_
          show Steps p.tables e below (T184.setTop (mkF m 24 #[.val (.ref x1), .unset] [(.int (own_b ((58 : Int32) ∈ ([(y0.toInt8.toInt32), (y1.toInt8.toInt32)] : List Int32))))])) _
          refine XS.ifYes X184.here hx rfl (pc0 := 24) (pc' := 31) rfl (hb hby d9_24) rfl ((if0 _ _).trans (teq hc24).1) (by decide) (by decide) ?_
          refine XS.iconst X184.here hx rfl (hb hby d9_31) ?_
          refine XS.istoreN X184.here hx rfl (hb hby d9_32) rfl (l' := #[.val (.ref x1), .val (.int (0 : Int32))]) rfl ?_
          refine XS.iloadN X184.here hx rfl (hb hby d9_33) rfl ?_
          refine XS.ifNo X184.here hx rfl (hb hby d9_34) rfl ((if0 _ _).trans (teq (by decide : (0 : Int32) = (0 : Int32))).2) ?_
          refine XS.aloadN X184.here hx rfl (hb hby d9_37) rfl rfl ?_
          show Steps p.tables e below (T184.setTop (mkF m 38 #[.val (.ref x1), .val (.int (0 : Int32))] [(.ref x1)])) _
          refine st187.trans ?_
          show Steps p.tables e below (T187.setTop (mkF m 41 #[.val (.ref x1), .val (.int (0 : Int32))] [(.int (0 : Int32))])) _
          refine XS.ifNo X187.here hx rfl (hb hby d9_41) rfl ((if0 _ _).trans (teq (by decide : (0 : Int32) = (0 : Int32))).2) ?_
          refine XS.aloadN X187.here hx rfl (hb hby d9_44) rfl rfl ?_
          show Steps p.tables e below (T187.setTop (mkF m 45 #[.val (.ref x1), .val (.int (0 : Int32))] [(.ref x1)])) _
          refine st188 _ ?_
          show Steps p.tables e below (T188.setTop (mkF m 47 #[.val (.ref x1), .val (.int (0 : Int32))] [(.ref b188), (.ref x1)])) _
          refine st197.trans ?_
          exact kt
        by_cases hc50 : (own_b (([y0, y1] : List Int32) = ([(46 : Int32)] : List Int32))) = (0 : Int32)
        · skip
          have hq199 : ¬ (([y0, y1] : List Int32) = ([(46 : Int32)] : List Int32)) := own_b_not hc50
          obtain ⟨b200, T200, h200, k200, t200, kb200, X200, e200, E200, hS200, hk200, hZ200, hown200, Ex200, Co200, Va200, Ar200, lta200, ltb200, R200, Lt200, sep200, st200⟩ := ldcCH (s := s) (vm0 := T188.vm) X197 hx hZ188 hown188 (own_wd hw 97 rfl) (own_wS hw) eh197 hS188 hk188 (own_EW hw) (List.mem_of_getElem? (i := 4) rfl) CH188 (vs := [(.int (46 : Int32)), (.int (46 : Int32))]) (z := (2 : Int32)) ⟨by decide +kernel, by decide +kernel⟩ (by decide) (by decide) (g := (mkF m 54 #[.val (.ref x1), .val (.int (0 : Int32))] [(.ref x1)])) rfl (hb hby d9_54) (n := 8) (by decide +kernel) (by decide) (by decide) (by decide)
          have O200 : Old Z n0 h200 := O188.ext E200
          have Z200 : n0 ≤ h200.size := Nat.le_trans Z188 E200.1
          have K200 : Keep h0 h200 [] := K188.ext E200
          have CH200 : CHv Z own_EL T200.vm h200 := R200.1
          have CR200 : CHr Z own_EL s.vm h0 T200.vm h200 := CR188.trans R200
          have C201 : Exa Z h200 x1 "java/lang/String" := (C189.ext E200)
          have F202 : Fld Z h200 x1 "java/lang/String" "value" "[B" (.ref x1_value) := (F190.ext E200)
          have F203 : Fld Z h200 x1 "java/lang/String" "coder" "B" (.int (0 : Int32)) := (F191.ext E200)
          have V204 : Arv Z h200 x1_value k1 .byte (2 : Int32) [(.int (y0.toInt8.toInt32)), (.int (y1.toInt8.toInt32))] (.int 0) := (V192.ext E200)
          have cd205 : StrChars.Road.CodA ([(46 : Int32), (46 : Int32)] : List Int32) 0 (2 : Int32) [(.int (46 : Int32)), (.int (46 : Int32))] := Or.inl ⟨rfl, by decide +kernel, by decide +kernel, by decide +kernel⟩
          have hb206 : ∀ c ∈ ([(46 : Int32), (46 : Int32)] : List Int32), ¬ c < 0 ∧ ¬ (65535 : Int32) < c := by decide +kernel
          obtain ⟨cq207, kq207, q207a, q207b, q207c⟩ := isOf hZ200 e200 C201
          obtain ⟨_, _, ⟨T207, L207, k207, n207⟩, -, X207, ⟨Lc207, hQ207, l207, y207, z207⟩, st207⟩ := X200.virtualBack hx (y := (⟨"java/lang/String", "equals", "(Ljava/lang/Object;)Z"⟩ : MethodName)) (z := (⟨"java/lang/String", "equals", "(Ljava/lang/Object;)Z"⟩ : MethodName)) hown200 (mvT hZ200 (own_wd hw 88 rfl)) (mvT hZ200 (own_wd hw 89 rfl)) (notFace_of_selects (args := #[]) (mvT hZ200 (own_wd hw 91 rfl))) (mvT hZ200 (own_wd hw 91 rfl)) (mvT hZ200 (own_wd hw 90 rfl)) (by decide) (StrChars.Road.eqW (W := 0) hZ200 (own_heq hw) (kI := 4) (own_wd hw 6 rfl) C201 F202 F203 V204 cd193 hb194 (Nat.le_of_ble_eq_true rfl) Ex200 Va200 Co200 Ar200 cd205 hb206 (Nat.le_of_ble_eq_true rfl) (S_COMPACT_STRINGS.ext O200.2) hcomp (by decide) (by decide)) q207a q207c (g := (mkF m 56 #[.val (.ref x1), .val (.int (0 : Int32))] [(.ref b200), (.ref x1)])) rfl (by rw [hml]; rfl) (Steps.refl _) (argsL := [(.ref b200)]) (rest := []) (lenOf pd_8 rfl) rfl (by show 2 * 0 + _ ≤ _; exact Nat.le_of_eq rfl) (hb hby d9_56) (fun _ _ => ⟨rfl, e200, (by decide : 10 + 0 ≤ _), (by decide : 44 + 0 ≤ _)⟩)
          dsimp only [Pt.U, Pt.locs, Pt.cells, Pt.slots] at X207 l207 y207 z207 st207 hQ207
          subst l207 y207 z207
          obtain ⟨hv207, rfl, eh207⟩ := hQ207
          have N207 := Fr.app N197 (Fr.nil n0)
          obtain rfl : _ = some (Value.int (own_b (([y0, y1] : List Int32) = ([(46 : Int32), (46 : Int32)] : List Int32)))) := by rcases hv207 with ⟨q1, q2⟩ | ⟨q1, q2⟩; exact q1.trans (by rw [own_bt q2]); exact q1.trans (by rw [own_bf q2])
          have pre208 : ∀ t, Steps p.tables e below (T207.setTop (mkF m 59 #[.val (.ref x1), .val (.int (0 : Int32))] [(.int (own_b (([y0, y1] : List Int32) = ([(46 : Int32), (46 : Int32)] : List Int32))))])) t → Steps p.tables e below (s₁.setTop (entryFrame m #[(.ref x1)] 2)) t := by
            intro t kt
            refine pre198 t ?_
            show Steps p.tables e below (T197.setTop (mkF m 50 #[.val (.ref x1), .val (.int (0 : Int32))] [(.int (own_b (([y0, y1] : List Int32) = ([(46 : Int32)] : List Int32))))])) _
            refine XS.ifNo X197.here hx rfl (hb hby d9_50) rfl ((if0 _ _).trans (teq hc50).2) ?_
            refine XS.aloadN X197.here hx rfl (hb hby d9_53) rfl rfl ?_
            show Steps p.tables e below (T197.setTop (mkF m 54 #[.val (.ref x1), .val (.int (0 : Int32))] [(.ref x1)])) _
            refine st200 _ ?_
            show Steps p.tables e below (T200.setTop (mkF m 56 #[.val (.ref x1), .val (.int (0 : Int32))] [(.ref b200), (.ref x1)])) _
            refine st207.trans ?_
            exact kt
          by_cases hc59 : (own_b (([y0, y1] : List Int32) = ([(46 : Int32), (46 : Int32)] : List Int32))) = (0 : Int32)
          · skip
            have hq209 : ¬ (([y0, y1] : List Int32) = ([(46 : Int32), (46 : Int32)] : List Int32)) := own_b_not hc59
            obtain ⟨fs, hr, hrun, hended, hW, hsame⟩ := X207.leave (v := some (.int (1 : Int32))) (fun h => by rw [Bd.returns] at h; cases h)
            have hend := hS200.ended hW (show _ ≤ T207.heap.size from by rw [eh207]; exact hk200) hsame
            have hcr : CHr Z own_EL s.vm s.heap T207.vm T207.heap := by
              rw [hh, eh207]
              exact CR200.trans (CHv.at X207 hZ200 (own_EW hw) CH200)
            refine ⟨_, _, pre208 _ ?_, hrun, hended, _, _, rfl, ?_, hcr, ⟨_, rfl⟩, hend.1, hend.2.1, hend.2.2.mono (by decide) (by decide)⟩
            · show Steps p.tables e below (T207.setTop (mkF m 59 #[.val (.ref x1), .val (.int (0 : Int32))] [(.int (own_b (([y0, y1] : List Int32) = ([(46 : Int32), (46 : Int32)] : List Int32))))])) _
              refine XS.ifNo X207.here hx rfl (hb hby d9_59) rfl ((if0 _ _).trans (teq hc59).2) ?_
              refine XS.iconst X207.here hx rfl (hb hby d9_62) ?_
              refine XS.goto X207.here hx rfl (pc0 := 63) (pc' := 67) rfl (hb hby d9_63) (by decide) (by decide) ?_
              show Steps p.tables e below (T207.setTop (mkF m 67 #[.val (.ref x1), .val (.int (0 : Int32))] [(.int (1 : Int32))])) _
              exact retN X207 hx (t := .boolean) Bd.returns (by simp) (hb hby d9_67) hr
            · show Q9_2 Z x1 x1_value y0 y1 k1 st_COMPACT_STRINGS h0 n0 _ T207.heap _
              rw [eh207]
              exact ⟨(by rw [own_bt ⟨(fun q => nomatch q), hq170, hq178, hq186, hq199, hq209⟩]; try rfl), N207, K200⟩
          · skip
            have hq210 : ([y0, y1] : List Int32) = ([(46 : Int32), (46 : Int32)] : List Int32) := own_b_of hc59
            obtain ⟨fs, hr, hrun, hended, hW, hsame⟩ := X207.leave (v := some (.int (0 : Int32))) (fun h => by rw [Bd.returns] at h; cases h)
            have hend := hS200.ended hW (show _ ≤ T207.heap.size from by rw [eh207]; exact hk200) hsame
            have hcr : CHr Z own_EL s.vm s.heap T207.vm T207.heap := by
              rw [hh, eh207]
              exact CR200.trans (CHv.at X207 hZ200 (own_EW hw) CH200)
            refine ⟨_, _, pre208 _ ?_, hrun, hended, _, _, rfl, ?_, hcr, ⟨_, rfl⟩, hend.1, hend.2.1, hend.2.2.mono (by decide) (by decide)⟩
            · show Steps p.tables e below (T207.setTop (mkF m 59 #[.val (.ref x1), .val (.int (0 : Int32))] [(.int (own_b (([y0, y1] : List Int32) = ([(46 : Int32), (46 : Int32)] : List Int32))))])) _
              refine XS.ifYes X207.here hx rfl (pc0 := 59) (pc' := 66) rfl (hb hby d9_59) rfl ((if0 _ _).trans (feq hc59).2) (by decide) (by decide) ?_
              refine XS.iconst X207.here hx rfl (hb hby d9_66) ?_
              show Steps p.tables e below (T207.setTop (mkF m 67 #[.val (.ref x1), .val (.int (0 : Int32))] [(.int (0 : Int32))])) _
              exact retN X207 hx (t := .boolean) Bd.returns (by simp) (hb hby d9_67) hr
            · show Q9_2 Z x1 x1_value y0 y1 k1 st_COMPACT_STRINGS h0 n0 _ T207.heap _
              rw [eh207]
              exact ⟨(by rw [own_bf (fun q => q.2.2.2.2.2 hq210)]; try rfl), N207, K200⟩
        · skip
          have hq211 : ([y0, y1] : List Int32) = ([(46 : Int32)] : List Int32) := own_b_of hc50
          obtain ⟨fs, hr, hrun, hended, hW, hsame⟩ := X197.leave (v := some (.int (0 : Int32))) (fun h => by rw [Bd.returns] at h; cases h)
          have hend := hS188.ended hW (show _ ≤ T197.heap.size from by rw [eh197]; exact hk188) hsame
          have hcr : CHr Z own_EL s.vm s.heap T197.vm T197.heap := by
            rw [hh, eh197]
            exact CR188.trans (CHv.at X197 hZ188 (own_EW hw) CH188)
          refine ⟨_, _, pre198 _ ?_, hrun, hended, _, _, rfl, ?_, hcr, ⟨_, rfl⟩, hend.1, hend.2.1, hend.2.2.mono (by decide) (by decide)⟩
          · show Steps p.tables e below (T197.setTop (mkF m 50 #[.val (.ref x1), .val (.int (0 : Int32))] [(.int (own_b (([y0, y1] : List Int32) = ([(46 : Int32)] : List Int32))))])) _
            refine XS.ifYes X197.here hx rfl (pc0 := 50) (pc' := 66) rfl (hb hby d9_50) rfl ((if0 _ _).trans (feq hc50).2) (by decide) (by decide) ?_
            refine XS.iconst X197.here hx rfl (hb hby d9_66) ?_
            show Steps p.tables e below (T197.setTop (mkF m 67 #[.val (.ref x1), .val (.int (0 : Int32))] [(.int (0 : Int32))])) _
            exact retN X197 hx (t := .boolean) Bd.returns (by simp) (hb hby d9_67) hr
          · show Q9_2 Z x1 x1_value y0 y1 k1 st_COMPACT_STRINGS h0 n0 _ T197.heap _
            rw [eh197]
            exact ⟨(by rw [own_bf (fun q => q.2.2.2.2.1 hq211)]; try rfl), N197, K188⟩
      · skip
        have hq212 : (58 : Int32) ∈ ([(y0.toInt8.toInt32), (y1.toInt8.toInt32)] : List Int32) := own_b_of hc24
        obtain ⟨fs, hr, hrun, hended, hW, hsame⟩ := X184.leave (v := some (.int (0 : Int32))) (fun h => by rw [Bd.returns] at h; cases h)
        have hend := hS179.ended hW (show _ ≤ T184.heap.size from by rw [eh184]; exact hk179) hsame
        have hcr : CHr Z own_EL s.vm s.heap T184.vm T184.heap := by
          rw [hh, eh184]
          exact CR179.trans (CHv.at X184 hZ179 (own_EW hw) CH179)
        refine ⟨_, _, pre185 _ ?_, hrun, hended, _, _, rfl, ?_, hcr, ⟨_, rfl⟩, hend.1, hend.2.1, hend.2.2.mono (by decide) (by decide)⟩
        · show Steps p.tables e below (T184.setTop (mkF m 24 #[.val (.ref x1), .unset] [(.int (own_b ((58 : Int32) ∈ ([(y0.toInt8.toInt32), (y1.toInt8.toInt32)] : List Int32))))])) _
          refine XS.ifNo X184.here hx rfl (hb hby d9_24) rfl ((if0 _ _).trans (feq hc24).1) ?_
          refine XS.iconst X184.here hx rfl (hb hby d9_27) ?_
          refine XS.goto X184.here hx rfl (pc0 := 28) (pc' := 32) rfl (hb hby d9_28) (by decide) (by decide) ?_
          refine XS.istoreN X184.here hx rfl (hb hby d9_32) rfl (l' := #[.val (.ref x1), .val (.int (1 : Int32))]) rfl ?_
          refine XS.iloadN X184.here hx rfl (hb hby d9_33) rfl ?_
          refine XS.ifYes X184.here hx rfl (pc0 := 34) (pc' := 66) rfl (hb hby d9_34) rfl ((if0 _ _).trans (feq (by decide : ¬ ((1 : Int32) = (0 : Int32)))).2) (by decide) (by decide) ?_
          show Steps p.tables e below (T184.setTop (mkF m 66 #[.val (.ref x1), .val (.int (1 : Int32))] [])) _
          refine XS.iconst X184.here hx rfl (hb hby d9_66) ?_
          show Steps p.tables e below (T184.setTop (mkF m 67 #[.val (.ref x1), .val (.int (1 : Int32))] [(.int (0 : Int32))])) _
          exact retN X184 hx (t := .boolean) Bd.returns (by simp) (hb hby d9_67) hr
        · show Q9_2 Z x1 x1_value y0 y1 k1 st_COMPACT_STRINGS h0 n0 _ T184.heap _
          rw [eh184]
          exact ⟨(by rw [own_bf (fun q => q.2.2.2.1 hq212)]; try rfl), N184, K179⟩
    · skip
      have hq213 : (92 : Int32) ∈ ([(y0.toInt8.toInt32), (y1.toInt8.toInt32)] : List Int32) := own_b_of hc15
      obtain ⟨fs, hr, hrun, hended, hW, hsame⟩ := X176.leave (v := some (.int (0 : Int32))) (fun h => by rw [Bd.returns] at h; cases h)
      have hend := hS171.ended hW (show _ ≤ T176.heap.size from by rw [eh176]; exact hk171) hsame
      have hcr : CHr Z own_EL s.vm s.heap T176.vm T176.heap := by
        rw [hh, eh176]
        exact CR171.trans (CHv.at X176 hZ171 (own_EW hw) CH171)
      refine ⟨_, _, pre177 _ ?_, hrun, hended, _, _, rfl, ?_, hcr, ⟨_, rfl⟩, hend.1, hend.2.1, hend.2.2.mono (by decide) (by decide)⟩
      · show Steps p.tables e below (T176.setTop (mkF m 15 #[.val (.ref x1), .unset] [(.int (own_b ((92 : Int32) ∈ ([(y0.toInt8.toInt32), (y1.toInt8.toInt32)] : List Int32))))])) _
        refine XS.ifYes X176.here hx rfl (pc0 := 15) (pc' := 27) rfl (hb hby d9_15) rfl ((if0 _ _).trans (feq hc15).2) (by decide) (by decide) ?_
        refine XS.iconst X176.here hx rfl (hb hby d9_27) ?_
        refine XS.goto X176.here hx rfl (pc0 := 28) (pc' := 32) rfl (hb hby d9_28) (by decide) (by decide) ?_
        refine XS.istoreN X176.here hx rfl (hb hby d9_32) rfl (l' := #[.val (.ref x1), .val (.int (1 : Int32))]) rfl ?_
        refine XS.iloadN X176.here hx rfl (hb hby d9_33) rfl ?_
        refine XS.ifYes X176.here hx rfl (pc0 := 34) (pc' := 66) rfl (hb hby d9_34) rfl ((if0 _ _).trans (feq (by decide : ¬ ((1 : Int32) = (0 : Int32)))).2) (by decide) (by decide) ?_
        show Steps p.tables e below (T176.setTop (mkF m 66 #[.val (.ref x1), .val (.int (1 : Int32))] [])) _
        refine XS.iconst X176.here hx rfl (hb hby d9_66) ?_
        show Steps p.tables e below (T176.setTop (mkF m 67 #[.val (.ref x1), .val (.int (1 : Int32))] [(.int (0 : Int32))])) _
        exact retN X176 hx (t := .boolean) Bd.returns (by simp) (hb hby d9_67) hr
      · show Q9_2 Z x1 x1_value y0 y1 k1 st_COMPACT_STRINGS h0 n0 _ T176.heap _
        rw [eh176]
        exact ⟨(by rw [own_bf (fun q => q.2.2.1 hq213)]; try rfl), N176, K171⟩
  · skip
    have hq214 : (47 : Int32) ∈ ([(y0.toInt8.toInt32), (y1.toInt8.toInt32)] : List Int32) := own_b_of hc6
    obtain ⟨fs, hr, hrun, hended, hW, hsame⟩ := X168.leave (v := some (.int (0 : Int32))) (fun h => by rw [Bd.returns] at h; cases h)
    have hend := hS163.ended hW (show _ ≤ T168.heap.size from by rw [eh168]; exact hk163) hsame
    have hcr : CHr Z own_EL s.vm s.heap T168.vm T168.heap := by
      rw [hh, eh168]
      exact CR163.trans (CHv.at X168 hZ163 (own_EW hw) CH163)
    refine ⟨_, _, pre169 _ ?_, hrun, hended, _, _, rfl, ?_, hcr, ⟨_, rfl⟩, hend.1, hend.2.1, hend.2.2.mono (by decide) (by decide)⟩
    · show Steps p.tables e below (T168.setTop (mkF m 6 #[.val (.ref x1), .unset] [(.int (own_b ((47 : Int32) ∈ ([(y0.toInt8.toInt32), (y1.toInt8.toInt32)] : List Int32))))])) _
      refine XS.ifYes X168.here hx rfl (pc0 := 6) (pc' := 27) rfl (hb hby d9_6) rfl ((if0 _ _).trans (feq hc6).2) (by decide) (by decide) ?_
      refine XS.iconst X168.here hx rfl (hb hby d9_27) ?_
      refine XS.goto X168.here hx rfl (pc0 := 28) (pc' := 32) rfl (hb hby d9_28) (by decide) (by decide) ?_
      refine XS.istoreN X168.here hx rfl (hb hby d9_32) rfl (l' := #[.val (.ref x1), .val (.int (1 : Int32))]) rfl ?_
      refine XS.iloadN X168.here hx rfl (hb hby d9_33) rfl ?_
      refine XS.ifYes X168.here hx rfl (pc0 := 34) (pc' := 66) rfl (hb hby d9_34) rfl ((if0 _ _).trans (feq (by decide : ¬ ((1 : Int32) = (0 : Int32)))).2) (by decide) (by decide) ?_
      show Steps p.tables e below (T168.setTop (mkF m 66 #[.val (.ref x1), .val (.int (1 : Int32))] [])) _
      refine XS.iconst X168.here hx rfl (hb hby d9_66) ?_
      show Steps p.tables e below (T168.setTop (mkF m 67 #[.val (.ref x1), .val (.int (1 : Int32))] [(.int (0 : Int32))])) _
      exact retN X168 hx (t := .boolean) Bd.returns (by simp) (hb hby d9_67) hr
    · show Q9_2 Z x1 x1_value y0 y1 k1 st_COMPACT_STRINGS h0 n0 _ T168.heap _
      rw [eh168]
      exact ⟨(by rw [own_bf (fun q => q.2.1 hq214)]; try rfl), N168, K163⟩
theorem ef16_3 (m : MethodId) (x1 : Addr) (x3 : Addr) : entryFrame m #[(.ref x1), (.int (3 : Int32)), (.ref x3), (.int (1 : Int32)), (.int (0 : Int32))] 11 = mkF m 0 #[.val (.ref x1), .val (.int (3 : Int32)), .val (.ref x3), .val (.int (1 : Int32)), .val (.int (0 : Int32)), .unset, .unset, .unset, .unset, .unset, .unset] [] := by first | (simp [entryFrame, mkF, argsToLocals, Value.category]; done) | rfl
def Q16_3 (Z : State) (x1 : Addr) (x3 : Addr) (z0 : Int32) (z1 : Int32) (z2 : Int32) (d : Int32) (k1 : ClassId) (k2 : ClassId) (h0 : Heap) (n0 : Nat) (v : Option Value) (h : Heap) (L : List Loc) : Prop := ∃ (r : Int32), v = some (.int r) ∧ Fr n0 L ∧ h = h0 ∧ ((r < (0 : Int32)) ↔ ¬ (d ∈ ([z0, z1, z2] : List Int32)))
set_option maxRecDepth 65536 in
set_option maxHeartbeats 40000000 in
theorem rm16_3 (l : Launch) (Z : State) (a0 : Array Value) (hw : ∀ d ∈ tables_1, d.before a0 Z = true) (ws : List Jvm.Cond) (x1 : Addr) (x3 : Addr) (z0 : Int32) (z1 : Int32) (z2 : Int32) (d : Int32) (k1 : ClassId) (k2 : ClassId) (h0 : Heap) (n0 : Nat) (Z0 : n0 ≤ h0.size) (O0 : Old Z n0 h0) (V_x1 : Arv Z h0 x1 k1 .byte (3 : Int32) [(.int z0), (.int z1), (.int z2)] (.int 0)) (V_x3 : Arv Z h0 x3 k2 .byte (1 : Int32) [(.int d)] (.int 0)) :
    MetFree l (⟨"java/lang/StringLatin1", "indexOf", "([BI[BII)I"⟩ : MethodName) (head1 (Jvm.Cond.code (⟨"java/lang/StringLatin1", "indexOf", "([BI[BII)I"⟩ : MethodName) jdk_43_method_25_code 11 (some .int) :: ws) ({ frames := 0, cells := 0, slots := 0, locals := 0 } : Room)) (fun a U => a = #[(.ref x1), (.int (3 : Int32)), (.ref x3), (.int (1 : Int32)), (.int (0 : Int32))] ∧ Z.Warmed39 U.vm ∧ U.heap = h0) (fun _ _ _ _ _ => True) (fun _ U o U' => ∃ v L, o = .returned v ∧ Q16_3 Z x1 x3 z0 z1 z2 d k1 k2 h0 n0 v U'.heap L ∧ FrameEnd U o U' L ({ frames := 0, cells := 0, slots := 0, locals := 0 } : Room).cells ({ frames := 0, cells := 0, slots := 0, locals := 0 } : Room).slots) := by
  refine MetFree.of_bodySF (plainFor_of_name pn_java_lang_StringLatin1) hisR ?_
  intro p e s m args below meth c s₁ Bd hml0 hP hK
  obtain ⟨rfl, hZ, hh⟩ := hP
  have hx := Bd.exec
  have hby := Bd.bytes
  have hml : c.maxLocals = 11 := hml0
  have hown : s.vm.findClass "java/lang/StringLatin1" = some m.cls := findClass_of_methodNamed Bd.named
  have hnm := (name_of_methodNamed Bd.named Bd.method).1
  have X0 : Stand p l e ({ frames := 0, cells := 0, slots := 0, locals := 0 } : Room) s m #[(.ref x1), (.int (3 : Int32)), (.ref x3), (.int (1 : Int32)), (.int (0 : Int32))] below meth c s₁ [] 0 0 := Stand.of_body Bd
  have e0 : s₁.heap = h0 := by rw [← hh, Bd.state]; rfl
  have N0 := Fr.nil n0
  have K0 : Keep h0 h0 [] := Keep.refl _ _
  have pre0 : ∀ t, Steps p.tables e below (s₁.setTop (mkF m 0 #[.val (.ref x1), .val (.int (3 : Int32)), .val (.ref x3), .val (.int (1 : Int32)), .val (.int (0 : Int32)), .unset, .unset, .unset, .unset, .unset, .unset] [])) t → Steps p.tables e below (s₁.setTop (entryFrame m #[(.ref x1), (.int (3 : Int32)), (.ref x3), (.int (1 : Int32)), (.int (0 : Int32))] 11)) t := fun t k => castTop (ef16_3 m x1 x3) k
  obtain ⟨cl_a215, Ar_a215, -, S_a215, N_a215, H_a215, -⟩ := id V_x3
  have hin_a215 : ¬ ((0 : Int32) < 0 ∨ cl_a215.slots.size ≤ ((0 : Int32)).toNatClampNeg) := inb_of S_a215 ⟨by decide, by decide⟩
  have hat_a215 : cl_a215.slots[((0 : Int32)).toNatClampNeg]? = some (.int d) := H_a215.at hin_a215 rfl
  obtain ⟨cl_a216, Ar_a216, -, S_a216, N_a216, H_a216, -⟩ := id V_x1
  have hin_a216 : ¬ ((0 : Int32) < 0 ∨ cl_a216.slots.size ≤ ((0 : Int32)).toNatClampNeg) := inb_of S_a216 ⟨by decide, by decide⟩
  have hat_a216 : cl_a216.slots[((0 : Int32)).toNatClampNeg]? = some (.int z0) := H_a216.at hin_a216 rfl
  have pre217 : ∀ t, Steps p.tables e below (s₁.setTop (mkF m 27 #[.val (.ref x1), .val (.int (3 : Int32)), .val (.ref x3), .val (.int (1 : Int32)), .val (.int (0 : Int32)), .val (.int d), .val (.int ((3 : Int32) - (1 : Int32))), .val (.int (0 : Int32)), .unset, .unset, .unset] [(.int d), (.int z0)])) t → Steps p.tables e below (s₁.setTop (entryFrame m #[(.ref x1), (.int (3 : Int32)), (.ref x3), (.int (1 : Int32)), (.int (0 : Int32))] 11)) t := by
    intro t kt
    refine pre0 t ?_
    show Steps p.tables e below (s₁.setTop (mkF m 0 #[.val (.ref x1), .val (.int (3 : Int32)), .val (.ref x3), .val (.int (1 : Int32)), .val (.int (0 : Int32)), .unset, .unset, .unset, .unset, .unset, .unset] [])) _
    refine XS.aloadN X0.here hx rfl (hb hby d16_0) rfl rfl ?_
    refine XS.iconst X0.here hx rfl (hb hby d16_1) ?_
    show Steps p.tables e below (s₁.setTop (mkF m 2 #[.val (.ref x1), .val (.int (3 : Int32)), .val (.ref x3), .val (.int (1 : Int32)), .val (.int (0 : Int32)), .unset, .unset, .unset, .unset, .unset, .unset] [(.int (0 : Int32)), (.ref x3)])) _
    refine X0.baloadBytes hx (j := (0 : Int32)) (v := (.int d)) (by rw [e0]; exact Ar_a215.1) (State.isArrayOf_alike hZ.alike Ar_a215.2.1) Ar_a215.2.2 hin_a215 hat_a215 (g := (mkF m 2 #[.val (.ref x1), .val (.int (3 : Int32)), .val (.ref x3), .val (.int (1 : Int32)), .val (.int (0 : Int32)), .unset, .unset, .unset, .unset, .unset, .unset] [(.int (0 : Int32)), (.ref x3)])) rfl rfl (hb hby d16_2) _ ?_
    refine XS.istore X0.here hx rfl (hb hby d16_3) rfl (l' := #[.val (.ref x1), .val (.int (3 : Int32)), .val (.ref x3), .val (.int (1 : Int32)), .val (.int (0 : Int32)), .val (.int d), .unset, .unset, .unset, .unset, .unset]) rfl ?_
    refine XS.iloadN X0.here hx rfl (hb hby d16_5) rfl ?_
    refine XS.iloadN X0.here hx rfl (hb hby d16_6) rfl ?_
    refine XS.isub X0.here hx rfl (hb hby d16_7) rfl ?_
    refine XS.istore X0.here hx rfl (hb hby d16_8) rfl (l' := #[.val (.ref x1), .val (.int (3 : Int32)), .val (.ref x3), .val (.int (1 : Int32)), .val (.int (0 : Int32)), .val (.int d), .val (.int ((3 : Int32) - (1 : Int32))), .unset, .unset, .unset, .unset]) rfl ?_
    show Steps p.tables e below (s₁.setTop (mkF m 10 #[.val (.ref x1), .val (.int (3 : Int32)), .val (.ref x3), .val (.int (1 : Int32)), .val (.int (0 : Int32)), .val (.int d), .val (.int ((3 : Int32) - (1 : Int32))), .unset, .unset, .unset, .unset] [])) _
    refine XS.iload X0.here hx rfl (hb hby d16_10) rfl ?_
    refine XS.istore X0.here hx rfl (hb hby d16_12) rfl (l' := #[.val (.ref x1), .val (.int (3 : Int32)), .val (.ref x3), .val (.int (1 : Int32)), .val (.int (0 : Int32)), .val (.int d), .val (.int ((3 : Int32) - (1 : Int32))), .val (.int (0 : Int32)), .unset, .unset, .unset]) rfl ?_
    refine XS.iload X0.here hx rfl (hb hby d16_14) rfl ?_
    refine XS.iload X0.here hx rfl (hb hby d16_16) rfl ?_
    refine XS.icmpNo X0.here hx rfl (hb hby d16_18) rfl (flt (by decide : ¬ (((3 : Int32) - (1 : Int32)) < (0 : Int32)))).2.2.1 ?_
    refine XS.aloadN X0.here hx rfl (hb hby d16_21) rfl rfl ?_
    show Steps p.tables e below (s₁.setTop (mkF m 22 #[.val (.ref x1), .val (.int (3 : Int32)), .val (.ref x3), .val (.int (1 : Int32)), .val (.int (0 : Int32)), .val (.int d), .val (.int ((3 : Int32) - (1 : Int32))), .val (.int (0 : Int32)), .unset, .unset, .unset] [(.ref x1)])) _
    refine XS.iload X0.here hx rfl (hb hby d16_22) rfl ?_
    show Steps p.tables e below (s₁.setTop (mkF m 24 #[.val (.ref x1), .val (.int (3 : Int32)), .val (.ref x3), .val (.int (1 : Int32)), .val (.int (0 : Int32)), .val (.int d), .val (.int ((3 : Int32) - (1 : Int32))), .val (.int (0 : Int32)), .unset, .unset, .unset] [(.int (0 : Int32)), (.ref x1)])) _
    refine X0.baloadBytes hx (j := (0 : Int32)) (v := (.int z0)) (by rw [e0]; exact Ar_a216.1) (State.isArrayOf_alike hZ.alike Ar_a216.2.1) Ar_a216.2.2 hin_a216 hat_a216 (g := (mkF m 24 #[.val (.ref x1), .val (.int (3 : Int32)), .val (.ref x3), .val (.int (1 : Int32)), .val (.int (0 : Int32)), .val (.int d), .val (.int ((3 : Int32) - (1 : Int32))), .val (.int (0 : Int32)), .unset, .unset, .unset] [(.int (0 : Int32)), (.ref x1)])) rfl rfl (hb hby d16_24) _ ?_
    refine XS.iload X0.here hx rfl (hb hby d16_25) rfl ?_
    exact kt
  by_cases hc27 : z0 = d
  · skip
    obtain ⟨fs, hr, hrun, hended, hW, hsame⟩ := X0.leave (v := some (.int (0 : Int32))) (fun h => by rw [Bd.returns] at h; cases h)
    refine ⟨_, _, pre217 _ ?_, hrun, hended, _, _, rfl, ?_, ⟨_, rfl⟩, hW, hsame.mono (by decide) (by decide)⟩
    · show Steps p.tables e below (s₁.setTop (mkF m 27 #[.val (.ref x1), .val (.int (3 : Int32)), .val (.ref x3), .val (.int (1 : Int32)), .val (.int (0 : Int32)), .val (.int d), .val (.int ((3 : Int32) - (1 : Int32))), .val (.int (0 : Int32)), .unset, .unset, .unset] [(.int d), (.int z0)])) _
      refine XS.icmpYes X0.here hx rfl (pc0 := 27) (pc' := 52) rfl (hb hby d16_27) rfl (teq hc27).1 (by decide) (by decide) ?_
      refine XS.iload X0.here hx rfl (hb hby d16_52) rfl ?_
      refine XS.iload X0.here hx rfl (hb hby d16_54) rfl ?_
      refine XS.icmpNo X0.here hx rfl (hb hby d16_56) rfl (flt (by decide : ¬ (((3 : Int32) - (1 : Int32)) < (0 : Int32)))).2.2.1 ?_
      show Steps p.tables e below (s₁.setTop (mkF m 59 #[.val (.ref x1), .val (.int (3 : Int32)), .val (.ref x3), .val (.int (1 : Int32)), .val (.int (0 : Int32)), .val (.int d), .val (.int ((3 : Int32) - (1 : Int32))), .val (.int (0 : Int32)), .unset, .unset, .unset] [])) _
      refine XS.iload X0.here hx rfl (hb hby d16_59) rfl ?_
      refine XS.iconst X0.here hx rfl (hb hby d16_61) ?_
      refine XS.iadd X0.here hx rfl (hb hby d16_62) rfl ?_
      refine XS.istore X0.here hx rfl (hb hby d16_63) rfl (l' := #[.val (.ref x1), .val (.int (3 : Int32)), .val (.ref x3), .val (.int (1 : Int32)), .val (.int (0 : Int32)), .val (.int d), .val (.int ((3 : Int32) - (1 : Int32))), .val (.int (0 : Int32)), .val (.int ((0 : Int32) + (1 : Int32))), .unset, .unset]) rfl ?_
      refine XS.iload X0.here hx rfl (hb hby d16_65) rfl ?_
      refine XS.iloadN X0.here hx rfl (hb hby d16_67) rfl ?_
      show Steps p.tables e below (s₁.setTop (mkF m 68 #[.val (.ref x1), .val (.int (3 : Int32)), .val (.ref x3), .val (.int (1 : Int32)), .val (.int (0 : Int32)), .val (.int d), .val (.int ((3 : Int32) - (1 : Int32))), .val (.int (0 : Int32)), .val (.int ((0 : Int32) + (1 : Int32))), .unset, .unset] [(.int (1 : Int32)), (.int ((0 : Int32) + (1 : Int32)))])) _
      refine XS.iadd X0.here hx rfl (hb hby d16_68) rfl ?_
      refine XS.iconst X0.here hx rfl (hb hby d16_69) ?_
      refine XS.isub X0.here hx rfl (hb hby d16_70) rfl ?_
      refine XS.istore X0.here hx rfl (hb hby d16_71) rfl (l' := #[.val (.ref x1), .val (.int (3 : Int32)), .val (.ref x3), .val (.int (1 : Int32)), .val (.int (0 : Int32)), .val (.int d), .val (.int ((3 : Int32) - (1 : Int32))), .val (.int (0 : Int32)), .val (.int ((0 : Int32) + (1 : Int32))), .val (.int ((((0 : Int32) + (1 : Int32)) + (1 : Int32)) - (1 : Int32))), .unset]) rfl ?_
      refine XS.iconst X0.here hx rfl (hb hby d16_73) ?_
      refine XS.istore X0.here hx rfl (hb hby d16_74) rfl (l' := #[.val (.ref x1), .val (.int (3 : Int32)), .val (.ref x3), .val (.int (1 : Int32)), .val (.int (0 : Int32)), .val (.int d), .val (.int ((3 : Int32) - (1 : Int32))), .val (.int (0 : Int32)), .val (.int ((0 : Int32) + (1 : Int32))), .val (.int ((((0 : Int32) + (1 : Int32)) + (1 : Int32)) - (1 : Int32))), .val (.int (1 : Int32))]) rfl ?_
      show Steps p.tables e below (s₁.setTop (mkF m 76 #[.val (.ref x1), .val (.int (3 : Int32)), .val (.ref x3), .val (.int (1 : Int32)), .val (.int (0 : Int32)), .val (.int d), .val (.int ((3 : Int32) - (1 : Int32))), .val (.int (0 : Int32)), .val (.int ((0 : Int32) + (1 : Int32))), .val (.int ((((0 : Int32) + (1 : Int32)) + (1 : Int32)) - (1 : Int32))), .val (.int (1 : Int32))] [])) _
      refine XS.iload X0.here hx rfl (hb hby d16_76) rfl ?_
      refine XS.iload X0.here hx rfl (hb hby d16_78) rfl ?_
      refine XS.icmpYes X0.here hx rfl (pc0 := 80) (pc' := 103) rfl (hb hby d16_80) rfl (flt (by decide : ¬ (((0 : Int32) + (1 : Int32)) < ((((0 : Int32) + (1 : Int32)) + (1 : Int32)) - (1 : Int32))))).2.1 (by decide) (by decide) ?_
      refine XS.iload X0.here hx rfl (hb hby d16_103) rfl ?_
      refine XS.iload X0.here hx rfl (hb hby d16_105) rfl ?_
      refine XS.icmpNo X0.here hx rfl (hb hby d16_107) rfl (teq (by decide : ((0 : Int32) + (1 : Int32)) = ((((0 : Int32) + (1 : Int32)) + (1 : Int32)) - (1 : Int32)))).2 ?_
      show Steps p.tables e below (s₁.setTop (mkF m 110 #[.val (.ref x1), .val (.int (3 : Int32)), .val (.ref x3), .val (.int (1 : Int32)), .val (.int (0 : Int32)), .val (.int d), .val (.int ((3 : Int32) - (1 : Int32))), .val (.int (0 : Int32)), .val (.int ((0 : Int32) + (1 : Int32))), .val (.int ((((0 : Int32) + (1 : Int32)) + (1 : Int32)) - (1 : Int32))), .val (.int (1 : Int32))] [])) _
      refine XS.iload X0.here hx rfl (hb hby d16_110) rfl ?_
      show Steps p.tables e below (s₁.setTop (mkF m 112 #[.val (.ref x1), .val (.int (3 : Int32)), .val (.ref x3), .val (.int (1 : Int32)), .val (.int (0 : Int32)), .val (.int d), .val (.int ((3 : Int32) - (1 : Int32))), .val (.int (0 : Int32)), .val (.int ((0 : Int32) + (1 : Int32))), .val (.int ((((0 : Int32) + (1 : Int32)) + (1 : Int32)) - (1 : Int32))), .val (.int (1 : Int32))] [(.int (0 : Int32))])) _
      exact retI X0 hx Bd.returns (hb hby d16_112) hr
    · show Q16_3 Z x1 x3 z0 z1 z2 d k1 k2 h0 n0 _ s₁.heap _
      rw [e0]
      exact ⟨(0 : Int32), rfl, N0, rfl, ⟨fun q => absurd q (by decide), fun q => absurd (show d ∈ ([z0, z1, z2] : List Int32) by rw [← hc27]; simp) q⟩⟩
  · skip
    obtain ⟨cl_a218, Ar_a218, -, S_a218, N_a218, H_a218, -⟩ := id V_x1
    have hin_a218 : ¬ (((0 : Int32) + (1 : Int32)) < 0 ∨ cl_a218.slots.size ≤ (((0 : Int32) + (1 : Int32))).toNatClampNeg) := inb_of S_a218 ⟨by decide, by decide⟩
    have hat_a218 : cl_a218.slots[(((0 : Int32) + (1 : Int32))).toNatClampNeg]? = some (.int z1) := H_a218.at hin_a218 rfl
    have pre219 : ∀ t, Steps p.tables e below (s₁.setTop (mkF m 46 #[.val (.ref x1), .val (.int (3 : Int32)), .val (.ref x3), .val (.int (1 : Int32)), .val (.int (0 : Int32)), .val (.int d), .val (.int ((3 : Int32) - (1 : Int32))), .val (.int ((0 : Int32) + (1 : Int32))), .unset, .unset, .unset] [(.int d), (.int z1)])) t → Steps p.tables e below (s₁.setTop (entryFrame m #[(.ref x1), (.int (3 : Int32)), (.ref x3), (.int (1 : Int32)), (.int (0 : Int32))] 11)) t := by
      intro t kt
      refine pre217 t ?_
      show Steps p.tables e below (s₁.setTop (mkF m 27 #[.val (.ref x1), .val (.int (3 : Int32)), .val (.ref x3), .val (.int (1 : Int32)), .val (.int (0 : Int32)), .val (.int d), .val (.int ((3 : Int32) - (1 : Int32))), .val (.int (0 : Int32)), .unset, .unset, .unset] [(.int d), (.int z0)])) _
      refine XS.icmpNo X0.here hx rfl (hb hby d16_27) rfl (feq hc27).1 ?_
      refine XS.iinc X0.here hx rfl (hb hby d16_30) rfl (l' := #[.val (.ref x1), .val (.int (3 : Int32)), .val (.ref x3), .val (.int (1 : Int32)), .val (.int (0 : Int32)), .val (.int d), .val (.int ((3 : Int32) - (1 : Int32))), .val (.int ((0 : Int32) + (1 : Int32))), .unset, .unset, .unset]) rfl ?_
      refine XS.iload X0.here hx rfl (hb hby d16_33) rfl ?_
      refine XS.iload X0.here hx rfl (hb hby d16_35) rfl ?_
      show Steps p.tables e below (s₁.setTop (mkF m 37 #[.val (.ref x1), .val (.int (3 : Int32)), .val (.ref x3), .val (.int (1 : Int32)), .val (.int (0 : Int32)), .val (.int d), .val (.int ((3 : Int32) - (1 : Int32))), .val (.int ((0 : Int32) + (1 : Int32))), .unset, .unset, .unset] [(.int ((3 : Int32) - (1 : Int32))), (.int ((0 : Int32) + (1 : Int32)))])) _
      refine XS.icmpNo X0.here hx rfl (hb hby d16_37) rfl (flt (by decide : ¬ (((3 : Int32) - (1 : Int32)) < ((0 : Int32) + (1 : Int32))))).2.2.1 ?_
      refine XS.aloadN X0.here hx rfl (hb hby d16_40) rfl rfl ?_
      refine XS.iload X0.here hx rfl (hb hby d16_41) rfl ?_
      show Steps p.tables e below (s₁.setTop (mkF m 43 #[.val (.ref x1), .val (.int (3 : Int32)), .val (.ref x3), .val (.int (1 : Int32)), .val (.int (0 : Int32)), .val (.int d), .val (.int ((3 : Int32) - (1 : Int32))), .val (.int ((0 : Int32) + (1 : Int32))), .unset, .unset, .unset] [(.int ((0 : Int32) + (1 : Int32))), (.ref x1)])) _
      refine X0.baloadBytes hx (j := ((0 : Int32) + (1 : Int32))) (v := (.int z1)) (by rw [e0]; exact Ar_a218.1) (State.isArrayOf_alike hZ.alike Ar_a218.2.1) Ar_a218.2.2 hin_a218 hat_a218 (g := (mkF m 43 #[.val (.ref x1), .val (.int (3 : Int32)), .val (.ref x3), .val (.int (1 : Int32)), .val (.int (0 : Int32)), .val (.int d), .val (.int ((3 : Int32) - (1 : Int32))), .val (.int ((0 : Int32) + (1 : Int32))), .unset, .unset, .unset] [(.int ((0 : Int32) + (1 : Int32))), (.ref x1)])) rfl rfl (hb hby d16_43) _ ?_
      refine XS.iload X0.here hx rfl (hb hby d16_44) rfl ?_
      exact kt
    by_cases hc46 : z1 = d
    · skip
      obtain ⟨fs, hr, hrun, hended, hW, hsame⟩ := X0.leave (v := some (.int ((0 : Int32) + (1 : Int32)))) (fun h => by rw [Bd.returns] at h; cases h)
      refine ⟨_, _, pre219 _ ?_, hrun, hended, _, _, rfl, ?_, ⟨_, rfl⟩, hW, hsame.mono (by decide) (by decide)⟩
      · show Steps p.tables e below (s₁.setTop (mkF m 46 #[.val (.ref x1), .val (.int (3 : Int32)), .val (.ref x3), .val (.int (1 : Int32)), .val (.int (0 : Int32)), .val (.int d), .val (.int ((3 : Int32) - (1 : Int32))), .val (.int ((0 : Int32) + (1 : Int32))), .unset, .unset, .unset] [(.int d), (.int z1)])) _
        refine XS.icmpYes X0.here hx rfl (pc0 := 46) (pc' := 52) rfl (hb hby d16_46) rfl (teq hc46).1 (by decide) (by decide) ?_
        refine XS.iload X0.here hx rfl (hb hby d16_52) rfl ?_
        refine XS.iload X0.here hx rfl (hb hby d16_54) rfl ?_
        refine XS.icmpNo X0.here hx rfl (hb hby d16_56) rfl (flt (by decide : ¬ (((3 : Int32) - (1 : Int32)) < ((0 : Int32) + (1 : Int32))))).2.2.1 ?_
        show Steps p.tables e below (s₁.setTop (mkF m 59 #[.val (.ref x1), .val (.int (3 : Int32)), .val (.ref x3), .val (.int (1 : Int32)), .val (.int (0 : Int32)), .val (.int d), .val (.int ((3 : Int32) - (1 : Int32))), .val (.int ((0 : Int32) + (1 : Int32))), .unset, .unset, .unset] [])) _
        refine XS.iload X0.here hx rfl (hb hby d16_59) rfl ?_
        refine XS.iconst X0.here hx rfl (hb hby d16_61) ?_
        refine XS.iadd X0.here hx rfl (hb hby d16_62) rfl ?_
        refine XS.istore X0.here hx rfl (hb hby d16_63) rfl (l' := #[.val (.ref x1), .val (.int (3 : Int32)), .val (.ref x3), .val (.int (1 : Int32)), .val (.int (0 : Int32)), .val (.int d), .val (.int ((3 : Int32) - (1 : Int32))), .val (.int ((0 : Int32) + (1 : Int32))), .val (.int (((0 : Int32) + (1 : Int32)) + (1 : Int32))), .unset, .unset]) rfl ?_
        refine XS.iload X0.here hx rfl (hb hby d16_65) rfl ?_
        refine XS.iloadN X0.here hx rfl (hb hby d16_67) rfl ?_
        show Steps p.tables e below (s₁.setTop (mkF m 68 #[.val (.ref x1), .val (.int (3 : Int32)), .val (.ref x3), .val (.int (1 : Int32)), .val (.int (0 : Int32)), .val (.int d), .val (.int ((3 : Int32) - (1 : Int32))), .val (.int ((0 : Int32) + (1 : Int32))), .val (.int (((0 : Int32) + (1 : Int32)) + (1 : Int32))), .unset, .unset] [(.int (1 : Int32)), (.int (((0 : Int32) + (1 : Int32)) + (1 : Int32)))])) _
        refine XS.iadd X0.here hx rfl (hb hby d16_68) rfl ?_
        refine XS.iconst X0.here hx rfl (hb hby d16_69) ?_
        refine XS.isub X0.here hx rfl (hb hby d16_70) rfl ?_
        refine XS.istore X0.here hx rfl (hb hby d16_71) rfl (l' := #[.val (.ref x1), .val (.int (3 : Int32)), .val (.ref x3), .val (.int (1 : Int32)), .val (.int (0 : Int32)), .val (.int d), .val (.int ((3 : Int32) - (1 : Int32))), .val (.int ((0 : Int32) + (1 : Int32))), .val (.int (((0 : Int32) + (1 : Int32)) + (1 : Int32))), .val (.int (((((0 : Int32) + (1 : Int32)) + (1 : Int32)) + (1 : Int32)) - (1 : Int32))), .unset]) rfl ?_
        refine XS.iconst X0.here hx rfl (hb hby d16_73) ?_
        refine XS.istore X0.here hx rfl (hb hby d16_74) rfl (l' := #[.val (.ref x1), .val (.int (3 : Int32)), .val (.ref x3), .val (.int (1 : Int32)), .val (.int (0 : Int32)), .val (.int d), .val (.int ((3 : Int32) - (1 : Int32))), .val (.int ((0 : Int32) + (1 : Int32))), .val (.int (((0 : Int32) + (1 : Int32)) + (1 : Int32))), .val (.int (((((0 : Int32) + (1 : Int32)) + (1 : Int32)) + (1 : Int32)) - (1 : Int32))), .val (.int (1 : Int32))]) rfl ?_
        show Steps p.tables e below (s₁.setTop (mkF m 76 #[.val (.ref x1), .val (.int (3 : Int32)), .val (.ref x3), .val (.int (1 : Int32)), .val (.int (0 : Int32)), .val (.int d), .val (.int ((3 : Int32) - (1 : Int32))), .val (.int ((0 : Int32) + (1 : Int32))), .val (.int (((0 : Int32) + (1 : Int32)) + (1 : Int32))), .val (.int (((((0 : Int32) + (1 : Int32)) + (1 : Int32)) + (1 : Int32)) - (1 : Int32))), .val (.int (1 : Int32))] [])) _
        refine XS.iload X0.here hx rfl (hb hby d16_76) rfl ?_
        refine XS.iload X0.here hx rfl (hb hby d16_78) rfl ?_
        refine XS.icmpYes X0.here hx rfl (pc0 := 80) (pc' := 103) rfl (hb hby d16_80) rfl (flt (by decide : ¬ ((((0 : Int32) + (1 : Int32)) + (1 : Int32)) < (((((0 : Int32) + (1 : Int32)) + (1 : Int32)) + (1 : Int32)) - (1 : Int32))))).2.1 (by decide) (by decide) ?_
        refine XS.iload X0.here hx rfl (hb hby d16_103) rfl ?_
        refine XS.iload X0.here hx rfl (hb hby d16_105) rfl ?_
        refine XS.icmpNo X0.here hx rfl (hb hby d16_107) rfl (teq (by decide : (((0 : Int32) + (1 : Int32)) + (1 : Int32)) = (((((0 : Int32) + (1 : Int32)) + (1 : Int32)) + (1 : Int32)) - (1 : Int32)))).2 ?_
        show Steps p.tables e below (s₁.setTop (mkF m 110 #[.val (.ref x1), .val (.int (3 : Int32)), .val (.ref x3), .val (.int (1 : Int32)), .val (.int (0 : Int32)), .val (.int d), .val (.int ((3 : Int32) - (1 : Int32))), .val (.int ((0 : Int32) + (1 : Int32))), .val (.int (((0 : Int32) + (1 : Int32)) + (1 : Int32))), .val (.int (((((0 : Int32) + (1 : Int32)) + (1 : Int32)) + (1 : Int32)) - (1 : Int32))), .val (.int (1 : Int32))] [])) _
        refine XS.iload X0.here hx rfl (hb hby d16_110) rfl ?_
        show Steps p.tables e below (s₁.setTop (mkF m 112 #[.val (.ref x1), .val (.int (3 : Int32)), .val (.ref x3), .val (.int (1 : Int32)), .val (.int (0 : Int32)), .val (.int d), .val (.int ((3 : Int32) - (1 : Int32))), .val (.int ((0 : Int32) + (1 : Int32))), .val (.int (((0 : Int32) + (1 : Int32)) + (1 : Int32))), .val (.int (((((0 : Int32) + (1 : Int32)) + (1 : Int32)) + (1 : Int32)) - (1 : Int32))), .val (.int (1 : Int32))] [(.int ((0 : Int32) + (1 : Int32)))])) _
        exact retI X0 hx Bd.returns (hb hby d16_112) hr
      · show Q16_3 Z x1 x3 z0 z1 z2 d k1 k2 h0 n0 _ s₁.heap _
        rw [e0]
        exact ⟨((0 : Int32) + (1 : Int32)), rfl, N0, rfl, ⟨fun q => absurd q (by decide), fun q => absurd (show d ∈ ([z0, z1, z2] : List Int32) by rw [← hc46]; simp) q⟩⟩
    · skip
      obtain ⟨cl_a220, Ar_a220, -, S_a220, N_a220, H_a220, -⟩ := id V_x1
      have hin_a220 : ¬ ((((0 : Int32) + (1 : Int32)) + (1 : Int32)) < 0 ∨ cl_a220.slots.size ≤ ((((0 : Int32) + (1 : Int32)) + (1 : Int32))).toNatClampNeg) := inb_of S_a220 ⟨by decide, by decide⟩
      have hat_a220 : cl_a220.slots[((((0 : Int32) + (1 : Int32)) + (1 : Int32))).toNatClampNeg]? = some (.int z2) := H_a220.at hin_a220 rfl
      have pre222 : ∀ t, Steps p.tables e below (s₁.setTop (mkF m 46 #[.val (.ref x1), .val (.int (3 : Int32)), .val (.ref x3), .val (.int (1 : Int32)), .val (.int (0 : Int32)), .val (.int d), .val (.int ((3 : Int32) - (1 : Int32))), .val (.int (((0 : Int32) + (1 : Int32)) + (1 : Int32))), .unset, .unset, .unset] [(.int d), (.int z2)])) t → Steps p.tables e below (s₁.setTop (entryFrame m #[(.ref x1), (.int (3 : Int32)), (.ref x3), (.int (1 : Int32)), (.int (0 : Int32))] 11)) t := by
        intro t kt
        refine pre219 t ?_
        show Steps p.tables e below (s₁.setTop (mkF m 46 #[.val (.ref x1), .val (.int (3 : Int32)), .val (.ref x3), .val (.int (1 : Int32)), .val (.int (0 : Int32)), .val (.int d), .val (.int ((3 : Int32) - (1 : Int32))), .val (.int ((0 : Int32) + (1 : Int32))), .unset, .unset, .unset] [(.int d), (.int z1)])) _
        refine XS.icmpNo X0.here hx rfl (hb hby d16_46) rfl (feq hc46).1 ?_
        refine XS.goto X0.here hx rfl (pc0 := 49) (pc' := 30) rfl (hb hby d16_49) (by decide) (by decide) ?_
        refine XS.iinc X0.here hx rfl (hb hby d16_30) rfl (l' := #[.val (.ref x1), .val (.int (3 : Int32)), .val (.ref x3), .val (.int (1 : Int32)), .val (.int (0 : Int32)), .val (.int d), .val (.int ((3 : Int32) - (1 : Int32))), .val (.int (((0 : Int32) + (1 : Int32)) + (1 : Int32))), .unset, .unset, .unset]) rfl ?_
        refine XS.iload X0.here hx rfl (hb hby d16_33) rfl ?_
        show Steps p.tables e below (s₁.setTop (mkF m 35 #[.val (.ref x1), .val (.int (3 : Int32)), .val (.ref x3), .val (.int (1 : Int32)), .val (.int (0 : Int32)), .val (.int d), .val (.int ((3 : Int32) - (1 : Int32))), .val (.int (((0 : Int32) + (1 : Int32)) + (1 : Int32))), .unset, .unset, .unset] [(.int (((0 : Int32) + (1 : Int32)) + (1 : Int32)))])) _
        refine XS.iload X0.here hx rfl (hb hby d16_35) rfl ?_
        refine XS.icmpNo X0.here hx rfl (hb hby d16_37) rfl (flt (by decide : ¬ (((3 : Int32) - (1 : Int32)) < (((0 : Int32) + (1 : Int32)) + (1 : Int32))))).2.2.1 ?_
        refine XS.aloadN X0.here hx rfl (hb hby d16_40) rfl rfl ?_
        refine XS.iload X0.here hx rfl (hb hby d16_41) rfl ?_
        show Steps p.tables e below (s₁.setTop (mkF m 43 #[.val (.ref x1), .val (.int (3 : Int32)), .val (.ref x3), .val (.int (1 : Int32)), .val (.int (0 : Int32)), .val (.int d), .val (.int ((3 : Int32) - (1 : Int32))), .val (.int (((0 : Int32) + (1 : Int32)) + (1 : Int32))), .unset, .unset, .unset] [(.int (((0 : Int32) + (1 : Int32)) + (1 : Int32))), (.ref x1)])) _
        refine X0.baloadBytes hx (j := (((0 : Int32) + (1 : Int32)) + (1 : Int32))) (v := (.int z2)) (by rw [e0]; exact Ar_a220.1) (State.isArrayOf_alike hZ.alike Ar_a220.2.1) Ar_a220.2.2 hin_a220 hat_a220 (g := (mkF m 43 #[.val (.ref x1), .val (.int (3 : Int32)), .val (.ref x3), .val (.int (1 : Int32)), .val (.int (0 : Int32)), .val (.int d), .val (.int ((3 : Int32) - (1 : Int32))), .val (.int (((0 : Int32) + (1 : Int32)) + (1 : Int32))), .unset, .unset, .unset] [(.int (((0 : Int32) + (1 : Int32)) + (1 : Int32))), (.ref x1)])) rfl rfl (hb hby d16_43) _ ?_
        refine XS.iload X0.here hx rfl (hb hby d16_44) rfl ?_
        exact kt
      by_cases hc46_221 : z2 = d
      · skip
        obtain ⟨fs, hr, hrun, hended, hW, hsame⟩ := X0.leave (v := some (.int (((0 : Int32) + (1 : Int32)) + (1 : Int32)))) (fun h => by rw [Bd.returns] at h; cases h)
        refine ⟨_, _, pre222 _ ?_, hrun, hended, _, _, rfl, ?_, ⟨_, rfl⟩, hW, hsame.mono (by decide) (by decide)⟩
        · show Steps p.tables e below (s₁.setTop (mkF m 46 #[.val (.ref x1), .val (.int (3 : Int32)), .val (.ref x3), .val (.int (1 : Int32)), .val (.int (0 : Int32)), .val (.int d), .val (.int ((3 : Int32) - (1 : Int32))), .val (.int (((0 : Int32) + (1 : Int32)) + (1 : Int32))), .unset, .unset, .unset] [(.int d), (.int z2)])) _
          refine XS.icmpYes X0.here hx rfl (pc0 := 46) (pc' := 52) rfl (hb hby d16_46) rfl (teq hc46_221).1 (by decide) (by decide) ?_
          refine XS.iload X0.here hx rfl (hb hby d16_52) rfl ?_
          refine XS.iload X0.here hx rfl (hb hby d16_54) rfl ?_
          refine XS.icmpNo X0.here hx rfl (hb hby d16_56) rfl (flt (by decide : ¬ (((3 : Int32) - (1 : Int32)) < (((0 : Int32) + (1 : Int32)) + (1 : Int32))))).2.2.1 ?_
          show Steps p.tables e below (s₁.setTop (mkF m 59 #[.val (.ref x1), .val (.int (3 : Int32)), .val (.ref x3), .val (.int (1 : Int32)), .val (.int (0 : Int32)), .val (.int d), .val (.int ((3 : Int32) - (1 : Int32))), .val (.int (((0 : Int32) + (1 : Int32)) + (1 : Int32))), .unset, .unset, .unset] [])) _
          refine XS.iload X0.here hx rfl (hb hby d16_59) rfl ?_
          refine XS.iconst X0.here hx rfl (hb hby d16_61) ?_
          refine XS.iadd X0.here hx rfl (hb hby d16_62) rfl ?_
          refine XS.istore X0.here hx rfl (hb hby d16_63) rfl (l' := #[.val (.ref x1), .val (.int (3 : Int32)), .val (.ref x3), .val (.int (1 : Int32)), .val (.int (0 : Int32)), .val (.int d), .val (.int ((3 : Int32) - (1 : Int32))), .val (.int (((0 : Int32) + (1 : Int32)) + (1 : Int32))), .val (.int ((((0 : Int32) + (1 : Int32)) + (1 : Int32)) + (1 : Int32))), .unset, .unset]) rfl ?_
          refine XS.iload X0.here hx rfl (hb hby d16_65) rfl ?_
          refine XS.iloadN X0.here hx rfl (hb hby d16_67) rfl ?_
          show Steps p.tables e below (s₁.setTop (mkF m 68 #[.val (.ref x1), .val (.int (3 : Int32)), .val (.ref x3), .val (.int (1 : Int32)), .val (.int (0 : Int32)), .val (.int d), .val (.int ((3 : Int32) - (1 : Int32))), .val (.int (((0 : Int32) + (1 : Int32)) + (1 : Int32))), .val (.int ((((0 : Int32) + (1 : Int32)) + (1 : Int32)) + (1 : Int32))), .unset, .unset] [(.int (1 : Int32)), (.int ((((0 : Int32) + (1 : Int32)) + (1 : Int32)) + (1 : Int32)))])) _
          refine XS.iadd X0.here hx rfl (hb hby d16_68) rfl ?_
          refine XS.iconst X0.here hx rfl (hb hby d16_69) ?_
          refine XS.isub X0.here hx rfl (hb hby d16_70) rfl ?_
          refine XS.istore X0.here hx rfl (hb hby d16_71) rfl (l' := #[.val (.ref x1), .val (.int (3 : Int32)), .val (.ref x3), .val (.int (1 : Int32)), .val (.int (0 : Int32)), .val (.int d), .val (.int ((3 : Int32) - (1 : Int32))), .val (.int (((0 : Int32) + (1 : Int32)) + (1 : Int32))), .val (.int ((((0 : Int32) + (1 : Int32)) + (1 : Int32)) + (1 : Int32))), .val (.int ((((((0 : Int32) + (1 : Int32)) + (1 : Int32)) + (1 : Int32)) + (1 : Int32)) - (1 : Int32))), .unset]) rfl ?_
          refine XS.iconst X0.here hx rfl (hb hby d16_73) ?_
          refine XS.istore X0.here hx rfl (hb hby d16_74) rfl (l' := #[.val (.ref x1), .val (.int (3 : Int32)), .val (.ref x3), .val (.int (1 : Int32)), .val (.int (0 : Int32)), .val (.int d), .val (.int ((3 : Int32) - (1 : Int32))), .val (.int (((0 : Int32) + (1 : Int32)) + (1 : Int32))), .val (.int ((((0 : Int32) + (1 : Int32)) + (1 : Int32)) + (1 : Int32))), .val (.int ((((((0 : Int32) + (1 : Int32)) + (1 : Int32)) + (1 : Int32)) + (1 : Int32)) - (1 : Int32))), .val (.int (1 : Int32))]) rfl ?_
          show Steps p.tables e below (s₁.setTop (mkF m 76 #[.val (.ref x1), .val (.int (3 : Int32)), .val (.ref x3), .val (.int (1 : Int32)), .val (.int (0 : Int32)), .val (.int d), .val (.int ((3 : Int32) - (1 : Int32))), .val (.int (((0 : Int32) + (1 : Int32)) + (1 : Int32))), .val (.int ((((0 : Int32) + (1 : Int32)) + (1 : Int32)) + (1 : Int32))), .val (.int ((((((0 : Int32) + (1 : Int32)) + (1 : Int32)) + (1 : Int32)) + (1 : Int32)) - (1 : Int32))), .val (.int (1 : Int32))] [])) _
          refine XS.iload X0.here hx rfl (hb hby d16_76) rfl ?_
          refine XS.iload X0.here hx rfl (hb hby d16_78) rfl ?_
          refine XS.icmpYes X0.here hx rfl (pc0 := 80) (pc' := 103) rfl (hb hby d16_80) rfl (flt (by decide : ¬ (((((0 : Int32) + (1 : Int32)) + (1 : Int32)) + (1 : Int32)) < ((((((0 : Int32) + (1 : Int32)) + (1 : Int32)) + (1 : Int32)) + (1 : Int32)) - (1 : Int32))))).2.1 (by decide) (by decide) ?_
          refine XS.iload X0.here hx rfl (hb hby d16_103) rfl ?_
          refine XS.iload X0.here hx rfl (hb hby d16_105) rfl ?_
          refine XS.icmpNo X0.here hx rfl (hb hby d16_107) rfl (teq (by decide : ((((0 : Int32) + (1 : Int32)) + (1 : Int32)) + (1 : Int32)) = ((((((0 : Int32) + (1 : Int32)) + (1 : Int32)) + (1 : Int32)) + (1 : Int32)) - (1 : Int32)))).2 ?_
          show Steps p.tables e below (s₁.setTop (mkF m 110 #[.val (.ref x1), .val (.int (3 : Int32)), .val (.ref x3), .val (.int (1 : Int32)), .val (.int (0 : Int32)), .val (.int d), .val (.int ((3 : Int32) - (1 : Int32))), .val (.int (((0 : Int32) + (1 : Int32)) + (1 : Int32))), .val (.int ((((0 : Int32) + (1 : Int32)) + (1 : Int32)) + (1 : Int32))), .val (.int ((((((0 : Int32) + (1 : Int32)) + (1 : Int32)) + (1 : Int32)) + (1 : Int32)) - (1 : Int32))), .val (.int (1 : Int32))] [])) _
          refine XS.iload X0.here hx rfl (hb hby d16_110) rfl ?_
          show Steps p.tables e below (s₁.setTop (mkF m 112 #[.val (.ref x1), .val (.int (3 : Int32)), .val (.ref x3), .val (.int (1 : Int32)), .val (.int (0 : Int32)), .val (.int d), .val (.int ((3 : Int32) - (1 : Int32))), .val (.int (((0 : Int32) + (1 : Int32)) + (1 : Int32))), .val (.int ((((0 : Int32) + (1 : Int32)) + (1 : Int32)) + (1 : Int32))), .val (.int ((((((0 : Int32) + (1 : Int32)) + (1 : Int32)) + (1 : Int32)) + (1 : Int32)) - (1 : Int32))), .val (.int (1 : Int32))] [(.int (((0 : Int32) + (1 : Int32)) + (1 : Int32)))])) _
          exact retI X0 hx Bd.returns (hb hby d16_112) hr
        · show Q16_3 Z x1 x3 z0 z1 z2 d k1 k2 h0 n0 _ s₁.heap _
          rw [e0]
          exact ⟨(((0 : Int32) + (1 : Int32)) + (1 : Int32)), rfl, N0, rfl, ⟨fun q => absurd q (by decide), fun q => absurd (show d ∈ ([z0, z1, z2] : List Int32) by rw [← hc46_221]; simp) q⟩⟩
      · skip
        obtain ⟨fs, hr, hrun, hended, hW, hsame⟩ := X0.leave (v := some (.int (-1 : Int32))) (fun h => by rw [Bd.returns] at h; cases h)
        refine ⟨_, _, pre222 _ ?_, hrun, hended, _, _, rfl, ?_, ⟨_, rfl⟩, hW, hsame.mono (by decide) (by decide)⟩
        · show Steps p.tables e below (s₁.setTop (mkF m 46 #[.val (.ref x1), .val (.int (3 : Int32)), .val (.ref x3), .val (.int (1 : Int32)), .val (.int (0 : Int32)), .val (.int d), .val (.int ((3 : Int32) - (1 : Int32))), .val (.int (((0 : Int32) + (1 : Int32)) + (1 : Int32))), .unset, .unset, .unset] [(.int d), (.int z2)])) _
          refine XS.icmpNo X0.here hx rfl (hb hby d16_46) rfl (feq hc46_221).1 ?_
          refine XS.goto X0.here hx rfl (pc0 := 49) (pc' := 30) rfl (hb hby d16_49) (by decide) (by decide) ?_
          refine XS.iinc X0.here hx rfl (hb hby d16_30) rfl (l' := #[.val (.ref x1), .val (.int (3 : Int32)), .val (.ref x3), .val (.int (1 : Int32)), .val (.int (0 : Int32)), .val (.int d), .val (.int ((3 : Int32) - (1 : Int32))), .val (.int ((((0 : Int32) + (1 : Int32)) + (1 : Int32)) + (1 : Int32))), .unset, .unset, .unset]) rfl ?_
          refine XS.iload X0.here hx rfl (hb hby d16_33) rfl ?_
          show Steps p.tables e below (s₁.setTop (mkF m 35 #[.val (.ref x1), .val (.int (3 : Int32)), .val (.ref x3), .val (.int (1 : Int32)), .val (.int (0 : Int32)), .val (.int d), .val (.int ((3 : Int32) - (1 : Int32))), .val (.int ((((0 : Int32) + (1 : Int32)) + (1 : Int32)) + (1 : Int32))), .unset, .unset, .unset] [(.int ((((0 : Int32) + (1 : Int32)) + (1 : Int32)) + (1 : Int32)))])) _
          refine XS.iload X0.here hx rfl (hb hby d16_35) rfl ?_
          refine XS.icmpYes X0.here hx rfl (pc0 := 37) (pc' := 52) rfl (hb hby d16_37) rfl (tlt (by decide : ((3 : Int32) - (1 : Int32)) < ((((0 : Int32) + (1 : Int32)) + (1 : Int32)) + (1 : Int32)))).2.2.1 (by decide) (by decide) ?_
          refine XS.iload X0.here hx rfl (hb hby d16_52) rfl ?_
          refine XS.iload X0.here hx rfl (hb hby d16_54) rfl ?_
          refine XS.icmpYes X0.here hx rfl (pc0 := 56) (pc' := 113) rfl (hb hby d16_56) rfl (tlt (by decide : ((3 : Int32) - (1 : Int32)) < ((((0 : Int32) + (1 : Int32)) + (1 : Int32)) + (1 : Int32)))).2.2.1 (by decide) (by decide) ?_
          refine XS.iinc X0.here hx rfl (hb hby d16_113) rfl (l' := #[.val (.ref x1), .val (.int (3 : Int32)), .val (.ref x3), .val (.int (1 : Int32)), .val (.int (0 : Int32)), .val (.int d), .val (.int ((3 : Int32) - (1 : Int32))), .val (.int (((((0 : Int32) + (1 : Int32)) + (1 : Int32)) + (1 : Int32)) + (1 : Int32))), .unset, .unset, .unset]) rfl ?_
          show Steps p.tables e below (s₁.setTop (mkF m 116 #[.val (.ref x1), .val (.int (3 : Int32)), .val (.ref x3), .val (.int (1 : Int32)), .val (.int (0 : Int32)), .val (.int d), .val (.int ((3 : Int32) - (1 : Int32))), .val (.int (((((0 : Int32) + (1 : Int32)) + (1 : Int32)) + (1 : Int32)) + (1 : Int32))), .unset, .unset, .unset] [])) _
          refine XS.goto X0.here hx rfl (pc0 := 116) (pc' := 14) rfl (hb hby d16_116) (by decide) (by decide) ?_
          refine XS.iload X0.here hx rfl (hb hby d16_14) rfl ?_
          refine XS.iload X0.here hx rfl (hb hby d16_16) rfl ?_
          refine XS.icmpYes X0.here hx rfl (pc0 := 18) (pc' := 119) rfl (hb hby d16_18) rfl (tlt (by decide : ((3 : Int32) - (1 : Int32)) < (((((0 : Int32) + (1 : Int32)) + (1 : Int32)) + (1 : Int32)) + (1 : Int32)))).2.2.1 (by decide) (by decide) ?_
          refine XS.iconst X0.here hx rfl (hb hby d16_119) ?_
          show Steps p.tables e below (s₁.setTop (mkF m 120 #[.val (.ref x1), .val (.int (3 : Int32)), .val (.ref x3), .val (.int (1 : Int32)), .val (.int (0 : Int32)), .val (.int d), .val (.int ((3 : Int32) - (1 : Int32))), .val (.int (((((0 : Int32) + (1 : Int32)) + (1 : Int32)) + (1 : Int32)) + (1 : Int32))), .unset, .unset, .unset] [(.int (-1 : Int32))])) _
          exact retI X0 hx Bd.returns (hb hby d16_120) hr
        · show Q16_3 Z x1 x3 z0 z1 z2 d k1 k2 h0 n0 _ s₁.heap _
          rw [e0]
          exact ⟨(-1 : Int32), rfl, N0, rfl, ⟨fun _ q => by simp only [List.mem_cons, List.not_mem_nil, or_false] at q; rcases q with q | q | q; exact hc27 q.symm; exact hc46 q.symm; exact hc46_221 q.symm, fun _ => by decide⟩⟩
theorem ef15_3 (m : MethodId) (x1 : Addr) (x2 : Addr) : entryFrame m #[(.ref x1), (.ref x2)] 2 = mkF m 0 #[.val (.ref x1), .val (.ref x2)] [] := by first | (simp [entryFrame, mkF, argsToLocals, Value.category]; done) | rfl
def Q15_3 (Z : State) (x1 : Addr) (x2 : Addr) (z0 : Int32) (z1 : Int32) (z2 : Int32) (d : Int32) (k1 : ClassId) (k2 : ClassId) (h0 : Heap) (n0 : Nat) (v : Option Value) (h : Heap) (L : List Loc) : Prop := ∃ (r : Int32), v = some (.int r) ∧ Fr n0 L ∧ h = h0 ∧ ((r < (0 : Int32)) ↔ ¬ (d ∈ ([z0, z1, z2] : List Int32)))
set_option maxRecDepth 65536 in
set_option maxHeartbeats 40000000 in
theorem rm15_3 (l : Launch) (Z : State) (a0 : Array Value) (hw : ∀ d ∈ tables_1, d.before a0 Z = true) (ws : List Jvm.Cond) (x1 : Addr) (x2 : Addr) (z0 : Int32) (z1 : Int32) (z2 : Int32) (d : Int32) (k1 : ClassId) (k2 : ClassId) (h0 : Heap) (n0 : Nat) (Z0 : n0 ≤ h0.size) (O0 : Old Z n0 h0) (V_x1 : Arv Z h0 x1 k1 .byte (3 : Int32) [(.int z0), (.int z1), (.int z2)] (.int 0)) (V_x2 : Arv Z h0 x2 k2 .byte (1 : Int32) [(.int d)] (.int 0)) :
    MetFree l (⟨"java/lang/StringLatin1", "indexOf", "([B[B)I"⟩ : MethodName) (head1 (Jvm.Cond.code (⟨"java/lang/StringLatin1", "indexOf", "([B[B)I"⟩ : MethodName) jdk_43_method_24_code 2 (some .int) :: ws) ({ frames := 1, cells := 0, slots := 0, locals := 22 } : Room)) (fun a U => a = #[(.ref x1), (.ref x2)] ∧ Z.Warmed39 U.vm ∧ U.heap = h0) (fun _ _ _ _ _ => True) (fun _ U o U' => ∃ v L, o = .returned v ∧ Q15_3 Z x1 x2 z0 z1 z2 d k1 k2 h0 n0 v U'.heap L ∧ FrameEnd U o U' L ({ frames := 1, cells := 0, slots := 0, locals := 22 } : Room).cells ({ frames := 1, cells := 0, slots := 0, locals := 22 } : Room).slots) := by
  refine MetFree.of_bodySF (plainFor_of_name pn_java_lang_StringLatin1) hisR ?_
  intro p e s m args below meth c s₁ Bd hml0 hP hK
  obtain ⟨rfl, hZ, hh⟩ := hP
  have hx := Bd.exec
  have hby := Bd.bytes
  have hml : c.maxLocals = 2 := hml0
  have hown : s.vm.findClass "java/lang/StringLatin1" = some m.cls := findClass_of_methodNamed Bd.named
  have hnm := (name_of_methodNamed Bd.named Bd.method).1
  have X0 : Stand p l e ({ frames := 1, cells := 0, slots := 0, locals := 22 } : Room) s m #[(.ref x1), (.ref x2)] below meth c s₁ [] 0 0 := Stand.of_body Bd
  have e0 : s₁.heap = h0 := by rw [← hh, Bd.state]; rfl
  have N0 := Fr.nil n0
  have K0 : Keep h0 h0 [] := Keep.refl _ _
  have pre0 : ∀ t, Steps p.tables e below (s₁.setTop (mkF m 0 #[.val (.ref x1), .val (.ref x2)] [])) t → Steps p.tables e below (s₁.setTop (entryFrame m #[(.ref x1), (.ref x2)] 2)) t := fun t k => castTop (ef15_3 m x1 x2) k
  obtain ⟨cl_a223, Ar_a223, -, S_a223, N_a223, -, -⟩ := id V_x2
  obtain ⟨cl_a224, Ar_a224, -, S_a224, N_a224, -, -⟩ := id V_x1
  obtain ⟨cl_a225, Ar_a225, -, S_a225, N_a225, -, -⟩ := id V_x1
  obtain ⟨cl_a226, Ar_a226, -, S_a226, N_a226, -, -⟩ := id V_x2
  obtain ⟨_, _, ⟨T227, L227, k227, n227⟩, -, X227, ⟨Lc227, hQ227, l227, y227, z227⟩, st227⟩ := Jvm.LawKit.callS X0 hx (y := (⟨"java/lang/StringLatin1", "indexOf", "([BI[BII)I"⟩ : MethodName)) hown (mvT hZ (own_wd hw 77 rfl)) (mvT hZ (own_wd hw 78 rfl)) (mvT hZ (own_wd hw 75 rfl)) (mvT hZ (own_wd hw 79 rfl)) (by decide) (backOf (W := 0) (rm16_3 l Z a0 hw [] x1 x2 z0 z1 z2 d k1 k2 h0 n0 Z0 O0 V_x1 V_x2) hZ (own_wd hw 79 rfl) (own_wd hw 75 rfl) (by decide) (by decide)) (g := (mkF m 21 #[.val (.ref x1), .val (.ref x2)] [(.int (0 : Int32)), (.int (1 : Int32)), (.ref x2), (.int (3 : Int32)), (.ref x1)])) rfl (by rw [hml]; rfl) (argsL := [(.ref x1), (.int (3 : Int32)), (.ref x2), (.int (1 : Int32)), (.int (0 : Int32))]) (rest := []) (lenOf pd_7 rfl) rfl (by show 2 * 0 + _ ≤ _; exact Nat.le_of_eq rfl) (hb hby d15_21) (fun _ _ => ⟨rfl, e0, (by decide : 0 + 0 ≤ _), (by decide : 0 + 0 ≤ _)⟩)
  dsimp only [Pt.U, Pt.locs, Pt.cells, Pt.slots] at X227 l227 y227 z227 st227 hQ227
  subst l227 y227 z227
  obtain ⟨r_227, rfl, N227q, eh227, Q227_0⟩ := hQ227
  have N227 := Fr.app N0 N227q
  obtain ⟨fs, hr, hrun, hended, hW, hsame⟩ := X227.leave (v := some (.int r_227)) (fun h => by rw [Bd.returns] at h; cases h)
  refine ⟨_, _, pre0 _ ?_, hrun, hended, _, _, rfl, ?_, ⟨_, rfl⟩, hW, hsame.mono (by decide) (by decide)⟩
  · show Steps p.tables e below (s₁.setTop (mkF m 0 #[.val (.ref x1), .val (.ref x2)] [])) _
    refine XS.aloadN X0.here hx rfl (hb hby d15_0) rfl rfl ?_
    show Steps p.tables e below (s₁.setTop (mkF m 1 #[.val (.ref x1), .val (.ref x2)] [(.ref x2)])) _
    refine X0.arraylength hx (by rw [e0]; exact Ar_a223.1) (State.isArrayOf_alike hZ.alike Ar_a223.2.1) (g := (mkF m 1 #[.val (.ref x1), .val (.ref x2)] [(.ref x2)])) rfl rfl (hb hby d15_1) _ ?_
    rw [len_of S_a223 N_a223]
    refine XS.ifYes X0.here hx rfl (pc0 := 2) (pc' := 7) rfl (hb hby d15_2) rfl ((if0 _ _).trans (feq (by decide : ¬ ((1 : Int32) = (0 : Int32)))).2) (by decide) (by decide) ?_
    refine XS.aloadN X0.here hx rfl (hb hby d15_7) rfl rfl ?_
    show Steps p.tables e below (s₁.setTop (mkF m 8 #[.val (.ref x1), .val (.ref x2)] [(.ref x1)])) _
    refine X0.arraylength hx (by rw [e0]; exact Ar_a224.1) (State.isArrayOf_alike hZ.alike Ar_a224.2.1) (g := (mkF m 8 #[.val (.ref x1), .val (.ref x2)] [(.ref x1)])) rfl rfl (hb hby d15_8) _ ?_
    rw [len_of S_a224 N_a224]
    refine XS.ifYes X0.here hx rfl (pc0 := 9) (pc' := 14) rfl (hb hby d15_9) rfl ((if0 _ _).trans (feq (by decide : ¬ ((3 : Int32) = (0 : Int32)))).2) (by decide) (by decide) ?_
    refine XS.aloadN X0.here hx rfl (hb hby d15_14) rfl rfl ?_
    refine XS.aloadN X0.here hx rfl (hb hby d15_15) rfl rfl ?_
    show Steps p.tables e below (s₁.setTop (mkF m 16 #[.val (.ref x1), .val (.ref x2)] [(.ref x1), (.ref x1)])) _
    refine X0.arraylength hx (by rw [e0]; exact Ar_a225.1) (State.isArrayOf_alike hZ.alike Ar_a225.2.1) (g := (mkF m 16 #[.val (.ref x1), .val (.ref x2)] [(.ref x1), (.ref x1)])) rfl rfl (hb hby d15_16) _ ?_
    rw [len_of S_a225 N_a225]
    refine XS.aloadN X0.here hx rfl (hb hby d15_17) rfl rfl ?_
    refine XS.aloadN X0.here hx rfl (hb hby d15_18) rfl rfl ?_
    show Steps p.tables e below (s₁.setTop (mkF m 19 #[.val (.ref x1), .val (.ref x2)] [(.ref x2), (.ref x2), (.int (3 : Int32)), (.ref x1)])) _
    refine X0.arraylength hx (by rw [e0]; exact Ar_a226.1) (State.isArrayOf_alike hZ.alike Ar_a226.2.1) (g := (mkF m 19 #[.val (.ref x1), .val (.ref x2)] [(.ref x2), (.ref x2), (.int (3 : Int32)), (.ref x1)])) rfl rfl (hb hby d15_19) _ ?_
    rw [len_of S_a226 N_a226]
    refine XS.iconst X0.here hx rfl (hb hby d15_20) ?_
    show Steps p.tables e below (s₁.setTop (mkF m 21 #[.val (.ref x1), .val (.ref x2)] [(.int (0 : Int32)), (.int (1 : Int32)), (.ref x2), (.int (3 : Int32)), (.ref x1)])) _
    refine st227 _ ?_
    show Steps p.tables e below (T227.setTop (mkF m 24 #[.val (.ref x1), .val (.ref x2)] [(.int r_227)])) _
    exact retI X227 hx Bd.returns (hb hby d15_24) hr
  · show Q15_3 Z x1 x2 z0 z1 z2 d k1 k2 h0 n0 _ T227.heap _
    rw [eh227]
    exact ⟨r_227, rfl, N227, rfl, Q227_0⟩
theorem ef12_3 (m : MethodId) (tz : Addr) (x1 : Addr) : entryFrame m #[(.ref tz), (.ref x1)] 3 = mkF m 0 #[.val (.ref tz), .val (.ref x1), .unset] [] := by first | (simp [entryFrame, mkF, argsToLocals, Value.category]; done) | rfl
def Q12_3 (Z : State) (tz : Addr) (x1 : Addr) (tz_value : Addr) (x1_value : Addr) (z0 : Int32) (z1 : Int32) (z2 : Int32) (d : Int32) (k1 : ClassId) (k2 : ClassId) (st_COMPACT_STRINGS : Int32) (h0 : Heap) (n0 : Nat) (v : Option Value) (h : Heap) (L : List Loc) : Prop := ∃ (r : Int32), v = some (.int r) ∧ Fr n0 L ∧ h = h0 ∧ ((r < (0 : Int32)) ↔ ¬ (d ∈ ([z0, z1, z2] : List Int32)))
set_option maxRecDepth 65536 in
set_option maxHeartbeats 40000000 in
theorem rm12_3 (l : Launch) (Z : State) (a0 : Array Value) (hw : ∀ d ∈ tables_1, d.before a0 Z = true) (ws : List Jvm.Cond) (tz : Addr) (x1 : Addr) (tz_value : Addr) (x1_value : Addr) (z0 : Int32) (z1 : Int32) (z2 : Int32) (d : Int32) (k1 : ClassId) (k2 : ClassId) (st_COMPACT_STRINGS : Int32) (h0 : Heap) (n0 : Nat) (Z0 : n0 ≤ h0.size) (O0 : Old Z n0 h0) (E_tz : Exa Z h0 tz "java/lang/String") (F_tz_value : Fld Z h0 tz "java/lang/String" "value" "[B" (.ref tz_value)) (F_tz_coder : Fld Z h0 tz "java/lang/String" "coder" "B" (.int (0 : Int32))) (V_tz : Arv Z h0 tz_value k1 .byte (3 : Int32) [(.int z0), (.int z1), (.int z2)] (.int 0)) (E_x1 : Exa Z h0 x1 "java/lang/String") (F_x1_value : Fld Z h0 x1 "java/lang/String" "value" "[B" (.ref x1_value)) (F_x1_coder : Fld Z h0 x1 "java/lang/String" "coder" "B" (.int (0 : Int32))) (V_x1 : Arv Z h0 x1_value k2 .byte (1 : Int32) [(.int d)] (.int 0)) (S_COMPACT_STRINGS : Sta Z Z.heap "java/lang/String" "COMPACT_STRINGS" "Z" (.int st_COMPACT_STRINGS)) (hcomp : ¬ (st_COMPACT_STRINGS = (0 : Int32))) :
    MetFree l (⟨"java/lang/String", "indexOf", "(Ljava/lang/String;)I"⟩ : MethodName) (head1 (Jvm.Cond.code (⟨"java/lang/String", "indexOf", "(Ljava/lang/String;)I"⟩ : MethodName) jdk_42_method_84_code 3 (some .int) :: ws) ({ frames := 2, cells := 0, slots := 0, locals := 35 } : Room)) (fun a U => a = #[(.ref tz), (.ref x1)] ∧ Z.Warmed39 U.vm ∧ U.heap = h0) (fun _ _ _ _ _ => True) (fun _ U o U' => ∃ v L, o = .returned v ∧ Q12_3 Z tz x1 tz_value x1_value z0 z1 z2 d k1 k2 st_COMPACT_STRINGS h0 n0 v U'.heap L ∧ FrameEnd U o U' L ({ frames := 2, cells := 0, slots := 0, locals := 35 } : Room).cells ({ frames := 2, cells := 0, slots := 0, locals := 35 } : Room).slots) := by
  refine MetFree.of_bodySF (plainFor_of_name pn_java_lang_String) hisR ?_
  intro p e s m args below meth c s₁ Bd hml0 hP hK
  obtain ⟨rfl, hZ, hh⟩ := hP
  have hx := Bd.exec
  have hby := Bd.bytes
  have hml : c.maxLocals = 3 := hml0
  have hown : s.vm.findClass "java/lang/String" = some m.cls := findClass_of_methodNamed Bd.named
  have hnm := (name_of_methodNamed Bd.named Bd.method).1
  have X0 : Stand p l e ({ frames := 2, cells := 0, slots := 0, locals := 35 } : Room) s m #[(.ref tz), (.ref x1)] below meth c s₁ [] 0 0 := Stand.of_body Bd
  have e0 : s₁.heap = h0 := by rw [← hh, Bd.state]; rfl
  have N0 := Fr.nil n0
  have K0 : Keep h0 h0 [] := Keep.refl _ _
  have pre0 : ∀ t, Steps p.tables e below (s₁.setTop (mkF m 0 #[.val (.ref tz), .val (.ref x1), .unset] [])) t → Steps p.tables e below (s₁.setTop (entryFrame m #[(.ref tz), (.ref x1)] 3)) t := fun t k => castTop (ef12_3 m tz x1) k
  obtain ⟨cq228, kq228, q228a, q228b, q228c⟩ := isOf hZ e0 E_tz
  obtain ⟨_, _, ⟨T228, L228, k228, n228⟩, -, X228, ⟨Lc228, hQ228, l228, y228, z228⟩, st228⟩ := X0.virtualBack hx (y := (⟨"java/lang/String", "coder", "()B"⟩ : MethodName)) (z := (⟨"java/lang/String", "coder", "()B"⟩ : MethodName)) hown (mvT hZ (own_wd hw 63 rfl)) (mvT hZ (own_wd hw 64 rfl)) (notFace_of_selects (args := #[]) (mvT hZ (own_wd hw 66 rfl))) (mvT hZ (own_wd hw 66 rfl)) (mvT hZ (own_wd hw 65 rfl)) (by decide) (backOf (W := 0) (rm13 l Z a0 hw [] tz st_COMPACT_STRINGS h0 n0 Z0 O0 F_tz_coder S_COMPACT_STRINGS hcomp) hZ (own_wd hw 67 rfl) (own_wd hw 7 rfl) (by decide) (by decide)) q228a q228c (g := (mkF m 1 #[.val (.ref tz), .val (.ref x1), .unset] [(.ref tz)])) rfl (by rw [hml]; rfl) (Steps.refl _) (argsL := []) (rest := []) (lenOf pd_1 rfl) rfl (by show 2 * 0 + _ ≤ _; exact Nat.le_of_eq rfl) (hb hby d12_1) (fun _ _ => ⟨rfl, e0, (by decide : 0 + 0 ≤ _), (by decide : 0 + 0 ≤ _)⟩)
  dsimp only [Pt.U, Pt.locs, Pt.cells, Pt.slots] at X228 l228 y228 z228 st228 hQ228
  subst l228 y228 z228
  obtain ⟨rfl, N228q, eh228⟩ := hQ228
  have N228 := Fr.app N0 N228q
  obtain ⟨cq229, kq229, q229a, q229b, q229c⟩ := isOf hZ eh228 E_x1
  obtain ⟨_, _, ⟨T229, L229, k229, n229⟩, -, X229, ⟨Lc229, hQ229, l229, y229, z229⟩, st229⟩ := X228.virtualBack hx (y := (⟨"java/lang/String", "coder", "()B"⟩ : MethodName)) (z := (⟨"java/lang/String", "coder", "()B"⟩ : MethodName)) hown (mvT hZ (own_wd hw 63 rfl)) (mvT hZ (own_wd hw 64 rfl)) (notFace_of_selects (args := #[]) (mvT hZ (own_wd hw 66 rfl))) (mvT hZ (own_wd hw 66 rfl)) (mvT hZ (own_wd hw 65 rfl)) (by decide) (backOf (W := 1) (rm13 l Z a0 hw [] x1 st_COMPACT_STRINGS h0 n0 Z0 O0 F_x1_coder S_COMPACT_STRINGS hcomp) hZ (own_wd hw 67 rfl) (own_wd hw 7 rfl) (by decide) (by decide)) q229a q229c (g := (mkF m 7 #[.val (.ref tz), .val (.ref x1), .val (.int (0 : Int32))] [(.ref x1), (.int (0 : Int32))])) rfl (by rw [hml]; rfl) (Steps.refl _) (argsL := []) (rest := [(.int (0 : Int32))]) (lenOf pd_1 rfl) rfl (by show 2 * 0 + _ ≤ _; exact Nat.le_of_eq rfl) (hb hby d12_7) (fun _ _ => ⟨rfl, eh228, (by decide : 0 + 0 ≤ _), (by decide : 0 + 0 ≤ _)⟩)
  dsimp only [Pt.U, Pt.locs, Pt.cells, Pt.slots] at X229 l229 y229 z229 st229 hQ229
  subst l229 y229 z229
  obtain ⟨rfl, N229q, eh229⟩ := hQ229
  have N229 := Fr.app N228 N229q
  obtain ⟨cq230, kq230, q230a, q230b, q230c⟩ := isOf hZ eh229 E_tz
  obtain ⟨_, _, ⟨T230, L230, k230, n230⟩, -, X230, ⟨Lc230, hQ230, l230, y230, z230⟩, st230⟩ := X229.virtualBack hx (y := (⟨"java/lang/String", "isLatin1", "()Z"⟩ : MethodName)) (z := (⟨"java/lang/String", "isLatin1", "()Z"⟩ : MethodName)) hown (mvT hZ (own_wd hw 68 rfl)) (mvT hZ (own_wd hw 69 rfl)) (notFace_of_selects (args := #[]) (mvT hZ (own_wd hw 71 rfl))) (mvT hZ (own_wd hw 71 rfl)) (mvT hZ (own_wd hw 70 rfl)) (by decide) (backOf (W := 0) (rm14 l Z a0 hw [] tz st_COMPACT_STRINGS h0 n0 Z0 O0 F_tz_coder S_COMPACT_STRINGS hcomp) hZ (own_wd hw 72 rfl) (own_wd hw 7 rfl) (by decide) (by decide)) q230a q230c (g := (mkF m 14 #[.val (.ref tz), .val (.ref x1), .val (.int (0 : Int32))] [(.ref tz)])) rfl (by rw [hml]; rfl) (Steps.refl _) (argsL := []) (rest := []) (lenOf pd_2 rfl) rfl (by show 2 * 0 + _ ≤ _; exact Nat.le_of_eq rfl) (hb hby d12_14) (fun _ _ => ⟨rfl, eh229, (by decide : 0 + 0 ≤ _), (by decide : 0 + 0 ≤ _)⟩)
  dsimp only [Pt.U, Pt.locs, Pt.cells, Pt.slots] at X230 l230 y230 z230 st230 hQ230
  subst l230 y230 z230
  obtain ⟨rfl, N230q, eh230⟩ := hQ230
  have N230 := Fr.app N229 N230q
  obtain ⟨T231, X231, e231, st231⟩ := getF X230 hx hZ hown (host := "") (Or.inl (own_wd hw 32 rfl)) Via.refl eh230 F_tz_value (g := (mkF m 21 #[.val (.ref tz), .val (.ref x1), .val (.int (0 : Int32))] [(.ref tz)])) rfl rfl (hb hby d12_21)
  obtain ⟨T232, X232, e232, st232⟩ := getF X231 hx hZ hown (host := "") (Or.inl (own_wd hw 32 rfl)) Via.refl e231 F_x1_value (g := (mkF m 25 #[.val (.ref tz), .val (.ref x1), .val (.int (0 : Int32))] [(.ref x1), (.ref tz_value)])) rfl rfl (hb hby d12_25)
  obtain ⟨_, _, ⟨T233, L233, k233, n233⟩, -, X233, ⟨Lc233, hQ233, l233, y233, z233⟩, st233⟩ := Jvm.LawKit.callS X232 hx (y := (⟨"java/lang/StringLatin1", "indexOf", "([B[B)I"⟩ : MethodName)) hown (mvT hZ (own_wd hw 73 rfl)) (mvT hZ (own_wd hw 74 rfl)) (mvT hZ (own_wd hw 75 rfl)) (mvT hZ (own_wd hw 76 rfl)) (by decide) (backOf (W := 0) (rm15_3 l Z a0 hw [] tz_value x1_value z0 z1 z2 d k1 k2 h0 n0 Z0 O0 V_tz V_x1) hZ (own_wd hw 76 rfl) (own_wd hw 75 rfl) (by decide) (by decide)) (g := (mkF m 28 #[.val (.ref tz), .val (.ref x1), .val (.int (0 : Int32))] [(.ref x1_value), (.ref tz_value)])) rfl (by rw [hml]; rfl) (argsL := [(.ref tz_value), (.ref x1_value)]) (rest := []) (lenOf pd_3 rfl) rfl (by show 2 * 0 + _ ≤ _; exact Nat.le_of_eq rfl) (hb hby d12_28) (fun _ _ => ⟨rfl, e232, (by decide : 0 + 0 ≤ _), (by decide : 0 + 0 ≤ _)⟩)
  dsimp only [Pt.U, Pt.locs, Pt.cells, Pt.slots] at X233 l233 y233 z233 st233 hQ233
  subst l233 y233 z233
  obtain ⟨r_233, rfl, N233q, eh233, Q233_0⟩ := hQ233
  have N233 := Fr.app N230 N233q
  obtain ⟨fs, hr, hrun, hended, hW, hsame⟩ := X233.leave (v := some (.int r_233)) (fun h => by rw [Bd.returns] at h; cases h)
  refine ⟨_, _, pre0 _ ?_, hrun, hended, _, _, rfl, ?_, ⟨_, rfl⟩, hW, hsame.mono (by decide) (by decide)⟩
  · show Steps p.tables e below (s₁.setTop (mkF m 0 #[.val (.ref tz), .val (.ref x1), .unset] [])) _
    refine XS.aloadN X0.here hx rfl (hb hby d12_0) rfl rfl ?_
    show Steps p.tables e below (s₁.setTop (mkF m 1 #[.val (.ref tz), .val (.ref x1), .unset] [(.ref tz)])) _
    refine st228.trans ?_
    show Steps p.tables e below (T228.setTop (mkF m 4 #[.val (.ref tz), .val (.ref x1), .unset] [(.int (0 : Int32))])) _
    refine XS.istoreN X228.here hx rfl (hb hby d12_4) rfl (l' := #[.val (.ref tz), .val (.ref x1), .val (.int (0 : Int32))]) rfl ?_
    refine XS.iloadN X228.here hx rfl (hb hby d12_5) rfl ?_
    refine XS.aloadN X228.here hx rfl (hb hby d12_6) rfl rfl ?_
    show Steps p.tables e below (T228.setTop (mkF m 7 #[.val (.ref tz), .val (.ref x1), .val (.int (0 : Int32))] [(.ref x1), (.int (0 : Int32))])) _
    refine st229.trans ?_
    show Steps p.tables e below (T229.setTop (mkF m 10 #[.val (.ref tz), .val (.ref x1), .val (.int (0 : Int32))] [(.int (0 : Int32)), (.int (0 : Int32))])) _
    refine XS.icmpNo X229.here hx rfl (hb hby d12_10) rfl (teq (by decide : (0 : Int32) = (0 : Int32))).2 ?_
    refine XS.aloadN X229.here hx rfl (hb hby d12_13) rfl rfl ?_
    show Steps p.tables e below (T229.setTop (mkF m 14 #[.val (.ref tz), .val (.ref x1), .val (.int (0 : Int32))] [(.ref tz)])) _
    refine st230.trans ?_
    show Steps p.tables e below (T230.setTop (mkF m 17 #[.val (.ref tz), .val (.ref x1), .val (.int (0 : Int32))] [(.int (1 : Int32))])) _
    refine XS.ifNo X230.here hx rfl (hb hby d12_17) rfl ((if0 _ _).trans (feq (by decide : ¬ ((1 : Int32) = (0 : Int32)))).1) ?_
    refine XS.aloadN X230.here hx rfl (hb hby d12_20) rfl rfl ?_
    show Steps p.tables e below (T230.setTop (mkF m 21 #[.val (.ref tz), .val (.ref x1), .val (.int (0 : Int32))] [(.ref tz)])) _
    refine st231 _ ?_
    show Steps p.tables e below (T231.setTop (mkF m 24 #[.val (.ref tz), .val (.ref x1), .val (.int (0 : Int32))] [(.ref tz_value)])) _
    refine XS.aloadN X231.here hx rfl (hb hby d12_24) rfl rfl ?_
    show Steps p.tables e below (T231.setTop (mkF m 25 #[.val (.ref tz), .val (.ref x1), .val (.int (0 : Int32))] [(.ref x1), (.ref tz_value)])) _
    refine st232 _ ?_
    show Steps p.tables e below (T232.setTop (mkF m 28 #[.val (.ref tz), .val (.ref x1), .val (.int (0 : Int32))] [(.ref x1_value), (.ref tz_value)])) _
    refine st233 _ ?_
    show Steps p.tables e below (T233.setTop (mkF m 31 #[.val (.ref tz), .val (.ref x1), .val (.int (0 : Int32))] [(.int r_233)])) _
    refine XS.goto X233.here hx rfl (pc0 := 31) (pc' := 45) rfl (hb hby d12_31) (by decide) (by decide) ?_
    show Steps p.tables e below (T233.setTop (mkF m 45 #[.val (.ref tz), .val (.ref x1), .val (.int (0 : Int32))] [(.int r_233)])) _
    exact retI X233 hx Bd.returns (hb hby d12_45) hr
  · show Q12_3 Z tz x1 tz_value x1_value z0 z1 z2 d k1 k2 st_COMPACT_STRINGS h0 n0 _ T233.heap _
    rw [eh233]
    exact ⟨r_233, rfl, N233, rfl, Q233_0⟩
theorem ef10_3 (m : MethodId) (tz : Addr) (x1 : Addr) : entryFrame m #[(.ref tz), (.ref x1)] 2 = mkF m 0 #[.val (.ref tz), .val (.ref x1)] [] := by first | (simp [entryFrame, mkF, argsToLocals, Value.category]; done) | rfl
def Q10_3 (Z : State) (tz : Addr) (x1 : Addr) (tz_value : Addr) (x1_value : Addr) (z0 : Int32) (z1 : Int32) (z2 : Int32) (d : Int32) (k1 : ClassId) (k2 : ClassId) (st_COMPACT_STRINGS : Int32) (h0 : Heap) (n0 : Nat) (v : Option Value) (h : Heap) (L : List Loc) : Prop := v = some (.int (own_b (d ∈ ([z0, z1, z2] : List Int32)))) ∧ Fr n0 L ∧ h = h0
set_option maxRecDepth 65536 in
set_option maxHeartbeats 40000000 in
theorem rm10_3 (l : Launch) (Z : State) (a0 : Array Value) (hw : ∀ d ∈ tables_1, d.before a0 Z = true) (ws : List Jvm.Cond) (tz : Addr) (x1 : Addr) (tz_value : Addr) (x1_value : Addr) (z0 : Int32) (z1 : Int32) (z2 : Int32) (d : Int32) (k1 : ClassId) (k2 : ClassId) (st_COMPACT_STRINGS : Int32) (h0 : Heap) (n0 : Nat) (Z0 : n0 ≤ h0.size) (O0 : Old Z n0 h0) (E_tz : Exa Z h0 tz "java/lang/String") (F_tz_value : Fld Z h0 tz "java/lang/String" "value" "[B" (.ref tz_value)) (F_tz_coder : Fld Z h0 tz "java/lang/String" "coder" "B" (.int (0 : Int32))) (V_tz : Arv Z h0 tz_value k1 .byte (3 : Int32) [(.int z0), (.int z1), (.int z2)] (.int 0)) (E_x1 : Exa Z h0 x1 "java/lang/String") (F_x1_value : Fld Z h0 x1 "java/lang/String" "value" "[B" (.ref x1_value)) (F_x1_coder : Fld Z h0 x1 "java/lang/String" "coder" "B" (.int (0 : Int32))) (V_x1 : Arv Z h0 x1_value k2 .byte (1 : Int32) [(.int d)] (.int 0)) (S_COMPACT_STRINGS : Sta Z Z.heap "java/lang/String" "COMPACT_STRINGS" "Z" (.int st_COMPACT_STRINGS)) (hcomp : ¬ (st_COMPACT_STRINGS = (0 : Int32))) :
    MetFree l (⟨"java/lang/String", "contains", "(Ljava/lang/CharSequence;)Z"⟩ : MethodName) (head1 (Jvm.Cond.code (⟨"java/lang/String", "contains", "(Ljava/lang/CharSequence;)Z"⟩ : MethodName) jdk_42_method_97_code 2 (some .boolean) :: ws) ({ frames := 3, cells := 0, slots := 0, locals := 49 } : Room)) (fun a U => a = #[(.ref tz), (.ref x1)] ∧ Z.Warmed39 U.vm ∧ U.heap = h0) (fun _ _ _ _ _ => True) (fun _ U o U' => ∃ v L, o = .returned v ∧ Q10_3 Z tz x1 tz_value x1_value z0 z1 z2 d k1 k2 st_COMPACT_STRINGS h0 n0 v U'.heap L ∧ FrameEnd U o U' L ({ frames := 3, cells := 0, slots := 0, locals := 49 } : Room).cells ({ frames := 3, cells := 0, slots := 0, locals := 49 } : Room).slots) := by
  refine MetFree.of_bodySF (plainFor_of_name pn_java_lang_String) hisR ?_
  intro p e s m args below meth c s₁ Bd hml0 hP hK
  obtain ⟨rfl, hZ, hh⟩ := hP
  have hx := Bd.exec
  have hby := Bd.bytes
  have hml : c.maxLocals = 2 := hml0
  have hown : s.vm.findClass "java/lang/String" = some m.cls := findClass_of_methodNamed Bd.named
  have hnm := (name_of_methodNamed Bd.named Bd.method).1
  have X0 : Stand p l e ({ frames := 3, cells := 0, slots := 0, locals := 49 } : Room) s m #[(.ref tz), (.ref x1)] below meth c s₁ [] 0 0 := Stand.of_body Bd
  have e0 : s₁.heap = h0 := by rw [← hh, Bd.state]; rfl
  have N0 := Fr.nil n0
  have K0 : Keep h0 h0 [] := Keep.refl _ _
  have pre0 : ∀ t, Steps p.tables e below (s₁.setTop (mkF m 0 #[.val (.ref tz), .val (.ref x1)] [])) t → Steps p.tables e below (s₁.setTop (entryFrame m #[(.ref tz), (.ref x1)] 2)) t := fun t k => castTop (ef10_3 m tz x1) k
  obtain ⟨cq234, kq234, q234a, q234b, q234c⟩ := isOf hZ e0 E_x1
  obtain ⟨_, _, ⟨T234, L234, k234, n234⟩, -, X234, ⟨Lc234, hQ234, l234, y234, z234⟩, st234⟩ := X0.interfaceBack hx (xi := (⟨"java/lang/CharSequence", "toString", "()Ljava/lang/String;"⟩ : MethodName)) (y := (⟨"java/lang/String", "toString", "()Ljava/lang/String;"⟩ : MethodName)) hown (mvT hZ (own_wd hw 49 rfl)) (mvT hZ (own_wd hw 50 rfl)) (mvT hZ (own_wd hw 51 rfl)) (mvT hZ (own_wd hw 52 rfl)) (mvT hZ (own_wd hw 53 rfl)) (mvT hZ (own_wd hw 54 rfl)) (mvT hZ (own_wd hw 55 rfl)) (mvT hZ (own_wd hw 56 rfl)) (by decide) (backOf (W := 1) (rm11 l Z a0 hw [] x1 h0 n0 Z0 O0) hZ (own_wd hw 57 rfl) (own_wd hw 7 rfl) (by decide) (by decide)) q234a q234b q234c (g := (mkF m 2 #[.val (.ref tz), .val (.ref x1)] [(.ref x1), (.ref tz)])) rfl (by rw [hml]; rfl) (Steps.refl _) (argsL := []) (rest := [(.ref tz)]) (lenOf pd_4 rfl) rfl (by show 2 * 0 + _ ≤ _; exact Nat.le_of_eq rfl) (hb hby d10_2) (fun _ _ => ⟨rfl, e0, (by decide : 0 + 0 ≤ _), (by decide : 0 + 0 ≤ _)⟩)
  dsimp only [Pt.U, Pt.locs, Pt.cells, Pt.slots] at X234 l234 y234 z234 st234 hQ234
  subst l234 y234 z234
  obtain ⟨rfl, N234q, eh234⟩ := hQ234
  have N234 := Fr.app N0 N234q
  obtain ⟨cq235, kq235, q235a, q235b, q235c⟩ := isOf hZ eh234 E_tz
  obtain ⟨_, _, ⟨T235, L235, k235, n235⟩, -, X235, ⟨Lc235, hQ235, l235, y235, z235⟩, st235⟩ := X234.virtualBack hx (y := (⟨"java/lang/String", "indexOf", "(Ljava/lang/String;)I"⟩ : MethodName)) (z := (⟨"java/lang/String", "indexOf", "(Ljava/lang/String;)I"⟩ : MethodName)) hown (mvT hZ (own_wd hw 58 rfl)) (mvT hZ (own_wd hw 59 rfl)) (notFace_of_selects (args := #[]) (mvT hZ (own_wd hw 61 rfl))) (mvT hZ (own_wd hw 61 rfl)) (mvT hZ (own_wd hw 60 rfl)) (by decide) (backOf (W := 0) (rm12_3 l Z a0 hw [] tz x1 tz_value x1_value z0 z1 z2 d k1 k2 st_COMPACT_STRINGS h0 n0 Z0 O0 E_tz F_tz_value F_tz_coder V_tz E_x1 F_x1_value F_x1_coder V_x1 S_COMPACT_STRINGS hcomp) hZ (own_wd hw 62 rfl) (own_wd hw 7 rfl) (by decide) (by decide)) q235a q235c (g := (mkF m 7 #[.val (.ref tz), .val (.ref x1)] [(.ref x1), (.ref tz)])) rfl (by rw [hml]; rfl) (Steps.refl _) (argsL := [(.ref x1)]) (rest := []) (lenOf pd_5 rfl) rfl (by show 2 * 0 + _ ≤ _; exact Nat.le_of_eq rfl) (hb hby d10_7) (fun _ _ => ⟨rfl, eh234, (by decide : 0 + 0 ≤ _), (by decide : 0 + 0 ≤ _)⟩)
  dsimp only [Pt.U, Pt.locs, Pt.cells, Pt.slots] at X235 l235 y235 z235 st235 hQ235
  subst l235 y235 z235
  obtain ⟨r_235, rfl, N235q, eh235, Q235_0⟩ := hQ235
  have N235 := Fr.app N234 N235q
  have pre236 : ∀ t, Steps p.tables e below (T235.setTop (mkF m 10 #[.val (.ref tz), .val (.ref x1)] [(.int r_235)])) t → Steps p.tables e below (s₁.setTop (entryFrame m #[(.ref tz), (.ref x1)] 2)) t := by
    intro t kt
    refine pre0 t ?_
    show Steps p.tables e below (s₁.setTop (mkF m 0 #[.val (.ref tz), .val (.ref x1)] [])) _
    refine XS.aloadN X0.here hx rfl (hb hby d10_0) rfl rfl ?_
    refine XS.aloadN X0.here hx rfl (hb hby d10_1) rfl rfl ?_
    show Steps p.tables e below (s₁.setTop (mkF m 2 #[.val (.ref tz), .val (.ref x1)] [(.ref x1), (.ref tz)])) _
    refine st234.trans ?_
    show Steps p.tables e below (T234.setTop (mkF m 7 #[.val (.ref tz), .val (.ref x1)] [(.ref x1), (.ref tz)])) _
    refine st235.trans ?_
    exact kt
  by_cases hc10 : r_235 < (0 : Int32)
  · skip
    obtain ⟨fs, hr, hrun, hended, hW, hsame⟩ := X235.leave (v := some (.int (0 : Int32))) (fun h => by rw [Bd.returns] at h; cases h)
    refine ⟨_, _, pre236 _ ?_, hrun, hended, _, _, rfl, ?_, ⟨_, rfl⟩, hW, hsame.mono (by decide) (by decide)⟩
    · show Steps p.tables e below (T235.setTop (mkF m 10 #[.val (.ref tz), .val (.ref x1)] [(.int r_235)])) _
      refine XS.ifYes X235.here hx rfl (pc0 := 10) (pc' := 17) rfl (hb hby d10_10) rfl ((if0 _ _).trans (tlt hc10).1) (by decide) (by decide) ?_
      refine XS.iconst X235.here hx rfl (hb hby d10_17) ?_
      show Steps p.tables e below (T235.setTop (mkF m 18 #[.val (.ref tz), .val (.ref x1)] [(.int (0 : Int32))])) _
      exact retN X235 hx (t := .boolean) Bd.returns (by simp) (hb hby d10_18) hr
    · show Q10_3 Z tz x1 tz_value x1_value z0 z1 z2 d k1 k2 st_COMPACT_STRINGS h0 n0 _ T235.heap _
      rw [eh235]
      exact ⟨(by rw [own_bf (Q235_0.mp hc10)]), N235, rfl⟩
  · skip
    obtain ⟨fs, hr, hrun, hended, hW, hsame⟩ := X235.leave (v := some (.int (1 : Int32))) (fun h => by rw [Bd.returns] at h; cases h)
    refine ⟨_, _, pre236 _ ?_, hrun, hended, _, _, rfl, ?_, ⟨_, rfl⟩, hW, hsame.mono (by decide) (by decide)⟩
    · show Steps p.tables e below (T235.setTop (mkF m 10 #[.val (.ref tz), .val (.ref x1)] [(.int r_235)])) _
      refine XS.ifNo X235.here hx rfl (hb hby d10_10) rfl ((if0 _ _).trans (flt hc10).1) ?_
      refine XS.iconst X235.here hx rfl (hb hby d10_13) ?_
      refine XS.goto X235.here hx rfl (pc0 := 14) (pc' := 18) rfl (hb hby d10_14) (by decide) (by decide) ?_
      show Steps p.tables e below (T235.setTop (mkF m 18 #[.val (.ref tz), .val (.ref x1)] [(.int (1 : Int32))])) _
      exact retN X235 hx (t := .boolean) Bd.returns (by simp) (hb hby d10_18) hr
    · show Q10_3 Z tz x1 tz_value x1_value z0 z1 z2 d k1 k2 st_COMPACT_STRINGS h0 n0 _ T235.heap _
      rw [eh235]
      exact ⟨(by rw [own_bt (own_nn Q235_0 hc10)]), N235, rfl⟩
theorem ef17_3 (m : MethodId) (tz : Addr) : entryFrame m #[(.ref tz)] 1 = mkF m 0 #[.val (.ref tz)] [] := by first | (simp [entryFrame, mkF, argsToLocals, Value.category]; done) | rfl
def Q17_3 (Z : State) (tz : Addr) (tz_value : Addr) (z0 : Int32) (z1 : Int32) (z2 : Int32) (k1 : ClassId) (h0 : Heap) (n0 : Nat) (v : Option Value) (h : Heap) (L : List Loc) : Prop := v = some (.int (0 : Int32)) ∧ Fr n0 L ∧ h = h0
set_option maxRecDepth 65536 in
set_option maxHeartbeats 40000000 in
theorem rm17_3 (l : Launch) (Z : State) (a0 : Array Value) (hw : ∀ d ∈ tables_1, d.before a0 Z = true) (ws : List Jvm.Cond) (tz : Addr) (tz_value : Addr) (z0 : Int32) (z1 : Int32) (z2 : Int32) (k1 : ClassId) (h0 : Heap) (n0 : Nat) (Z0 : n0 ≤ h0.size) (O0 : Old Z n0 h0) (F_tz_value : Fld Z h0 tz "java/lang/String" "value" "[B" (.ref tz_value)) (V_tz : Arv Z h0 tz_value k1 .byte (3 : Int32) [(.int z0), (.int z1), (.int z2)] (.int 0)) :
    MetFree l (⟨"java/lang/String", "isEmpty", "()Z"⟩ : MethodName) (head1 (Jvm.Cond.code (⟨"java/lang/String", "isEmpty", "()Z"⟩ : MethodName) jdk_42_method_55_code 1 (some .boolean) :: ws) ({ frames := 0, cells := 0, slots := 0, locals := 0 } : Room)) (fun a U => a = #[(.ref tz)] ∧ Z.Warmed39 U.vm ∧ U.heap = h0) (fun _ _ _ _ _ => True) (fun _ U o U' => ∃ v L, o = .returned v ∧ Q17_3 Z tz tz_value z0 z1 z2 k1 h0 n0 v U'.heap L ∧ FrameEnd U o U' L ({ frames := 0, cells := 0, slots := 0, locals := 0 } : Room).cells ({ frames := 0, cells := 0, slots := 0, locals := 0 } : Room).slots) := by
  refine MetFree.of_bodySF (plainFor_of_name pn_java_lang_String) hisR ?_
  intro p e s m args below meth c s₁ Bd hml0 hP hK
  obtain ⟨rfl, hZ, hh⟩ := hP
  have hx := Bd.exec
  have hby := Bd.bytes
  have hml : c.maxLocals = 1 := hml0
  have hown : s.vm.findClass "java/lang/String" = some m.cls := findClass_of_methodNamed Bd.named
  have hnm := (name_of_methodNamed Bd.named Bd.method).1
  have X0 : Stand p l e ({ frames := 0, cells := 0, slots := 0, locals := 0 } : Room) s m #[(.ref tz)] below meth c s₁ [] 0 0 := Stand.of_body Bd
  have e0 : s₁.heap = h0 := by rw [← hh, Bd.state]; rfl
  have N0 := Fr.nil n0
  have K0 : Keep h0 h0 [] := Keep.refl _ _
  have pre0 : ∀ t, Steps p.tables e below (s₁.setTop (mkF m 0 #[.val (.ref tz)] [])) t → Steps p.tables e below (s₁.setTop (entryFrame m #[(.ref tz)] 1)) t := fun t k => castTop (ef17_3 m tz) k
  obtain ⟨T237, X237, e237, st237⟩ := getF X0 hx hZ hown (host := "") (Or.inl (own_wd hw 32 rfl)) Via.refl e0 F_tz_value (g := (mkF m 1 #[.val (.ref tz)] [(.ref tz)])) rfl rfl (hb hby d17_1)
  obtain ⟨cl_a238, Ar_a238, -, S_a238, N_a238, -, -⟩ := id V_tz
  obtain ⟨fs, hr, hrun, hended, hW, hsame⟩ := X237.leave (v := some (.int (0 : Int32))) (fun h => by rw [Bd.returns] at h; cases h)
  refine ⟨_, _, pre0 _ ?_, hrun, hended, _, _, rfl, ?_, ⟨_, rfl⟩, hW, hsame.mono (by decide) (by decide)⟩
  · show Steps p.tables e below (s₁.setTop (mkF m 0 #[.val (.ref tz)] [])) _
    refine XS.aloadN X0.here hx rfl (hb hby d17_0) rfl rfl ?_
    show Steps p.tables e below (s₁.setTop (mkF m 1 #[.val (.ref tz)] [(.ref tz)])) _
    refine st237 _ ?_
    show Steps p.tables e below (T237.setTop (mkF m 4 #[.val (.ref tz)] [(.ref tz_value)])) _
    refine X237.arraylength hx (by rw [e237]; exact Ar_a238.1) (State.isArrayOf_alike hZ.alike Ar_a238.2.1) (g := (mkF m 4 #[.val (.ref tz)] [(.ref tz_value)])) rfl rfl (hb hby d17_4) _ ?_
    rw [len_of S_a238 N_a238]
    refine XS.ifYes X237.here hx rfl (pc0 := 5) (pc' := 12) rfl (hb hby d17_5) rfl ((if0 _ _).trans (feq (by decide : ¬ ((3 : Int32) = (0 : Int32)))).2) (by decide) (by decide) ?_
    refine XS.iconst X237.here hx rfl (hb hby d17_12) ?_
    show Steps p.tables e below (T237.setTop (mkF m 13 #[.val (.ref tz)] [(.int (0 : Int32))])) _
    exact retN X237 hx (t := .boolean) Bd.returns (by simp) (hb hby d17_13) hr
  · show Q17_3 Z tz tz_value z0 z1 z2 k1 h0 n0 _ T237.heap _
    rw [e237]
    exact ⟨rfl, N0, rfl⟩
theorem ef9_3 (m : MethodId) (x1 : Addr) : entryFrame m #[(.ref x1)] 2 = mkF m 0 #[.val (.ref x1), .unset] [] := by first | (simp [entryFrame, mkF, argsToLocals, Value.category]; done) | rfl
def Q9_3 (Z : State) (x1 : Addr) (x1_value : Addr) (y0 : Int32) (y1 : Int32) (y2 : Int32) (k1 : ClassId) (st_COMPACT_STRINGS : Int32) (h0 : Heap) (n0 : Nat) (v : Option Value) (h : Heap) (L : List Loc) : Prop := v = some (.int (own_b (¬ (([y0, y1, y2] : List Int32) = []) ∧ ¬ ((47 : Int32) ∈ ([(y0.toInt8.toInt32), (y1.toInt8.toInt32), (y2.toInt8.toInt32)] : List Int32)) ∧ ¬ ((92 : Int32) ∈ ([(y0.toInt8.toInt32), (y1.toInt8.toInt32), (y2.toInt8.toInt32)] : List Int32)) ∧ ¬ ((58 : Int32) ∈ ([(y0.toInt8.toInt32), (y1.toInt8.toInt32), (y2.toInt8.toInt32)] : List Int32)) ∧ ¬ (([y0, y1, y2] : List Int32) = ([(46 : Int32)] : List Int32)) ∧ ¬ (([y0, y1, y2] : List Int32) = ([(46 : Int32), (46 : Int32)] : List Int32))))) ∧ Fr n0 L ∧ Keep h0 h []
set_option maxRecDepth 65536 in
set_option maxHeartbeats 40000000 in
theorem rm9_3 (l : Launch) (Z : State) (a0 : Array Value) (hw : ∀ d ∈ tables_1, d.before a0 Z = true) (ws : List Jvm.Cond) (x1 : Addr) (x1_value : Addr) (y0 : Int32) (y1 : Int32) (y2 : Int32) (k1 : ClassId) (st_COMPACT_STRINGS : Int32) (h0 : Heap) (n0 : Nat) (Z0 : n0 ≤ h0.size) (O0 : Old Z n0 h0) (E_x1 : Exa Z h0 x1 "java/lang/String") (F_x1_value : Fld Z h0 x1 "java/lang/String" "value" "[B" (.ref x1_value)) (F_x1_coder : Fld Z h0 x1 "java/lang/String" "coder" "B" (.int (0 : Int32))) (V_x1 : Arv Z h0 x1_value k1 .byte (3 : Int32) [(.int (y0.toInt8.toInt32)), (.int (y1.toInt8.toInt32)), (.int (y2.toInt8.toInt32))] (.int 0)) (hp : ∀ c ∈ ([y0, y1, y2] : List Int32), ¬ c < 0 ∧ ¬ (255 : Int32) < c) (S_COMPACT_STRINGS : Sta Z Z.heap "java/lang/String" "COMPACT_STRINGS" "Z" (.int st_COMPACT_STRINGS)) (hcomp : ¬ (st_COMPACT_STRINGS = (0 : Int32))) :
    MetFree l (⟨"com/example/stock/stock/io/FileNames", "isBare", "(Ljava/lang/String;)Z"⟩ : MethodName) (head1 (Jvm.Cond.code (⟨"com/example/stock/stock/io/FileNames", "isBare", "(Ljava/lang/String;)Z"⟩ : MethodName) prog_20_method_2_code 2 (some .boolean) :: ws) ({ frames := 4, cells := 10, slots := 44, locals := 62 } : Room)) (fun a U => a = #[(.ref x1)] ∧ Z.Warmed39 U.vm ∧ U.heap = h0 ∧ CHv Z own_EL U.vm h0) (fun _ _ _ _ _ => True) (fun _ U o U' => ∃ v L, o = .returned v ∧ Q9_3 Z x1 x1_value y0 y1 y2 k1 st_COMPACT_STRINGS h0 n0 v U'.heap L ∧ CHr Z own_EL U.vm U.heap U'.vm U'.heap ∧ ReturnedEndW U o U' L ({ frames := 4, cells := 10, slots := 44, locals := 62 } : Room).cells ({ frames := 4, cells := 10, slots := 44, locals := 62 } : Room).slots) := by
  refine MetFree.of_bodySF (plainFor_of_name pn_com_example_stock_stock_io_FileNames) hisR ?_
  intro p e s m args below meth c s₁ Bd hml0 hP hK
  obtain ⟨rfl, hZ, hh, CH0⟩ := hP
  have hx := Bd.exec
  have hby := Bd.bytes
  have hml : c.maxLocals = 2 := hml0
  have hown : (s.setVm s.vm).vm.findClass "com/example/stock/stock/io/FileNames" = some m.cls := findClass_of_methodNamed Bd.named
  have hnm := (name_of_methodNamed Bd.named Bd.method).1
  have X0 : Stand p l e ({ frames := 4, cells := 10, slots := 44, locals := 62 } : Room) (s.setVm s.vm) m #[(.ref x1)] below meth c s₁ [] 0 0 := Stand.of_body Bd
  have e0 : s₁.heap = h0 := by rw [← hh, Bd.state]; rfl
  have N0 := Fr.nil n0
  have K0 : Keep h0 h0 [] := Keep.refl _ _
  have pre0 : ∀ t, Steps p.tables e below (s₁.setTop (mkF m 0 #[.val (.ref x1), .unset] [])) t → Steps p.tables e below (s₁.setTop (entryFrame m #[(.ref x1)] 2)) t := fun t k => castTop (ef9_3 m x1) k
  have hZa : Z.Warmed39 (s.setVm s.vm).vm := hZ
  have howna : (s.setVm s.vm).vm.findClass "com/example/stock/stock/io/FileNames" = some m.cls := hown
  have hS0 : s.Since s.vm h0.size := (State.WarmedH.refl s).since _
  have hk0 : h0.size ≤ h0.size := Nat.le_refl _
  have CR0 : CHr Z own_EL s.vm h0 s.vm h0 := CHr.refl CH0
  obtain ⟨b239, T239, h239, k239, t239, kb239, X239, e239, E239, hS239, hk239, hZ239, hown239, Ex239, Co239, Va239, Ar239, lta239, ltb239, R239, Lt239, sep239, st239⟩ := ldcCH (s := s) (vm0 := s.vm) X0 hx hZa howna (own_wd hw 41 rfl) (own_wS hw) e0 hS0 hk0 (own_EW hw) (List.mem_of_getElem? (i := 0) rfl) CH0 (vs := [(.int (47 : Int32))]) (z := (1 : Int32)) ⟨by decide +kernel, by decide +kernel⟩ (by decide) (by decide) (g := (mkF m 1 #[.val (.ref x1), .unset] [(.ref x1)])) rfl (hb hby d9_1) (n := 4) (by decide +kernel) (by decide) (by decide) (by decide)
  have O239 : Old Z n0 h239 := O0.ext E239
  have Z239 : n0 ≤ h239.size := Nat.le_trans Z0 E239.1
  have K239 : Keep h0 h239 [] := K0.ext E239
  have CH239 : CHv Z own_EL T239.vm h239 := R239.1
  have CR239 : CHr Z own_EL s.vm h0 T239.vm h239 := CR0.trans R239
  have F240 : Fld Z h239 x1 "java/lang/String" "value" "[B" (.ref x1_value) := (F_x1_value.ext E239)
  have F241 : Fld Z h239 x1 "java/lang/String" "coder" "B" (.int (0 : Int32)) := (F_x1_coder.ext E239)
  have C242 : Exa Z h239 x1 "java/lang/String" := (E_x1.ext E239)
  have V243 : Arv Z h239 x1_value k1 .byte (3 : Int32) [(.int (y0.toInt8.toInt32)), (.int (y1.toInt8.toInt32)), (.int (y2.toInt8.toInt32))] (.int 0) := (V_x1.ext E239)
  obtain ⟨cq244, kq244, q244a, q244b, q244c⟩ := isOf hZ239 e239 C242
  obtain ⟨_, _, ⟨T244, L244, k244, n244⟩, -, X244, ⟨Lc244, hQ244, l244, y244, z244⟩, st244⟩ := X239.virtualBack hx (y := (⟨"java/lang/String", "contains", "(Ljava/lang/CharSequence;)Z"⟩ : MethodName)) (z := (⟨"java/lang/String", "contains", "(Ljava/lang/CharSequence;)Z"⟩ : MethodName)) hown239 (mvT hZ239 (own_wd hw 44 rfl)) (mvT hZ239 (own_wd hw 45 rfl)) (notFace_of_selects (args := #[]) (mvT hZ239 (own_wd hw 47 rfl))) (mvT hZ239 (own_wd hw 47 rfl)) (mvT hZ239 (own_wd hw 46 rfl)) (by decide) (backOf (W := 0) (rm10_3 l Z a0 hw [] x1 b239 x1_value t239 (y0.toInt8.toInt32) (y1.toInt8.toInt32) (y2.toInt8.toInt32) (47 : Int32) k1 kb239 st_COMPACT_STRINGS h239 n0 Z239 O239 C242 F240 F241 V243 Ex239 Va239 Co239 Ar239 S_COMPACT_STRINGS hcomp) hZ239 (own_wd hw 48 rfl) (own_wd hw 7 rfl) (by decide) (by decide)) q244a q244c (g := (mkF m 3 #[.val (.ref x1), .unset] [(.ref b239), (.ref x1)])) rfl (by rw [hml]; rfl) (Steps.refl _) (argsL := [(.ref b239)]) (rest := []) (lenOf pd_6 rfl) rfl (by show 2 * 0 + _ ≤ _; exact Nat.le_of_eq rfl) (hb hby d9_3) (fun _ _ => ⟨rfl, e239, (by decide : 2 + 0 ≤ _), (by decide : 8 + 0 ≤ _)⟩)
  dsimp only [Pt.U, Pt.locs, Pt.cells, Pt.slots] at X244 l244 y244 z244 st244 hQ244
  subst l244 y244 z244
  obtain ⟨rfl, N244q, eh244⟩ := hQ244
  have N244 := Fr.app N0 N244q
  have pre245 : ∀ t, Steps p.tables e below (T244.setTop (mkF m 6 #[.val (.ref x1), .unset] [(.int (own_b ((47 : Int32) ∈ ([(y0.toInt8.toInt32), (y1.toInt8.toInt32), (y2.toInt8.toInt32)] : List Int32))))])) t → Steps p.tables e below (s₁.setTop (entryFrame m #[(.ref x1)] 2)) t := by
    intro t kt
    refine pre0 t ?_
    show Steps p.tables e below (s₁.setTop (mkF m 0 #[.val (.ref x1), .unset] [])) _
    refine XS.aloadN X0.here hx rfl (hb hby d9_0) rfl rfl ?_
    show Steps p.tables e below (s₁.setTop (mkF m 1 #[.val (.ref x1), .unset] [(.ref x1)])) _
    refine st239 _ ?_
    show Steps p.tables e below (T239.setTop (mkF m 3 #[.val (.ref x1), .unset] [(.ref b239), (.ref x1)])) _
    refine st244.trans ?_
    exact kt
  by_cases hc6 : (own_b ((47 : Int32) ∈ ([(y0.toInt8.toInt32), (y1.toInt8.toInt32), (y2.toInt8.toInt32)] : List Int32))) = (0 : Int32)
  · skip
    have hq246 : ¬ ((47 : Int32) ∈ ([(y0.toInt8.toInt32), (y1.toInt8.toInt32), (y2.toInt8.toInt32)] : List Int32)) := own_b_not hc6
    obtain ⟨b247, T247, h247, k247, t247, kb247, X247, e247, E247, hS247, hk247, hZ247, hown247, Ex247, Co247, Va247, Ar247, lta247, ltb247, R247, Lt247, sep247, st247⟩ := ldcCH (s := s) (vm0 := T239.vm) X244 hx hZ239 hown239 (own_wd hw 80 rfl) (own_wS hw) eh244 hS239 hk239 (own_EW hw) (List.mem_of_getElem? (i := 1) rfl) CH239 (vs := [(.int (92 : Int32))]) (z := (1 : Int32)) ⟨by decide +kernel, by decide +kernel⟩ (by decide) (by decide) (g := (mkF m 10 #[.val (.ref x1), .unset] [(.ref x1)])) rfl (hb hby d9_10) (n := 4) (by decide +kernel) (by decide) (by decide) (by decide)
    have O247 : Old Z n0 h247 := O239.ext E247
    have Z247 : n0 ≤ h247.size := Nat.le_trans Z239 E247.1
    have K247 : Keep h0 h247 [] := K239.ext E247
    have CH247 : CHv Z own_EL T247.vm h247 := R247.1
    have CR247 : CHr Z own_EL s.vm h0 T247.vm h247 := CR239.trans R247
    have F248 : Fld Z h247 x1 "java/lang/String" "value" "[B" (.ref x1_value) := (F240.ext E247)
    have F249 : Fld Z h247 x1 "java/lang/String" "coder" "B" (.int (0 : Int32)) := (F241.ext E247)
    have C250 : Exa Z h247 x1 "java/lang/String" := (C242.ext E247)
    have V251 : Arv Z h247 x1_value k1 .byte (3 : Int32) [(.int (y0.toInt8.toInt32)), (.int (y1.toInt8.toInt32)), (.int (y2.toInt8.toInt32))] (.int 0) := (V243.ext E247)
    obtain ⟨cq252, kq252, q252a, q252b, q252c⟩ := isOf hZ247 e247 C250
    obtain ⟨_, _, ⟨T252, L252, k252, n252⟩, -, X252, ⟨Lc252, hQ252, l252, y252, z252⟩, st252⟩ := X247.virtualBack hx (y := (⟨"java/lang/String", "contains", "(Ljava/lang/CharSequence;)Z"⟩ : MethodName)) (z := (⟨"java/lang/String", "contains", "(Ljava/lang/CharSequence;)Z"⟩ : MethodName)) hown247 (mvT hZ247 (own_wd hw 44 rfl)) (mvT hZ247 (own_wd hw 45 rfl)) (notFace_of_selects (args := #[]) (mvT hZ247 (own_wd hw 47 rfl))) (mvT hZ247 (own_wd hw 47 rfl)) (mvT hZ247 (own_wd hw 46 rfl)) (by decide) (backOf (W := 0) (rm10_3 l Z a0 hw [] x1 b247 x1_value t247 (y0.toInt8.toInt32) (y1.toInt8.toInt32) (y2.toInt8.toInt32) (92 : Int32) k1 kb247 st_COMPACT_STRINGS h247 n0 Z247 O247 C250 F248 F249 V251 Ex247 Va247 Co247 Ar247 S_COMPACT_STRINGS hcomp) hZ247 (own_wd hw 48 rfl) (own_wd hw 7 rfl) (by decide) (by decide)) q252a q252c (g := (mkF m 12 #[.val (.ref x1), .unset] [(.ref b247), (.ref x1)])) rfl (by rw [hml]; rfl) (Steps.refl _) (argsL := [(.ref b247)]) (rest := []) (lenOf pd_6 rfl) rfl (by show 2 * 0 + _ ≤ _; exact Nat.le_of_eq rfl) (hb hby d9_12) (fun _ _ => ⟨rfl, e247, (by decide : 4 + 0 ≤ _), (by decide : 16 + 0 ≤ _)⟩)
    dsimp only [Pt.U, Pt.locs, Pt.cells, Pt.slots] at X252 l252 y252 z252 st252 hQ252
    subst l252 y252 z252
    obtain ⟨rfl, N252q, eh252⟩ := hQ252
    have N252 := Fr.app N244 N252q
    have pre253 : ∀ t, Steps p.tables e below (T252.setTop (mkF m 15 #[.val (.ref x1), .unset] [(.int (own_b ((92 : Int32) ∈ ([(y0.toInt8.toInt32), (y1.toInt8.toInt32), (y2.toInt8.toInt32)] : List Int32))))])) t → Steps p.tables e below (s₁.setTop (entryFrame m #[(.ref x1)] 2)) t := by
      intro t kt
      refine pre245 t ?_
      show Steps p.tables e below (T244.setTop (mkF m 6 #[.val (.ref x1), .unset] [(.int (own_b ((47 : Int32) ∈ ([(y0.toInt8.toInt32), (y1.toInt8.toInt32), (y2.toInt8.toInt32)] : List Int32))))])) _
      refine XS.ifNo X244.here hx rfl (hb hby d9_6) rfl ((if0 _ _).trans (teq hc6).2) ?_
      refine XS.aloadN X244.here hx rfl (hb hby d9_9) rfl rfl ?_
      show Steps p.tables e below (T244.setTop (mkF m 10 #[.val (.ref x1), .unset] [(.ref x1)])) _
      refine st247 _ ?_
      show Steps p.tables e below (T247.setTop (mkF m 12 #[.val (.ref x1), .unset] [(.ref b247), (.ref x1)])) _
      refine st252.trans ?_
      exact kt
    by_cases hc15 : (own_b ((92 : Int32) ∈ ([(y0.toInt8.toInt32), (y1.toInt8.toInt32), (y2.toInt8.toInt32)] : List Int32))) = (0 : Int32)
    · skip
      have hq254 : ¬ ((92 : Int32) ∈ ([(y0.toInt8.toInt32), (y1.toInt8.toInt32), (y2.toInt8.toInt32)] : List Int32)) := own_b_not hc15
      obtain ⟨b255, T255, h255, k255, t255, kb255, X255, e255, E255, hS255, hk255, hZ255, hown255, Ex255, Co255, Va255, Ar255, lta255, ltb255, R255, Lt255, sep255, st255⟩ := ldcCH (s := s) (vm0 := T247.vm) X252 hx hZ247 hown247 (own_wd hw 81 rfl) (own_wS hw) eh252 hS247 hk247 (own_EW hw) (List.mem_of_getElem? (i := 2) rfl) CH247 (vs := [(.int (58 : Int32))]) (z := (1 : Int32)) ⟨by decide +kernel, by decide +kernel⟩ (by decide) (by decide) (g := (mkF m 19 #[.val (.ref x1), .unset] [(.ref x1)])) rfl (hb hby d9_19) (n := 4) (by decide +kernel) (by decide) (by decide) (by decide)
      have O255 : Old Z n0 h255 := O247.ext E255
      have Z255 : n0 ≤ h255.size := Nat.le_trans Z247 E255.1
      have K255 : Keep h0 h255 [] := K247.ext E255
      have CH255 : CHv Z own_EL T255.vm h255 := R255.1
      have CR255 : CHr Z own_EL s.vm h0 T255.vm h255 := CR247.trans R255
      have F256 : Fld Z h255 x1 "java/lang/String" "value" "[B" (.ref x1_value) := (F248.ext E255)
      have F257 : Fld Z h255 x1 "java/lang/String" "coder" "B" (.int (0 : Int32)) := (F249.ext E255)
      have C258 : Exa Z h255 x1 "java/lang/String" := (C250.ext E255)
      have V259 : Arv Z h255 x1_value k1 .byte (3 : Int32) [(.int (y0.toInt8.toInt32)), (.int (y1.toInt8.toInt32)), (.int (y2.toInt8.toInt32))] (.int 0) := (V251.ext E255)
      obtain ⟨cq260, kq260, q260a, q260b, q260c⟩ := isOf hZ255 e255 C258
      obtain ⟨_, _, ⟨T260, L260, k260, n260⟩, -, X260, ⟨Lc260, hQ260, l260, y260, z260⟩, st260⟩ := X255.virtualBack hx (y := (⟨"java/lang/String", "contains", "(Ljava/lang/CharSequence;)Z"⟩ : MethodName)) (z := (⟨"java/lang/String", "contains", "(Ljava/lang/CharSequence;)Z"⟩ : MethodName)) hown255 (mvT hZ255 (own_wd hw 44 rfl)) (mvT hZ255 (own_wd hw 45 rfl)) (notFace_of_selects (args := #[]) (mvT hZ255 (own_wd hw 47 rfl))) (mvT hZ255 (own_wd hw 47 rfl)) (mvT hZ255 (own_wd hw 46 rfl)) (by decide) (backOf (W := 0) (rm10_3 l Z a0 hw [] x1 b255 x1_value t255 (y0.toInt8.toInt32) (y1.toInt8.toInt32) (y2.toInt8.toInt32) (58 : Int32) k1 kb255 st_COMPACT_STRINGS h255 n0 Z255 O255 C258 F256 F257 V259 Ex255 Va255 Co255 Ar255 S_COMPACT_STRINGS hcomp) hZ255 (own_wd hw 48 rfl) (own_wd hw 7 rfl) (by decide) (by decide)) q260a q260c (g := (mkF m 21 #[.val (.ref x1), .unset] [(.ref b255), (.ref x1)])) rfl (by rw [hml]; rfl) (Steps.refl _) (argsL := [(.ref b255)]) (rest := []) (lenOf pd_6 rfl) rfl (by show 2 * 0 + _ ≤ _; exact Nat.le_of_eq rfl) (hb hby d9_21) (fun _ _ => ⟨rfl, e255, (by decide : 6 + 0 ≤ _), (by decide : 24 + 0 ≤ _)⟩)
      dsimp only [Pt.U, Pt.locs, Pt.cells, Pt.slots] at X260 l260 y260 z260 st260 hQ260
      subst l260 y260 z260
      obtain ⟨rfl, N260q, eh260⟩ := hQ260
      have N260 := Fr.app N252 N260q
      have pre261 : ∀ t, Steps p.tables e below (T260.setTop (mkF m 24 #[.val (.ref x1), .unset] [(.int (own_b ((58 : Int32) ∈ ([(y0.toInt8.toInt32), (y1.toInt8.toInt32), (y2.toInt8.toInt32)] : List Int32))))])) t → Steps p.tables e below (s₁.setTop (entryFrame m #[(.ref x1)] 2)) t := by
        intro t kt
        refine pre253 t ?_
        show Steps p.tables e below (T252.setTop (mkF m 15 #[.val (.ref x1), .unset] [(.int (own_b ((92 : Int32) ∈ ([(y0.toInt8.toInt32), (y1.toInt8.toInt32), (y2.toInt8.toInt32)] : List Int32))))])) _
        refine XS.ifNo X252.here hx rfl (hb hby d9_15) rfl ((if0 _ _).trans (teq hc15).2) ?_
        refine XS.aloadN X252.here hx rfl (hb hby d9_18) rfl rfl ?_
        show Steps p.tables e below (T252.setTop (mkF m 19 #[.val (.ref x1), .unset] [(.ref x1)])) _
        refine st255 _ ?_
        show Steps p.tables e below (T255.setTop (mkF m 21 #[.val (.ref x1), .unset] [(.ref b255), (.ref x1)])) _
        refine st260.trans ?_
        exact kt
      by_cases hc24 : (own_b ((58 : Int32) ∈ ([(y0.toInt8.toInt32), (y1.toInt8.toInt32), (y2.toInt8.toInt32)] : List Int32))) = (0 : Int32)
      · skip
        have hq262 : ¬ ((58 : Int32) ∈ ([(y0.toInt8.toInt32), (y1.toInt8.toInt32), (y2.toInt8.toInt32)] : List Int32)) := own_b_not hc24
        obtain ⟨cq263, kq263, q263a, q263b, q263c⟩ := isOf hZ255 eh260 C258
        obtain ⟨_, _, ⟨T263, L263, k263, n263⟩, -, X263, ⟨Lc263, hQ263, l263, y263, z263⟩, st263⟩ := X260.virtualBack hx (y := (⟨"java/lang/String", "isEmpty", "()Z"⟩ : MethodName)) (z := (⟨"java/lang/String", "isEmpty", "()Z"⟩ : MethodName)) hown255 (mvT hZ255 (own_wd hw 82 rfl)) (mvT hZ255 (own_wd hw 83 rfl)) (notFace_of_selects (args := #[]) (mvT hZ255 (own_wd hw 85 rfl))) (mvT hZ255 (own_wd hw 85 rfl)) (mvT hZ255 (own_wd hw 84 rfl)) (by decide) (backOf (W := 0) (rm17_3 l Z a0 hw [] x1 x1_value (y0.toInt8.toInt32) (y1.toInt8.toInt32) (y2.toInt8.toInt32) k1 h255 n0 Z255 O255 F256 V259) hZ255 (own_wd hw 86 rfl) (own_wd hw 7 rfl) (by decide) (by decide)) q263a q263c (g := (mkF m 38 #[.val (.ref x1), .val (.int (0 : Int32))] [(.ref x1)])) rfl (by rw [hml]; rfl) (Steps.refl _) (argsL := []) (rest := []) (lenOf pd_2 rfl) rfl (by show 2 * 0 + _ ≤ _; exact Nat.le_of_eq rfl) (hb hby d9_38) (fun _ _ => ⟨rfl, eh260, (by decide : 6 + 0 ≤ _), (by decide : 24 + 0 ≤ _)⟩)
        dsimp only [Pt.U, Pt.locs, Pt.cells, Pt.slots] at X263 l263 y263 z263 st263 hQ263
        subst l263 y263 z263
        obtain ⟨rfl, N263q, eh263⟩ := hQ263
        have N263 := Fr.app N260 N263q
        obtain ⟨b264, T264, h264, k264, t264, kb264, X264, e264, E264, hS264, hk264, hZ264, hown264, Ex264, Co264, Va264, Ar264, lta264, ltb264, R264, Lt264, sep264, st264⟩ := ldcCH (s := s) (vm0 := T255.vm) X263 hx hZ255 hown255 (own_wd hw 87 rfl) (own_wS hw) eh263 hS255 hk255 (own_EW hw) (List.mem_of_getElem? (i := 3) rfl) CH255 (vs := [(.int (46 : Int32))]) (z := (1 : Int32)) ⟨by decide +kernel, by decide +kernel⟩ (by decide) (by decide) (g := (mkF m 45 #[.val (.ref x1), .val (.int (0 : Int32))] [(.ref x1)])) rfl (hb hby d9_45) (n := 4) (by decide +kernel) (by decide) (by decide) (by decide)
        have O264 : Old Z n0 h264 := O255.ext E264
        have Z264 : n0 ≤ h264.size := Nat.le_trans Z255 E264.1
        have K264 : Keep h0 h264 [] := K255.ext E264
        have CH264 : CHv Z own_EL T264.vm h264 := R264.1
        have CR264 : CHr Z own_EL s.vm h0 T264.vm h264 := CR255.trans R264
        have C265 : Exa Z h264 x1 "java/lang/String" := (C258.ext E264)
        have F266 : Fld Z h264 x1 "java/lang/String" "value" "[B" (.ref x1_value) := (F256.ext E264)
        have F267 : Fld Z h264 x1 "java/lang/String" "coder" "B" (.int (0 : Int32)) := (F257.ext E264)
        have V268 : Arv Z h264 x1_value k1 .byte (3 : Int32) [(.int (y0.toInt8.toInt32)), (.int (y1.toInt8.toInt32)), (.int (y2.toInt8.toInt32))] (.int 0) := (V259.ext E264)
        have cd269 : StrChars.Road.CodA ([y0, y1, y2] : List Int32) 0 (3 : Int32) [(.int (y0.toInt8.toInt32)), (.int (y1.toInt8.toInt32)), (.int (y2.toInt8.toInt32))] := StrChars.Road.codOf (n := 3) rfl (fun c hc => (hp c hc).2)
        have hb270 : ∀ c ∈ ([y0, y1, y2] : List Int32), ¬ c < 0 ∧ ¬ (65535 : Int32) < c := own_up _ hp
        have cd271 : StrChars.Road.CodA ([(46 : Int32)] : List Int32) 0 (1 : Int32) [(.int (46 : Int32))] := Or.inl ⟨rfl, by decide +kernel, by decide +kernel, by decide +kernel⟩
        have hb272 : ∀ c ∈ ([(46 : Int32)] : List Int32), ¬ c < 0 ∧ ¬ (65535 : Int32) < c := by decide +kernel
        obtain ⟨cq273, kq273, q273a, q273b, q273c⟩ := isOf hZ264 e264 C265
        obtain ⟨_, _, ⟨T273, L273, k273, n273⟩, -, X273, ⟨Lc273, hQ273, l273, y273, z273⟩, st273⟩ := X264.virtualBack hx (y := (⟨"java/lang/String", "equals", "(Ljava/lang/Object;)Z"⟩ : MethodName)) (z := (⟨"java/lang/String", "equals", "(Ljava/lang/Object;)Z"⟩ : MethodName)) hown264 (mvT hZ264 (own_wd hw 88 rfl)) (mvT hZ264 (own_wd hw 89 rfl)) (notFace_of_selects (args := #[]) (mvT hZ264 (own_wd hw 91 rfl))) (mvT hZ264 (own_wd hw 91 rfl)) (mvT hZ264 (own_wd hw 90 rfl)) (by decide) (StrChars.Road.eqW (W := 0) hZ264 (own_heq hw) (kI := 4) (own_wd hw 6 rfl) C265 F266 F267 V268 cd269 hb270 (Nat.le_of_ble_eq_true rfl) Ex264 Va264 Co264 Ar264 cd271 hb272 (Nat.le_of_ble_eq_true rfl) (S_COMPACT_STRINGS.ext O264.2) hcomp (by decide) (by decide)) q273a q273c (g := (mkF m 47 #[.val (.ref x1), .val (.int (0 : Int32))] [(.ref b264), (.ref x1)])) rfl (by rw [hml]; rfl) (Steps.refl _) (argsL := [(.ref b264)]) (rest := []) (lenOf pd_8 rfl) rfl (by show 2 * 0 + _ ≤ _; exact Nat.le_of_eq rfl) (hb hby d9_47) (fun _ _ => ⟨rfl, e264, (by decide : 8 + 0 ≤ _), (by decide : 32 + 0 ≤ _)⟩)
        dsimp only [Pt.U, Pt.locs, Pt.cells, Pt.slots] at X273 l273 y273 z273 st273 hQ273
        subst l273 y273 z273
        obtain ⟨hv273, rfl, eh273⟩ := hQ273
        have N273 := Fr.app N263 (Fr.nil n0)
        obtain rfl : _ = some (Value.int (own_b (([y0, y1, y2] : List Int32) = ([(46 : Int32)] : List Int32)))) := by rcases hv273 with ⟨q1, q2⟩ | ⟨q1, q2⟩; exact q1.trans (by rw [own_bt q2]); exact q1.trans (by rw [own_bf q2])
        have pre274 : ∀ t, Steps p.tables e below (T273.setTop (mkF m 50 #[.val (.ref x1), .val (.int (0 : Int32))] [(.int (own_b (([y0, y1, y2] : List Int32) = ([(46 : Int32)] : List Int32))))])) t → Steps p.tables e below (s₁.setTop (entryFrame m #[(.ref x1)] 2)) t := by
          intro t kt
          refine pre261 t ?_
          show Steps p.tables e below (T260.setTop (mkF m 24 #[.val (.ref x1), .unset] [(.int (own_b ((58 : Int32) ∈ ([(y0.toInt8.toInt32), (y1.toInt8.toInt32), (y2.toInt8.toInt32)] : List Int32))))])) _
          refine XS.ifYes X260.here hx rfl (pc0 := 24) (pc' := 31) rfl (hb hby d9_24) rfl ((if0 _ _).trans (teq hc24).1) (by decide) (by decide) ?_
          refine XS.iconst X260.here hx rfl (hb hby d9_31) ?_
          refine XS.istoreN X260.here hx rfl (hb hby d9_32) rfl (l' := #[.val (.ref x1), .val (.int (0 : Int32))]) rfl ?_
          refine XS.iloadN X260.here hx rfl (hb hby d9_33) rfl ?_
          refine XS.ifNo X260.here hx rfl (hb hby d9_34) rfl ((if0 _ _).trans (teq (by decide : (0 : Int32) = (0 : Int32))).2) ?_
          refine XS.aloadN X260.here hx rfl (hb hby d9_37) rfl rfl ?_
          show Steps p.tables e below (T260.setTop (mkF m 38 #[.val (.ref x1), .val (.int (0 : Int32))] [(.ref x1)])) _
          refine st263.trans ?_
          show Steps p.tables e below (T263.setTop (mkF m 41 #[.val (.ref x1), .val (.int (0 : Int32))] [(.int (0 : Int32))])) _
          refine XS.ifNo X263.here hx rfl (hb hby d9_41) rfl ((if0 _ _).trans (teq (by decide : (0 : Int32) = (0 : Int32))).2) ?_
          refine XS.aloadN X263.here hx rfl (hb hby d9_44) rfl rfl ?_
          show Steps p.tables e below (T263.setTop (mkF m 45 #[.val (.ref x1), .val (.int (0 : Int32))] [(.ref x1)])) _
          refine st264 _ ?_
          show Steps p.tables e below (T264.setTop (mkF m 47 #[.val (.ref x1), .val (.int (0 : Int32))] [(.ref b264), (.ref x1)])) _
          refine st273.trans ?_
          exact kt
        by_cases hc50 : (own_b (([y0, y1, y2] : List Int32) = ([(46 : Int32)] : List Int32))) = (0 : Int32)
        · skip
          have hq275 : ¬ (([y0, y1, y2] : List Int32) = ([(46 : Int32)] : List Int32)) := own_b_not hc50
          obtain ⟨b276, T276, h276, k276, t276, kb276, X276, e276, E276, hS276, hk276, hZ276, hown276, Ex276, Co276, Va276, Ar276, lta276, ltb276, R276, Lt276, sep276, st276⟩ := ldcCH (s := s) (vm0 := T264.vm) X273 hx hZ264 hown264 (own_wd hw 97 rfl) (own_wS hw) eh273 hS264 hk264 (own_EW hw) (List.mem_of_getElem? (i := 4) rfl) CH264 (vs := [(.int (46 : Int32)), (.int (46 : Int32))]) (z := (2 : Int32)) ⟨by decide +kernel, by decide +kernel⟩ (by decide) (by decide) (g := (mkF m 54 #[.val (.ref x1), .val (.int (0 : Int32))] [(.ref x1)])) rfl (hb hby d9_54) (n := 8) (by decide +kernel) (by decide) (by decide) (by decide)
          have O276 : Old Z n0 h276 := O264.ext E276
          have Z276 : n0 ≤ h276.size := Nat.le_trans Z264 E276.1
          have K276 : Keep h0 h276 [] := K264.ext E276
          have CH276 : CHv Z own_EL T276.vm h276 := R276.1
          have CR276 : CHr Z own_EL s.vm h0 T276.vm h276 := CR264.trans R276
          have C277 : Exa Z h276 x1 "java/lang/String" := (C265.ext E276)
          have F278 : Fld Z h276 x1 "java/lang/String" "value" "[B" (.ref x1_value) := (F266.ext E276)
          have F279 : Fld Z h276 x1 "java/lang/String" "coder" "B" (.int (0 : Int32)) := (F267.ext E276)
          have V280 : Arv Z h276 x1_value k1 .byte (3 : Int32) [(.int (y0.toInt8.toInt32)), (.int (y1.toInt8.toInt32)), (.int (y2.toInt8.toInt32))] (.int 0) := (V268.ext E276)
          have cd281 : StrChars.Road.CodA ([(46 : Int32), (46 : Int32)] : List Int32) 0 (2 : Int32) [(.int (46 : Int32)), (.int (46 : Int32))] := Or.inl ⟨rfl, by decide +kernel, by decide +kernel, by decide +kernel⟩
          have hb282 : ∀ c ∈ ([(46 : Int32), (46 : Int32)] : List Int32), ¬ c < 0 ∧ ¬ (65535 : Int32) < c := by decide +kernel
          obtain ⟨cq283, kq283, q283a, q283b, q283c⟩ := isOf hZ276 e276 C277
          obtain ⟨_, _, ⟨T283, L283, k283, n283⟩, -, X283, ⟨Lc283, hQ283, l283, y283, z283⟩, st283⟩ := X276.virtualBack hx (y := (⟨"java/lang/String", "equals", "(Ljava/lang/Object;)Z"⟩ : MethodName)) (z := (⟨"java/lang/String", "equals", "(Ljava/lang/Object;)Z"⟩ : MethodName)) hown276 (mvT hZ276 (own_wd hw 88 rfl)) (mvT hZ276 (own_wd hw 89 rfl)) (notFace_of_selects (args := #[]) (mvT hZ276 (own_wd hw 91 rfl))) (mvT hZ276 (own_wd hw 91 rfl)) (mvT hZ276 (own_wd hw 90 rfl)) (by decide) (StrChars.Road.eqW (W := 0) hZ276 (own_heq hw) (kI := 4) (own_wd hw 6 rfl) C277 F278 F279 V280 cd269 hb270 (Nat.le_of_ble_eq_true rfl) Ex276 Va276 Co276 Ar276 cd281 hb282 (Nat.le_of_ble_eq_true rfl) (S_COMPACT_STRINGS.ext O276.2) hcomp (by decide) (by decide)) q283a q283c (g := (mkF m 56 #[.val (.ref x1), .val (.int (0 : Int32))] [(.ref b276), (.ref x1)])) rfl (by rw [hml]; rfl) (Steps.refl _) (argsL := [(.ref b276)]) (rest := []) (lenOf pd_8 rfl) rfl (by show 2 * 0 + _ ≤ _; exact Nat.le_of_eq rfl) (hb hby d9_56) (fun _ _ => ⟨rfl, e276, (by decide : 10 + 0 ≤ _), (by decide : 44 + 0 ≤ _)⟩)
          dsimp only [Pt.U, Pt.locs, Pt.cells, Pt.slots] at X283 l283 y283 z283 st283 hQ283
          subst l283 y283 z283
          obtain ⟨hv283, rfl, eh283⟩ := hQ283
          have N283 := Fr.app N273 (Fr.nil n0)
          obtain rfl : _ = some (Value.int (own_b (([y0, y1, y2] : List Int32) = ([(46 : Int32), (46 : Int32)] : List Int32)))) := by rcases hv283 with ⟨q1, q2⟩ | ⟨q1, q2⟩; exact q1.trans (by rw [own_bt q2]); exact q1.trans (by rw [own_bf q2])
          have pre284 : ∀ t, Steps p.tables e below (T283.setTop (mkF m 59 #[.val (.ref x1), .val (.int (0 : Int32))] [(.int (own_b (([y0, y1, y2] : List Int32) = ([(46 : Int32), (46 : Int32)] : List Int32))))])) t → Steps p.tables e below (s₁.setTop (entryFrame m #[(.ref x1)] 2)) t := by
            intro t kt
            refine pre274 t ?_
            show Steps p.tables e below (T273.setTop (mkF m 50 #[.val (.ref x1), .val (.int (0 : Int32))] [(.int (own_b (([y0, y1, y2] : List Int32) = ([(46 : Int32)] : List Int32))))])) _
            refine XS.ifNo X273.here hx rfl (hb hby d9_50) rfl ((if0 _ _).trans (teq hc50).2) ?_
            refine XS.aloadN X273.here hx rfl (hb hby d9_53) rfl rfl ?_
            show Steps p.tables e below (T273.setTop (mkF m 54 #[.val (.ref x1), .val (.int (0 : Int32))] [(.ref x1)])) _
            refine st276 _ ?_
            show Steps p.tables e below (T276.setTop (mkF m 56 #[.val (.ref x1), .val (.int (0 : Int32))] [(.ref b276), (.ref x1)])) _
            refine st283.trans ?_
            exact kt
          by_cases hc59 : (own_b (([y0, y1, y2] : List Int32) = ([(46 : Int32), (46 : Int32)] : List Int32))) = (0 : Int32)
          · skip
            have hq285 : ¬ (([y0, y1, y2] : List Int32) = ([(46 : Int32), (46 : Int32)] : List Int32)) := own_b_not hc59
            obtain ⟨fs, hr, hrun, hended, hW, hsame⟩ := X283.leave (v := some (.int (1 : Int32))) (fun h => by rw [Bd.returns] at h; cases h)
            have hend := hS276.ended hW (show _ ≤ T283.heap.size from by rw [eh283]; exact hk276) hsame
            have hcr : CHr Z own_EL s.vm s.heap T283.vm T283.heap := by
              rw [hh, eh283]
              exact CR276.trans (CHv.at X283 hZ276 (own_EW hw) CH276)
            refine ⟨_, _, pre284 _ ?_, hrun, hended, _, _, rfl, ?_, hcr, ⟨_, rfl⟩, hend.1, hend.2.1, hend.2.2.mono (by decide) (by decide)⟩
            · show Steps p.tables e below (T283.setTop (mkF m 59 #[.val (.ref x1), .val (.int (0 : Int32))] [(.int (own_b (([y0, y1, y2] : List Int32) = ([(46 : Int32), (46 : Int32)] : List Int32))))])) _
              refine XS.ifNo X283.here hx rfl (hb hby d9_59) rfl ((if0 _ _).trans (teq hc59).2) ?_
              refine XS.iconst X283.here hx rfl (hb hby d9_62) ?_
              refine XS.goto X283.here hx rfl (pc0 := 63) (pc' := 67) rfl (hb hby d9_63) (by decide) (by decide) ?_
              show Steps p.tables e below (T283.setTop (mkF m 67 #[.val (.ref x1), .val (.int (0 : Int32))] [(.int (1 : Int32))])) _
              exact retN X283 hx (t := .boolean) Bd.returns (by simp) (hb hby d9_67) hr
            · show Q9_3 Z x1 x1_value y0 y1 y2 k1 st_COMPACT_STRINGS h0 n0 _ T283.heap _
              rw [eh283]
              exact ⟨(by rw [own_bt ⟨(fun q => nomatch q), hq246, hq254, hq262, hq275, hq285⟩]; try rfl), N283, K276⟩
          · skip
            have hq286 : ([y0, y1, y2] : List Int32) = ([(46 : Int32), (46 : Int32)] : List Int32) := own_b_of hc59
            obtain ⟨fs, hr, hrun, hended, hW, hsame⟩ := X283.leave (v := some (.int (0 : Int32))) (fun h => by rw [Bd.returns] at h; cases h)
            have hend := hS276.ended hW (show _ ≤ T283.heap.size from by rw [eh283]; exact hk276) hsame
            have hcr : CHr Z own_EL s.vm s.heap T283.vm T283.heap := by
              rw [hh, eh283]
              exact CR276.trans (CHv.at X283 hZ276 (own_EW hw) CH276)
            refine ⟨_, _, pre284 _ ?_, hrun, hended, _, _, rfl, ?_, hcr, ⟨_, rfl⟩, hend.1, hend.2.1, hend.2.2.mono (by decide) (by decide)⟩
            · show Steps p.tables e below (T283.setTop (mkF m 59 #[.val (.ref x1), .val (.int (0 : Int32))] [(.int (own_b (([y0, y1, y2] : List Int32) = ([(46 : Int32), (46 : Int32)] : List Int32))))])) _
              refine XS.ifYes X283.here hx rfl (pc0 := 59) (pc' := 66) rfl (hb hby d9_59) rfl ((if0 _ _).trans (feq hc59).2) (by decide) (by decide) ?_
              refine XS.iconst X283.here hx rfl (hb hby d9_66) ?_
              show Steps p.tables e below (T283.setTop (mkF m 67 #[.val (.ref x1), .val (.int (0 : Int32))] [(.int (0 : Int32))])) _
              exact retN X283 hx (t := .boolean) Bd.returns (by simp) (hb hby d9_67) hr
            · show Q9_3 Z x1 x1_value y0 y1 y2 k1 st_COMPACT_STRINGS h0 n0 _ T283.heap _
              rw [eh283]
              exact ⟨(by rw [own_bf (fun q => q.2.2.2.2.2 hq286)]; try rfl), N283, K276⟩
        · skip
          have hq287 : ([y0, y1, y2] : List Int32) = ([(46 : Int32)] : List Int32) := own_b_of hc50
          obtain ⟨fs, hr, hrun, hended, hW, hsame⟩ := X273.leave (v := some (.int (0 : Int32))) (fun h => by rw [Bd.returns] at h; cases h)
          have hend := hS264.ended hW (show _ ≤ T273.heap.size from by rw [eh273]; exact hk264) hsame
          have hcr : CHr Z own_EL s.vm s.heap T273.vm T273.heap := by
            rw [hh, eh273]
            exact CR264.trans (CHv.at X273 hZ264 (own_EW hw) CH264)
          refine ⟨_, _, pre274 _ ?_, hrun, hended, _, _, rfl, ?_, hcr, ⟨_, rfl⟩, hend.1, hend.2.1, hend.2.2.mono (by decide) (by decide)⟩
          · show Steps p.tables e below (T273.setTop (mkF m 50 #[.val (.ref x1), .val (.int (0 : Int32))] [(.int (own_b (([y0, y1, y2] : List Int32) = ([(46 : Int32)] : List Int32))))])) _
            refine XS.ifYes X273.here hx rfl (pc0 := 50) (pc' := 66) rfl (hb hby d9_50) rfl ((if0 _ _).trans (feq hc50).2) (by decide) (by decide) ?_
            refine XS.iconst X273.here hx rfl (hb hby d9_66) ?_
            show Steps p.tables e below (T273.setTop (mkF m 67 #[.val (.ref x1), .val (.int (0 : Int32))] [(.int (0 : Int32))])) _
            exact retN X273 hx (t := .boolean) Bd.returns (by simp) (hb hby d9_67) hr
          · show Q9_3 Z x1 x1_value y0 y1 y2 k1 st_COMPACT_STRINGS h0 n0 _ T273.heap _
            rw [eh273]
            exact ⟨(by rw [own_bf (fun q => q.2.2.2.2.1 hq287)]; try rfl), N273, K264⟩
      · skip
        have hq288 : (58 : Int32) ∈ ([(y0.toInt8.toInt32), (y1.toInt8.toInt32), (y2.toInt8.toInt32)] : List Int32) := own_b_of hc24
        obtain ⟨fs, hr, hrun, hended, hW, hsame⟩ := X260.leave (v := some (.int (0 : Int32))) (fun h => by rw [Bd.returns] at h; cases h)
        have hend := hS255.ended hW (show _ ≤ T260.heap.size from by rw [eh260]; exact hk255) hsame
        have hcr : CHr Z own_EL s.vm s.heap T260.vm T260.heap := by
          rw [hh, eh260]
          exact CR255.trans (CHv.at X260 hZ255 (own_EW hw) CH255)
        refine ⟨_, _, pre261 _ ?_, hrun, hended, _, _, rfl, ?_, hcr, ⟨_, rfl⟩, hend.1, hend.2.1, hend.2.2.mono (by decide) (by decide)⟩
        · show Steps p.tables e below (T260.setTop (mkF m 24 #[.val (.ref x1), .unset] [(.int (own_b ((58 : Int32) ∈ ([(y0.toInt8.toInt32), (y1.toInt8.toInt32), (y2.toInt8.toInt32)] : List Int32))))])) _
          refine XS.ifNo X260.here hx rfl (hb hby d9_24) rfl ((if0 _ _).trans (feq hc24).1) ?_
          refine XS.iconst X260.here hx rfl (hb hby d9_27) ?_
          refine XS.goto X260.here hx rfl (pc0 := 28) (pc' := 32) rfl (hb hby d9_28) (by decide) (by decide) ?_
          refine XS.istoreN X260.here hx rfl (hb hby d9_32) rfl (l' := #[.val (.ref x1), .val (.int (1 : Int32))]) rfl ?_
          refine XS.iloadN X260.here hx rfl (hb hby d9_33) rfl ?_
          refine XS.ifYes X260.here hx rfl (pc0 := 34) (pc' := 66) rfl (hb hby d9_34) rfl ((if0 _ _).trans (feq (by decide : ¬ ((1 : Int32) = (0 : Int32)))).2) (by decide) (by decide) ?_
          show Steps p.tables e below (T260.setTop (mkF m 66 #[.val (.ref x1), .val (.int (1 : Int32))] [])) _
          refine XS.iconst X260.here hx rfl (hb hby d9_66) ?_
          show Steps p.tables e below (T260.setTop (mkF m 67 #[.val (.ref x1), .val (.int (1 : Int32))] [(.int (0 : Int32))])) _
          exact retN X260 hx (t := .boolean) Bd.returns (by simp) (hb hby d9_67) hr
        · show Q9_3 Z x1 x1_value y0 y1 y2 k1 st_COMPACT_STRINGS h0 n0 _ T260.heap _
          rw [eh260]
          exact ⟨(by rw [own_bf (fun q => q.2.2.2.1 hq288)]; try rfl), N260, K255⟩
    · skip
      have hq289 : (92 : Int32) ∈ ([(y0.toInt8.toInt32), (y1.toInt8.toInt32), (y2.toInt8.toInt32)] : List Int32) := own_b_of hc15
      obtain ⟨fs, hr, hrun, hended, hW, hsame⟩ := X252.leave (v := some (.int (0 : Int32))) (fun h => by rw [Bd.returns] at h; cases h)
      have hend := hS247.ended hW (show _ ≤ T252.heap.size from by rw [eh252]; exact hk247) hsame
      have hcr : CHr Z own_EL s.vm s.heap T252.vm T252.heap := by
        rw [hh, eh252]
        exact CR247.trans (CHv.at X252 hZ247 (own_EW hw) CH247)
      refine ⟨_, _, pre253 _ ?_, hrun, hended, _, _, rfl, ?_, hcr, ⟨_, rfl⟩, hend.1, hend.2.1, hend.2.2.mono (by decide) (by decide)⟩
      · show Steps p.tables e below (T252.setTop (mkF m 15 #[.val (.ref x1), .unset] [(.int (own_b ((92 : Int32) ∈ ([(y0.toInt8.toInt32), (y1.toInt8.toInt32), (y2.toInt8.toInt32)] : List Int32))))])) _
        refine XS.ifYes X252.here hx rfl (pc0 := 15) (pc' := 27) rfl (hb hby d9_15) rfl ((if0 _ _).trans (feq hc15).2) (by decide) (by decide) ?_
        refine XS.iconst X252.here hx rfl (hb hby d9_27) ?_
        refine XS.goto X252.here hx rfl (pc0 := 28) (pc' := 32) rfl (hb hby d9_28) (by decide) (by decide) ?_
        refine XS.istoreN X252.here hx rfl (hb hby d9_32) rfl (l' := #[.val (.ref x1), .val (.int (1 : Int32))]) rfl ?_
        refine XS.iloadN X252.here hx rfl (hb hby d9_33) rfl ?_
        refine XS.ifYes X252.here hx rfl (pc0 := 34) (pc' := 66) rfl (hb hby d9_34) rfl ((if0 _ _).trans (feq (by decide : ¬ ((1 : Int32) = (0 : Int32)))).2) (by decide) (by decide) ?_
        show Steps p.tables e below (T252.setTop (mkF m 66 #[.val (.ref x1), .val (.int (1 : Int32))] [])) _
        refine XS.iconst X252.here hx rfl (hb hby d9_66) ?_
        show Steps p.tables e below (T252.setTop (mkF m 67 #[.val (.ref x1), .val (.int (1 : Int32))] [(.int (0 : Int32))])) _
        exact retN X252 hx (t := .boolean) Bd.returns (by simp) (hb hby d9_67) hr
      · show Q9_3 Z x1 x1_value y0 y1 y2 k1 st_COMPACT_STRINGS h0 n0 _ T252.heap _
        rw [eh252]
        exact ⟨(by rw [own_bf (fun q => q.2.2.1 hq289)]; try rfl), N252, K247⟩
  · skip
    have hq290 : (47 : Int32) ∈ ([(y0.toInt8.toInt32), (y1.toInt8.toInt32), (y2.toInt8.toInt32)] : List Int32) := own_b_of hc6
    obtain ⟨fs, hr, hrun, hended, hW, hsame⟩ := X244.leave (v := some (.int (0 : Int32))) (fun h => by rw [Bd.returns] at h; cases h)
    have hend := hS239.ended hW (show _ ≤ T244.heap.size from by rw [eh244]; exact hk239) hsame
    have hcr : CHr Z own_EL s.vm s.heap T244.vm T244.heap := by
      rw [hh, eh244]
      exact CR239.trans (CHv.at X244 hZ239 (own_EW hw) CH239)
    refine ⟨_, _, pre245 _ ?_, hrun, hended, _, _, rfl, ?_, hcr, ⟨_, rfl⟩, hend.1, hend.2.1, hend.2.2.mono (by decide) (by decide)⟩
    · show Steps p.tables e below (T244.setTop (mkF m 6 #[.val (.ref x1), .unset] [(.int (own_b ((47 : Int32) ∈ ([(y0.toInt8.toInt32), (y1.toInt8.toInt32), (y2.toInt8.toInt32)] : List Int32))))])) _
      refine XS.ifYes X244.here hx rfl (pc0 := 6) (pc' := 27) rfl (hb hby d9_6) rfl ((if0 _ _).trans (feq hc6).2) (by decide) (by decide) ?_
      refine XS.iconst X244.here hx rfl (hb hby d9_27) ?_
      refine XS.goto X244.here hx rfl (pc0 := 28) (pc' := 32) rfl (hb hby d9_28) (by decide) (by decide) ?_
      refine XS.istoreN X244.here hx rfl (hb hby d9_32) rfl (l' := #[.val (.ref x1), .val (.int (1 : Int32))]) rfl ?_
      refine XS.iloadN X244.here hx rfl (hb hby d9_33) rfl ?_
      refine XS.ifYes X244.here hx rfl (pc0 := 34) (pc' := 66) rfl (hb hby d9_34) rfl ((if0 _ _).trans (feq (by decide : ¬ ((1 : Int32) = (0 : Int32)))).2) (by decide) (by decide) ?_
      show Steps p.tables e below (T244.setTop (mkF m 66 #[.val (.ref x1), .val (.int (1 : Int32))] [])) _
      refine XS.iconst X244.here hx rfl (hb hby d9_66) ?_
      show Steps p.tables e below (T244.setTop (mkF m 67 #[.val (.ref x1), .val (.int (1 : Int32))] [(.int (0 : Int32))])) _
      exact retN X244 hx (t := .boolean) Bd.returns (by simp) (hb hby d9_67) hr
    · show Q9_3 Z x1 x1_value y0 y1 y2 k1 st_COMPACT_STRINGS h0 n0 _ T244.heap _
      rw [eh244]
      exact ⟨(by rw [own_bf (fun q => q.2.1 hq290)]; try rfl), N244, K239⟩
theorem pd_9 : parseMethodDescriptor "(I)C" = some ⟨[.int], some .char⟩ := by decide +kernel
theorem pd_10 : parseMethodDescriptor "([C)V" = some ⟨[(.array .char)], none⟩ := by decide +kernel
theorem pd_11 : parseMethodDescriptor "(Ljava/lang/String;)Z" = some ⟨[(.object "java/lang/String")], some .boolean⟩ := by decide +kernel
theorem pd_12 : parseMethodDescriptor "(C)Z" = some ⟨[.char], some .boolean⟩ := by decide +kernel
theorem ef0 (m : MethodId) (x1 : Int32) (x2 : Int32) (x3 : Int32) (x4 : Int32) : entryFrame m #[(.int x1), (.int x2), (.int x3), (.int x4)] maxLocals = mkF m 0 #[.val (.int x1), .val (.int x2), .val (.int x3), .val (.int x4), .unset, .unset, .unset, .unset, .unset, .unset, .unset, .unset, .unset, .unset] [] := by first | (simp [entryFrame, mkF, argsToLocals, Value.category, maxLocals]; done) | rfl
def Q0 (Z : State) (x1 : Int32) (x2 : Int32) (x3 : Int32) (x4 : Int32) (st_COMPACT_STRINGS : Int32) (h0 : Heap) (n0 : Nat) (v : Option Value) (h : Heap) (L : List Loc) : Prop := v = some (.int (1 : Int32)) ∧ Fr n0 L ∧ Keep h0 h []
set_option maxRecDepth 65536 in
set_option maxHeartbeats 40000000 in
theorem rm0 (l : Launch) (Z : State) (a0 : Array Value) (hw : ∀ d ∈ tables_1, d.before a0 Z = true) (ws : List Jvm.Cond) (x1 : Int32) (x2 : Int32) (x3 : Int32) (x4 : Int32) (st_COMPACT_STRINGS : Int32) (h0 : Heap) (n0 : Nat) (Z0 : n0 ≤ h0.size) (O0 : Old Z n0 h0) (S_COMPACT_STRINGS : Sta Z Z.heap "java/lang/String" "COMPACT_STRINGS" "Z" (.int st_COMPACT_STRINGS)) (hcomp : ¬ (st_COMPACT_STRINGS = (0 : Int32))) :
    MetFree l x (head1 (Jvm.Cond.code x code maxLocals ret :: ws) room_1) (fun a U => a = #[(.int x1), (.int x2), (.int x3), (.int x4)] ∧ Z.Warmed39 U.vm ∧ U.heap = h0 ∧ CHv Z own_EL U.vm h0) (fun _ _ _ _ _ => True) (fun _ U o U' => ∃ v L, o = .returned v ∧ Q0 Z x1 x2 x3 x4 st_COMPACT_STRINGS h0 n0 v U'.heap L ∧ CHr Z own_EL U.vm U.heap U'.vm U'.heap ∧ ReturnedEndW U o U' L room_1.cells room_1.slots) := by
  refine MetFree.of_bodySF (plainFor_of_name pn_com_example_stock_stock_io_FileNamesIsBarePinLaw) hisR ?_
  intro p e s m args below meth c s₁ Bd hml0 hP hK
  obtain ⟨rfl, hZ, hh, CH0⟩ := hP
  have hx := Bd.exec
  have hby := Bd.bytes
  have hml : c.maxLocals = 14 := hml0
  have hown : (s.setVm s.vm).vm.findClass "com/example/stock/stock/io/FileNamesIsBarePinLaw" = some m.cls := findClass_of_methodNamed Bd.named
  have hnm := (name_of_methodNamed Bd.named Bd.method).1
  have X0 : Stand p l e room_1 (s.setVm s.vm) m #[(.int x1), (.int x2), (.int x3), (.int x4)] below meth c s₁ [] 0 0 := Stand.of_body Bd
  have e0 : s₁.heap = h0 := by rw [← hh, Bd.state]; rfl
  have N0 := Fr.nil n0
  have K0 : Keep h0 h0 [] := Keep.refl _ _
  have pre0 : ∀ t, Steps p.tables e below (s₁.setTop (mkF m 0 #[.val (.int x1), .val (.int x2), .val (.int x3), .val (.int x4), .unset, .unset, .unset, .unset, .unset, .unset, .unset, .unset, .unset, .unset] [])) t → Steps p.tables e below (s₁.setTop (entryFrame m #[(.int x1), (.int x2), (.int x3), (.int x4)] maxLocals)) t := fun t k => castTop (ef0 m x1 x2 x3 x4) k
  have hZa : Z.Warmed39 (s.setVm s.vm).vm := hZ
  have howna : (s.setVm s.vm).vm.findClass "com/example/stock/stock/io/FileNamesIsBarePinLaw" = some m.cls := hown
  have hS0 : s.Since s.vm h0.size := (State.WarmedH.refl s).since _
  have hk0 : h0.size ≤ h0.size := Nat.le_refl _
  have CR0 : CHr Z own_EL s.vm h0 s.vm h0 := CHr.refl CH0
  obtain ⟨_, _, ⟨T291, L291, k291, n291⟩, -, X291, ⟨Lc291, hQ291, l291, y291, z291⟩, st291⟩ := Jvm.LawKit.callS X0 hx (y := (⟨"com/example/stock/stock/io/FileNamesIsBarePinLaw", "pick", "(I)C"⟩ : MethodName)) howna (mvT hZa (own_wd hw 0 rfl)) (mvT hZa (own_wd hw 1 rfl)) (mvT hZa (own_wd hw 2 rfl)) (mvT hZa (own_wd hw 3 rfl)) (by decide) (backOf (W := 0) (rm1 l Z a0 hw [] x1 h0 n0 Z0 O0) hZa (own_wd hw 3 rfl) (own_wd hw 2 rfl) (by decide) (by decide)) (g := (mkF m 6 #[.val (.int x1), .val (.int x2), .val (.int x3), .val (.int x4), .val (.int (x4 &&& (3 : Int32))), .unset, .unset, .unset, .unset, .unset, .unset, .unset, .unset, .unset] [(.int x1)])) rfl (by rw [hml]; rfl) (argsL := [(.int x1)]) (rest := []) (lenOf pd_9 rfl) rfl (by show 2 * 0 + _ ≤ _; exact Nat.le_of_eq rfl) (hb hby at_6) (fun _ _ => ⟨rfl, e0, (by decide : 0 + 0 ≤ _), (by decide : 0 + 0 ≤ _)⟩)
  dsimp only [Pt.U, Pt.locs, Pt.cells, Pt.slots] at X291 l291 y291 z291 st291 hQ291
  subst l291 y291 z291
  obtain ⟨rfl, N291q, eh291⟩ := hQ291
  have N291 := Fr.app N0 N291q
  obtain ⟨_, _, ⟨T292, L292, k292, n292⟩, -, X292, ⟨Lc292, hQ292, l292, y292, z292⟩, st292⟩ := Jvm.LawKit.callS X291 hx (y := (⟨"com/example/stock/stock/io/FileNamesIsBarePinLaw", "pick", "(I)C"⟩ : MethodName)) howna (mvT hZa (own_wd hw 0 rfl)) (mvT hZa (own_wd hw 1 rfl)) (mvT hZa (own_wd hw 2 rfl)) (mvT hZa (own_wd hw 3 rfl)) (by decide) (backOf (W := 0) (rm1 l Z a0 hw [] x2 h0 n0 Z0 O0) hZa (own_wd hw 3 rfl) (own_wd hw 2 rfl) (by decide) (by decide)) (g := (mkF m 12 #[.val (.int x1), .val (.int x2), .val (.int x3), .val (.int x4), .val (.int (x4 &&& (3 : Int32))), .val (.int (own_pick x1)), .unset, .unset, .unset, .unset, .unset, .unset, .unset, .unset] [(.int x2)])) rfl (by rw [hml]; rfl) (argsL := [(.int x2)]) (rest := []) (lenOf pd_9 rfl) rfl (by show 2 * 0 + _ ≤ _; exact Nat.le_of_eq rfl) (hb hby at_12) (fun _ _ => ⟨rfl, eh291, (by decide : 0 + 0 ≤ _), (by decide : 0 + 0 ≤ _)⟩)
  dsimp only [Pt.U, Pt.locs, Pt.cells, Pt.slots] at X292 l292 y292 z292 st292 hQ292
  subst l292 y292 z292
  obtain ⟨rfl, N292q, eh292⟩ := hQ292
  have N292 := Fr.app N291 N292q
  obtain ⟨_, _, ⟨T293, L293, k293, n293⟩, -, X293, ⟨Lc293, hQ293, l293, y293, z293⟩, st293⟩ := Jvm.LawKit.callS X292 hx (y := (⟨"com/example/stock/stock/io/FileNamesIsBarePinLaw", "pick", "(I)C"⟩ : MethodName)) howna (mvT hZa (own_wd hw 0 rfl)) (mvT hZa (own_wd hw 1 rfl)) (mvT hZa (own_wd hw 2 rfl)) (mvT hZa (own_wd hw 3 rfl)) (by decide) (backOf (W := 0) (rm1 l Z a0 hw [] x3 h0 n0 Z0 O0) hZa (own_wd hw 3 rfl) (own_wd hw 2 rfl) (by decide) (by decide)) (g := (mkF m 18 #[.val (.int x1), .val (.int x2), .val (.int x3), .val (.int x4), .val (.int (x4 &&& (3 : Int32))), .val (.int (own_pick x1)), .val (.int (own_pick x2)), .unset, .unset, .unset, .unset, .unset, .unset, .unset] [(.int x3)])) rfl (by rw [hml]; rfl) (argsL := [(.int x3)]) (rest := []) (lenOf pd_9 rfl) rfl (by show 2 * 0 + _ ≤ _; exact Nat.le_of_eq rfl) (hb hby at_18) (fun _ _ => ⟨rfl, eh292, (by decide : 0 + 0 ≤ _), (by decide : 0 + 0 ≤ _)⟩)
  dsimp only [Pt.U, Pt.locs, Pt.cells, Pt.slots] at X293 l293 y293 z293 st293 hQ293
  subst l293 y293 z293
  obtain ⟨rfl, N293q, eh293⟩ := hQ293
  have N293 := Fr.app N292 N293q
  have pre294 : ∀ t, Steps p.tables e below (T293.setTop (mkF m 25 #[.val (.int x1), .val (.int x2), .val (.int x3), .val (.int x4), .val (.int (x4 &&& (3 : Int32))), .val (.int (own_pick x1)), .val (.int (own_pick x2)), .val (.int (own_pick x3)), .unset, .unset, .unset, .unset, .unset, .unset] [(.int (x4 &&& (3 : Int32)))])) t → Steps p.tables e below (s₁.setTop (entryFrame m #[(.int x1), (.int x2), (.int x3), (.int x4)] maxLocals)) t := by
    intro t kt
    refine pre0 t ?_
    show Steps p.tables e below (s₁.setTop (mkF m 0 #[.val (.int x1), .val (.int x2), .val (.int x3), .val (.int x4), .unset, .unset, .unset, .unset, .unset, .unset, .unset, .unset, .unset, .unset] [])) _
    refine XS.iloadN X0.here hx rfl (hb hby at_0) rfl ?_
    refine XS.iconst X0.here hx rfl (hb hby at_1) ?_
    refine XS.iand X0.here hx rfl (hb hby at_2) rfl ?_
    refine XS.istore X0.here hx rfl (hb hby at_3) rfl (l' := #[.val (.int x1), .val (.int x2), .val (.int x3), .val (.int x4), .val (.int (x4 &&& (3 : Int32))), .unset, .unset, .unset, .unset, .unset, .unset, .unset, .unset, .unset]) rfl ?_
    refine XS.iloadN X0.here hx rfl (hb hby at_5) rfl ?_
    show Steps p.tables e below (s₁.setTop (mkF m 6 #[.val (.int x1), .val (.int x2), .val (.int x3), .val (.int x4), .val (.int (x4 &&& (3 : Int32))), .unset, .unset, .unset, .unset, .unset, .unset, .unset, .unset, .unset] [(.int x1)])) _
    refine st291 _ ?_
    show Steps p.tables e below (T291.setTop (mkF m 9 #[.val (.int x1), .val (.int x2), .val (.int x3), .val (.int x4), .val (.int (x4 &&& (3 : Int32))), .unset, .unset, .unset, .unset, .unset, .unset, .unset, .unset, .unset] [(.int (own_pick x1))])) _
    refine XS.istore X291.here hx rfl (hb hby at_9) rfl (l' := #[.val (.int x1), .val (.int x2), .val (.int x3), .val (.int x4), .val (.int (x4 &&& (3 : Int32))), .val (.int (own_pick x1)), .unset, .unset, .unset, .unset, .unset, .unset, .unset, .unset]) rfl ?_
    refine XS.iloadN X291.here hx rfl (hb hby at_11) rfl ?_
    show Steps p.tables e below (T291.setTop (mkF m 12 #[.val (.int x1), .val (.int x2), .val (.int x3), .val (.int x4), .val (.int (x4 &&& (3 : Int32))), .val (.int (own_pick x1)), .unset, .unset, .unset, .unset, .unset, .unset, .unset, .unset] [(.int x2)])) _
    refine st292 _ ?_
    show Steps p.tables e below (T292.setTop (mkF m 15 #[.val (.int x1), .val (.int x2), .val (.int x3), .val (.int x4), .val (.int (x4 &&& (3 : Int32))), .val (.int (own_pick x1)), .unset, .unset, .unset, .unset, .unset, .unset, .unset, .unset] [(.int (own_pick x2))])) _
    refine XS.istore X292.here hx rfl (hb hby at_15) rfl (l' := #[.val (.int x1), .val (.int x2), .val (.int x3), .val (.int x4), .val (.int (x4 &&& (3 : Int32))), .val (.int (own_pick x1)), .val (.int (own_pick x2)), .unset, .unset, .unset, .unset, .unset, .unset, .unset]) rfl ?_
    refine XS.iloadN X292.here hx rfl (hb hby at_17) rfl ?_
    show Steps p.tables e below (T292.setTop (mkF m 18 #[.val (.int x1), .val (.int x2), .val (.int x3), .val (.int x4), .val (.int (x4 &&& (3 : Int32))), .val (.int (own_pick x1)), .val (.int (own_pick x2)), .unset, .unset, .unset, .unset, .unset, .unset, .unset] [(.int x3)])) _
    refine st293 _ ?_
    show Steps p.tables e below (T293.setTop (mkF m 21 #[.val (.int x1), .val (.int x2), .val (.int x3), .val (.int x4), .val (.int (x4 &&& (3 : Int32))), .val (.int (own_pick x1)), .val (.int (own_pick x2)), .unset, .unset, .unset, .unset, .unset, .unset, .unset] [(.int (own_pick x3))])) _
    refine XS.istore X293.here hx rfl (hb hby at_21) rfl (l' := #[.val (.int x1), .val (.int x2), .val (.int x3), .val (.int x4), .val (.int (x4 &&& (3 : Int32))), .val (.int (own_pick x1)), .val (.int (own_pick x2)), .val (.int (own_pick x3)), .unset, .unset, .unset, .unset, .unset, .unset]) rfl ?_
    refine XS.iload X293.here hx rfl (hb hby at_23) rfl ?_
    exact kt
  by_cases hc25 : (x4 &&& (3 : Int32)) = (0 : Int32)
  · skip
    obtain ⟨T295, h295, k295, X295, e295, E295, A295, st295⟩ := newP X293 hx hZa (own_wd hw 4 rfl) eh293 (g := (mkF m 29 #[.val (.int x1), .val (.int x2), .val (.int x3), .val (.int x4), .val (.int (x4 &&& (3 : Int32))), .val (.int (own_pick x1)), .val (.int (own_pick x2)), .val (.int (own_pick x3)), .unset, .unset, .unset, .unset, .unset, .unset] [(.int (0 : Int32))])) rfl (hb hby at_29) rfl (by decide) (cap := 0) (by decide) (by decide) (by decide) (by decide)
    obtain ⟨b295, g295⟩ : ∃ z, z = h0.size := ⟨_, rfl⟩
    rw [← g295] at A295 st295
    have O295 : Old Z n0 h295 := O0.ext E295
    have Z295 : n0 ≤ h295.size := Nat.le_trans Z0 E295.1
    have K295 : Keep h0 h295 [] := K0.ext E295
    have CH295 : CHv Z own_EL s.vm h295 := CHv.ext E295 CH0
    have CR295 : CHr Z own_EL s.vm h0 s.vm h295 := CR0.trans (CHr.ext E295 CH0)
    have g_b295 : n0 ≤ b295 := Nat.le_trans Z0 (Nat.le_of_eq g295.symm)
    have sz_b295 : h0.size ≤ b295 := Nat.le_trans K0.1 (Nat.le_of_eq g295.symm)
    have V295 : Arv Z h295 b295 k295 .char (0 : Int32) [] (.int (0 : Int32)) := Arv.new A295 (by decide)
    obtain ⟨T296, h296, X296, e296, E296, A296, D296, U296, st296⟩ := newO X295 hx hZa howna (own_wd hw 5 rfl) (own_wd hw 6 rfl) (own_wd hw 7 rfl) e295 (g := (mkF m 93 #[.val (.int x1), .val (.int x2), .val (.int x3), .val (.int x4), .val (.int (x4 &&& (3 : Int32))), .val (.int (own_pick x1)), .val (.int (own_pick x2)), .val (.int (own_pick x3)), .val (.ref b295), .unset, .unset, .unset, .unset, .unset] [])) rfl (hb hby at_93) (by decide) (by decide)
    obtain ⟨b296, g296⟩ : ∃ z, z = h295.size := ⟨_, rfl⟩
    rw [← g296] at A296 D296 st296
    have O296 : Old Z n0 h296 := O295.ext E296
    have Z296 : n0 ≤ h296.size := Nat.le_trans Z295 E296.1
    have K296 : Keep h0 h296 [] := K295.ext E296
    have CH296 : CHv Z own_EL s.vm h296 := CHv.ext E296 CH295
    have CR296 : CHr Z own_EL s.vm h0 s.vm h296 := CR295.trans (CHr.ext E296 CH295)
    have g_b296 : n0 ≤ b296 := Nat.le_trans Z295 (Nat.le_of_eq g296.symm)
    have sz_b296 : h0.size ≤ b296 := Nat.le_trans K295.1 (Nat.le_of_eq g296.symm)
    have F_b296_coder : Fld Z h296 b296 "java/lang/String" "coder" "B" (.int (0 : Int32)) := D296 (Or.inr (own_wd hw 31 rfl)) (ty := .byte) (by decide)
    have F_b296_value : Fld Z h296 b296 "java/lang/String" "value" "[B" .null := D296 (Or.inr (own_wd hw 33 rfl)) (ty := (.array .byte)) (by decide)
    have V297 : Arv Z h296 b295 k295 .char (0 : Int32) [] (.int (0 : Int32)) := (V295.ext E296)
    obtain ⟨_, _, ⟨T298, L298, k298, n298⟩, -, X298, hS298, hg298, ⟨Lc298, hQ298, l298, y298, z298, R298⟩, st298⟩ := X296.specialBackS hx (y := (⟨"java/lang/String", "<init>", "([C)V"⟩ : MethodName)) rfl howna (mvT hZa (own_wd hw 8 rfl)) (mvT hZa (own_wd hw 9 rfl)) (mvT hZa (own_wd hw 10 rfl)) (by decide) (backOfSH (s := s) (vm0 := s.vm) (W := 1) (rm2 l Z a0 hw [] b296 b295 k295 (.int (0 : Int32)) h296 n0 Z296 O296 A296 F_b296_value V297 F_b296_coder g_b296) hZa (own_wd hw 10 rfl) (own_wd hw 7 rfl) (by decide) (by decide) (own_EW hw) CH296) (g := (mkF m 99 #[.val (.int x1), .val (.int x2), .val (.int x3), .val (.int x4), .val (.int (x4 &&& (3 : Int32))), .val (.int (own_pick x1)), .val (.int (own_pick x2)), .val (.int (own_pick x3)), .val (.ref b295), .unset, .unset, .unset, .unset, .unset] [(.ref b295), (.ref b296), (.ref b296)])) rfl (by rw [hml]; rfl) (Steps.refl _) (a := b296) (argsL := [(.ref b295)]) (rest := [(.ref b296)]) (lenOf pd_10 rfl) rfl (by show 2 * 0 + _ ≤ _; exact Nat.le_of_eq rfl) (hb hby at_99) (fun _ _ => ⟨rfl, e296, (by decide : 2 + 4 ≤ _), (by decide : 4 + 8 ≤ _)⟩)
    dsimp only [Pt.U, Pt.locs, Pt.cells, Pt.slots] at X298 l298 y298 z298 st298 hQ298 hS298 hg298 R298
    subst l298 y298 z298
    obtain ⟨X298, hS298, hZ298, hown298⟩ := rebS hS0 (Nat.le_trans (Nat.le_trans hk0 E295.1) E296.1) X298 hS298 (by rw [← e296]; exact hg298) hZa howna
    obtain ⟨t_298, kk_298, rfl, N298q, KK298, Q298_0, Q298_1, Q298_2, Q298_3⟩ := hQ298
    have N298 := Fr.app N293 N298q
    have O298 : Old Z n0 T298.heap := O296.keep KK298 (allS g_b296 all0)
    have Z298 : n0 ≤ T298.heap.size := Nat.le_trans Z296 KK298.1
    have K298 : Keep h0 T298.heap [] := K296.trans KK298 (allS (Or.inr sz_b296) all0)
    have CH298 : CHv Z own_EL T298.vm T298.heap := R298.1
    have CR298 : CHr Z own_EL s.vm h0 T298.vm T298.heap := CR296.trans R298
    have pre299 : ∀ t, Steps p.tables e below (T298.setTop (mkF m 104 #[.val (.int x1), .val (.int x2), .val (.int x3), .val (.int x4), .val (.int (x4 &&& (3 : Int32))), .val (.int (own_pick x1)), .val (.int (own_pick x2)), .val (.int (own_pick x3)), .val (.ref b295), .val (.ref b296), .unset, .unset, .unset, .unset] [])) t → Steps p.tables e below (s₁.setTop (entryFrame m #[(.int x1), (.int x2), (.int x3), (.int x4)] maxLocals)) t := by
      intro t kt
      refine pre294 t ?_
      show Steps p.tables e below (T293.setTop (mkF m 25 #[.val (.int x1), .val (.int x2), .val (.int x3), .val (.int x4), .val (.int (x4 &&& (3 : Int32))), .val (.int (own_pick x1)), .val (.int (own_pick x2)), .val (.int (own_pick x3)), .unset, .unset, .unset, .unset, .unset, .unset] [(.int (x4 &&& (3 : Int32)))])) _
      refine XS.ifNo X293.here hx rfl (hb hby at_25) rfl ((if0 _ _).trans (teq hc25).2) ?_
      refine XS.iconst X293.here hx rfl (hb hby at_28) ?_
      show Steps p.tables e below (T293.setTop (mkF m 29 #[.val (.int x1), .val (.int x2), .val (.int x3), .val (.int x4), .val (.int (x4 &&& (3 : Int32))), .val (.int (own_pick x1)), .val (.int (own_pick x2)), .val (.int (own_pick x3)), .unset, .unset, .unset, .unset, .unset, .unset] [(.int (0 : Int32))])) _
      refine st295 _ ?_
      show Steps p.tables e below (T295.setTop (mkF m 31 #[.val (.int x1), .val (.int x2), .val (.int x3), .val (.int x4), .val (.int (x4 &&& (3 : Int32))), .val (.int (own_pick x1)), .val (.int (own_pick x2)), .val (.int (own_pick x3)), .unset, .unset, .unset, .unset, .unset, .unset] [(.ref b295)])) _
      refine XS.goto X295.here hx rfl (pc0 := 31) (pc' := 91) rfl (hb hby at_31) (by decide) (by decide) ?_
      refine XS.astore X295.here hx rfl (hb hby at_91) rfl rfl (l' := #[.val (.int x1), .val (.int x2), .val (.int x3), .val (.int x4), .val (.int (x4 &&& (3 : Int32))), .val (.int (own_pick x1)), .val (.int (own_pick x2)), .val (.int (own_pick x3)), .val (.ref b295), .unset, .unset, .unset, .unset, .unset]) rfl ?_
      show Steps p.tables e below (T295.setTop (mkF m 93 #[.val (.int x1), .val (.int x2), .val (.int x3), .val (.int x4), .val (.int (x4 &&& (3 : Int32))), .val (.int (own_pick x1)), .val (.int (own_pick x2)), .val (.int (own_pick x3)), .val (.ref b295), .unset, .unset, .unset, .unset, .unset] [])) _
      refine st296 _ ?_
      show Steps p.tables e below (T296.setTop (mkF m 96 #[.val (.int x1), .val (.int x2), .val (.int x3), .val (.int x4), .val (.int (x4 &&& (3 : Int32))), .val (.int (own_pick x1)), .val (.int (own_pick x2)), .val (.int (own_pick x3)), .val (.ref b295), .unset, .unset, .unset, .unset, .unset] [(.ref b296)])) _
      refine XS.dup X296.here hx rfl (hb hby at_96) rfl rfl ?_
      refine XS.aload X296.here hx rfl (hb hby at_97) rfl rfl ?_
      show Steps p.tables e below (T296.setTop (mkF m 99 #[.val (.int x1), .val (.int x2), .val (.int x3), .val (.int x4), .val (.int (x4 &&& (3 : Int32))), .val (.int (own_pick x1)), .val (.int (own_pick x2)), .val (.int (own_pick x3)), .val (.ref b295), .unset, .unset, .unset, .unset, .unset] [(.ref b295), (.ref b296), (.ref b296)])) _
      refine st298.trans ?_
      show Steps p.tables e below (T298.setTop (mkF m 102 #[.val (.int x1), .val (.int x2), .val (.int x3), .val (.int x4), .val (.int (x4 &&& (3 : Int32))), .val (.int (own_pick x1)), .val (.int (own_pick x2)), .val (.int (own_pick x3)), .val (.ref b295), .unset, .unset, .unset, .unset, .unset] [(.ref b296)])) _
      refine XS.astore X298.here hx rfl (hb hby at_102) rfl rfl (l' := #[.val (.int x1), .val (.int x2), .val (.int x3), .val (.int x4), .val (.int (x4 &&& (3 : Int32))), .val (.int (own_pick x1)), .val (.int (own_pick x2)), .val (.int (own_pick x3)), .val (.ref b295), .val (.ref b296), .unset, .unset, .unset, .unset]) rfl ?_
      exact kt
    obtain ⟨hsx_300, T300, L300, X300, e300, N300, J300_0, k300⟩ : ∃ (hsx_300 : Int32) (T300 : State) (L300 : List Loc), Stand p l e room_1 (s.setVm T298.vm) m #[(.int x1), (.int x2), (.int x3), (.int x4)] below meth c T300 L300 6 12 ∧ T300.heap = T298.heap ∧ Fr n0 L300 ∧ (hsx_300 = own_b (False)) ∧ ∀ t, Steps p.tables e below (T300.setTop (mkF m 153 #[.val (.int x1), .val (.int x2), .val (.int x3), .val (.int x4), .val (.int (x4 &&& (3 : Int32))), .val (.int (own_pick x1)), .val (.int (own_pick x2)), .val (.int (own_pick x3)), .val (.ref b295), .val (.ref b296), .val (.int hsx_300), .unset, .unset, .unset] [])) t → Steps p.tables e below (T298.setTop (mkF m 104 #[.val (.int x1), .val (.int x2), .val (.int x3), .val (.int x4), .val (.int (x4 &&& (3 : Int32))), .val (.int (own_pick x1)), .val (.int (own_pick x2)), .val (.int (own_pick x3)), .val (.ref b295), .val (.ref b296), .unset, .unset, .unset, .unset] [])) t := by
      have pj300 : ∀ t, Steps p.tables e below (T298.setTop (mkF m 104 #[.val (.int x1), .val (.int x2), .val (.int x3), .val (.int x4), .val (.int (x4 &&& (3 : Int32))), .val (.int (own_pick x1)), .val (.int (own_pick x2)), .val (.int (own_pick x3)), .val (.ref b295), .val (.ref b296), .unset, .unset, .unset, .unset] [])) t → Steps p.tables e below (T298.setTop (mkF m 104 #[.val (.int x1), .val (.int x2), .val (.int x3), .val (.int x4), .val (.int (x4 &&& (3 : Int32))), .val (.int (own_pick x1)), .val (.int (own_pick x2)), .val (.int (own_pick x3)), .val (.ref b295), .val (.ref b296), .unset, .unset, .unset, .unset] [])) t := fun _ k => k
      have pre301 : ∀ t, Steps p.tables e below (T298.setTop (mkF m 153 #[.val (.int x1), .val (.int x2), .val (.int x3), .val (.int x4), .val (.int (x4 &&& (3 : Int32))), .val (.int (own_pick x1)), .val (.int (own_pick x2)), .val (.int (own_pick x3)), .val (.ref b295), .val (.ref b296), .val (.int (0 : Int32)), .unset, .unset, .unset] [])) t → Steps p.tables e below (T298.setTop (mkF m 104 #[.val (.int x1), .val (.int x2), .val (.int x3), .val (.int x4), .val (.int (x4 &&& (3 : Int32))), .val (.int (own_pick x1)), .val (.int (own_pick x2)), .val (.int (own_pick x3)), .val (.ref b295), .val (.ref b296), .unset, .unset, .unset, .unset] [])) t := by
        intro t kt
        refine pj300 t ?_
        show Steps p.tables e below (T298.setTop (mkF m 104 #[.val (.int x1), .val (.int x2), .val (.int x3), .val (.int x4), .val (.int (x4 &&& (3 : Int32))), .val (.int (own_pick x1)), .val (.int (own_pick x2)), .val (.int (own_pick x3)), .val (.ref b295), .val (.ref b296), .unset, .unset, .unset, .unset] [])) _
        refine XS.iload X298.here hx rfl (hb hby at_104) rfl ?_
        refine XS.iconst X298.here hx rfl (hb hby at_106) ?_
        refine XS.icmpYes X298.here hx rfl (pc0 := 107) (pc' := 118) rfl (hb hby at_107) rfl (tlt (by rw [hc25]; try decide : (x4 &&& (3 : Int32)) < (1 : Int32))).1 (by decide) (by decide) ?_
        refine XS.iload X298.here hx rfl (hb hby at_118) rfl ?_
        refine XS.iconst X298.here hx rfl (hb hby at_120) ?_
        refine XS.icmpYes X298.here hx rfl (pc0 := 121) (pc' := 132) rfl (hb hby at_121) rfl (tlt (by rw [hc25]; try decide : (x4 &&& (3 : Int32)) < (2 : Int32))).1 (by decide) (by decide) ?_
        show Steps p.tables e below (T298.setTop (mkF m 132 #[.val (.int x1), .val (.int x2), .val (.int x3), .val (.int x4), .val (.int (x4 &&& (3 : Int32))), .val (.int (own_pick x1)), .val (.int (own_pick x2)), .val (.int (own_pick x3)), .val (.ref b295), .val (.ref b296), .unset, .unset, .unset, .unset] [])) _
        refine XS.iload X298.here hx rfl (hb hby at_132) rfl ?_
        refine XS.iconst X298.here hx rfl (hb hby at_134) ?_
        refine XS.icmpYes X298.here hx rfl (pc0 := 135) (pc' := 150) rfl (hb hby at_135) rfl (tlt (by rw [hc25]; try decide : (x4 &&& (3 : Int32)) < (3 : Int32))).1 (by decide) (by decide) ?_
        refine XS.iconst X298.here hx rfl (hb hby at_150) ?_
        refine XS.istore X298.here hx rfl (hb hby at_151) rfl (l' := #[.val (.int x1), .val (.int x2), .val (.int x3), .val (.int x4), .val (.int (x4 &&& (3 : Int32))), .val (.int (own_pick x1)), .val (.int (own_pick x2)), .val (.int (own_pick x3)), .val (.ref b295), .val (.ref b296), .val (.int (0 : Int32)), .unset, .unset, .unset]) rfl ?_
        exact kt
      exact ⟨(0 : Int32), T298, _, X298, rfl, N298, (by simp only [own_b]; simp [hc25]), pre301⟩
    have pre302 : ∀ t, Steps p.tables e below (T300.setTop (mkF m 153 #[.val (.int x1), .val (.int x2), .val (.int x3), .val (.int x4), .val (.int (x4 &&& (3 : Int32))), .val (.int (own_pick x1)), .val (.int (own_pick x2)), .val (.int (own_pick x3)), .val (.ref b295), .val (.ref b296), .val (.int hsx_300), .unset, .unset, .unset] [])) t → Steps p.tables e below (s₁.setTop (entryFrame m #[(.int x1), (.int x2), (.int x3), (.int x4)] maxLocals)) t := by
      intro t kt
      refine pre299 t ?_
      show Steps p.tables e below (T298.setTop (mkF m 104 #[.val (.int x1), .val (.int x2), .val (.int x3), .val (.int x4), .val (.int (x4 &&& (3 : Int32))), .val (.int (own_pick x1)), .val (.int (own_pick x2)), .val (.int (own_pick x3)), .val (.ref b295), .val (.ref b296), .unset, .unset, .unset, .unset] [])) _
      refine k300 _ ?_
      exact kt
    obtain ⟨dt_303, T303, L303, X303, e303, N303, J303_0, k303⟩ : ∃ (dt_303 : Int32) (T303 : State) (L303 : List Loc), Stand p l e room_1 (s.setVm T298.vm) m #[(.int x1), (.int x2), (.int x3), (.int x4)] below meth c T303 L303 6 12 ∧ T303.heap = T298.heap ∧ Fr n0 L303 ∧ (dt_303 = own_b (False)) ∧ ∀ t, Steps p.tables e below (T303.setTop (mkF m 173 #[.val (.int x1), .val (.int x2), .val (.int x3), .val (.int x4), .val (.int (x4 &&& (3 : Int32))), .val (.int (own_pick x1)), .val (.int (own_pick x2)), .val (.int (own_pick x3)), .val (.ref b295), .val (.ref b296), .val (.int hsx_300), .val (.int dt_303), .unset, .unset] [])) t → Steps p.tables e below (T300.setTop (mkF m 153 #[.val (.int x1), .val (.int x2), .val (.int x3), .val (.int x4), .val (.int (x4 &&& (3 : Int32))), .val (.int (own_pick x1)), .val (.int (own_pick x2)), .val (.int (own_pick x3)), .val (.ref b295), .val (.ref b296), .val (.int hsx_300), .unset, .unset, .unset] [])) t := by
      have pj303 : ∀ t, Steps p.tables e below (T300.setTop (mkF m 153 #[.val (.int x1), .val (.int x2), .val (.int x3), .val (.int x4), .val (.int (x4 &&& (3 : Int32))), .val (.int (own_pick x1)), .val (.int (own_pick x2)), .val (.int (own_pick x3)), .val (.ref b295), .val (.ref b296), .val (.int hsx_300), .unset, .unset, .unset] [])) t → Steps p.tables e below (T300.setTop (mkF m 153 #[.val (.int x1), .val (.int x2), .val (.int x3), .val (.int x4), .val (.int (x4 &&& (3 : Int32))), .val (.int (own_pick x1)), .val (.int (own_pick x2)), .val (.int (own_pick x3)), .val (.ref b295), .val (.ref b296), .val (.int hsx_300), .unset, .unset, .unset] [])) t := fun _ k => k
      have pre304 : ∀ t, Steps p.tables e below (T300.setTop (mkF m 173 #[.val (.int x1), .val (.int x2), .val (.int x3), .val (.int x4), .val (.int (x4 &&& (3 : Int32))), .val (.int (own_pick x1)), .val (.int (own_pick x2)), .val (.int (own_pick x3)), .val (.ref b295), .val (.ref b296), .val (.int hsx_300), .val (.int (0 : Int32)), .unset, .unset] [])) t → Steps p.tables e below (T300.setTop (mkF m 153 #[.val (.int x1), .val (.int x2), .val (.int x3), .val (.int x4), .val (.int (x4 &&& (3 : Int32))), .val (.int (own_pick x1)), .val (.int (own_pick x2)), .val (.int (own_pick x3)), .val (.ref b295), .val (.ref b296), .val (.int hsx_300), .unset, .unset, .unset] [])) t := by
        intro t kt
        refine pj303 t ?_
        show Steps p.tables e below (T300.setTop (mkF m 153 #[.val (.int x1), .val (.int x2), .val (.int x3), .val (.int x4), .val (.int (x4 &&& (3 : Int32))), .val (.int (own_pick x1)), .val (.int (own_pick x2)), .val (.int (own_pick x3)), .val (.ref b295), .val (.ref b296), .val (.int hsx_300), .unset, .unset, .unset] [])) _
        refine XS.iload X300.here hx rfl (hb hby at_153) rfl ?_
        refine XS.iconst X300.here hx rfl (hb hby at_155) ?_
        refine XS.icmpYes X300.here hx rfl (pc0 := 156) (pc' := 170) rfl (hb hby at_156) rfl (feq (by rw [hc25]; try decide : ¬ ((x4 &&& (3 : Int32)) = (1 : Int32)))).2 (by decide) (by decide) ?_
        refine XS.iconst X300.here hx rfl (hb hby at_170) ?_
        refine XS.istore X300.here hx rfl (hb hby at_171) rfl (l' := #[.val (.int x1), .val (.int x2), .val (.int x3), .val (.int x4), .val (.int (x4 &&& (3 : Int32))), .val (.int (own_pick x1)), .val (.int (own_pick x2)), .val (.int (own_pick x3)), .val (.ref b295), .val (.ref b296), .val (.int hsx_300), .val (.int (0 : Int32)), .unset, .unset]) rfl ?_
        exact kt
      exact ⟨(0 : Int32), T300, _, X300, e300, N300, (by simp [own_b]), pre304⟩
    have pre305 : ∀ t, Steps p.tables e below (T303.setTop (mkF m 173 #[.val (.int x1), .val (.int x2), .val (.int x3), .val (.int x4), .val (.int (x4 &&& (3 : Int32))), .val (.int (own_pick x1)), .val (.int (own_pick x2)), .val (.int (own_pick x3)), .val (.ref b295), .val (.ref b296), .val (.int hsx_300), .val (.int dt_303), .unset, .unset] [])) t → Steps p.tables e below (s₁.setTop (entryFrame m #[(.int x1), (.int x2), (.int x3), (.int x4)] maxLocals)) t := by
      intro t kt
      refine pre302 t ?_
      show Steps p.tables e below (T300.setTop (mkF m 153 #[.val (.int x1), .val (.int x2), .val (.int x3), .val (.int x4), .val (.int (x4 &&& (3 : Int32))), .val (.int (own_pick x1)), .val (.int (own_pick x2)), .val (.int (own_pick x3)), .val (.ref b295), .val (.ref b296), .val (.int hsx_300), .unset, .unset, .unset] [])) _
      refine k303 _ ?_
      exact kt
    obtain ⟨dd_306, T306, L306, X306, e306, N306, J306_0, k306⟩ : ∃ (dd_306 : Int32) (T306 : State) (L306 : List Loc), Stand p l e room_1 (s.setVm T298.vm) m #[(.int x1), (.int x2), (.int x3), (.int x4)] below meth c T306 L306 6 12 ∧ T306.heap = T298.heap ∧ Fr n0 L306 ∧ (dd_306 = own_b (False)) ∧ ∀ t, Steps p.tables e below (T306.setTop (mkF m 200 #[.val (.int x1), .val (.int x2), .val (.int x3), .val (.int x4), .val (.int (x4 &&& (3 : Int32))), .val (.int (own_pick x1)), .val (.int (own_pick x2)), .val (.int (own_pick x3)), .val (.ref b295), .val (.ref b296), .val (.int hsx_300), .val (.int dt_303), .val (.int dd_306), .unset] [])) t → Steps p.tables e below (T303.setTop (mkF m 173 #[.val (.int x1), .val (.int x2), .val (.int x3), .val (.int x4), .val (.int (x4 &&& (3 : Int32))), .val (.int (own_pick x1)), .val (.int (own_pick x2)), .val (.int (own_pick x3)), .val (.ref b295), .val (.ref b296), .val (.int hsx_300), .val (.int dt_303), .unset, .unset] [])) t := by
      have pj306 : ∀ t, Steps p.tables e below (T303.setTop (mkF m 173 #[.val (.int x1), .val (.int x2), .val (.int x3), .val (.int x4), .val (.int (x4 &&& (3 : Int32))), .val (.int (own_pick x1)), .val (.int (own_pick x2)), .val (.int (own_pick x3)), .val (.ref b295), .val (.ref b296), .val (.int hsx_300), .val (.int dt_303), .unset, .unset] [])) t → Steps p.tables e below (T303.setTop (mkF m 173 #[.val (.int x1), .val (.int x2), .val (.int x3), .val (.int x4), .val (.int (x4 &&& (3 : Int32))), .val (.int (own_pick x1)), .val (.int (own_pick x2)), .val (.int (own_pick x3)), .val (.ref b295), .val (.ref b296), .val (.int hsx_300), .val (.int dt_303), .unset, .unset] [])) t := fun _ k => k
      have pre307 : ∀ t, Steps p.tables e below (T303.setTop (mkF m 200 #[.val (.int x1), .val (.int x2), .val (.int x3), .val (.int x4), .val (.int (x4 &&& (3 : Int32))), .val (.int (own_pick x1)), .val (.int (own_pick x2)), .val (.int (own_pick x3)), .val (.ref b295), .val (.ref b296), .val (.int hsx_300), .val (.int dt_303), .val (.int (0 : Int32)), .unset] [])) t → Steps p.tables e below (T303.setTop (mkF m 173 #[.val (.int x1), .val (.int x2), .val (.int x3), .val (.int x4), .val (.int (x4 &&& (3 : Int32))), .val (.int (own_pick x1)), .val (.int (own_pick x2)), .val (.int (own_pick x3)), .val (.ref b295), .val (.ref b296), .val (.int hsx_300), .val (.int dt_303), .unset, .unset] [])) t := by
        intro t kt
        refine pj306 t ?_
        show Steps p.tables e below (T303.setTop (mkF m 173 #[.val (.int x1), .val (.int x2), .val (.int x3), .val (.int x4), .val (.int (x4 &&& (3 : Int32))), .val (.int (own_pick x1)), .val (.int (own_pick x2)), .val (.int (own_pick x3)), .val (.ref b295), .val (.ref b296), .val (.int hsx_300), .val (.int dt_303), .unset, .unset] [])) _
        refine XS.iload X303.here hx rfl (hb hby at_173) rfl ?_
        refine XS.iconst X303.here hx rfl (hb hby at_175) ?_
        refine XS.icmpYes X303.here hx rfl (pc0 := 176) (pc' := 197) rfl (hb hby at_176) rfl (feq (by rw [hc25]; try decide : ¬ ((x4 &&& (3 : Int32)) = (2 : Int32)))).2 (by decide) (by decide) ?_
        refine XS.iconst X303.here hx rfl (hb hby at_197) ?_
        refine XS.istore X303.here hx rfl (hb hby at_198) rfl (l' := #[.val (.int x1), .val (.int x2), .val (.int x3), .val (.int x4), .val (.int (x4 &&& (3 : Int32))), .val (.int (own_pick x1)), .val (.int (own_pick x2)), .val (.int (own_pick x3)), .val (.ref b295), .val (.ref b296), .val (.int hsx_300), .val (.int dt_303), .val (.int (0 : Int32)), .unset]) rfl ?_
        exact kt
      exact ⟨(0 : Int32), T303, _, X303, e303, N303, (by simp [own_b]), pre307⟩
    have pre308 : ∀ t, Steps p.tables e below (T306.setTop (mkF m 200 #[.val (.int x1), .val (.int x2), .val (.int x3), .val (.int x4), .val (.int (x4 &&& (3 : Int32))), .val (.int (own_pick x1)), .val (.int (own_pick x2)), .val (.int (own_pick x3)), .val (.ref b295), .val (.ref b296), .val (.int hsx_300), .val (.int dt_303), .val (.int dd_306), .unset] [])) t → Steps p.tables e below (s₁.setTop (entryFrame m #[(.int x1), (.int x2), (.int x3), (.int x4)] maxLocals)) t := by
      intro t kt
      refine pre305 t ?_
      show Steps p.tables e below (T303.setTop (mkF m 173 #[.val (.int x1), .val (.int x2), .val (.int x3), .val (.int x4), .val (.int (x4 &&& (3 : Int32))), .val (.int (own_pick x1)), .val (.int (own_pick x2)), .val (.int (own_pick x3)), .val (.ref b295), .val (.ref b296), .val (.int hsx_300), .val (.int dt_303), .unset, .unset] [])) _
      refine k306 _ ?_
      exact kt
    obtain ⟨exq_309, T309, L309, X309, e309, N309, J309_0, k309⟩ : ∃ (exq_309 : Int32) (T309 : State) (L309 : List Loc), Stand p l e room_1 (s.setVm T298.vm) m #[(.int x1), (.int x2), (.int x3), (.int x4)] below meth c T309 L309 6 12 ∧ T309.heap = T298.heap ∧ Fr n0 L309 ∧ (exq_309 = own_b (¬ ((x4 &&& (3 : Int32)) = (0 : Int32)) ∧ hsx_300 = (0 : Int32) ∧ dt_303 = (0 : Int32) ∧ dd_306 = (0 : Int32))) ∧ ∀ t, Steps p.tables e below (T309.setTop (mkF m 227 #[.val (.int x1), .val (.int x2), .val (.int x3), .val (.int x4), .val (.int (x4 &&& (3 : Int32))), .val (.int (own_pick x1)), .val (.int (own_pick x2)), .val (.int (own_pick x3)), .val (.ref b295), .val (.ref b296), .val (.int hsx_300), .val (.int dt_303), .val (.int dd_306), .val (.int exq_309)] [])) t → Steps p.tables e below (T306.setTop (mkF m 200 #[.val (.int x1), .val (.int x2), .val (.int x3), .val (.int x4), .val (.int (x4 &&& (3 : Int32))), .val (.int (own_pick x1)), .val (.int (own_pick x2)), .val (.int (own_pick x3)), .val (.ref b295), .val (.ref b296), .val (.int hsx_300), .val (.int dt_303), .val (.int dd_306), .unset] [])) t := by
      have pj309 : ∀ t, Steps p.tables e below (T306.setTop (mkF m 200 #[.val (.int x1), .val (.int x2), .val (.int x3), .val (.int x4), .val (.int (x4 &&& (3 : Int32))), .val (.int (own_pick x1)), .val (.int (own_pick x2)), .val (.int (own_pick x3)), .val (.ref b295), .val (.ref b296), .val (.int hsx_300), .val (.int dt_303), .val (.int dd_306), .unset] [])) t → Steps p.tables e below (T306.setTop (mkF m 200 #[.val (.int x1), .val (.int x2), .val (.int x3), .val (.int x4), .val (.int (x4 &&& (3 : Int32))), .val (.int (own_pick x1)), .val (.int (own_pick x2)), .val (.int (own_pick x3)), .val (.ref b295), .val (.ref b296), .val (.int hsx_300), .val (.int dt_303), .val (.int dd_306), .unset] [])) t := fun _ k => k
      have pre310 : ∀ t, Steps p.tables e below (T306.setTop (mkF m 227 #[.val (.int x1), .val (.int x2), .val (.int x3), .val (.int x4), .val (.int (x4 &&& (3 : Int32))), .val (.int (own_pick x1)), .val (.int (own_pick x2)), .val (.int (own_pick x3)), .val (.ref b295), .val (.ref b296), .val (.int hsx_300), .val (.int dt_303), .val (.int dd_306), .val (.int (0 : Int32))] [])) t → Steps p.tables e below (T306.setTop (mkF m 200 #[.val (.int x1), .val (.int x2), .val (.int x3), .val (.int x4), .val (.int (x4 &&& (3 : Int32))), .val (.int (own_pick x1)), .val (.int (own_pick x2)), .val (.int (own_pick x3)), .val (.ref b295), .val (.ref b296), .val (.int hsx_300), .val (.int dt_303), .val (.int dd_306), .unset] [])) t := by
        intro t kt
        refine pj309 t ?_
        show Steps p.tables e below (T306.setTop (mkF m 200 #[.val (.int x1), .val (.int x2), .val (.int x3), .val (.int x4), .val (.int (x4 &&& (3 : Int32))), .val (.int (own_pick x1)), .val (.int (own_pick x2)), .val (.int (own_pick x3)), .val (.ref b295), .val (.ref b296), .val (.int hsx_300), .val (.int dt_303), .val (.int dd_306), .unset] [])) _
        refine XS.iload X306.here hx rfl (hb hby at_200) rfl ?_
        refine XS.ifYes X306.here hx rfl (pc0 := 202) (pc' := 224) rfl (hb hby at_202) rfl ((if0 _ _).trans (teq (by rw [hc25]; try decide : (x4 &&& (3 : Int32)) = (0 : Int32))).1) (by decide) (by decide) ?_
        refine XS.iconst X306.here hx rfl (hb hby at_224) ?_
        refine XS.istore X306.here hx rfl (hb hby at_225) rfl (l' := #[.val (.int x1), .val (.int x2), .val (.int x3), .val (.int x4), .val (.int (x4 &&& (3 : Int32))), .val (.int (own_pick x1)), .val (.int (own_pick x2)), .val (.int (own_pick x3)), .val (.ref b295), .val (.ref b296), .val (.int hsx_300), .val (.int dt_303), .val (.int dd_306), .val (.int (0 : Int32))]) rfl ?_
        exact kt
      exact ⟨(0 : Int32), T306, _, X306, e306, N306, (by simp only [own_b]; rw [hc25]; simp), pre310⟩
    obtain ⟨_, _, ⟨T311, L311, k311, n311⟩, -, X311, hS311, hg311, ⟨Lc311, hQ311, l311, y311, z311, R311⟩, st311⟩ := callSS X309 hx (y := (⟨"com/example/stock/stock/io/FileNames", "isBare", "(Ljava/lang/String;)Z"⟩ : MethodName)) hown298 (mvT hZ298 (own_wd hw 37 rfl)) (mvT hZ298 (own_wd hw 38 rfl)) (mvT hZ298 (own_wd hw 39 rfl)) (mvT hZ298 (own_wd hw 40 rfl)) (by decide) (backOfSH (s := s) (vm0 := T298.vm) (W := 0) (rm9_0 l Z a0 hw [] b296 t_298 kk_298 st_COMPACT_STRINGS T298.heap n0 Z298 O298 Q298_0 Q298_1 Q298_2 Q298_3 (fun c hc => nomatch hc) S_COMPACT_STRINGS hcomp) hZ298 (own_wd hw 40 rfl) (own_wd hw 39 rfl) (by decide) (by decide) (own_EW hw) CH298) (g := (mkF m 229 #[.val (.int x1), .val (.int x2), .val (.int x3), .val (.int x4), .val (.int (x4 &&& (3 : Int32))), .val (.int (own_pick x1)), .val (.int (own_pick x2)), .val (.int (own_pick x3)), .val (.ref b295), .val (.ref b296), .val (.int hsx_300), .val (.int dt_303), .val (.int dd_306), .val (.int exq_309)] [(.ref b296)])) rfl (by rw [hml]; rfl) (argsL := [(.ref b296)]) (rest := []) (lenOf pd_11 rfl) rfl (by show 2 * 0 + _ ≤ _; exact Nat.le_of_eq rfl) (hb hby at_229) (fun _ _ => ⟨rfl, e309, (by decide : 6 + 6 ≤ _), (by decide : 12 + 24 ≤ _)⟩)
    dsimp only [Pt.U, Pt.locs, Pt.cells, Pt.slots] at X311 l311 y311 z311 st311 hQ311 hS311 hg311 R311
    subst l311 y311 z311
    obtain ⟨X311, hS311, hZ311, hown311⟩ := rebS hS298 (Nat.le_refl _) X311 hS311 (by rw [← e309]; exact hg311) hZ298 hown298
    obtain ⟨rfl, N311q, KK311⟩ := hQ311
    have N311 := Fr.app N309 N311q
    have O311 : Old Z n0 T311.heap := O298.keep KK311 all0
    have Z311 : n0 ≤ T311.heap.size := Nat.le_trans Z298 KK311.1
    have K311 : Keep h0 T311.heap [] := K298.trans KK311 all0
    have CH311 : CHv Z own_EL T311.vm T311.heap := R311.1
    have CR311 : CHr Z own_EL s.vm h0 T311.vm T311.heap := CR298.trans R311
    obtain ⟨fs, hr, hrun, hended, hW, hsame⟩ := X311.leave (v := some (.int (1 : Int32))) (fun h => by rw [Bd.returns] at h; cases h)
    have hend := hS311.ended hW (show _ ≤ T311.heap.size from (Nat.le_refl _)) hsame
    have hcr : CHr Z own_EL s.vm s.heap T311.vm T311.heap := by
      rw [hh]
      exact CR311.trans (CHv.at X311 hZ311 (own_EW hw) CH311)
    refine ⟨_, _, pre308 _ ?_, hrun, hended, _, _, rfl, ?_, hcr, ⟨_, rfl⟩, hend.1, hend.2.1, hend.2.2.mono (by decide) (by decide)⟩
    · show Steps p.tables e below (T306.setTop (mkF m 200 #[.val (.int x1), .val (.int x2), .val (.int x3), .val (.int x4), .val (.int (x4 &&& (3 : Int32))), .val (.int (own_pick x1)), .val (.int (own_pick x2)), .val (.int (own_pick x3)), .val (.ref b295), .val (.ref b296), .val (.int hsx_300), .val (.int dt_303), .val (.int dd_306), .unset] [])) _
      refine k309 _ ?_
      refine XS.aload X309.here hx rfl (hb hby at_227) rfl rfl ?_
      show Steps p.tables e below (T309.setTop (mkF m 229 #[.val (.int x1), .val (.int x2), .val (.int x3), .val (.int x4), .val (.int (x4 &&& (3 : Int32))), .val (.int (own_pick x1)), .val (.int (own_pick x2)), .val (.int (own_pick x3)), .val (.ref b295), .val (.ref b296), .val (.int hsx_300), .val (.int dt_303), .val (.int dd_306), .val (.int exq_309)] [(.ref b296)])) _
      refine st311.trans ?_
      show Steps p.tables e below (T311.setTop (mkF m 232 #[.val (.int x1), .val (.int x2), .val (.int x3), .val (.int x4), .val (.int (x4 &&& (3 : Int32))), .val (.int (own_pick x1)), .val (.int (own_pick x2)), .val (.int (own_pick x3)), .val (.ref b295), .val (.ref b296), .val (.int hsx_300), .val (.int dt_303), .val (.int dd_306), .val (.int exq_309)] [(.int (own_b (¬ (([] : List Int32) = []) ∧ ¬ ((47 : Int32) ∈ ([] : List Int32)) ∧ ¬ ((92 : Int32) ∈ ([] : List Int32)) ∧ ¬ ((58 : Int32) ∈ ([] : List Int32)) ∧ ¬ (([] : List Int32) = ([(46 : Int32)] : List Int32)) ∧ ¬ (([] : List Int32) = ([(46 : Int32), (46 : Int32)] : List Int32)))))])) _
      refine XS.iload X311.here hx rfl (hb hby at_232) rfl ?_
      refine XS.icmpNo X311.here hx rfl (hb hby at_234) rfl (teq (own_fin0 hc25 J309_0 J300_0 J303_0 J306_0)).2 ?_
      refine XS.iconst X311.here hx rfl (hb hby at_237) ?_
      refine XS.goto X311.here hx rfl (pc0 := 238) (pc' := 242) rfl (hb hby at_238) (by decide) (by decide) ?_
      show Steps p.tables e below (T311.setTop (mkF m 242 #[.val (.int x1), .val (.int x2), .val (.int x3), .val (.int x4), .val (.int (x4 &&& (3 : Int32))), .val (.int (own_pick x1)), .val (.int (own_pick x2)), .val (.int (own_pick x3)), .val (.ref b295), .val (.ref b296), .val (.int hsx_300), .val (.int dt_303), .val (.int dd_306), .val (.int exq_309)] [(.int (1 : Int32))])) _
      exact retN X311 hx (t := .boolean) Bd.returns (by simp) (hb hby at_242) hr
    · show Q0 Z x1 x2 x3 x4 st_COMPACT_STRINGS h0 n0 _ T311.heap _
      exact ⟨rfl, N311, K311⟩
  · skip
    have pre312 : ∀ t, Steps p.tables e below (T293.setTop (mkF m 37 #[.val (.int x1), .val (.int x2), .val (.int x3), .val (.int x4), .val (.int (x4 &&& (3 : Int32))), .val (.int (own_pick x1)), .val (.int (own_pick x2)), .val (.int (own_pick x3)), .unset, .unset, .unset, .unset, .unset, .unset] [(.int (1 : Int32)), (.int (x4 &&& (3 : Int32)))])) t → Steps p.tables e below (s₁.setTop (entryFrame m #[(.int x1), (.int x2), (.int x3), (.int x4)] maxLocals)) t := by
      intro t kt
      refine pre294 t ?_
      show Steps p.tables e below (T293.setTop (mkF m 25 #[.val (.int x1), .val (.int x2), .val (.int x3), .val (.int x4), .val (.int (x4 &&& (3 : Int32))), .val (.int (own_pick x1)), .val (.int (own_pick x2)), .val (.int (own_pick x3)), .unset, .unset, .unset, .unset, .unset, .unset] [(.int (x4 &&& (3 : Int32)))])) _
      refine XS.ifYes X293.here hx rfl (pc0 := 25) (pc' := 34) rfl (hb hby at_25) rfl ((if0 _ _).trans (feq hc25).2) (by decide) (by decide) ?_
      refine XS.iload X293.here hx rfl (hb hby at_34) rfl ?_
      refine XS.iconst X293.here hx rfl (hb hby at_36) ?_
      exact kt
    by_cases hc37 : (x4 &&& (3 : Int32)) = (1 : Int32)
    · skip
      obtain ⟨T313, h313, k313, X313, e313, E313, A313, st313⟩ := newP X293 hx hZa (own_wd hw 4 rfl) eh293 (g := (mkF m 41 #[.val (.int x1), .val (.int x2), .val (.int x3), .val (.int x4), .val (.int (x4 &&& (3 : Int32))), .val (.int (own_pick x1)), .val (.int (own_pick x2)), .val (.int (own_pick x3)), .unset, .unset, .unset, .unset, .unset, .unset] [(.int (1 : Int32))])) rfl (hb hby at_41) rfl (by decide) (cap := 1) (by decide) (by decide) (by decide) (by decide)
      obtain ⟨b313, g313⟩ : ∃ z, z = h0.size := ⟨_, rfl⟩
      rw [← g313] at A313 st313
      have O313 : Old Z n0 h313 := O0.ext E313
      have Z313 : n0 ≤ h313.size := Nat.le_trans Z0 E313.1
      have K313 : Keep h0 h313 [] := K0.ext E313
      have CH313 : CHv Z own_EL s.vm h313 := CHv.ext E313 CH0
      have CR313 : CHr Z own_EL s.vm h0 s.vm h313 := CR0.trans (CHr.ext E313 CH0)
      have g_b313 : n0 ≤ b313 := Nat.le_trans Z0 (Nat.le_of_eq g313.symm)
      have sz_b313 : h0.size ≤ b313 := Nat.le_trans K0.1 (Nat.le_of_eq g313.symm)
      have V313 : Arv Z h313 b313 k313 .char (1 : Int32) [(.int (0 : Int32))] (.int (0 : Int32)) := (Arv.new A313 (by decide)).pad (pad_rep [] (.int (0 : Int32)) 1)
      obtain ⟨cl_a314, Ar_a314, q_a314, S_a314, N_a314, H_a314, G_a314⟩ := id V313
      have hin_a314 : ¬ ((0 : Int32) < 0 ∨ cl_a314.slots.size ≤ ((0 : Int32)).toNatClampNeg) := inb_of S_a314 ⟨by decide, by decide⟩
      obtain ⟨T315, h315, X315, e315, W315, st315⟩ := stC X313 hx hZa e313 Ar_a314 (j := (0 : Int32)) hin_a314 (g := (mkF m 47 #[.val (.int x1), .val (.int x2), .val (.int x3), .val (.int x4), .val (.int (x4 &&& (3 : Int32))), .val (.int (own_pick x1)), .val (.int (own_pick x2)), .val (.int (own_pick x3)), .unset, .unset, .unset, .unset, .unset, .unset] [(.int (own_pick x1)), (.int (0 : Int32)), (.ref b313), (.ref b313)])) rfl rfl (hb hby at_47)
      have O315 : Old Z n0 h315 := O313.wr W315 g_b313
      have Z315 : n0 ≤ h315.size := Nat.le_trans Z313 (Keep.of_wr W315).1
      have K315 : Keep h0 h315 [] := K313.wr W315 (Or.inr sz_b313)
      have N315 := Fr.snoc X315 N293 g_b313
      have CH315 : CHv Z own_EL s.vm h315 := CHv.wr W315 (Safe.arv hZa.alike V313 (by decide)) CH313
      have CR315 : CHr Z own_EL s.vm h0 s.vm h315 := CR313.trans (CHr.wr W315 (Safe.arv hZa.alike V313 (by decide)) CH313)
      have V315 : Arv Z h315 b313 k313 .char (1 : Int32) [(.int (own_pick x1).toUInt32.toUInt16.toUInt32.toInt32)] (.int (0 : Int32)) := Arv.set Ar_a314 q_a314 S_a314 N_a314 H_a314 G_a314 (fits_nar_char _) W315 0 rfl (Nat.le_of_ble_eq_true rfl)
      obtain ⟨T316, h316, X316, e316, E316, A316, D316, U316, st316⟩ := newO X315 hx hZa howna (own_wd hw 5 rfl) (own_wd hw 6 rfl) (own_wd hw 7 rfl) e315 (g := (mkF m 93 #[.val (.int x1), .val (.int x2), .val (.int x3), .val (.int x4), .val (.int (x4 &&& (3 : Int32))), .val (.int (own_pick x1)), .val (.int (own_pick x2)), .val (.int (own_pick x3)), .val (.ref b313), .unset, .unset, .unset, .unset, .unset] [])) rfl (hb hby at_93) (by decide) (by decide)
      obtain ⟨b316, g316⟩ : ∃ z, z = h315.size := ⟨_, rfl⟩
      rw [← g316] at A316 D316 st316
      have O316 : Old Z n0 h316 := O315.ext E316
      have Z316 : n0 ≤ h316.size := Nat.le_trans Z315 E316.1
      have K316 : Keep h0 h316 [] := K315.ext E316
      have CH316 : CHv Z own_EL s.vm h316 := CHv.ext E316 CH315
      have CR316 : CHr Z own_EL s.vm h0 s.vm h316 := CR315.trans (CHr.ext E316 CH315)
      have g_b316 : n0 ≤ b316 := Nat.le_trans Z315 (Nat.le_of_eq g316.symm)
      have sz_b316 : h0.size ≤ b316 := Nat.le_trans K315.1 (Nat.le_of_eq g316.symm)
      have F_b316_coder : Fld Z h316 b316 "java/lang/String" "coder" "B" (.int (0 : Int32)) := D316 (Or.inr (own_wd hw 31 rfl)) (ty := .byte) (by decide)
      have F_b316_value : Fld Z h316 b316 "java/lang/String" "value" "[B" .null := D316 (Or.inr (own_wd hw 33 rfl)) (ty := (.array .byte)) (by decide)
      have V317 : Arv Z h316 b313 k313 .char (1 : Int32) [(.int (own_pick x1).toUInt32.toUInt16.toUInt32.toInt32)] (.int (0 : Int32)) := (V315.ext E316)
      have hp318 : ∀ c ∈ ([(own_pick x1).toUInt32.toUInt16.toUInt32.toInt32] : List Int32), ¬ c < 0 ∧ ¬ (255 : Int32) < c := by
        intro c hc
        simp only [List.mem_cons, List.not_mem_nil, or_false] at hc
        rcases hc with rfl
        · exact own_chP x1
      obtain ⟨_, _, ⟨T319, L319, k319, n319⟩, -, X319, ⟨Lc319, hQ319, l319, y319, z319⟩, st319⟩ := X316.specialBack hx (y := (⟨"java/lang/String", "<init>", "([C)V"⟩ : MethodName)) rfl howna (mvT hZa (own_wd hw 8 rfl)) (mvT hZa (own_wd hw 9 rfl)) (mvT hZa (own_wd hw 10 rfl)) (by decide) (StrChars.Road.backV (W := 1) hZa (own_hws hw) (kI := 4) (own_wd hw 6 rfl) (cs := ([(own_pick x1).toUInt32.toUInt16.toUInt32.toInt32] : List Int32)) (bs := ([(own_pick x1).toUInt32.toUInt16.toUInt32.toInt32] : List Int32).map (fun c => c.toInt8.toInt32)) (n := 1) g_b316 Z316 A316 F_b316_value F_b316_coder V317 (S_COMPACT_STRINGS.ext O316.2) hcomp rfl rfl (by decide) (by decide) hp318 rfl (by decide) (by decide)) (g := (mkF m 99 #[.val (.int x1), .val (.int x2), .val (.int x3), .val (.int x4), .val (.int (x4 &&& (3 : Int32))), .val (.int (own_pick x1)), .val (.int (own_pick x2)), .val (.int (own_pick x3)), .val (.ref b313), .unset, .unset, .unset, .unset, .unset] [(.ref b313), (.ref b316), (.ref b316)])) rfl (by rw [hml]; rfl) (Steps.refl _) (a := b316) (argsL := [(.ref b313)]) (rest := [(.ref b316)]) (lenOf pd_10 rfl) rfl (by show 2 * 0 + _ ≤ _; exact Nat.le_of_eq rfl) (hb hby at_99) (fun _ _ => ⟨rfl, e316, (by decide : 2 + 1 ≤ _), (by decide : 5 + 1 ≤ _)⟩)
      dsimp only [Pt.U, Pt.locs, Pt.cells, Pt.slots] at X319 l319 y319 z319 st319 hQ319
      subst l319 y319 z319
      obtain ⟨rfl, N319q, KK319, E319, C319, t319, kb319, g_t319, s319, ne319, V319, A319⟩ := hQ319
      have N319 := Fr.app N315 N319q
      have sf320 : Safe Z own_EL s.vm h316 b316 := (Safe.ext E316 CH315 (Safe.new (Nat.le_of_eq g316.symm)))
      have O319 : Old Z n0 T319.heap := O316.keep KK319 (allS g_b316 all0)
      have Z319 : n0 ≤ T319.heap.size := Nat.le_trans Z316 KK319.1
      have K319 : Keep h0 T319.heap [] := K316.trans KK319 (allS (Or.inr sz_b316) all0)
      have CH319 : CHv Z own_EL s.vm T319.heap := CHv.keep KK319 (sfS sf320 sf0) CH316
      have CR319 : CHr Z own_EL s.vm h0 s.vm T319.heap := CR316.trans (CHr.keep KK319 (sfS sf320 sf0) CH316)
      have sz_t319 : h0.size ≤ t319 := Nat.le_trans K316.1 s319
      have pre321 : ∀ t, Steps p.tables e below (T319.setTop (mkF m 104 #[.val (.int x1), .val (.int x2), .val (.int x3), .val (.int x4), .val (.int (x4 &&& (3 : Int32))), .val (.int (own_pick x1)), .val (.int (own_pick x2)), .val (.int (own_pick x3)), .val (.ref b313), .val (.ref b316), .unset, .unset, .unset, .unset] [])) t → Steps p.tables e below (s₁.setTop (entryFrame m #[(.int x1), (.int x2), (.int x3), (.int x4)] maxLocals)) t := by
        intro t kt
        refine pre312 t ?_
        show Steps p.tables e below (T293.setTop (mkF m 37 #[.val (.int x1), .val (.int x2), .val (.int x3), .val (.int x4), .val (.int (x4 &&& (3 : Int32))), .val (.int (own_pick x1)), .val (.int (own_pick x2)), .val (.int (own_pick x3)), .unset, .unset, .unset, .unset, .unset, .unset] [(.int (1 : Int32)), (.int (x4 &&& (3 : Int32)))])) _
        refine XS.icmpNo X293.here hx rfl (hb hby at_37) rfl (teq hc37).2 ?_
        show Steps p.tables e below (T293.setTop (mkF m 40 #[.val (.int x1), .val (.int x2), .val (.int x3), .val (.int x4), .val (.int (x4 &&& (3 : Int32))), .val (.int (own_pick x1)), .val (.int (own_pick x2)), .val (.int (own_pick x3)), .unset, .unset, .unset, .unset, .unset, .unset] [])) _
        refine XS.iconst X293.here hx rfl (hb hby at_40) ?_
        show Steps p.tables e below (T293.setTop (mkF m 41 #[.val (.int x1), .val (.int x2), .val (.int x3), .val (.int x4), .val (.int (x4 &&& (3 : Int32))), .val (.int (own_pick x1)), .val (.int (own_pick x2)), .val (.int (own_pick x3)), .unset, .unset, .unset, .unset, .unset, .unset] [(.int (1 : Int32))])) _
        refine st313 _ ?_
        show Steps p.tables e below (T313.setTop (mkF m 43 #[.val (.int x1), .val (.int x2), .val (.int x3), .val (.int x4), .val (.int (x4 &&& (3 : Int32))), .val (.int (own_pick x1)), .val (.int (own_pick x2)), .val (.int (own_pick x3)), .unset, .unset, .unset, .unset, .unset, .unset] [(.ref b313)])) _
        refine XS.dup X313.here hx rfl (hb hby at_43) rfl rfl ?_
        refine XS.iconst X313.here hx rfl (hb hby at_44) ?_
        refine XS.iload X313.here hx rfl (hb hby at_45) rfl ?_
        show Steps p.tables e below (T313.setTop (mkF m 47 #[.val (.int x1), .val (.int x2), .val (.int x3), .val (.int x4), .val (.int (x4 &&& (3 : Int32))), .val (.int (own_pick x1)), .val (.int (own_pick x2)), .val (.int (own_pick x3)), .unset, .unset, .unset, .unset, .unset, .unset] [(.int (own_pick x1)), (.int (0 : Int32)), (.ref b313), (.ref b313)])) _
        refine st315 _ ?_
        show Steps p.tables e below (T315.setTop (mkF m 48 #[.val (.int x1), .val (.int x2), .val (.int x3), .val (.int x4), .val (.int (x4 &&& (3 : Int32))), .val (.int (own_pick x1)), .val (.int (own_pick x2)), .val (.int (own_pick x3)), .unset, .unset, .unset, .unset, .unset, .unset] [(.ref b313)])) _
        refine XS.goto X315.here hx rfl (pc0 := 48) (pc' := 91) rfl (hb hby at_48) (by decide) (by decide) ?_
        refine XS.astore X315.here hx rfl (hb hby at_91) rfl rfl (l' := #[.val (.int x1), .val (.int x2), .val (.int x3), .val (.int x4), .val (.int (x4 &&& (3 : Int32))), .val (.int (own_pick x1)), .val (.int (own_pick x2)), .val (.int (own_pick x3)), .val (.ref b313), .unset, .unset, .unset, .unset, .unset]) rfl ?_
        show Steps p.tables e below (T315.setTop (mkF m 93 #[.val (.int x1), .val (.int x2), .val (.int x3), .val (.int x4), .val (.int (x4 &&& (3 : Int32))), .val (.int (own_pick x1)), .val (.int (own_pick x2)), .val (.int (own_pick x3)), .val (.ref b313), .unset, .unset, .unset, .unset, .unset] [])) _
        refine st316 _ ?_
        show Steps p.tables e below (T316.setTop (mkF m 96 #[.val (.int x1), .val (.int x2), .val (.int x3), .val (.int x4), .val (.int (x4 &&& (3 : Int32))), .val (.int (own_pick x1)), .val (.int (own_pick x2)), .val (.int (own_pick x3)), .val (.ref b313), .unset, .unset, .unset, .unset, .unset] [(.ref b316)])) _
        refine XS.dup X316.here hx rfl (hb hby at_96) rfl rfl ?_
        refine XS.aload X316.here hx rfl (hb hby at_97) rfl rfl ?_
        show Steps p.tables e below (T316.setTop (mkF m 99 #[.val (.int x1), .val (.int x2), .val (.int x3), .val (.int x4), .val (.int (x4 &&& (3 : Int32))), .val (.int (own_pick x1)), .val (.int (own_pick x2)), .val (.int (own_pick x3)), .val (.ref b313), .unset, .unset, .unset, .unset, .unset] [(.ref b313), (.ref b316), (.ref b316)])) _
        refine st319.trans ?_
        show Steps p.tables e below (T319.setTop (mkF m 102 #[.val (.int x1), .val (.int x2), .val (.int x3), .val (.int x4), .val (.int (x4 &&& (3 : Int32))), .val (.int (own_pick x1)), .val (.int (own_pick x2)), .val (.int (own_pick x3)), .val (.ref b313), .unset, .unset, .unset, .unset, .unset] [(.ref b316)])) _
        refine XS.astore X319.here hx rfl (hb hby at_102) rfl rfl (l' := #[.val (.int x1), .val (.int x2), .val (.int x3), .val (.int x4), .val (.int (x4 &&& (3 : Int32))), .val (.int (own_pick x1)), .val (.int (own_pick x2)), .val (.int (own_pick x3)), .val (.ref b313), .val (.ref b316), .unset, .unset, .unset, .unset]) rfl ?_
        exact kt
      obtain ⟨hsx_322, T322, L322, X322, e322, N322, J322_0, k322⟩ : ∃ (hsx_322 : Int32) (T322 : State) (L322 : List Loc), Stand p l e room_1 (s.setVm s.vm) m #[(.int x1), (.int x2), (.int x3), (.int x4)] below meth c T322 L322 3 6 ∧ T322.heap = T319.heap ∧ Fr n0 L322 ∧ (hsx_322 = own_b (((own_pick x1) = (47 : Int32) ∨ (own_pick x1) = (92 : Int32) ∨ (own_pick x1) = (58 : Int32)))) ∧ ∀ t, Steps p.tables e below (T322.setTop (mkF m 153 #[.val (.int x1), .val (.int x2), .val (.int x3), .val (.int x4), .val (.int (x4 &&& (3 : Int32))), .val (.int (own_pick x1)), .val (.int (own_pick x2)), .val (.int (own_pick x3)), .val (.ref b313), .val (.ref b316), .val (.int hsx_322), .unset, .unset, .unset] [])) t → Steps p.tables e below (T319.setTop (mkF m 104 #[.val (.int x1), .val (.int x2), .val (.int x3), .val (.int x4), .val (.int (x4 &&& (3 : Int32))), .val (.int (own_pick x1)), .val (.int (own_pick x2)), .val (.int (own_pick x3)), .val (.ref b313), .val (.ref b316), .unset, .unset, .unset, .unset] [])) t := by
        have pj322 : ∀ t, Steps p.tables e below (T319.setTop (mkF m 104 #[.val (.int x1), .val (.int x2), .val (.int x3), .val (.int x4), .val (.int (x4 &&& (3 : Int32))), .val (.int (own_pick x1)), .val (.int (own_pick x2)), .val (.int (own_pick x3)), .val (.ref b313), .val (.ref b316), .unset, .unset, .unset, .unset] [])) t → Steps p.tables e below (T319.setTop (mkF m 104 #[.val (.int x1), .val (.int x2), .val (.int x3), .val (.int x4), .val (.int (x4 &&& (3 : Int32))), .val (.int (own_pick x1)), .val (.int (own_pick x2)), .val (.int (own_pick x3)), .val (.ref b313), .val (.ref b316), .unset, .unset, .unset, .unset] [])) t := fun _ k => k
        obtain ⟨_, _, ⟨T323, L323, k323, n323⟩, -, X323, ⟨Lc323, hQ323, l323, y323, z323⟩, st323⟩ := Jvm.LawKit.callS X319 hx (y := (⟨"com/example/stock/stock/io/FileNamesIsBarePinLaw", "sep", "(C)Z"⟩ : MethodName)) howna (mvT hZa (own_wd hw 34 rfl)) (mvT hZa (own_wd hw 35 rfl)) (mvT hZa (own_wd hw 2 rfl)) (mvT hZa (own_wd hw 36 rfl)) (by decide) (backOf (W := 0) (rm8 l Z a0 hw [] (own_pick x1) T319.heap n0 Z319 O319) hZa (own_wd hw 36 rfl) (own_wd hw 2 rfl) (by decide) (by decide)) (g := (mkF m 112 #[.val (.int x1), .val (.int x2), .val (.int x3), .val (.int x4), .val (.int (x4 &&& (3 : Int32))), .val (.int (own_pick x1)), .val (.int (own_pick x2)), .val (.int (own_pick x3)), .val (.ref b313), .val (.ref b316), .unset, .unset, .unset, .unset] [(.int (own_pick x1))])) rfl (by rw [hml]; rfl) (argsL := [(.int (own_pick x1))]) (rest := []) (lenOf pd_12 rfl) rfl (by show 2 * 0 + _ ≤ _; exact Nat.le_of_eq rfl) (hb hby at_112) (fun _ _ => ⟨rfl, rfl, (by decide : 3 + 0 ≤ _), (by decide : 6 + 0 ≤ _)⟩)
        dsimp only [Pt.U, Pt.locs, Pt.cells, Pt.slots] at X323 l323 y323 z323 st323 hQ323
        subst l323 y323 z323
        obtain ⟨rfl, N323q, eh323⟩ := hQ323
        have N323 := Fr.app N319 N323q
        have pre324 : ∀ t, Steps p.tables e below (T323.setTop (mkF m 115 #[.val (.int x1), .val (.int x2), .val (.int x3), .val (.int x4), .val (.int (x4 &&& (3 : Int32))), .val (.int (own_pick x1)), .val (.int (own_pick x2)), .val (.int (own_pick x3)), .val (.ref b313), .val (.ref b316), .unset, .unset, .unset, .unset] [(.int (own_b ((own_pick x1) = (47 : Int32) ∨ (own_pick x1) = (92 : Int32) ∨ (own_pick x1) = (58 : Int32))))])) t → Steps p.tables e below (T319.setTop (mkF m 104 #[.val (.int x1), .val (.int x2), .val (.int x3), .val (.int x4), .val (.int (x4 &&& (3 : Int32))), .val (.int (own_pick x1)), .val (.int (own_pick x2)), .val (.int (own_pick x3)), .val (.ref b313), .val (.ref b316), .unset, .unset, .unset, .unset] [])) t := by
          intro t kt
          refine pj322 t ?_
          show Steps p.tables e below (T319.setTop (mkF m 104 #[.val (.int x1), .val (.int x2), .val (.int x3), .val (.int x4), .val (.int (x4 &&& (3 : Int32))), .val (.int (own_pick x1)), .val (.int (own_pick x2)), .val (.int (own_pick x3)), .val (.ref b313), .val (.ref b316), .unset, .unset, .unset, .unset] [])) _
          refine XS.iload X319.here hx rfl (hb hby at_104) rfl ?_
          refine XS.iconst X319.here hx rfl (hb hby at_106) ?_
          refine XS.icmpNo X319.here hx rfl (hb hby at_107) rfl (flt (by rw [hc37]; try decide : ¬ ((x4 &&& (3 : Int32)) < (1 : Int32)))).1 ?_
          refine XS.iload X319.here hx rfl (hb hby at_110) rfl ?_
          show Steps p.tables e below (T319.setTop (mkF m 112 #[.val (.int x1), .val (.int x2), .val (.int x3), .val (.int x4), .val (.int (x4 &&& (3 : Int32))), .val (.int (own_pick x1)), .val (.int (own_pick x2)), .val (.int (own_pick x3)), .val (.ref b313), .val (.ref b316), .unset, .unset, .unset, .unset] [(.int (own_pick x1))])) _
          refine st323 _ ?_
          exact kt
        by_cases hc115 : (own_b ((own_pick x1) = (47 : Int32) ∨ (own_pick x1) = (92 : Int32) ∨ (own_pick x1) = (58 : Int32))) = (0 : Int32)
        · skip
          have hq325 : ¬ ((own_pick x1) = (47 : Int32) ∨ (own_pick x1) = (92 : Int32) ∨ (own_pick x1) = (58 : Int32)) := own_b_not hc115
          have pre326 : ∀ t, Steps p.tables e below (T323.setTop (mkF m 153 #[.val (.int x1), .val (.int x2), .val (.int x3), .val (.int x4), .val (.int (x4 &&& (3 : Int32))), .val (.int (own_pick x1)), .val (.int (own_pick x2)), .val (.int (own_pick x3)), .val (.ref b313), .val (.ref b316), .val (.int (0 : Int32)), .unset, .unset, .unset] [])) t → Steps p.tables e below (T319.setTop (mkF m 104 #[.val (.int x1), .val (.int x2), .val (.int x3), .val (.int x4), .val (.int (x4 &&& (3 : Int32))), .val (.int (own_pick x1)), .val (.int (own_pick x2)), .val (.int (own_pick x3)), .val (.ref b313), .val (.ref b316), .unset, .unset, .unset, .unset] [])) t := by
            intro t kt
            refine pre324 t ?_
            show Steps p.tables e below (T323.setTop (mkF m 115 #[.val (.int x1), .val (.int x2), .val (.int x3), .val (.int x4), .val (.int (x4 &&& (3 : Int32))), .val (.int (own_pick x1)), .val (.int (own_pick x2)), .val (.int (own_pick x3)), .val (.ref b313), .val (.ref b316), .unset, .unset, .unset, .unset] [(.int (own_b ((own_pick x1) = (47 : Int32) ∨ (own_pick x1) = (92 : Int32) ∨ (own_pick x1) = (58 : Int32))))])) _
            refine XS.ifNo X323.here hx rfl (hb hby at_115) rfl ((if0 _ _).trans (teq hc115).2) ?_
            refine XS.iload X323.here hx rfl (hb hby at_118) rfl ?_
            refine XS.iconst X323.here hx rfl (hb hby at_120) ?_
            refine XS.icmpYes X323.here hx rfl (pc0 := 121) (pc' := 132) rfl (hb hby at_121) rfl (tlt (by rw [hc37]; try decide : (x4 &&& (3 : Int32)) < (2 : Int32))).1 (by decide) (by decide) ?_
            refine XS.iload X323.here hx rfl (hb hby at_132) rfl ?_
            refine XS.iconst X323.here hx rfl (hb hby at_134) ?_
            show Steps p.tables e below (T323.setTop (mkF m 135 #[.val (.int x1), .val (.int x2), .val (.int x3), .val (.int x4), .val (.int (x4 &&& (3 : Int32))), .val (.int (own_pick x1)), .val (.int (own_pick x2)), .val (.int (own_pick x3)), .val (.ref b313), .val (.ref b316), .unset, .unset, .unset, .unset] [(.int (3 : Int32)), (.int (x4 &&& (3 : Int32)))])) _
            refine XS.icmpYes X323.here hx rfl (pc0 := 135) (pc' := 150) rfl (hb hby at_135) rfl (tlt (by rw [hc37]; try decide : (x4 &&& (3 : Int32)) < (3 : Int32))).1 (by decide) (by decide) ?_
            refine XS.iconst X323.here hx rfl (hb hby at_150) ?_
            refine XS.istore X323.here hx rfl (hb hby at_151) rfl (l' := #[.val (.int x1), .val (.int x2), .val (.int x3), .val (.int x4), .val (.int (x4 &&& (3 : Int32))), .val (.int (own_pick x1)), .val (.int (own_pick x2)), .val (.int (own_pick x3)), .val (.ref b313), .val (.ref b316), .val (.int (0 : Int32)), .unset, .unset, .unset]) rfl ?_
            exact kt
          exact ⟨(0 : Int32), T323, _, X323, eh323, N323, (by simp only [own_b]; simp [hc25, hq325]), pre326⟩
        · skip
          have hq327 : (own_pick x1) = (47 : Int32) ∨ (own_pick x1) = (92 : Int32) ∨ (own_pick x1) = (58 : Int32) := own_b_of hc115
          have pre328 : ∀ t, Steps p.tables e below (T323.setTop (mkF m 153 #[.val (.int x1), .val (.int x2), .val (.int x3), .val (.int x4), .val (.int (x4 &&& (3 : Int32))), .val (.int (own_pick x1)), .val (.int (own_pick x2)), .val (.int (own_pick x3)), .val (.ref b313), .val (.ref b316), .val (.int (1 : Int32)), .unset, .unset, .unset] [])) t → Steps p.tables e below (T319.setTop (mkF m 104 #[.val (.int x1), .val (.int x2), .val (.int x3), .val (.int x4), .val (.int (x4 &&& (3 : Int32))), .val (.int (own_pick x1)), .val (.int (own_pick x2)), .val (.int (own_pick x3)), .val (.ref b313), .val (.ref b316), .unset, .unset, .unset, .unset] [])) t := by
            intro t kt
            refine pre324 t ?_
            show Steps p.tables e below (T323.setTop (mkF m 115 #[.val (.int x1), .val (.int x2), .val (.int x3), .val (.int x4), .val (.int (x4 &&& (3 : Int32))), .val (.int (own_pick x1)), .val (.int (own_pick x2)), .val (.int (own_pick x3)), .val (.ref b313), .val (.ref b316), .unset, .unset, .unset, .unset] [(.int (own_b ((own_pick x1) = (47 : Int32) ∨ (own_pick x1) = (92 : Int32) ∨ (own_pick x1) = (58 : Int32))))])) _
            refine XS.ifYes X323.here hx rfl (pc0 := 115) (pc' := 146) rfl (hb hby at_115) rfl ((if0 _ _).trans (feq hc115).2) (by decide) (by decide) ?_
            refine XS.iconst X323.here hx rfl (hb hby at_146) ?_
            refine XS.goto X323.here hx rfl (pc0 := 147) (pc' := 151) rfl (hb hby at_147) (by decide) (by decide) ?_
            refine XS.istore X323.here hx rfl (hb hby at_151) rfl (l' := #[.val (.int x1), .val (.int x2), .val (.int x3), .val (.int x4), .val (.int (x4 &&& (3 : Int32))), .val (.int (own_pick x1)), .val (.int (own_pick x2)), .val (.int (own_pick x3)), .val (.ref b313), .val (.ref b316), .val (.int (1 : Int32)), .unset, .unset, .unset]) rfl ?_
            exact kt
          exact ⟨(1 : Int32), T323, _, X323, eh323, N323, (by simp only [own_b]; simp [hc25, hq327]), pre328⟩
      have pre329 : ∀ t, Steps p.tables e below (T322.setTop (mkF m 153 #[.val (.int x1), .val (.int x2), .val (.int x3), .val (.int x4), .val (.int (x4 &&& (3 : Int32))), .val (.int (own_pick x1)), .val (.int (own_pick x2)), .val (.int (own_pick x3)), .val (.ref b313), .val (.ref b316), .val (.int hsx_322), .unset, .unset, .unset] [])) t → Steps p.tables e below (s₁.setTop (entryFrame m #[(.int x1), (.int x2), (.int x3), (.int x4)] maxLocals)) t := by
        intro t kt
        refine pre321 t ?_
        show Steps p.tables e below (T319.setTop (mkF m 104 #[.val (.int x1), .val (.int x2), .val (.int x3), .val (.int x4), .val (.int (x4 &&& (3 : Int32))), .val (.int (own_pick x1)), .val (.int (own_pick x2)), .val (.int (own_pick x3)), .val (.ref b313), .val (.ref b316), .unset, .unset, .unset, .unset] [])) _
        refine k322 _ ?_
        exact kt
      obtain ⟨dt_330, T330, L330, X330, e330, N330, J330_0, k330⟩ : ∃ (dt_330 : Int32) (T330 : State) (L330 : List Loc), Stand p l e room_1 (s.setVm s.vm) m #[(.int x1), (.int x2), (.int x3), (.int x4)] below meth c T330 L330 3 6 ∧ T330.heap = T319.heap ∧ Fr n0 L330 ∧ (dt_330 = own_b ((own_pick x1) = (46 : Int32))) ∧ ∀ t, Steps p.tables e below (T330.setTop (mkF m 173 #[.val (.int x1), .val (.int x2), .val (.int x3), .val (.int x4), .val (.int (x4 &&& (3 : Int32))), .val (.int (own_pick x1)), .val (.int (own_pick x2)), .val (.int (own_pick x3)), .val (.ref b313), .val (.ref b316), .val (.int hsx_322), .val (.int dt_330), .unset, .unset] [])) t → Steps p.tables e below (T322.setTop (mkF m 153 #[.val (.int x1), .val (.int x2), .val (.int x3), .val (.int x4), .val (.int (x4 &&& (3 : Int32))), .val (.int (own_pick x1)), .val (.int (own_pick x2)), .val (.int (own_pick x3)), .val (.ref b313), .val (.ref b316), .val (.int hsx_322), .unset, .unset, .unset] [])) t := by
        have pj330 : ∀ t, Steps p.tables e below (T322.setTop (mkF m 153 #[.val (.int x1), .val (.int x2), .val (.int x3), .val (.int x4), .val (.int (x4 &&& (3 : Int32))), .val (.int (own_pick x1)), .val (.int (own_pick x2)), .val (.int (own_pick x3)), .val (.ref b313), .val (.ref b316), .val (.int hsx_322), .unset, .unset, .unset] [])) t → Steps p.tables e below (T322.setTop (mkF m 153 #[.val (.int x1), .val (.int x2), .val (.int x3), .val (.int x4), .val (.int (x4 &&& (3 : Int32))), .val (.int (own_pick x1)), .val (.int (own_pick x2)), .val (.int (own_pick x3)), .val (.ref b313), .val (.ref b316), .val (.int hsx_322), .unset, .unset, .unset] [])) t := fun _ k => k
        have pre331 : ∀ t, Steps p.tables e below (T322.setTop (mkF m 163 #[.val (.int x1), .val (.int x2), .val (.int x3), .val (.int x4), .val (.int (x4 &&& (3 : Int32))), .val (.int (own_pick x1)), .val (.int (own_pick x2)), .val (.int (own_pick x3)), .val (.ref b313), .val (.ref b316), .val (.int hsx_322), .unset, .unset, .unset] [(.int (46 : Int32)), (.int (own_pick x1))])) t → Steps p.tables e below (T322.setTop (mkF m 153 #[.val (.int x1), .val (.int x2), .val (.int x3), .val (.int x4), .val (.int (x4 &&& (3 : Int32))), .val (.int (own_pick x1)), .val (.int (own_pick x2)), .val (.int (own_pick x3)), .val (.ref b313), .val (.ref b316), .val (.int hsx_322), .unset, .unset, .unset] [])) t := by
          intro t kt
          refine pj330 t ?_
          show Steps p.tables e below (T322.setTop (mkF m 153 #[.val (.int x1), .val (.int x2), .val (.int x3), .val (.int x4), .val (.int (x4 &&& (3 : Int32))), .val (.int (own_pick x1)), .val (.int (own_pick x2)), .val (.int (own_pick x3)), .val (.ref b313), .val (.ref b316), .val (.int hsx_322), .unset, .unset, .unset] [])) _
          refine XS.iload X322.here hx rfl (hb hby at_153) rfl ?_
          refine XS.iconst X322.here hx rfl (hb hby at_155) ?_
          refine XS.icmpNo X322.here hx rfl (hb hby at_156) rfl (teq (by rw [hc37]; try decide : (x4 &&& (3 : Int32)) = (1 : Int32))).2 ?_
          refine XS.iload X322.here hx rfl (hb hby at_159) rfl ?_
          refine XS.bipush X322.here hx rfl (hb hby at_161) ?_
          exact kt
        by_cases hc163 : (own_pick x1) = (46 : Int32)
        · skip
          have pre332 : ∀ t, Steps p.tables e below (T322.setTop (mkF m 173 #[.val (.int x1), .val (.int x2), .val (.int x3), .val (.int x4), .val (.int (x4 &&& (3 : Int32))), .val (.int (own_pick x1)), .val (.int (own_pick x2)), .val (.int (own_pick x3)), .val (.ref b313), .val (.ref b316), .val (.int hsx_322), .val (.int (1 : Int32)), .unset, .unset] [])) t → Steps p.tables e below (T322.setTop (mkF m 153 #[.val (.int x1), .val (.int x2), .val (.int x3), .val (.int x4), .val (.int (x4 &&& (3 : Int32))), .val (.int (own_pick x1)), .val (.int (own_pick x2)), .val (.int (own_pick x3)), .val (.ref b313), .val (.ref b316), .val (.int hsx_322), .unset, .unset, .unset] [])) t := by
            intro t kt
            refine pre331 t ?_
            show Steps p.tables e below (T322.setTop (mkF m 163 #[.val (.int x1), .val (.int x2), .val (.int x3), .val (.int x4), .val (.int (x4 &&& (3 : Int32))), .val (.int (own_pick x1)), .val (.int (own_pick x2)), .val (.int (own_pick x3)), .val (.ref b313), .val (.ref b316), .val (.int hsx_322), .unset, .unset, .unset] [(.int (46 : Int32)), (.int (own_pick x1))])) _
            refine XS.icmpNo X322.here hx rfl (hb hby at_163) rfl (teq hc163).2 ?_
            show Steps p.tables e below (T322.setTop (mkF m 166 #[.val (.int x1), .val (.int x2), .val (.int x3), .val (.int x4), .val (.int (x4 &&& (3 : Int32))), .val (.int (own_pick x1)), .val (.int (own_pick x2)), .val (.int (own_pick x3)), .val (.ref b313), .val (.ref b316), .val (.int hsx_322), .unset, .unset, .unset] [])) _
            refine XS.iconst X322.here hx rfl (hb hby at_166) ?_
            refine XS.goto X322.here hx rfl (pc0 := 167) (pc' := 171) rfl (hb hby at_167) (by decide) (by decide) ?_
            refine XS.istore X322.here hx rfl (hb hby at_171) rfl (l' := #[.val (.int x1), .val (.int x2), .val (.int x3), .val (.int x4), .val (.int (x4 &&& (3 : Int32))), .val (.int (own_pick x1)), .val (.int (own_pick x2)), .val (.int (own_pick x3)), .val (.ref b313), .val (.ref b316), .val (.int hsx_322), .val (.int (1 : Int32)), .unset, .unset]) rfl ?_
            exact kt
          exact ⟨(1 : Int32), T322, _, X322, e322, N322, (by simp only [own_b]; simp [hc163]), pre332⟩
        · skip
          have pre333 : ∀ t, Steps p.tables e below (T322.setTop (mkF m 173 #[.val (.int x1), .val (.int x2), .val (.int x3), .val (.int x4), .val (.int (x4 &&& (3 : Int32))), .val (.int (own_pick x1)), .val (.int (own_pick x2)), .val (.int (own_pick x3)), .val (.ref b313), .val (.ref b316), .val (.int hsx_322), .val (.int (0 : Int32)), .unset, .unset] [])) t → Steps p.tables e below (T322.setTop (mkF m 153 #[.val (.int x1), .val (.int x2), .val (.int x3), .val (.int x4), .val (.int (x4 &&& (3 : Int32))), .val (.int (own_pick x1)), .val (.int (own_pick x2)), .val (.int (own_pick x3)), .val (.ref b313), .val (.ref b316), .val (.int hsx_322), .unset, .unset, .unset] [])) t := by
            intro t kt
            refine pre331 t ?_
            show Steps p.tables e below (T322.setTop (mkF m 163 #[.val (.int x1), .val (.int x2), .val (.int x3), .val (.int x4), .val (.int (x4 &&& (3 : Int32))), .val (.int (own_pick x1)), .val (.int (own_pick x2)), .val (.int (own_pick x3)), .val (.ref b313), .val (.ref b316), .val (.int hsx_322), .unset, .unset, .unset] [(.int (46 : Int32)), (.int (own_pick x1))])) _
            refine XS.icmpYes X322.here hx rfl (pc0 := 163) (pc' := 170) rfl (hb hby at_163) rfl (feq hc163).2 (by decide) (by decide) ?_
            show Steps p.tables e below (T322.setTop (mkF m 170 #[.val (.int x1), .val (.int x2), .val (.int x3), .val (.int x4), .val (.int (x4 &&& (3 : Int32))), .val (.int (own_pick x1)), .val (.int (own_pick x2)), .val (.int (own_pick x3)), .val (.ref b313), .val (.ref b316), .val (.int hsx_322), .unset, .unset, .unset] [])) _
            refine XS.iconst X322.here hx rfl (hb hby at_170) ?_
            refine XS.istore X322.here hx rfl (hb hby at_171) rfl (l' := #[.val (.int x1), .val (.int x2), .val (.int x3), .val (.int x4), .val (.int (x4 &&& (3 : Int32))), .val (.int (own_pick x1)), .val (.int (own_pick x2)), .val (.int (own_pick x3)), .val (.ref b313), .val (.ref b316), .val (.int hsx_322), .val (.int (0 : Int32)), .unset, .unset]) rfl ?_
            exact kt
          exact ⟨(0 : Int32), T322, _, X322, e322, N322, (by simp only [own_b]; simp [hc163]), pre333⟩
      have pre334 : ∀ t, Steps p.tables e below (T330.setTop (mkF m 173 #[.val (.int x1), .val (.int x2), .val (.int x3), .val (.int x4), .val (.int (x4 &&& (3 : Int32))), .val (.int (own_pick x1)), .val (.int (own_pick x2)), .val (.int (own_pick x3)), .val (.ref b313), .val (.ref b316), .val (.int hsx_322), .val (.int dt_330), .unset, .unset] [])) t → Steps p.tables e below (s₁.setTop (entryFrame m #[(.int x1), (.int x2), (.int x3), (.int x4)] maxLocals)) t := by
        intro t kt
        refine pre329 t ?_
        show Steps p.tables e below (T322.setTop (mkF m 153 #[.val (.int x1), .val (.int x2), .val (.int x3), .val (.int x4), .val (.int (x4 &&& (3 : Int32))), .val (.int (own_pick x1)), .val (.int (own_pick x2)), .val (.int (own_pick x3)), .val (.ref b313), .val (.ref b316), .val (.int hsx_322), .unset, .unset, .unset] [])) _
        refine k330 _ ?_
        exact kt
      obtain ⟨dd_335, T335, L335, X335, e335, N335, J335_0, k335⟩ : ∃ (dd_335 : Int32) (T335 : State) (L335 : List Loc), Stand p l e room_1 (s.setVm s.vm) m #[(.int x1), (.int x2), (.int x3), (.int x4)] below meth c T335 L335 3 6 ∧ T335.heap = T319.heap ∧ Fr n0 L335 ∧ (dd_335 = own_b (False)) ∧ ∀ t, Steps p.tables e below (T335.setTop (mkF m 200 #[.val (.int x1), .val (.int x2), .val (.int x3), .val (.int x4), .val (.int (x4 &&& (3 : Int32))), .val (.int (own_pick x1)), .val (.int (own_pick x2)), .val (.int (own_pick x3)), .val (.ref b313), .val (.ref b316), .val (.int hsx_322), .val (.int dt_330), .val (.int dd_335), .unset] [])) t → Steps p.tables e below (T330.setTop (mkF m 173 #[.val (.int x1), .val (.int x2), .val (.int x3), .val (.int x4), .val (.int (x4 &&& (3 : Int32))), .val (.int (own_pick x1)), .val (.int (own_pick x2)), .val (.int (own_pick x3)), .val (.ref b313), .val (.ref b316), .val (.int hsx_322), .val (.int dt_330), .unset, .unset] [])) t := by
        have pj335 : ∀ t, Steps p.tables e below (T330.setTop (mkF m 173 #[.val (.int x1), .val (.int x2), .val (.int x3), .val (.int x4), .val (.int (x4 &&& (3 : Int32))), .val (.int (own_pick x1)), .val (.int (own_pick x2)), .val (.int (own_pick x3)), .val (.ref b313), .val (.ref b316), .val (.int hsx_322), .val (.int dt_330), .unset, .unset] [])) t → Steps p.tables e below (T330.setTop (mkF m 173 #[.val (.int x1), .val (.int x2), .val (.int x3), .val (.int x4), .val (.int (x4 &&& (3 : Int32))), .val (.int (own_pick x1)), .val (.int (own_pick x2)), .val (.int (own_pick x3)), .val (.ref b313), .val (.ref b316), .val (.int hsx_322), .val (.int dt_330), .unset, .unset] [])) t := fun _ k => k
        have pre336 : ∀ t, Steps p.tables e below (T330.setTop (mkF m 200 #[.val (.int x1), .val (.int x2), .val (.int x3), .val (.int x4), .val (.int (x4 &&& (3 : Int32))), .val (.int (own_pick x1)), .val (.int (own_pick x2)), .val (.int (own_pick x3)), .val (.ref b313), .val (.ref b316), .val (.int hsx_322), .val (.int dt_330), .val (.int (0 : Int32)), .unset] [])) t → Steps p.tables e below (T330.setTop (mkF m 173 #[.val (.int x1), .val (.int x2), .val (.int x3), .val (.int x4), .val (.int (x4 &&& (3 : Int32))), .val (.int (own_pick x1)), .val (.int (own_pick x2)), .val (.int (own_pick x3)), .val (.ref b313), .val (.ref b316), .val (.int hsx_322), .val (.int dt_330), .unset, .unset] [])) t := by
          intro t kt
          refine pj335 t ?_
          show Steps p.tables e below (T330.setTop (mkF m 173 #[.val (.int x1), .val (.int x2), .val (.int x3), .val (.int x4), .val (.int (x4 &&& (3 : Int32))), .val (.int (own_pick x1)), .val (.int (own_pick x2)), .val (.int (own_pick x3)), .val (.ref b313), .val (.ref b316), .val (.int hsx_322), .val (.int dt_330), .unset, .unset] [])) _
          refine XS.iload X330.here hx rfl (hb hby at_173) rfl ?_
          refine XS.iconst X330.here hx rfl (hb hby at_175) ?_
          refine XS.icmpYes X330.here hx rfl (pc0 := 176) (pc' := 197) rfl (hb hby at_176) rfl (feq (by rw [hc37]; try decide : ¬ ((x4 &&& (3 : Int32)) = (2 : Int32)))).2 (by decide) (by decide) ?_
          refine XS.iconst X330.here hx rfl (hb hby at_197) ?_
          refine XS.istore X330.here hx rfl (hb hby at_198) rfl (l' := #[.val (.int x1), .val (.int x2), .val (.int x3), .val (.int x4), .val (.int (x4 &&& (3 : Int32))), .val (.int (own_pick x1)), .val (.int (own_pick x2)), .val (.int (own_pick x3)), .val (.ref b313), .val (.ref b316), .val (.int hsx_322), .val (.int dt_330), .val (.int (0 : Int32)), .unset]) rfl ?_
          exact kt
        exact ⟨(0 : Int32), T330, _, X330, e330, N330, (by simp [own_b]), pre336⟩
      have pre337 : ∀ t, Steps p.tables e below (T335.setTop (mkF m 200 #[.val (.int x1), .val (.int x2), .val (.int x3), .val (.int x4), .val (.int (x4 &&& (3 : Int32))), .val (.int (own_pick x1)), .val (.int (own_pick x2)), .val (.int (own_pick x3)), .val (.ref b313), .val (.ref b316), .val (.int hsx_322), .val (.int dt_330), .val (.int dd_335), .unset] [])) t → Steps p.tables e below (s₁.setTop (entryFrame m #[(.int x1), (.int x2), (.int x3), (.int x4)] maxLocals)) t := by
        intro t kt
        refine pre334 t ?_
        show Steps p.tables e below (T330.setTop (mkF m 173 #[.val (.int x1), .val (.int x2), .val (.int x3), .val (.int x4), .val (.int (x4 &&& (3 : Int32))), .val (.int (own_pick x1)), .val (.int (own_pick x2)), .val (.int (own_pick x3)), .val (.ref b313), .val (.ref b316), .val (.int hsx_322), .val (.int dt_330), .unset, .unset] [])) _
        refine k335 _ ?_
        exact kt
      obtain ⟨exq_338, T338, L338, X338, e338, N338, J338_0, k338⟩ : ∃ (exq_338 : Int32) (T338 : State) (L338 : List Loc), Stand p l e room_1 (s.setVm s.vm) m #[(.int x1), (.int x2), (.int x3), (.int x4)] below meth c T338 L338 3 6 ∧ T338.heap = T319.heap ∧ Fr n0 L338 ∧ (exq_338 = own_b (¬ ((x4 &&& (3 : Int32)) = (0 : Int32)) ∧ hsx_322 = (0 : Int32) ∧ dt_330 = (0 : Int32) ∧ dd_335 = (0 : Int32))) ∧ ∀ t, Steps p.tables e below (T338.setTop (mkF m 227 #[.val (.int x1), .val (.int x2), .val (.int x3), .val (.int x4), .val (.int (x4 &&& (3 : Int32))), .val (.int (own_pick x1)), .val (.int (own_pick x2)), .val (.int (own_pick x3)), .val (.ref b313), .val (.ref b316), .val (.int hsx_322), .val (.int dt_330), .val (.int dd_335), .val (.int exq_338)] [])) t → Steps p.tables e below (T335.setTop (mkF m 200 #[.val (.int x1), .val (.int x2), .val (.int x3), .val (.int x4), .val (.int (x4 &&& (3 : Int32))), .val (.int (own_pick x1)), .val (.int (own_pick x2)), .val (.int (own_pick x3)), .val (.ref b313), .val (.ref b316), .val (.int hsx_322), .val (.int dt_330), .val (.int dd_335), .unset] [])) t := by
        have pj338 : ∀ t, Steps p.tables e below (T335.setTop (mkF m 200 #[.val (.int x1), .val (.int x2), .val (.int x3), .val (.int x4), .val (.int (x4 &&& (3 : Int32))), .val (.int (own_pick x1)), .val (.int (own_pick x2)), .val (.int (own_pick x3)), .val (.ref b313), .val (.ref b316), .val (.int hsx_322), .val (.int dt_330), .val (.int dd_335), .unset] [])) t → Steps p.tables e below (T335.setTop (mkF m 200 #[.val (.int x1), .val (.int x2), .val (.int x3), .val (.int x4), .val (.int (x4 &&& (3 : Int32))), .val (.int (own_pick x1)), .val (.int (own_pick x2)), .val (.int (own_pick x3)), .val (.ref b313), .val (.ref b316), .val (.int hsx_322), .val (.int dt_330), .val (.int dd_335), .unset] [])) t := fun _ k => k
        have pre339 : ∀ t, Steps p.tables e below (T335.setTop (mkF m 207 #[.val (.int x1), .val (.int x2), .val (.int x3), .val (.int x4), .val (.int (x4 &&& (3 : Int32))), .val (.int (own_pick x1)), .val (.int (own_pick x2)), .val (.int (own_pick x3)), .val (.ref b313), .val (.ref b316), .val (.int hsx_322), .val (.int dt_330), .val (.int dd_335), .unset] [(.int hsx_322)])) t → Steps p.tables e below (T335.setTop (mkF m 200 #[.val (.int x1), .val (.int x2), .val (.int x3), .val (.int x4), .val (.int (x4 &&& (3 : Int32))), .val (.int (own_pick x1)), .val (.int (own_pick x2)), .val (.int (own_pick x3)), .val (.ref b313), .val (.ref b316), .val (.int hsx_322), .val (.int dt_330), .val (.int dd_335), .unset] [])) t := by
          intro t kt
          refine pj338 t ?_
          show Steps p.tables e below (T335.setTop (mkF m 200 #[.val (.int x1), .val (.int x2), .val (.int x3), .val (.int x4), .val (.int (x4 &&& (3 : Int32))), .val (.int (own_pick x1)), .val (.int (own_pick x2)), .val (.int (own_pick x3)), .val (.ref b313), .val (.ref b316), .val (.int hsx_322), .val (.int dt_330), .val (.int dd_335), .unset] [])) _
          refine XS.iload X335.here hx rfl (hb hby at_200) rfl ?_
          refine XS.ifNo X335.here hx rfl (hb hby at_202) rfl ((if0 _ _).trans (feq (by rw [hc37]; try decide : ¬ ((x4 &&& (3 : Int32)) = (0 : Int32)))).1) ?_
          refine XS.iload X335.here hx rfl (hb hby at_205) rfl ?_
          exact kt
        by_cases hc207 : hsx_322 = (0 : Int32)
        · skip
          have pre340 : ∀ t, Steps p.tables e below (T335.setTop (mkF m 212 #[.val (.int x1), .val (.int x2), .val (.int x3), .val (.int x4), .val (.int (x4 &&& (3 : Int32))), .val (.int (own_pick x1)), .val (.int (own_pick x2)), .val (.int (own_pick x3)), .val (.ref b313), .val (.ref b316), .val (.int hsx_322), .val (.int dt_330), .val (.int dd_335), .unset] [(.int dt_330)])) t → Steps p.tables e below (T335.setTop (mkF m 200 #[.val (.int x1), .val (.int x2), .val (.int x3), .val (.int x4), .val (.int (x4 &&& (3 : Int32))), .val (.int (own_pick x1)), .val (.int (own_pick x2)), .val (.int (own_pick x3)), .val (.ref b313), .val (.ref b316), .val (.int hsx_322), .val (.int dt_330), .val (.int dd_335), .unset] [])) t := by
            intro t kt
            refine pre339 t ?_
            show Steps p.tables e below (T335.setTop (mkF m 207 #[.val (.int x1), .val (.int x2), .val (.int x3), .val (.int x4), .val (.int (x4 &&& (3 : Int32))), .val (.int (own_pick x1)), .val (.int (own_pick x2)), .val (.int (own_pick x3)), .val (.ref b313), .val (.ref b316), .val (.int hsx_322), .val (.int dt_330), .val (.int dd_335), .unset] [(.int hsx_322)])) _
            refine XS.ifNo X335.here hx rfl (hb hby at_207) rfl ((if0 _ _).trans (teq hc207).2) ?_
            refine XS.iload X335.here hx rfl (hb hby at_210) rfl ?_
            exact kt
          by_cases hc212 : dt_330 = (0 : Int32)
          · skip
            have pre341 : ∀ t, Steps p.tables e below (T335.setTop (mkF m 217 #[.val (.int x1), .val (.int x2), .val (.int x3), .val (.int x4), .val (.int (x4 &&& (3 : Int32))), .val (.int (own_pick x1)), .val (.int (own_pick x2)), .val (.int (own_pick x3)), .val (.ref b313), .val (.ref b316), .val (.int hsx_322), .val (.int dt_330), .val (.int dd_335), .unset] [(.int dd_335)])) t → Steps p.tables e below (T335.setTop (mkF m 200 #[.val (.int x1), .val (.int x2), .val (.int x3), .val (.int x4), .val (.int (x4 &&& (3 : Int32))), .val (.int (own_pick x1)), .val (.int (own_pick x2)), .val (.int (own_pick x3)), .val (.ref b313), .val (.ref b316), .val (.int hsx_322), .val (.int dt_330), .val (.int dd_335), .unset] [])) t := by
              intro t kt
              refine pre340 t ?_
              show Steps p.tables e below (T335.setTop (mkF m 212 #[.val (.int x1), .val (.int x2), .val (.int x3), .val (.int x4), .val (.int (x4 &&& (3 : Int32))), .val (.int (own_pick x1)), .val (.int (own_pick x2)), .val (.int (own_pick x3)), .val (.ref b313), .val (.ref b316), .val (.int hsx_322), .val (.int dt_330), .val (.int dd_335), .unset] [(.int dt_330)])) _
              refine XS.ifNo X335.here hx rfl (hb hby at_212) rfl ((if0 _ _).trans (teq hc212).2) ?_
              show Steps p.tables e below (T335.setTop (mkF m 215 #[.val (.int x1), .val (.int x2), .val (.int x3), .val (.int x4), .val (.int (x4 &&& (3 : Int32))), .val (.int (own_pick x1)), .val (.int (own_pick x2)), .val (.int (own_pick x3)), .val (.ref b313), .val (.ref b316), .val (.int hsx_322), .val (.int dt_330), .val (.int dd_335), .unset] [])) _
              refine XS.iload X335.here hx rfl (hb hby at_215) rfl ?_
              exact kt
            by_cases hc217 : dd_335 = (0 : Int32)
            · skip
              have pre342 : ∀ t, Steps p.tables e below (T335.setTop (mkF m 227 #[.val (.int x1), .val (.int x2), .val (.int x3), .val (.int x4), .val (.int (x4 &&& (3 : Int32))), .val (.int (own_pick x1)), .val (.int (own_pick x2)), .val (.int (own_pick x3)), .val (.ref b313), .val (.ref b316), .val (.int hsx_322), .val (.int dt_330), .val (.int dd_335), .val (.int (1 : Int32))] [])) t → Steps p.tables e below (T335.setTop (mkF m 200 #[.val (.int x1), .val (.int x2), .val (.int x3), .val (.int x4), .val (.int (x4 &&& (3 : Int32))), .val (.int (own_pick x1)), .val (.int (own_pick x2)), .val (.int (own_pick x3)), .val (.ref b313), .val (.ref b316), .val (.int hsx_322), .val (.int dt_330), .val (.int dd_335), .unset] [])) t := by
                intro t kt
                refine pre341 t ?_
                show Steps p.tables e below (T335.setTop (mkF m 217 #[.val (.int x1), .val (.int x2), .val (.int x3), .val (.int x4), .val (.int (x4 &&& (3 : Int32))), .val (.int (own_pick x1)), .val (.int (own_pick x2)), .val (.int (own_pick x3)), .val (.ref b313), .val (.ref b316), .val (.int hsx_322), .val (.int dt_330), .val (.int dd_335), .unset] [(.int dd_335)])) _
                refine XS.ifNo X335.here hx rfl (hb hby at_217) rfl ((if0 _ _).trans (teq hc217).2) ?_
                refine XS.iconst X335.here hx rfl (hb hby at_220) ?_
                refine XS.goto X335.here hx rfl (pc0 := 221) (pc' := 225) rfl (hb hby at_221) (by decide) (by decide) ?_
                refine XS.istore X335.here hx rfl (hb hby at_225) rfl (l' := #[.val (.int x1), .val (.int x2), .val (.int x3), .val (.int x4), .val (.int (x4 &&& (3 : Int32))), .val (.int (own_pick x1)), .val (.int (own_pick x2)), .val (.int (own_pick x3)), .val (.ref b313), .val (.ref b316), .val (.int hsx_322), .val (.int dt_330), .val (.int dd_335), .val (.int (1 : Int32))]) rfl ?_
                exact kt
              exact ⟨(1 : Int32), T335, _, X335, e335, N335, (by simp only [own_b]; rw [hc37]; simp [hc207, hc212, hc217]), pre342⟩
            · skip
              have pre343 : ∀ t, Steps p.tables e below (T335.setTop (mkF m 227 #[.val (.int x1), .val (.int x2), .val (.int x3), .val (.int x4), .val (.int (x4 &&& (3 : Int32))), .val (.int (own_pick x1)), .val (.int (own_pick x2)), .val (.int (own_pick x3)), .val (.ref b313), .val (.ref b316), .val (.int hsx_322), .val (.int dt_330), .val (.int dd_335), .val (.int (0 : Int32))] [])) t → Steps p.tables e below (T335.setTop (mkF m 200 #[.val (.int x1), .val (.int x2), .val (.int x3), .val (.int x4), .val (.int (x4 &&& (3 : Int32))), .val (.int (own_pick x1)), .val (.int (own_pick x2)), .val (.int (own_pick x3)), .val (.ref b313), .val (.ref b316), .val (.int hsx_322), .val (.int dt_330), .val (.int dd_335), .unset] [])) t := by
                intro t kt
                refine pre341 t ?_
                show Steps p.tables e below (T335.setTop (mkF m 217 #[.val (.int x1), .val (.int x2), .val (.int x3), .val (.int x4), .val (.int (x4 &&& (3 : Int32))), .val (.int (own_pick x1)), .val (.int (own_pick x2)), .val (.int (own_pick x3)), .val (.ref b313), .val (.ref b316), .val (.int hsx_322), .val (.int dt_330), .val (.int dd_335), .unset] [(.int dd_335)])) _
                refine XS.ifYes X335.here hx rfl (pc0 := 217) (pc' := 224) rfl (hb hby at_217) rfl ((if0 _ _).trans (feq hc217).2) (by decide) (by decide) ?_
                refine XS.iconst X335.here hx rfl (hb hby at_224) ?_
                refine XS.istore X335.here hx rfl (hb hby at_225) rfl (l' := #[.val (.int x1), .val (.int x2), .val (.int x3), .val (.int x4), .val (.int (x4 &&& (3 : Int32))), .val (.int (own_pick x1)), .val (.int (own_pick x2)), .val (.int (own_pick x3)), .val (.ref b313), .val (.ref b316), .val (.int hsx_322), .val (.int dt_330), .val (.int dd_335), .val (.int (0 : Int32))]) rfl ?_
                exact kt
              exact ⟨(0 : Int32), T335, _, X335, e335, N335, (by simp only [own_b]; rw [hc37]; simp [hc207, hc212, hc217]), pre343⟩
          · skip
            have pre344 : ∀ t, Steps p.tables e below (T335.setTop (mkF m 227 #[.val (.int x1), .val (.int x2), .val (.int x3), .val (.int x4), .val (.int (x4 &&& (3 : Int32))), .val (.int (own_pick x1)), .val (.int (own_pick x2)), .val (.int (own_pick x3)), .val (.ref b313), .val (.ref b316), .val (.int hsx_322), .val (.int dt_330), .val (.int dd_335), .val (.int (0 : Int32))] [])) t → Steps p.tables e below (T335.setTop (mkF m 200 #[.val (.int x1), .val (.int x2), .val (.int x3), .val (.int x4), .val (.int (x4 &&& (3 : Int32))), .val (.int (own_pick x1)), .val (.int (own_pick x2)), .val (.int (own_pick x3)), .val (.ref b313), .val (.ref b316), .val (.int hsx_322), .val (.int dt_330), .val (.int dd_335), .unset] [])) t := by
              intro t kt
              refine pre340 t ?_
              show Steps p.tables e below (T335.setTop (mkF m 212 #[.val (.int x1), .val (.int x2), .val (.int x3), .val (.int x4), .val (.int (x4 &&& (3 : Int32))), .val (.int (own_pick x1)), .val (.int (own_pick x2)), .val (.int (own_pick x3)), .val (.ref b313), .val (.ref b316), .val (.int hsx_322), .val (.int dt_330), .val (.int dd_335), .unset] [(.int dt_330)])) _
              refine XS.ifYes X335.here hx rfl (pc0 := 212) (pc' := 224) rfl (hb hby at_212) rfl ((if0 _ _).trans (feq hc212).2) (by decide) (by decide) ?_
              show Steps p.tables e below (T335.setTop (mkF m 224 #[.val (.int x1), .val (.int x2), .val (.int x3), .val (.int x4), .val (.int (x4 &&& (3 : Int32))), .val (.int (own_pick x1)), .val (.int (own_pick x2)), .val (.int (own_pick x3)), .val (.ref b313), .val (.ref b316), .val (.int hsx_322), .val (.int dt_330), .val (.int dd_335), .unset] [])) _
              refine XS.iconst X335.here hx rfl (hb hby at_224) ?_
              refine XS.istore X335.here hx rfl (hb hby at_225) rfl (l' := #[.val (.int x1), .val (.int x2), .val (.int x3), .val (.int x4), .val (.int (x4 &&& (3 : Int32))), .val (.int (own_pick x1)), .val (.int (own_pick x2)), .val (.int (own_pick x3)), .val (.ref b313), .val (.ref b316), .val (.int hsx_322), .val (.int dt_330), .val (.int dd_335), .val (.int (0 : Int32))]) rfl ?_
              exact kt
            exact ⟨(0 : Int32), T335, _, X335, e335, N335, (by simp only [own_b]; rw [hc37]; simp [hc207, hc212]), pre344⟩
        · skip
          have pre345 : ∀ t, Steps p.tables e below (T335.setTop (mkF m 227 #[.val (.int x1), .val (.int x2), .val (.int x3), .val (.int x4), .val (.int (x4 &&& (3 : Int32))), .val (.int (own_pick x1)), .val (.int (own_pick x2)), .val (.int (own_pick x3)), .val (.ref b313), .val (.ref b316), .val (.int hsx_322), .val (.int dt_330), .val (.int dd_335), .val (.int (0 : Int32))] [])) t → Steps p.tables e below (T335.setTop (mkF m 200 #[.val (.int x1), .val (.int x2), .val (.int x3), .val (.int x4), .val (.int (x4 &&& (3 : Int32))), .val (.int (own_pick x1)), .val (.int (own_pick x2)), .val (.int (own_pick x3)), .val (.ref b313), .val (.ref b316), .val (.int hsx_322), .val (.int dt_330), .val (.int dd_335), .unset] [])) t := by
            intro t kt
            refine pre339 t ?_
            show Steps p.tables e below (T335.setTop (mkF m 207 #[.val (.int x1), .val (.int x2), .val (.int x3), .val (.int x4), .val (.int (x4 &&& (3 : Int32))), .val (.int (own_pick x1)), .val (.int (own_pick x2)), .val (.int (own_pick x3)), .val (.ref b313), .val (.ref b316), .val (.int hsx_322), .val (.int dt_330), .val (.int dd_335), .unset] [(.int hsx_322)])) _
            refine XS.ifYes X335.here hx rfl (pc0 := 207) (pc' := 224) rfl (hb hby at_207) rfl ((if0 _ _).trans (feq hc207).2) (by decide) (by decide) ?_
            refine XS.iconst X335.here hx rfl (hb hby at_224) ?_
            refine XS.istore X335.here hx rfl (hb hby at_225) rfl (l' := #[.val (.int x1), .val (.int x2), .val (.int x3), .val (.int x4), .val (.int (x4 &&& (3 : Int32))), .val (.int (own_pick x1)), .val (.int (own_pick x2)), .val (.int (own_pick x3)), .val (.ref b313), .val (.ref b316), .val (.int hsx_322), .val (.int dt_330), .val (.int dd_335), .val (.int (0 : Int32))]) rfl ?_
            exact kt
          exact ⟨(0 : Int32), T335, _, X335, e335, N335, (by simp only [own_b]; rw [hc37]; simp [hc207]), pre345⟩
      obtain ⟨_, _, ⟨T346, L346, k346, n346⟩, -, X346, hS346, hg346, ⟨Lc346, hQ346, l346, y346, z346, R346⟩, st346⟩ := callSS X338 hx (y := (⟨"com/example/stock/stock/io/FileNames", "isBare", "(Ljava/lang/String;)Z"⟩ : MethodName)) howna (mvT hZa (own_wd hw 37 rfl)) (mvT hZa (own_wd hw 38 rfl)) (mvT hZa (own_wd hw 39 rfl)) (mvT hZa (own_wd hw 40 rfl)) (by decide) (backOfSH (s := s) (vm0 := s.vm) (W := 0) (rm9_1 l Z a0 hw [] b316 t319 ((own_pick x1).toUInt32.toUInt16.toUInt32.toInt32) kb319 st_COMPACT_STRINGS T319.heap n0 Z319 O319 E319 V319 C319 A319 hp318 S_COMPACT_STRINGS hcomp) hZa (own_wd hw 40 rfl) (own_wd hw 39 rfl) (by decide) (by decide) (own_EW hw) CH319) (g := (mkF m 229 #[.val (.int x1), .val (.int x2), .val (.int x3), .val (.int x4), .val (.int (x4 &&& (3 : Int32))), .val (.int (own_pick x1)), .val (.int (own_pick x2)), .val (.int (own_pick x3)), .val (.ref b313), .val (.ref b316), .val (.int hsx_322), .val (.int dt_330), .val (.int dd_335), .val (.int exq_338)] [(.ref b316)])) rfl (by rw [hml]; rfl) (argsL := [(.ref b316)]) (rest := []) (lenOf pd_11 rfl) rfl (by show 2 * 0 + _ ≤ _; exact Nat.le_of_eq rfl) (hb hby at_229) (fun _ _ => ⟨rfl, e338, (by decide : 3 + 10 ≤ _), (by decide : 6 + 44 ≤ _)⟩)
      dsimp only [Pt.U, Pt.locs, Pt.cells, Pt.slots] at X346 l346 y346 z346 st346 hQ346 hS346 hg346 R346
      subst l346 y346 z346
      obtain ⟨X346, hS346, hZ346, hown346⟩ := rebS hS0 (Nat.le_trans (Nat.le_trans (Nat.le_trans (Nat.le_trans hk0 E313.1) (Keep.of_wr W315).1) E316.1) KK319.1) X346 hS346 (by rw [← e338]; exact hg346) hZa howna
      obtain ⟨rfl, N346q, KK346⟩ := hQ346
      have N346 := Fr.app N338 N346q
      have O346 : Old Z n0 T346.heap := O319.keep KK346 all0
      have Z346 : n0 ≤ T346.heap.size := Nat.le_trans Z319 KK346.1
      have K346 : Keep h0 T346.heap [] := K319.trans KK346 all0
      have CH346 : CHv Z own_EL T346.vm T346.heap := R346.1
      have CR346 : CHr Z own_EL s.vm h0 T346.vm T346.heap := CR319.trans R346
      obtain ⟨fs, hr, hrun, hended, hW, hsame⟩ := X346.leave (v := some (.int (1 : Int32))) (fun h => by rw [Bd.returns] at h; cases h)
      have hend := hS346.ended hW (show _ ≤ T346.heap.size from (Nat.le_refl _)) hsame
      have hcr : CHr Z own_EL s.vm s.heap T346.vm T346.heap := by
        rw [hh]
        exact CR346.trans (CHv.at X346 hZ346 (own_EW hw) CH346)
      refine ⟨_, _, pre337 _ ?_, hrun, hended, _, _, rfl, ?_, hcr, ⟨_, rfl⟩, hend.1, hend.2.1, hend.2.2.mono (by decide) (by decide)⟩
      · show Steps p.tables e below (T335.setTop (mkF m 200 #[.val (.int x1), .val (.int x2), .val (.int x3), .val (.int x4), .val (.int (x4 &&& (3 : Int32))), .val (.int (own_pick x1)), .val (.int (own_pick x2)), .val (.int (own_pick x3)), .val (.ref b313), .val (.ref b316), .val (.int hsx_322), .val (.int dt_330), .val (.int dd_335), .unset] [])) _
        refine k338 _ ?_
        refine XS.aload X338.here hx rfl (hb hby at_227) rfl rfl ?_
        show Steps p.tables e below (T338.setTop (mkF m 229 #[.val (.int x1), .val (.int x2), .val (.int x3), .val (.int x4), .val (.int (x4 &&& (3 : Int32))), .val (.int (own_pick x1)), .val (.int (own_pick x2)), .val (.int (own_pick x3)), .val (.ref b313), .val (.ref b316), .val (.int hsx_322), .val (.int dt_330), .val (.int dd_335), .val (.int exq_338)] [(.ref b316)])) _
        refine st346.trans ?_
        show Steps p.tables e below (T346.setTop (mkF m 232 #[.val (.int x1), .val (.int x2), .val (.int x3), .val (.int x4), .val (.int (x4 &&& (3 : Int32))), .val (.int (own_pick x1)), .val (.int (own_pick x2)), .val (.int (own_pick x3)), .val (.ref b313), .val (.ref b316), .val (.int hsx_322), .val (.int dt_330), .val (.int dd_335), .val (.int exq_338)] [(.int (own_b (¬ (([((own_pick x1).toUInt32.toUInt16.toUInt32.toInt32)] : List Int32) = []) ∧ ¬ ((47 : Int32) ∈ ([(((own_pick x1).toUInt32.toUInt16.toUInt32.toInt32).toInt8.toInt32)] : List Int32)) ∧ ¬ ((92 : Int32) ∈ ([(((own_pick x1).toUInt32.toUInt16.toUInt32.toInt32).toInt8.toInt32)] : List Int32)) ∧ ¬ ((58 : Int32) ∈ ([(((own_pick x1).toUInt32.toUInt16.toUInt32.toInt32).toInt8.toInt32)] : List Int32)) ∧ ¬ (([((own_pick x1).toUInt32.toUInt16.toUInt32.toInt32)] : List Int32) = ([(46 : Int32)] : List Int32)) ∧ ¬ (([((own_pick x1).toUInt32.toUInt16.toUInt32.toInt32)] : List Int32) = ([(46 : Int32), (46 : Int32)] : List Int32)))))])) _
        refine XS.iload X346.here hx rfl (hb hby at_232) rfl ?_
        refine XS.icmpNo X346.here hx rfl (hb hby at_234) rfl (teq (own_fin1 hc37 J338_0 J322_0 J330_0 J335_0 (own_pick_r x1))).2 ?_
        refine XS.iconst X346.here hx rfl (hb hby at_237) ?_
        refine XS.goto X346.here hx rfl (pc0 := 238) (pc' := 242) rfl (hb hby at_238) (by decide) (by decide) ?_
        show Steps p.tables e below (T346.setTop (mkF m 242 #[.val (.int x1), .val (.int x2), .val (.int x3), .val (.int x4), .val (.int (x4 &&& (3 : Int32))), .val (.int (own_pick x1)), .val (.int (own_pick x2)), .val (.int (own_pick x3)), .val (.ref b313), .val (.ref b316), .val (.int hsx_322), .val (.int dt_330), .val (.int dd_335), .val (.int exq_338)] [(.int (1 : Int32))])) _
        exact retN X346 hx (t := .boolean) Bd.returns (by simp) (hb hby at_242) hr
      · show Q0 Z x1 x2 x3 x4 st_COMPACT_STRINGS h0 n0 _ T346.heap _
        exact ⟨rfl, N346, K346⟩
    · skip
      have pre347 : ∀ t, Steps p.tables e below (T293.setTop (mkF m 54 #[.val (.int x1), .val (.int x2), .val (.int x3), .val (.int x4), .val (.int (x4 &&& (3 : Int32))), .val (.int (own_pick x1)), .val (.int (own_pick x2)), .val (.int (own_pick x3)), .unset, .unset, .unset, .unset, .unset, .unset] [(.int (2 : Int32)), (.int (x4 &&& (3 : Int32)))])) t → Steps p.tables e below (s₁.setTop (entryFrame m #[(.int x1), (.int x2), (.int x3), (.int x4)] maxLocals)) t := by
        intro t kt
        refine pre312 t ?_
        show Steps p.tables e below (T293.setTop (mkF m 37 #[.val (.int x1), .val (.int x2), .val (.int x3), .val (.int x4), .val (.int (x4 &&& (3 : Int32))), .val (.int (own_pick x1)), .val (.int (own_pick x2)), .val (.int (own_pick x3)), .unset, .unset, .unset, .unset, .unset, .unset] [(.int (1 : Int32)), (.int (x4 &&& (3 : Int32)))])) _
        refine XS.icmpYes X293.here hx rfl (pc0 := 37) (pc' := 51) rfl (hb hby at_37) rfl (feq hc37).2 (by decide) (by decide) ?_
        show Steps p.tables e below (T293.setTop (mkF m 51 #[.val (.int x1), .val (.int x2), .val (.int x3), .val (.int x4), .val (.int (x4 &&& (3 : Int32))), .val (.int (own_pick x1)), .val (.int (own_pick x2)), .val (.int (own_pick x3)), .unset, .unset, .unset, .unset, .unset, .unset] [])) _
        refine XS.iload X293.here hx rfl (hb hby at_51) rfl ?_
        refine XS.iconst X293.here hx rfl (hb hby at_53) ?_
        exact kt
      by_cases hc54 : (x4 &&& (3 : Int32)) = (2 : Int32)
      · skip
        obtain ⟨T348, h348, k348, X348, e348, E348, A348, st348⟩ := newP X293 hx hZa (own_wd hw 4 rfl) eh293 (g := (mkF m 58 #[.val (.int x1), .val (.int x2), .val (.int x3), .val (.int x4), .val (.int (x4 &&& (3 : Int32))), .val (.int (own_pick x1)), .val (.int (own_pick x2)), .val (.int (own_pick x3)), .unset, .unset, .unset, .unset, .unset, .unset] [(.int (2 : Int32))])) rfl (hb hby at_58) rfl (by decide) (cap := 2) (by decide) (by decide) (by decide) (by decide)
        obtain ⟨b348, g348⟩ : ∃ z, z = h0.size := ⟨_, rfl⟩
        rw [← g348] at A348 st348
        have O348 : Old Z n0 h348 := O0.ext E348
        have Z348 : n0 ≤ h348.size := Nat.le_trans Z0 E348.1
        have K348 : Keep h0 h348 [] := K0.ext E348
        have CH348 : CHv Z own_EL s.vm h348 := CHv.ext E348 CH0
        have CR348 : CHr Z own_EL s.vm h0 s.vm h348 := CR0.trans (CHr.ext E348 CH0)
        have g_b348 : n0 ≤ b348 := Nat.le_trans Z0 (Nat.le_of_eq g348.symm)
        have sz_b348 : h0.size ≤ b348 := Nat.le_trans K0.1 (Nat.le_of_eq g348.symm)
        have V348 : Arv Z h348 b348 k348 .char (2 : Int32) [(.int (0 : Int32)), (.int (0 : Int32))] (.int (0 : Int32)) := (Arv.new A348 (by decide)).pad (pad_rep [] (.int (0 : Int32)) 2)
        obtain ⟨cl_a349, Ar_a349, q_a349, S_a349, N_a349, H_a349, G_a349⟩ := id V348
        have hin_a349 : ¬ ((0 : Int32) < 0 ∨ cl_a349.slots.size ≤ ((0 : Int32)).toNatClampNeg) := inb_of S_a349 ⟨by decide, by decide⟩
        obtain ⟨T350, h350, X350, e350, W350, st350⟩ := stC X348 hx hZa e348 Ar_a349 (j := (0 : Int32)) hin_a349 (g := (mkF m 64 #[.val (.int x1), .val (.int x2), .val (.int x3), .val (.int x4), .val (.int (x4 &&& (3 : Int32))), .val (.int (own_pick x1)), .val (.int (own_pick x2)), .val (.int (own_pick x3)), .unset, .unset, .unset, .unset, .unset, .unset] [(.int (own_pick x1)), (.int (0 : Int32)), (.ref b348), (.ref b348)])) rfl rfl (hb hby at_64)
        have O350 : Old Z n0 h350 := O348.wr W350 g_b348
        have Z350 : n0 ≤ h350.size := Nat.le_trans Z348 (Keep.of_wr W350).1
        have K350 : Keep h0 h350 [] := K348.wr W350 (Or.inr sz_b348)
        have N350 := Fr.snoc X350 N293 g_b348
        have CH350 : CHv Z own_EL s.vm h350 := CHv.wr W350 (Safe.arv hZa.alike V348 (by decide)) CH348
        have CR350 : CHr Z own_EL s.vm h0 s.vm h350 := CR348.trans (CHr.wr W350 (Safe.arv hZa.alike V348 (by decide)) CH348)
        have V350 : Arv Z h350 b348 k348 .char (2 : Int32) [(.int (own_pick x1).toUInt32.toUInt16.toUInt32.toInt32), (.int (0 : Int32))] (.int (0 : Int32)) := Arv.set Ar_a349 q_a349 S_a349 N_a349 H_a349 G_a349 (fits_nar_char _) W350 0 rfl (Nat.le_of_ble_eq_true rfl)
        obtain ⟨cl_a351, Ar_a351, q_a351, S_a351, N_a351, H_a351, G_a351⟩ := id V350
        have hin_a351 : ¬ ((1 : Int32) < 0 ∨ cl_a351.slots.size ≤ ((1 : Int32)).toNatClampNeg) := inb_of S_a351 ⟨by decide, by decide⟩
        obtain ⟨T352, h352, X352, e352, W352, st352⟩ := stC X350 hx hZa e350 Ar_a351 (j := (1 : Int32)) hin_a351 (g := (mkF m 69 #[.val (.int x1), .val (.int x2), .val (.int x3), .val (.int x4), .val (.int (x4 &&& (3 : Int32))), .val (.int (own_pick x1)), .val (.int (own_pick x2)), .val (.int (own_pick x3)), .unset, .unset, .unset, .unset, .unset, .unset] [(.int (own_pick x2)), (.int (1 : Int32)), (.ref b348), (.ref b348)])) rfl rfl (hb hby at_69)
        have O352 : Old Z n0 h352 := O350.wr W352 g_b348
        have Z352 : n0 ≤ h352.size := Nat.le_trans Z350 (Keep.of_wr W352).1
        have K352 : Keep h0 h352 [] := K350.wr W352 (Or.inr sz_b348)
        have N352 := Fr.snoc X352 N350 g_b348
        have CH352 : CHv Z own_EL s.vm h352 := CHv.wr W352 (Safe.arv hZa.alike V350 (by decide)) CH350
        have CR352 : CHr Z own_EL s.vm h0 s.vm h352 := CR350.trans (CHr.wr W352 (Safe.arv hZa.alike V350 (by decide)) CH350)
        have V352 : Arv Z h352 b348 k348 .char (2 : Int32) [(.int (own_pick x1).toUInt32.toUInt16.toUInt32.toInt32), (.int (own_pick x2).toUInt32.toUInt16.toUInt32.toInt32)] (.int (0 : Int32)) := Arv.set Ar_a351 q_a351 S_a351 N_a351 H_a351 G_a351 (fits_nar_char _) W352 1 rfl (Nat.le_of_ble_eq_true rfl)
        obtain ⟨T353, h353, X353, e353, E353, A353, D353, U353, st353⟩ := newO X352 hx hZa howna (own_wd hw 5 rfl) (own_wd hw 6 rfl) (own_wd hw 7 rfl) e352 (g := (mkF m 93 #[.val (.int x1), .val (.int x2), .val (.int x3), .val (.int x4), .val (.int (x4 &&& (3 : Int32))), .val (.int (own_pick x1)), .val (.int (own_pick x2)), .val (.int (own_pick x3)), .val (.ref b348), .unset, .unset, .unset, .unset, .unset] [])) rfl (hb hby at_93) (by decide) (by decide)
        obtain ⟨b353, g353⟩ : ∃ z, z = h352.size := ⟨_, rfl⟩
        rw [← g353] at A353 D353 st353
        have O353 : Old Z n0 h353 := O352.ext E353
        have Z353 : n0 ≤ h353.size := Nat.le_trans Z352 E353.1
        have K353 : Keep h0 h353 [] := K352.ext E353
        have CH353 : CHv Z own_EL s.vm h353 := CHv.ext E353 CH352
        have CR353 : CHr Z own_EL s.vm h0 s.vm h353 := CR352.trans (CHr.ext E353 CH352)
        have g_b353 : n0 ≤ b353 := Nat.le_trans Z352 (Nat.le_of_eq g353.symm)
        have sz_b353 : h0.size ≤ b353 := Nat.le_trans K352.1 (Nat.le_of_eq g353.symm)
        have F_b353_coder : Fld Z h353 b353 "java/lang/String" "coder" "B" (.int (0 : Int32)) := D353 (Or.inr (own_wd hw 31 rfl)) (ty := .byte) (by decide)
        have F_b353_value : Fld Z h353 b353 "java/lang/String" "value" "[B" .null := D353 (Or.inr (own_wd hw 33 rfl)) (ty := (.array .byte)) (by decide)
        have V354 : Arv Z h353 b348 k348 .char (2 : Int32) [(.int (own_pick x1).toUInt32.toUInt16.toUInt32.toInt32), (.int (own_pick x2).toUInt32.toUInt16.toUInt32.toInt32)] (.int (0 : Int32)) := (V352.ext E353)
        have hp355 : ∀ c ∈ ([(own_pick x1).toUInt32.toUInt16.toUInt32.toInt32, (own_pick x2).toUInt32.toUInt16.toUInt32.toInt32] : List Int32), ¬ c < 0 ∧ ¬ (255 : Int32) < c := by
          intro c hc
          simp only [List.mem_cons, List.not_mem_nil, or_false] at hc
          rcases hc with rfl | rfl
          · exact own_chP x1
          · exact own_chP x2
        obtain ⟨_, _, ⟨T356, L356, k356, n356⟩, -, X356, ⟨Lc356, hQ356, l356, y356, z356⟩, st356⟩ := X353.specialBack hx (y := (⟨"java/lang/String", "<init>", "([C)V"⟩ : MethodName)) rfl howna (mvT hZa (own_wd hw 8 rfl)) (mvT hZa (own_wd hw 9 rfl)) (mvT hZa (own_wd hw 10 rfl)) (by decide) (StrChars.Road.backV (W := 1) hZa (own_hws hw) (kI := 4) (own_wd hw 6 rfl) (cs := ([(own_pick x1).toUInt32.toUInt16.toUInt32.toInt32, (own_pick x2).toUInt32.toUInt16.toUInt32.toInt32] : List Int32)) (bs := ([(own_pick x1).toUInt32.toUInt16.toUInt32.toInt32, (own_pick x2).toUInt32.toUInt16.toUInt32.toInt32] : List Int32).map (fun c => c.toInt8.toInt32)) (n := 2) g_b353 Z353 A353 F_b353_value F_b353_coder V354 (S_COMPACT_STRINGS.ext O353.2) hcomp rfl rfl (by decide) (by decide) hp355 rfl (by decide) (by decide)) (g := (mkF m 99 #[.val (.int x1), .val (.int x2), .val (.int x3), .val (.int x4), .val (.int (x4 &&& (3 : Int32))), .val (.int (own_pick x1)), .val (.int (own_pick x2)), .val (.int (own_pick x3)), .val (.ref b348), .unset, .unset, .unset, .unset, .unset] [(.ref b348), (.ref b353), (.ref b353)])) rfl (by rw [hml]; rfl) (Steps.refl _) (a := b353) (argsL := [(.ref b348)]) (rest := [(.ref b353)]) (lenOf pd_10 rfl) rfl (by show 2 * 0 + _ ≤ _; exact Nat.le_of_eq rfl) (hb hby at_99) (fun _ _ => ⟨rfl, e353, (by decide : 2 + 1 ≤ _), (by decide : 6 + 2 ≤ _)⟩)
        dsimp only [Pt.U, Pt.locs, Pt.cells, Pt.slots] at X356 l356 y356 z356 st356 hQ356
        subst l356 y356 z356
        obtain ⟨rfl, N356q, KK356, E356, C356, t356, kb356, g_t356, s356, ne356, V356, A356⟩ := hQ356
        have N356 := Fr.app N352 N356q
        have sf357 : Safe Z own_EL s.vm h353 b353 := (Safe.ext E353 CH352 (Safe.new (Nat.le_of_eq g353.symm)))
        have O356 : Old Z n0 T356.heap := O353.keep KK356 (allS g_b353 all0)
        have Z356 : n0 ≤ T356.heap.size := Nat.le_trans Z353 KK356.1
        have K356 : Keep h0 T356.heap [] := K353.trans KK356 (allS (Or.inr sz_b353) all0)
        have CH356 : CHv Z own_EL s.vm T356.heap := CHv.keep KK356 (sfS sf357 sf0) CH353
        have CR356 : CHr Z own_EL s.vm h0 s.vm T356.heap := CR353.trans (CHr.keep KK356 (sfS sf357 sf0) CH353)
        have sz_t356 : h0.size ≤ t356 := Nat.le_trans K353.1 s356
        have pre358 : ∀ t, Steps p.tables e below (T356.setTop (mkF m 104 #[.val (.int x1), .val (.int x2), .val (.int x3), .val (.int x4), .val (.int (x4 &&& (3 : Int32))), .val (.int (own_pick x1)), .val (.int (own_pick x2)), .val (.int (own_pick x3)), .val (.ref b348), .val (.ref b353), .unset, .unset, .unset, .unset] [])) t → Steps p.tables e below (s₁.setTop (entryFrame m #[(.int x1), (.int x2), (.int x3), (.int x4)] maxLocals)) t := by
          intro t kt
          refine pre347 t ?_
          show Steps p.tables e below (T293.setTop (mkF m 54 #[.val (.int x1), .val (.int x2), .val (.int x3), .val (.int x4), .val (.int (x4 &&& (3 : Int32))), .val (.int (own_pick x1)), .val (.int (own_pick x2)), .val (.int (own_pick x3)), .unset, .unset, .unset, .unset, .unset, .unset] [(.int (2 : Int32)), (.int (x4 &&& (3 : Int32)))])) _
          refine XS.icmpNo X293.here hx rfl (hb hby at_54) rfl (teq hc54).2 ?_
          refine XS.iconst X293.here hx rfl (hb hby at_57) ?_
          show Steps p.tables e below (T293.setTop (mkF m 58 #[.val (.int x1), .val (.int x2), .val (.int x3), .val (.int x4), .val (.int (x4 &&& (3 : Int32))), .val (.int (own_pick x1)), .val (.int (own_pick x2)), .val (.int (own_pick x3)), .unset, .unset, .unset, .unset, .unset, .unset] [(.int (2 : Int32))])) _
          refine st348 _ ?_
          show Steps p.tables e below (T348.setTop (mkF m 60 #[.val (.int x1), .val (.int x2), .val (.int x3), .val (.int x4), .val (.int (x4 &&& (3 : Int32))), .val (.int (own_pick x1)), .val (.int (own_pick x2)), .val (.int (own_pick x3)), .unset, .unset, .unset, .unset, .unset, .unset] [(.ref b348)])) _
          refine XS.dup X348.here hx rfl (hb hby at_60) rfl rfl ?_
          refine XS.iconst X348.here hx rfl (hb hby at_61) ?_
          refine XS.iload X348.here hx rfl (hb hby at_62) rfl ?_
          show Steps p.tables e below (T348.setTop (mkF m 64 #[.val (.int x1), .val (.int x2), .val (.int x3), .val (.int x4), .val (.int (x4 &&& (3 : Int32))), .val (.int (own_pick x1)), .val (.int (own_pick x2)), .val (.int (own_pick x3)), .unset, .unset, .unset, .unset, .unset, .unset] [(.int (own_pick x1)), (.int (0 : Int32)), (.ref b348), (.ref b348)])) _
          refine st350 _ ?_
          show Steps p.tables e below (T350.setTop (mkF m 65 #[.val (.int x1), .val (.int x2), .val (.int x3), .val (.int x4), .val (.int (x4 &&& (3 : Int32))), .val (.int (own_pick x1)), .val (.int (own_pick x2)), .val (.int (own_pick x3)), .unset, .unset, .unset, .unset, .unset, .unset] [(.ref b348)])) _
          refine XS.dup X350.here hx rfl (hb hby at_65) rfl rfl ?_
          refine XS.iconst X350.here hx rfl (hb hby at_66) ?_
          refine XS.iload X350.here hx rfl (hb hby at_67) rfl ?_
          show Steps p.tables e below (T350.setTop (mkF m 69 #[.val (.int x1), .val (.int x2), .val (.int x3), .val (.int x4), .val (.int (x4 &&& (3 : Int32))), .val (.int (own_pick x1)), .val (.int (own_pick x2)), .val (.int (own_pick x3)), .unset, .unset, .unset, .unset, .unset, .unset] [(.int (own_pick x2)), (.int (1 : Int32)), (.ref b348), (.ref b348)])) _
          refine st352 _ ?_
          show Steps p.tables e below (T352.setTop (mkF m 70 #[.val (.int x1), .val (.int x2), .val (.int x3), .val (.int x4), .val (.int (x4 &&& (3 : Int32))), .val (.int (own_pick x1)), .val (.int (own_pick x2)), .val (.int (own_pick x3)), .unset, .unset, .unset, .unset, .unset, .unset] [(.ref b348)])) _
          refine XS.goto X352.here hx rfl (pc0 := 70) (pc' := 91) rfl (hb hby at_70) (by decide) (by decide) ?_
          refine XS.astore X352.here hx rfl (hb hby at_91) rfl rfl (l' := #[.val (.int x1), .val (.int x2), .val (.int x3), .val (.int x4), .val (.int (x4 &&& (3 : Int32))), .val (.int (own_pick x1)), .val (.int (own_pick x2)), .val (.int (own_pick x3)), .val (.ref b348), .unset, .unset, .unset, .unset, .unset]) rfl ?_
          show Steps p.tables e below (T352.setTop (mkF m 93 #[.val (.int x1), .val (.int x2), .val (.int x3), .val (.int x4), .val (.int (x4 &&& (3 : Int32))), .val (.int (own_pick x1)), .val (.int (own_pick x2)), .val (.int (own_pick x3)), .val (.ref b348), .unset, .unset, .unset, .unset, .unset] [])) _
          refine st353 _ ?_
          show Steps p.tables e below (T353.setTop (mkF m 96 #[.val (.int x1), .val (.int x2), .val (.int x3), .val (.int x4), .val (.int (x4 &&& (3 : Int32))), .val (.int (own_pick x1)), .val (.int (own_pick x2)), .val (.int (own_pick x3)), .val (.ref b348), .unset, .unset, .unset, .unset, .unset] [(.ref b353)])) _
          refine XS.dup X353.here hx rfl (hb hby at_96) rfl rfl ?_
          refine XS.aload X353.here hx rfl (hb hby at_97) rfl rfl ?_
          show Steps p.tables e below (T353.setTop (mkF m 99 #[.val (.int x1), .val (.int x2), .val (.int x3), .val (.int x4), .val (.int (x4 &&& (3 : Int32))), .val (.int (own_pick x1)), .val (.int (own_pick x2)), .val (.int (own_pick x3)), .val (.ref b348), .unset, .unset, .unset, .unset, .unset] [(.ref b348), (.ref b353), (.ref b353)])) _
          refine st356.trans ?_
          show Steps p.tables e below (T356.setTop (mkF m 102 #[.val (.int x1), .val (.int x2), .val (.int x3), .val (.int x4), .val (.int (x4 &&& (3 : Int32))), .val (.int (own_pick x1)), .val (.int (own_pick x2)), .val (.int (own_pick x3)), .val (.ref b348), .unset, .unset, .unset, .unset, .unset] [(.ref b353)])) _
          refine XS.astore X356.here hx rfl (hb hby at_102) rfl rfl (l' := #[.val (.int x1), .val (.int x2), .val (.int x3), .val (.int x4), .val (.int (x4 &&& (3 : Int32))), .val (.int (own_pick x1)), .val (.int (own_pick x2)), .val (.int (own_pick x3)), .val (.ref b348), .val (.ref b353), .unset, .unset, .unset, .unset]) rfl ?_
          exact kt
        obtain ⟨hsx_359, T359, L359, X359, e359, N359, J359_0, k359⟩ : ∃ (hsx_359 : Int32) (T359 : State) (L359 : List Loc), Stand p l e room_1 (s.setVm s.vm) m #[(.int x1), (.int x2), (.int x3), (.int x4)] below meth c T359 L359 3 8 ∧ T359.heap = T356.heap ∧ Fr n0 L359 ∧ (hsx_359 = own_b (((own_pick x1) = (47 : Int32) ∨ (own_pick x1) = (92 : Int32) ∨ (own_pick x1) = (58 : Int32)) ∨ ((own_pick x2) = (47 : Int32) ∨ (own_pick x2) = (92 : Int32) ∨ (own_pick x2) = (58 : Int32)))) ∧ ∀ t, Steps p.tables e below (T359.setTop (mkF m 153 #[.val (.int x1), .val (.int x2), .val (.int x3), .val (.int x4), .val (.int (x4 &&& (3 : Int32))), .val (.int (own_pick x1)), .val (.int (own_pick x2)), .val (.int (own_pick x3)), .val (.ref b348), .val (.ref b353), .val (.int hsx_359), .unset, .unset, .unset] [])) t → Steps p.tables e below (T356.setTop (mkF m 104 #[.val (.int x1), .val (.int x2), .val (.int x3), .val (.int x4), .val (.int (x4 &&& (3 : Int32))), .val (.int (own_pick x1)), .val (.int (own_pick x2)), .val (.int (own_pick x3)), .val (.ref b348), .val (.ref b353), .unset, .unset, .unset, .unset] [])) t := by
          have pj359 : ∀ t, Steps p.tables e below (T356.setTop (mkF m 104 #[.val (.int x1), .val (.int x2), .val (.int x3), .val (.int x4), .val (.int (x4 &&& (3 : Int32))), .val (.int (own_pick x1)), .val (.int (own_pick x2)), .val (.int (own_pick x3)), .val (.ref b348), .val (.ref b353), .unset, .unset, .unset, .unset] [])) t → Steps p.tables e below (T356.setTop (mkF m 104 #[.val (.int x1), .val (.int x2), .val (.int x3), .val (.int x4), .val (.int (x4 &&& (3 : Int32))), .val (.int (own_pick x1)), .val (.int (own_pick x2)), .val (.int (own_pick x3)), .val (.ref b348), .val (.ref b353), .unset, .unset, .unset, .unset] [])) t := fun _ k => k
          obtain ⟨_, _, ⟨T360, L360, k360, n360⟩, -, X360, ⟨Lc360, hQ360, l360, y360, z360⟩, st360⟩ := Jvm.LawKit.callS X356 hx (y := (⟨"com/example/stock/stock/io/FileNamesIsBarePinLaw", "sep", "(C)Z"⟩ : MethodName)) howna (mvT hZa (own_wd hw 34 rfl)) (mvT hZa (own_wd hw 35 rfl)) (mvT hZa (own_wd hw 2 rfl)) (mvT hZa (own_wd hw 36 rfl)) (by decide) (backOf (W := 0) (rm8 l Z a0 hw [] (own_pick x1) T356.heap n0 Z356 O356) hZa (own_wd hw 36 rfl) (own_wd hw 2 rfl) (by decide) (by decide)) (g := (mkF m 112 #[.val (.int x1), .val (.int x2), .val (.int x3), .val (.int x4), .val (.int (x4 &&& (3 : Int32))), .val (.int (own_pick x1)), .val (.int (own_pick x2)), .val (.int (own_pick x3)), .val (.ref b348), .val (.ref b353), .unset, .unset, .unset, .unset] [(.int (own_pick x1))])) rfl (by rw [hml]; rfl) (argsL := [(.int (own_pick x1))]) (rest := []) (lenOf pd_12 rfl) rfl (by show 2 * 0 + _ ≤ _; exact Nat.le_of_eq rfl) (hb hby at_112) (fun _ _ => ⟨rfl, rfl, (by decide : 3 + 0 ≤ _), (by decide : 8 + 0 ≤ _)⟩)
          dsimp only [Pt.U, Pt.locs, Pt.cells, Pt.slots] at X360 l360 y360 z360 st360 hQ360
          subst l360 y360 z360
          obtain ⟨rfl, N360q, eh360⟩ := hQ360
          have N360 := Fr.app N356 N360q
          have pre361 : ∀ t, Steps p.tables e below (T360.setTop (mkF m 115 #[.val (.int x1), .val (.int x2), .val (.int x3), .val (.int x4), .val (.int (x4 &&& (3 : Int32))), .val (.int (own_pick x1)), .val (.int (own_pick x2)), .val (.int (own_pick x3)), .val (.ref b348), .val (.ref b353), .unset, .unset, .unset, .unset] [(.int (own_b ((own_pick x1) = (47 : Int32) ∨ (own_pick x1) = (92 : Int32) ∨ (own_pick x1) = (58 : Int32))))])) t → Steps p.tables e below (T356.setTop (mkF m 104 #[.val (.int x1), .val (.int x2), .val (.int x3), .val (.int x4), .val (.int (x4 &&& (3 : Int32))), .val (.int (own_pick x1)), .val (.int (own_pick x2)), .val (.int (own_pick x3)), .val (.ref b348), .val (.ref b353), .unset, .unset, .unset, .unset] [])) t := by
            intro t kt
            refine pj359 t ?_
            show Steps p.tables e below (T356.setTop (mkF m 104 #[.val (.int x1), .val (.int x2), .val (.int x3), .val (.int x4), .val (.int (x4 &&& (3 : Int32))), .val (.int (own_pick x1)), .val (.int (own_pick x2)), .val (.int (own_pick x3)), .val (.ref b348), .val (.ref b353), .unset, .unset, .unset, .unset] [])) _
            refine XS.iload X356.here hx rfl (hb hby at_104) rfl ?_
            refine XS.iconst X356.here hx rfl (hb hby at_106) ?_
            refine XS.icmpNo X356.here hx rfl (hb hby at_107) rfl (flt (by rw [hc54]; try decide : ¬ ((x4 &&& (3 : Int32)) < (1 : Int32)))).1 ?_
            refine XS.iload X356.here hx rfl (hb hby at_110) rfl ?_
            show Steps p.tables e below (T356.setTop (mkF m 112 #[.val (.int x1), .val (.int x2), .val (.int x3), .val (.int x4), .val (.int (x4 &&& (3 : Int32))), .val (.int (own_pick x1)), .val (.int (own_pick x2)), .val (.int (own_pick x3)), .val (.ref b348), .val (.ref b353), .unset, .unset, .unset, .unset] [(.int (own_pick x1))])) _
            refine st360 _ ?_
            exact kt
          by_cases hc115 : (own_b ((own_pick x1) = (47 : Int32) ∨ (own_pick x1) = (92 : Int32) ∨ (own_pick x1) = (58 : Int32))) = (0 : Int32)
          · skip
            have hq362 : ¬ ((own_pick x1) = (47 : Int32) ∨ (own_pick x1) = (92 : Int32) ∨ (own_pick x1) = (58 : Int32)) := own_b_not hc115
            obtain ⟨_, _, ⟨T363, L363, k363, n363⟩, -, X363, ⟨Lc363, hQ363, l363, y363, z363⟩, st363⟩ := Jvm.LawKit.callS X360 hx (y := (⟨"com/example/stock/stock/io/FileNamesIsBarePinLaw", "sep", "(C)Z"⟩ : MethodName)) howna (mvT hZa (own_wd hw 34 rfl)) (mvT hZa (own_wd hw 35 rfl)) (mvT hZa (own_wd hw 2 rfl)) (mvT hZa (own_wd hw 36 rfl)) (by decide) (backOf (W := 0) (rm8 l Z a0 hw [] (own_pick x2) T356.heap n0 Z356 O356) hZa (own_wd hw 36 rfl) (own_wd hw 2 rfl) (by decide) (by decide)) (g := (mkF m 126 #[.val (.int x1), .val (.int x2), .val (.int x3), .val (.int x4), .val (.int (x4 &&& (3 : Int32))), .val (.int (own_pick x1)), .val (.int (own_pick x2)), .val (.int (own_pick x3)), .val (.ref b348), .val (.ref b353), .unset, .unset, .unset, .unset] [(.int (own_pick x2))])) rfl (by rw [hml]; rfl) (argsL := [(.int (own_pick x2))]) (rest := []) (lenOf pd_12 rfl) rfl (by show 2 * 0 + _ ≤ _; exact Nat.le_of_eq rfl) (hb hby at_126) (fun _ _ => ⟨rfl, eh360, (by decide : 3 + 0 ≤ _), (by decide : 8 + 0 ≤ _)⟩)
            dsimp only [Pt.U, Pt.locs, Pt.cells, Pt.slots] at X363 l363 y363 z363 st363 hQ363
            subst l363 y363 z363
            obtain ⟨rfl, N363q, eh363⟩ := hQ363
            have N363 := Fr.app N360 N363q
            have pre364 : ∀ t, Steps p.tables e below (T363.setTop (mkF m 129 #[.val (.int x1), .val (.int x2), .val (.int x3), .val (.int x4), .val (.int (x4 &&& (3 : Int32))), .val (.int (own_pick x1)), .val (.int (own_pick x2)), .val (.int (own_pick x3)), .val (.ref b348), .val (.ref b353), .unset, .unset, .unset, .unset] [(.int (own_b ((own_pick x2) = (47 : Int32) ∨ (own_pick x2) = (92 : Int32) ∨ (own_pick x2) = (58 : Int32))))])) t → Steps p.tables e below (T356.setTop (mkF m 104 #[.val (.int x1), .val (.int x2), .val (.int x3), .val (.int x4), .val (.int (x4 &&& (3 : Int32))), .val (.int (own_pick x1)), .val (.int (own_pick x2)), .val (.int (own_pick x3)), .val (.ref b348), .val (.ref b353), .unset, .unset, .unset, .unset] [])) t := by
              intro t kt
              refine pre361 t ?_
              show Steps p.tables e below (T360.setTop (mkF m 115 #[.val (.int x1), .val (.int x2), .val (.int x3), .val (.int x4), .val (.int (x4 &&& (3 : Int32))), .val (.int (own_pick x1)), .val (.int (own_pick x2)), .val (.int (own_pick x3)), .val (.ref b348), .val (.ref b353), .unset, .unset, .unset, .unset] [(.int (own_b ((own_pick x1) = (47 : Int32) ∨ (own_pick x1) = (92 : Int32) ∨ (own_pick x1) = (58 : Int32))))])) _
              refine XS.ifNo X360.here hx rfl (hb hby at_115) rfl ((if0 _ _).trans (teq hc115).2) ?_
              refine XS.iload X360.here hx rfl (hb hby at_118) rfl ?_
              refine XS.iconst X360.here hx rfl (hb hby at_120) ?_
              refine XS.icmpNo X360.here hx rfl (hb hby at_121) rfl (flt (by rw [hc54]; try decide : ¬ ((x4 &&& (3 : Int32)) < (2 : Int32)))).1 ?_
              refine XS.iload X360.here hx rfl (hb hby at_124) rfl ?_
              show Steps p.tables e below (T360.setTop (mkF m 126 #[.val (.int x1), .val (.int x2), .val (.int x3), .val (.int x4), .val (.int (x4 &&& (3 : Int32))), .val (.int (own_pick x1)), .val (.int (own_pick x2)), .val (.int (own_pick x3)), .val (.ref b348), .val (.ref b353), .unset, .unset, .unset, .unset] [(.int (own_pick x2))])) _
              refine st363 _ ?_
              exact kt
            by_cases hc129 : (own_b ((own_pick x2) = (47 : Int32) ∨ (own_pick x2) = (92 : Int32) ∨ (own_pick x2) = (58 : Int32))) = (0 : Int32)
            · skip
              have hq365 : ¬ ((own_pick x2) = (47 : Int32) ∨ (own_pick x2) = (92 : Int32) ∨ (own_pick x2) = (58 : Int32)) := own_b_not hc129
              have pre366 : ∀ t, Steps p.tables e below (T363.setTop (mkF m 153 #[.val (.int x1), .val (.int x2), .val (.int x3), .val (.int x4), .val (.int (x4 &&& (3 : Int32))), .val (.int (own_pick x1)), .val (.int (own_pick x2)), .val (.int (own_pick x3)), .val (.ref b348), .val (.ref b353), .val (.int (0 : Int32)), .unset, .unset, .unset] [])) t → Steps p.tables e below (T356.setTop (mkF m 104 #[.val (.int x1), .val (.int x2), .val (.int x3), .val (.int x4), .val (.int (x4 &&& (3 : Int32))), .val (.int (own_pick x1)), .val (.int (own_pick x2)), .val (.int (own_pick x3)), .val (.ref b348), .val (.ref b353), .unset, .unset, .unset, .unset] [])) t := by
                intro t kt
                refine pre364 t ?_
                show Steps p.tables e below (T363.setTop (mkF m 129 #[.val (.int x1), .val (.int x2), .val (.int x3), .val (.int x4), .val (.int (x4 &&& (3 : Int32))), .val (.int (own_pick x1)), .val (.int (own_pick x2)), .val (.int (own_pick x3)), .val (.ref b348), .val (.ref b353), .unset, .unset, .unset, .unset] [(.int (own_b ((own_pick x2) = (47 : Int32) ∨ (own_pick x2) = (92 : Int32) ∨ (own_pick x2) = (58 : Int32))))])) _
                refine XS.ifNo X363.here hx rfl (hb hby at_129) rfl ((if0 _ _).trans (teq hc129).2) ?_
                refine XS.iload X363.here hx rfl (hb hby at_132) rfl ?_
                refine XS.iconst X363.here hx rfl (hb hby at_134) ?_
                refine XS.icmpYes X363.here hx rfl (pc0 := 135) (pc' := 150) rfl (hb hby at_135) rfl (tlt (by rw [hc54]; try decide : (x4 &&& (3 : Int32)) < (3 : Int32))).1 (by decide) (by decide) ?_
                refine XS.iconst X363.here hx rfl (hb hby at_150) ?_
                refine XS.istore X363.here hx rfl (hb hby at_151) rfl (l' := #[.val (.int x1), .val (.int x2), .val (.int x3), .val (.int x4), .val (.int (x4 &&& (3 : Int32))), .val (.int (own_pick x1)), .val (.int (own_pick x2)), .val (.int (own_pick x3)), .val (.ref b348), .val (.ref b353), .val (.int (0 : Int32)), .unset, .unset, .unset]) rfl ?_
                exact kt
              exact ⟨(0 : Int32), T363, _, X363, eh363, N363, (by simp only [own_b]; simp [hc25, hq362, hq365]), pre366⟩
            · skip
              have hq367 : (own_pick x2) = (47 : Int32) ∨ (own_pick x2) = (92 : Int32) ∨ (own_pick x2) = (58 : Int32) := own_b_of hc129
              have pre368 : ∀ t, Steps p.tables e below (T363.setTop (mkF m 153 #[.val (.int x1), .val (.int x2), .val (.int x3), .val (.int x4), .val (.int (x4 &&& (3 : Int32))), .val (.int (own_pick x1)), .val (.int (own_pick x2)), .val (.int (own_pick x3)), .val (.ref b348), .val (.ref b353), .val (.int (1 : Int32)), .unset, .unset, .unset] [])) t → Steps p.tables e below (T356.setTop (mkF m 104 #[.val (.int x1), .val (.int x2), .val (.int x3), .val (.int x4), .val (.int (x4 &&& (3 : Int32))), .val (.int (own_pick x1)), .val (.int (own_pick x2)), .val (.int (own_pick x3)), .val (.ref b348), .val (.ref b353), .unset, .unset, .unset, .unset] [])) t := by
                intro t kt
                refine pre364 t ?_
                show Steps p.tables e below (T363.setTop (mkF m 129 #[.val (.int x1), .val (.int x2), .val (.int x3), .val (.int x4), .val (.int (x4 &&& (3 : Int32))), .val (.int (own_pick x1)), .val (.int (own_pick x2)), .val (.int (own_pick x3)), .val (.ref b348), .val (.ref b353), .unset, .unset, .unset, .unset] [(.int (own_b ((own_pick x2) = (47 : Int32) ∨ (own_pick x2) = (92 : Int32) ∨ (own_pick x2) = (58 : Int32))))])) _
                refine XS.ifYes X363.here hx rfl (pc0 := 129) (pc' := 146) rfl (hb hby at_129) rfl ((if0 _ _).trans (feq hc129).2) (by decide) (by decide) ?_
                refine XS.iconst X363.here hx rfl (hb hby at_146) ?_
                refine XS.goto X363.here hx rfl (pc0 := 147) (pc' := 151) rfl (hb hby at_147) (by decide) (by decide) ?_
                refine XS.istore X363.here hx rfl (hb hby at_151) rfl (l' := #[.val (.int x1), .val (.int x2), .val (.int x3), .val (.int x4), .val (.int (x4 &&& (3 : Int32))), .val (.int (own_pick x1)), .val (.int (own_pick x2)), .val (.int (own_pick x3)), .val (.ref b348), .val (.ref b353), .val (.int (1 : Int32)), .unset, .unset, .unset]) rfl ?_
                exact kt
              exact ⟨(1 : Int32), T363, _, X363, eh363, N363, (by simp only [own_b]; simp [hc25, hq362, hq367]), pre368⟩
          · skip
            have hq369 : (own_pick x1) = (47 : Int32) ∨ (own_pick x1) = (92 : Int32) ∨ (own_pick x1) = (58 : Int32) := own_b_of hc115
            have pre370 : ∀ t, Steps p.tables e below (T360.setTop (mkF m 153 #[.val (.int x1), .val (.int x2), .val (.int x3), .val (.int x4), .val (.int (x4 &&& (3 : Int32))), .val (.int (own_pick x1)), .val (.int (own_pick x2)), .val (.int (own_pick x3)), .val (.ref b348), .val (.ref b353), .val (.int (1 : Int32)), .unset, .unset, .unset] [])) t → Steps p.tables e below (T356.setTop (mkF m 104 #[.val (.int x1), .val (.int x2), .val (.int x3), .val (.int x4), .val (.int (x4 &&& (3 : Int32))), .val (.int (own_pick x1)), .val (.int (own_pick x2)), .val (.int (own_pick x3)), .val (.ref b348), .val (.ref b353), .unset, .unset, .unset, .unset] [])) t := by
              intro t kt
              refine pre361 t ?_
              show Steps p.tables e below (T360.setTop (mkF m 115 #[.val (.int x1), .val (.int x2), .val (.int x3), .val (.int x4), .val (.int (x4 &&& (3 : Int32))), .val (.int (own_pick x1)), .val (.int (own_pick x2)), .val (.int (own_pick x3)), .val (.ref b348), .val (.ref b353), .unset, .unset, .unset, .unset] [(.int (own_b ((own_pick x1) = (47 : Int32) ∨ (own_pick x1) = (92 : Int32) ∨ (own_pick x1) = (58 : Int32))))])) _
              refine XS.ifYes X360.here hx rfl (pc0 := 115) (pc' := 146) rfl (hb hby at_115) rfl ((if0 _ _).trans (feq hc115).2) (by decide) (by decide) ?_
              refine XS.iconst X360.here hx rfl (hb hby at_146) ?_
              refine XS.goto X360.here hx rfl (pc0 := 147) (pc' := 151) rfl (hb hby at_147) (by decide) (by decide) ?_
              refine XS.istore X360.here hx rfl (hb hby at_151) rfl (l' := #[.val (.int x1), .val (.int x2), .val (.int x3), .val (.int x4), .val (.int (x4 &&& (3 : Int32))), .val (.int (own_pick x1)), .val (.int (own_pick x2)), .val (.int (own_pick x3)), .val (.ref b348), .val (.ref b353), .val (.int (1 : Int32)), .unset, .unset, .unset]) rfl ?_
              exact kt
            exact ⟨(1 : Int32), T360, _, X360, eh360, N360, (by simp only [own_b]; simp [hc25, hq369]), pre370⟩
        have pre371 : ∀ t, Steps p.tables e below (T359.setTop (mkF m 153 #[.val (.int x1), .val (.int x2), .val (.int x3), .val (.int x4), .val (.int (x4 &&& (3 : Int32))), .val (.int (own_pick x1)), .val (.int (own_pick x2)), .val (.int (own_pick x3)), .val (.ref b348), .val (.ref b353), .val (.int hsx_359), .unset, .unset, .unset] [])) t → Steps p.tables e below (s₁.setTop (entryFrame m #[(.int x1), (.int x2), (.int x3), (.int x4)] maxLocals)) t := by
          intro t kt
          refine pre358 t ?_
          show Steps p.tables e below (T356.setTop (mkF m 104 #[.val (.int x1), .val (.int x2), .val (.int x3), .val (.int x4), .val (.int (x4 &&& (3 : Int32))), .val (.int (own_pick x1)), .val (.int (own_pick x2)), .val (.int (own_pick x3)), .val (.ref b348), .val (.ref b353), .unset, .unset, .unset, .unset] [])) _
          refine k359 _ ?_
          exact kt
        obtain ⟨dt_372, T372, L372, X372, e372, N372, J372_0, k372⟩ : ∃ (dt_372 : Int32) (T372 : State) (L372 : List Loc), Stand p l e room_1 (s.setVm s.vm) m #[(.int x1), (.int x2), (.int x3), (.int x4)] below meth c T372 L372 3 8 ∧ T372.heap = T356.heap ∧ Fr n0 L372 ∧ (dt_372 = own_b (False)) ∧ ∀ t, Steps p.tables e below (T372.setTop (mkF m 173 #[.val (.int x1), .val (.int x2), .val (.int x3), .val (.int x4), .val (.int (x4 &&& (3 : Int32))), .val (.int (own_pick x1)), .val (.int (own_pick x2)), .val (.int (own_pick x3)), .val (.ref b348), .val (.ref b353), .val (.int hsx_359), .val (.int dt_372), .unset, .unset] [])) t → Steps p.tables e below (T359.setTop (mkF m 153 #[.val (.int x1), .val (.int x2), .val (.int x3), .val (.int x4), .val (.int (x4 &&& (3 : Int32))), .val (.int (own_pick x1)), .val (.int (own_pick x2)), .val (.int (own_pick x3)), .val (.ref b348), .val (.ref b353), .val (.int hsx_359), .unset, .unset, .unset] [])) t := by
          have pj372 : ∀ t, Steps p.tables e below (T359.setTop (mkF m 153 #[.val (.int x1), .val (.int x2), .val (.int x3), .val (.int x4), .val (.int (x4 &&& (3 : Int32))), .val (.int (own_pick x1)), .val (.int (own_pick x2)), .val (.int (own_pick x3)), .val (.ref b348), .val (.ref b353), .val (.int hsx_359), .unset, .unset, .unset] [])) t → Steps p.tables e below (T359.setTop (mkF m 153 #[.val (.int x1), .val (.int x2), .val (.int x3), .val (.int x4), .val (.int (x4 &&& (3 : Int32))), .val (.int (own_pick x1)), .val (.int (own_pick x2)), .val (.int (own_pick x3)), .val (.ref b348), .val (.ref b353), .val (.int hsx_359), .unset, .unset, .unset] [])) t := fun _ k => k
          have pre373 : ∀ t, Steps p.tables e below (T359.setTop (mkF m 173 #[.val (.int x1), .val (.int x2), .val (.int x3), .val (.int x4), .val (.int (x4 &&& (3 : Int32))), .val (.int (own_pick x1)), .val (.int (own_pick x2)), .val (.int (own_pick x3)), .val (.ref b348), .val (.ref b353), .val (.int hsx_359), .val (.int (0 : Int32)), .unset, .unset] [])) t → Steps p.tables e below (T359.setTop (mkF m 153 #[.val (.int x1), .val (.int x2), .val (.int x3), .val (.int x4), .val (.int (x4 &&& (3 : Int32))), .val (.int (own_pick x1)), .val (.int (own_pick x2)), .val (.int (own_pick x3)), .val (.ref b348), .val (.ref b353), .val (.int hsx_359), .unset, .unset, .unset] [])) t := by
            intro t kt
            refine pj372 t ?_
            show Steps p.tables e below (T359.setTop (mkF m 153 #[.val (.int x1), .val (.int x2), .val (.int x3), .val (.int x4), .val (.int (x4 &&& (3 : Int32))), .val (.int (own_pick x1)), .val (.int (own_pick x2)), .val (.int (own_pick x3)), .val (.ref b348), .val (.ref b353), .val (.int hsx_359), .unset, .unset, .unset] [])) _
            refine XS.iload X359.here hx rfl (hb hby at_153) rfl ?_
            refine XS.iconst X359.here hx rfl (hb hby at_155) ?_
            refine XS.icmpYes X359.here hx rfl (pc0 := 156) (pc' := 170) rfl (hb hby at_156) rfl (feq (by rw [hc54]; try decide : ¬ ((x4 &&& (3 : Int32)) = (1 : Int32)))).2 (by decide) (by decide) ?_
            refine XS.iconst X359.here hx rfl (hb hby at_170) ?_
            refine XS.istore X359.here hx rfl (hb hby at_171) rfl (l' := #[.val (.int x1), .val (.int x2), .val (.int x3), .val (.int x4), .val (.int (x4 &&& (3 : Int32))), .val (.int (own_pick x1)), .val (.int (own_pick x2)), .val (.int (own_pick x3)), .val (.ref b348), .val (.ref b353), .val (.int hsx_359), .val (.int (0 : Int32)), .unset, .unset]) rfl ?_
            exact kt
          exact ⟨(0 : Int32), T359, _, X359, e359, N359, (by simp [own_b]), pre373⟩
        have pre374 : ∀ t, Steps p.tables e below (T372.setTop (mkF m 173 #[.val (.int x1), .val (.int x2), .val (.int x3), .val (.int x4), .val (.int (x4 &&& (3 : Int32))), .val (.int (own_pick x1)), .val (.int (own_pick x2)), .val (.int (own_pick x3)), .val (.ref b348), .val (.ref b353), .val (.int hsx_359), .val (.int dt_372), .unset, .unset] [])) t → Steps p.tables e below (s₁.setTop (entryFrame m #[(.int x1), (.int x2), (.int x3), (.int x4)] maxLocals)) t := by
          intro t kt
          refine pre371 t ?_
          show Steps p.tables e below (T359.setTop (mkF m 153 #[.val (.int x1), .val (.int x2), .val (.int x3), .val (.int x4), .val (.int (x4 &&& (3 : Int32))), .val (.int (own_pick x1)), .val (.int (own_pick x2)), .val (.int (own_pick x3)), .val (.ref b348), .val (.ref b353), .val (.int hsx_359), .unset, .unset, .unset] [])) _
          refine k372 _ ?_
          exact kt
        obtain ⟨dd_375, T375, L375, X375, e375, N375, J375_0, k375⟩ : ∃ (dd_375 : Int32) (T375 : State) (L375 : List Loc), Stand p l e room_1 (s.setVm s.vm) m #[(.int x1), (.int x2), (.int x3), (.int x4)] below meth c T375 L375 3 8 ∧ T375.heap = T356.heap ∧ Fr n0 L375 ∧ (dd_375 = own_b ((own_pick x1) = (46 : Int32) ∧ (own_pick x2) = (46 : Int32))) ∧ ∀ t, Steps p.tables e below (T375.setTop (mkF m 200 #[.val (.int x1), .val (.int x2), .val (.int x3), .val (.int x4), .val (.int (x4 &&& (3 : Int32))), .val (.int (own_pick x1)), .val (.int (own_pick x2)), .val (.int (own_pick x3)), .val (.ref b348), .val (.ref b353), .val (.int hsx_359), .val (.int dt_372), .val (.int dd_375), .unset] [])) t → Steps p.tables e below (T372.setTop (mkF m 173 #[.val (.int x1), .val (.int x2), .val (.int x3), .val (.int x4), .val (.int (x4 &&& (3 : Int32))), .val (.int (own_pick x1)), .val (.int (own_pick x2)), .val (.int (own_pick x3)), .val (.ref b348), .val (.ref b353), .val (.int hsx_359), .val (.int dt_372), .unset, .unset] [])) t := by
          have pj375 : ∀ t, Steps p.tables e below (T372.setTop (mkF m 173 #[.val (.int x1), .val (.int x2), .val (.int x3), .val (.int x4), .val (.int (x4 &&& (3 : Int32))), .val (.int (own_pick x1)), .val (.int (own_pick x2)), .val (.int (own_pick x3)), .val (.ref b348), .val (.ref b353), .val (.int hsx_359), .val (.int dt_372), .unset, .unset] [])) t → Steps p.tables e below (T372.setTop (mkF m 173 #[.val (.int x1), .val (.int x2), .val (.int x3), .val (.int x4), .val (.int (x4 &&& (3 : Int32))), .val (.int (own_pick x1)), .val (.int (own_pick x2)), .val (.int (own_pick x3)), .val (.ref b348), .val (.ref b353), .val (.int hsx_359), .val (.int dt_372), .unset, .unset] [])) t := fun _ k => k
          have pre376 : ∀ t, Steps p.tables e below (T372.setTop (mkF m 183 #[.val (.int x1), .val (.int x2), .val (.int x3), .val (.int x4), .val (.int (x4 &&& (3 : Int32))), .val (.int (own_pick x1)), .val (.int (own_pick x2)), .val (.int (own_pick x3)), .val (.ref b348), .val (.ref b353), .val (.int hsx_359), .val (.int dt_372), .unset, .unset] [(.int (46 : Int32)), (.int (own_pick x1))])) t → Steps p.tables e below (T372.setTop (mkF m 173 #[.val (.int x1), .val (.int x2), .val (.int x3), .val (.int x4), .val (.int (x4 &&& (3 : Int32))), .val (.int (own_pick x1)), .val (.int (own_pick x2)), .val (.int (own_pick x3)), .val (.ref b348), .val (.ref b353), .val (.int hsx_359), .val (.int dt_372), .unset, .unset] [])) t := by
            intro t kt
            refine pj375 t ?_
            show Steps p.tables e below (T372.setTop (mkF m 173 #[.val (.int x1), .val (.int x2), .val (.int x3), .val (.int x4), .val (.int (x4 &&& (3 : Int32))), .val (.int (own_pick x1)), .val (.int (own_pick x2)), .val (.int (own_pick x3)), .val (.ref b348), .val (.ref b353), .val (.int hsx_359), .val (.int dt_372), .unset, .unset] [])) _
            refine XS.iload X372.here hx rfl (hb hby at_173) rfl ?_
            refine XS.iconst X372.here hx rfl (hb hby at_175) ?_
            refine XS.icmpNo X372.here hx rfl (hb hby at_176) rfl (teq (by rw [hc54]; try decide : (x4 &&& (3 : Int32)) = (2 : Int32))).2 ?_
            refine XS.iload X372.here hx rfl (hb hby at_179) rfl ?_
            refine XS.bipush X372.here hx rfl (hb hby at_181) ?_
            exact kt
          by_cases hc183 : (own_pick x1) = (46 : Int32)
          · skip
            have pre377 : ∀ t, Steps p.tables e below (T372.setTop (mkF m 190 #[.val (.int x1), .val (.int x2), .val (.int x3), .val (.int x4), .val (.int (x4 &&& (3 : Int32))), .val (.int (own_pick x1)), .val (.int (own_pick x2)), .val (.int (own_pick x3)), .val (.ref b348), .val (.ref b353), .val (.int hsx_359), .val (.int dt_372), .unset, .unset] [(.int (46 : Int32)), (.int (own_pick x2))])) t → Steps p.tables e below (T372.setTop (mkF m 173 #[.val (.int x1), .val (.int x2), .val (.int x3), .val (.int x4), .val (.int (x4 &&& (3 : Int32))), .val (.int (own_pick x1)), .val (.int (own_pick x2)), .val (.int (own_pick x3)), .val (.ref b348), .val (.ref b353), .val (.int hsx_359), .val (.int dt_372), .unset, .unset] [])) t := by
              intro t kt
              refine pre376 t ?_
              show Steps p.tables e below (T372.setTop (mkF m 183 #[.val (.int x1), .val (.int x2), .val (.int x3), .val (.int x4), .val (.int (x4 &&& (3 : Int32))), .val (.int (own_pick x1)), .val (.int (own_pick x2)), .val (.int (own_pick x3)), .val (.ref b348), .val (.ref b353), .val (.int hsx_359), .val (.int dt_372), .unset, .unset] [(.int (46 : Int32)), (.int (own_pick x1))])) _
              refine XS.icmpNo X372.here hx rfl (hb hby at_183) rfl (teq hc183).2 ?_
              show Steps p.tables e below (T372.setTop (mkF m 186 #[.val (.int x1), .val (.int x2), .val (.int x3), .val (.int x4), .val (.int (x4 &&& (3 : Int32))), .val (.int (own_pick x1)), .val (.int (own_pick x2)), .val (.int (own_pick x3)), .val (.ref b348), .val (.ref b353), .val (.int hsx_359), .val (.int dt_372), .unset, .unset] [])) _
              refine XS.iload X372.here hx rfl (hb hby at_186) rfl ?_
              refine XS.bipush X372.here hx rfl (hb hby at_188) ?_
              exact kt
            by_cases hc190 : (own_pick x2) = (46 : Int32)
            · skip
              have pre378 : ∀ t, Steps p.tables e below (T372.setTop (mkF m 200 #[.val (.int x1), .val (.int x2), .val (.int x3), .val (.int x4), .val (.int (x4 &&& (3 : Int32))), .val (.int (own_pick x1)), .val (.int (own_pick x2)), .val (.int (own_pick x3)), .val (.ref b348), .val (.ref b353), .val (.int hsx_359), .val (.int dt_372), .val (.int (1 : Int32)), .unset] [])) t → Steps p.tables e below (T372.setTop (mkF m 173 #[.val (.int x1), .val (.int x2), .val (.int x3), .val (.int x4), .val (.int (x4 &&& (3 : Int32))), .val (.int (own_pick x1)), .val (.int (own_pick x2)), .val (.int (own_pick x3)), .val (.ref b348), .val (.ref b353), .val (.int hsx_359), .val (.int dt_372), .unset, .unset] [])) t := by
                intro t kt
                refine pre377 t ?_
                show Steps p.tables e below (T372.setTop (mkF m 190 #[.val (.int x1), .val (.int x2), .val (.int x3), .val (.int x4), .val (.int (x4 &&& (3 : Int32))), .val (.int (own_pick x1)), .val (.int (own_pick x2)), .val (.int (own_pick x3)), .val (.ref b348), .val (.ref b353), .val (.int hsx_359), .val (.int dt_372), .unset, .unset] [(.int (46 : Int32)), (.int (own_pick x2))])) _
                refine XS.icmpNo X372.here hx rfl (hb hby at_190) rfl (teq hc190).2 ?_
                refine XS.iconst X372.here hx rfl (hb hby at_193) ?_
                refine XS.goto X372.here hx rfl (pc0 := 194) (pc' := 198) rfl (hb hby at_194) (by decide) (by decide) ?_
                refine XS.istore X372.here hx rfl (hb hby at_198) rfl (l' := #[.val (.int x1), .val (.int x2), .val (.int x3), .val (.int x4), .val (.int (x4 &&& (3 : Int32))), .val (.int (own_pick x1)), .val (.int (own_pick x2)), .val (.int (own_pick x3)), .val (.ref b348), .val (.ref b353), .val (.int hsx_359), .val (.int dt_372), .val (.int (1 : Int32)), .unset]) rfl ?_
                exact kt
              exact ⟨(1 : Int32), T372, _, X372, e372, N372, (by simp only [own_b]; simp [hc183, hc190]), pre378⟩
            · skip
              have pre379 : ∀ t, Steps p.tables e below (T372.setTop (mkF m 200 #[.val (.int x1), .val (.int x2), .val (.int x3), .val (.int x4), .val (.int (x4 &&& (3 : Int32))), .val (.int (own_pick x1)), .val (.int (own_pick x2)), .val (.int (own_pick x3)), .val (.ref b348), .val (.ref b353), .val (.int hsx_359), .val (.int dt_372), .val (.int (0 : Int32)), .unset] [])) t → Steps p.tables e below (T372.setTop (mkF m 173 #[.val (.int x1), .val (.int x2), .val (.int x3), .val (.int x4), .val (.int (x4 &&& (3 : Int32))), .val (.int (own_pick x1)), .val (.int (own_pick x2)), .val (.int (own_pick x3)), .val (.ref b348), .val (.ref b353), .val (.int hsx_359), .val (.int dt_372), .unset, .unset] [])) t := by
                intro t kt
                refine pre377 t ?_
                show Steps p.tables e below (T372.setTop (mkF m 190 #[.val (.int x1), .val (.int x2), .val (.int x3), .val (.int x4), .val (.int (x4 &&& (3 : Int32))), .val (.int (own_pick x1)), .val (.int (own_pick x2)), .val (.int (own_pick x3)), .val (.ref b348), .val (.ref b353), .val (.int hsx_359), .val (.int dt_372), .unset, .unset] [(.int (46 : Int32)), (.int (own_pick x2))])) _
                refine XS.icmpYes X372.here hx rfl (pc0 := 190) (pc' := 197) rfl (hb hby at_190) rfl (feq hc190).2 (by decide) (by decide) ?_
                refine XS.iconst X372.here hx rfl (hb hby at_197) ?_
                refine XS.istore X372.here hx rfl (hb hby at_198) rfl (l' := #[.val (.int x1), .val (.int x2), .val (.int x3), .val (.int x4), .val (.int (x4 &&& (3 : Int32))), .val (.int (own_pick x1)), .val (.int (own_pick x2)), .val (.int (own_pick x3)), .val (.ref b348), .val (.ref b353), .val (.int hsx_359), .val (.int dt_372), .val (.int (0 : Int32)), .unset]) rfl ?_
                exact kt
              exact ⟨(0 : Int32), T372, _, X372, e372, N372, (by simp only [own_b]; simp [hc183, hc190]), pre379⟩
          · skip
            have pre380 : ∀ t, Steps p.tables e below (T372.setTop (mkF m 200 #[.val (.int x1), .val (.int x2), .val (.int x3), .val (.int x4), .val (.int (x4 &&& (3 : Int32))), .val (.int (own_pick x1)), .val (.int (own_pick x2)), .val (.int (own_pick x3)), .val (.ref b348), .val (.ref b353), .val (.int hsx_359), .val (.int dt_372), .val (.int (0 : Int32)), .unset] [])) t → Steps p.tables e below (T372.setTop (mkF m 173 #[.val (.int x1), .val (.int x2), .val (.int x3), .val (.int x4), .val (.int (x4 &&& (3 : Int32))), .val (.int (own_pick x1)), .val (.int (own_pick x2)), .val (.int (own_pick x3)), .val (.ref b348), .val (.ref b353), .val (.int hsx_359), .val (.int dt_372), .unset, .unset] [])) t := by
              intro t kt
              refine pre376 t ?_
              show Steps p.tables e below (T372.setTop (mkF m 183 #[.val (.int x1), .val (.int x2), .val (.int x3), .val (.int x4), .val (.int (x4 &&& (3 : Int32))), .val (.int (own_pick x1)), .val (.int (own_pick x2)), .val (.int (own_pick x3)), .val (.ref b348), .val (.ref b353), .val (.int hsx_359), .val (.int dt_372), .unset, .unset] [(.int (46 : Int32)), (.int (own_pick x1))])) _
              refine XS.icmpYes X372.here hx rfl (pc0 := 183) (pc' := 197) rfl (hb hby at_183) rfl (feq hc183).2 (by decide) (by decide) ?_
              show Steps p.tables e below (T372.setTop (mkF m 197 #[.val (.int x1), .val (.int x2), .val (.int x3), .val (.int x4), .val (.int (x4 &&& (3 : Int32))), .val (.int (own_pick x1)), .val (.int (own_pick x2)), .val (.int (own_pick x3)), .val (.ref b348), .val (.ref b353), .val (.int hsx_359), .val (.int dt_372), .unset, .unset] [])) _
              refine XS.iconst X372.here hx rfl (hb hby at_197) ?_
              refine XS.istore X372.here hx rfl (hb hby at_198) rfl (l' := #[.val (.int x1), .val (.int x2), .val (.int x3), .val (.int x4), .val (.int (x4 &&& (3 : Int32))), .val (.int (own_pick x1)), .val (.int (own_pick x2)), .val (.int (own_pick x3)), .val (.ref b348), .val (.ref b353), .val (.int hsx_359), .val (.int dt_372), .val (.int (0 : Int32)), .unset]) rfl ?_
              exact kt
            exact ⟨(0 : Int32), T372, _, X372, e372, N372, (by simp only [own_b]; simp [hc183]), pre380⟩
        have pre381 : ∀ t, Steps p.tables e below (T375.setTop (mkF m 200 #[.val (.int x1), .val (.int x2), .val (.int x3), .val (.int x4), .val (.int (x4 &&& (3 : Int32))), .val (.int (own_pick x1)), .val (.int (own_pick x2)), .val (.int (own_pick x3)), .val (.ref b348), .val (.ref b353), .val (.int hsx_359), .val (.int dt_372), .val (.int dd_375), .unset] [])) t → Steps p.tables e below (s₁.setTop (entryFrame m #[(.int x1), (.int x2), (.int x3), (.int x4)] maxLocals)) t := by
          intro t kt
          refine pre374 t ?_
          show Steps p.tables e below (T372.setTop (mkF m 173 #[.val (.int x1), .val (.int x2), .val (.int x3), .val (.int x4), .val (.int (x4 &&& (3 : Int32))), .val (.int (own_pick x1)), .val (.int (own_pick x2)), .val (.int (own_pick x3)), .val (.ref b348), .val (.ref b353), .val (.int hsx_359), .val (.int dt_372), .unset, .unset] [])) _
          refine k375 _ ?_
          exact kt
        obtain ⟨exq_382, T382, L382, X382, e382, N382, J382_0, k382⟩ : ∃ (exq_382 : Int32) (T382 : State) (L382 : List Loc), Stand p l e room_1 (s.setVm s.vm) m #[(.int x1), (.int x2), (.int x3), (.int x4)] below meth c T382 L382 3 8 ∧ T382.heap = T356.heap ∧ Fr n0 L382 ∧ (exq_382 = own_b (¬ ((x4 &&& (3 : Int32)) = (0 : Int32)) ∧ hsx_359 = (0 : Int32) ∧ dt_372 = (0 : Int32) ∧ dd_375 = (0 : Int32))) ∧ ∀ t, Steps p.tables e below (T382.setTop (mkF m 227 #[.val (.int x1), .val (.int x2), .val (.int x3), .val (.int x4), .val (.int (x4 &&& (3 : Int32))), .val (.int (own_pick x1)), .val (.int (own_pick x2)), .val (.int (own_pick x3)), .val (.ref b348), .val (.ref b353), .val (.int hsx_359), .val (.int dt_372), .val (.int dd_375), .val (.int exq_382)] [])) t → Steps p.tables e below (T375.setTop (mkF m 200 #[.val (.int x1), .val (.int x2), .val (.int x3), .val (.int x4), .val (.int (x4 &&& (3 : Int32))), .val (.int (own_pick x1)), .val (.int (own_pick x2)), .val (.int (own_pick x3)), .val (.ref b348), .val (.ref b353), .val (.int hsx_359), .val (.int dt_372), .val (.int dd_375), .unset] [])) t := by
          have pj382 : ∀ t, Steps p.tables e below (T375.setTop (mkF m 200 #[.val (.int x1), .val (.int x2), .val (.int x3), .val (.int x4), .val (.int (x4 &&& (3 : Int32))), .val (.int (own_pick x1)), .val (.int (own_pick x2)), .val (.int (own_pick x3)), .val (.ref b348), .val (.ref b353), .val (.int hsx_359), .val (.int dt_372), .val (.int dd_375), .unset] [])) t → Steps p.tables e below (T375.setTop (mkF m 200 #[.val (.int x1), .val (.int x2), .val (.int x3), .val (.int x4), .val (.int (x4 &&& (3 : Int32))), .val (.int (own_pick x1)), .val (.int (own_pick x2)), .val (.int (own_pick x3)), .val (.ref b348), .val (.ref b353), .val (.int hsx_359), .val (.int dt_372), .val (.int dd_375), .unset] [])) t := fun _ k => k
          have pre383 : ∀ t, Steps p.tables e below (T375.setTop (mkF m 207 #[.val (.int x1), .val (.int x2), .val (.int x3), .val (.int x4), .val (.int (x4 &&& (3 : Int32))), .val (.int (own_pick x1)), .val (.int (own_pick x2)), .val (.int (own_pick x3)), .val (.ref b348), .val (.ref b353), .val (.int hsx_359), .val (.int dt_372), .val (.int dd_375), .unset] [(.int hsx_359)])) t → Steps p.tables e below (T375.setTop (mkF m 200 #[.val (.int x1), .val (.int x2), .val (.int x3), .val (.int x4), .val (.int (x4 &&& (3 : Int32))), .val (.int (own_pick x1)), .val (.int (own_pick x2)), .val (.int (own_pick x3)), .val (.ref b348), .val (.ref b353), .val (.int hsx_359), .val (.int dt_372), .val (.int dd_375), .unset] [])) t := by
            intro t kt
            refine pj382 t ?_
            show Steps p.tables e below (T375.setTop (mkF m 200 #[.val (.int x1), .val (.int x2), .val (.int x3), .val (.int x4), .val (.int (x4 &&& (3 : Int32))), .val (.int (own_pick x1)), .val (.int (own_pick x2)), .val (.int (own_pick x3)), .val (.ref b348), .val (.ref b353), .val (.int hsx_359), .val (.int dt_372), .val (.int dd_375), .unset] [])) _
            refine XS.iload X375.here hx rfl (hb hby at_200) rfl ?_
            refine XS.ifNo X375.here hx rfl (hb hby at_202) rfl ((if0 _ _).trans (feq (by rw [hc54]; try decide : ¬ ((x4 &&& (3 : Int32)) = (0 : Int32)))).1) ?_
            refine XS.iload X375.here hx rfl (hb hby at_205) rfl ?_
            exact kt
          by_cases hc207 : hsx_359 = (0 : Int32)
          · skip
            have pre384 : ∀ t, Steps p.tables e below (T375.setTop (mkF m 212 #[.val (.int x1), .val (.int x2), .val (.int x3), .val (.int x4), .val (.int (x4 &&& (3 : Int32))), .val (.int (own_pick x1)), .val (.int (own_pick x2)), .val (.int (own_pick x3)), .val (.ref b348), .val (.ref b353), .val (.int hsx_359), .val (.int dt_372), .val (.int dd_375), .unset] [(.int dt_372)])) t → Steps p.tables e below (T375.setTop (mkF m 200 #[.val (.int x1), .val (.int x2), .val (.int x3), .val (.int x4), .val (.int (x4 &&& (3 : Int32))), .val (.int (own_pick x1)), .val (.int (own_pick x2)), .val (.int (own_pick x3)), .val (.ref b348), .val (.ref b353), .val (.int hsx_359), .val (.int dt_372), .val (.int dd_375), .unset] [])) t := by
              intro t kt
              refine pre383 t ?_
              show Steps p.tables e below (T375.setTop (mkF m 207 #[.val (.int x1), .val (.int x2), .val (.int x3), .val (.int x4), .val (.int (x4 &&& (3 : Int32))), .val (.int (own_pick x1)), .val (.int (own_pick x2)), .val (.int (own_pick x3)), .val (.ref b348), .val (.ref b353), .val (.int hsx_359), .val (.int dt_372), .val (.int dd_375), .unset] [(.int hsx_359)])) _
              refine XS.ifNo X375.here hx rfl (hb hby at_207) rfl ((if0 _ _).trans (teq hc207).2) ?_
              refine XS.iload X375.here hx rfl (hb hby at_210) rfl ?_
              exact kt
            by_cases hc212 : dt_372 = (0 : Int32)
            · skip
              have pre385 : ∀ t, Steps p.tables e below (T375.setTop (mkF m 217 #[.val (.int x1), .val (.int x2), .val (.int x3), .val (.int x4), .val (.int (x4 &&& (3 : Int32))), .val (.int (own_pick x1)), .val (.int (own_pick x2)), .val (.int (own_pick x3)), .val (.ref b348), .val (.ref b353), .val (.int hsx_359), .val (.int dt_372), .val (.int dd_375), .unset] [(.int dd_375)])) t → Steps p.tables e below (T375.setTop (mkF m 200 #[.val (.int x1), .val (.int x2), .val (.int x3), .val (.int x4), .val (.int (x4 &&& (3 : Int32))), .val (.int (own_pick x1)), .val (.int (own_pick x2)), .val (.int (own_pick x3)), .val (.ref b348), .val (.ref b353), .val (.int hsx_359), .val (.int dt_372), .val (.int dd_375), .unset] [])) t := by
                intro t kt
                refine pre384 t ?_
                show Steps p.tables e below (T375.setTop (mkF m 212 #[.val (.int x1), .val (.int x2), .val (.int x3), .val (.int x4), .val (.int (x4 &&& (3 : Int32))), .val (.int (own_pick x1)), .val (.int (own_pick x2)), .val (.int (own_pick x3)), .val (.ref b348), .val (.ref b353), .val (.int hsx_359), .val (.int dt_372), .val (.int dd_375), .unset] [(.int dt_372)])) _
                refine XS.ifNo X375.here hx rfl (hb hby at_212) rfl ((if0 _ _).trans (teq hc212).2) ?_
                show Steps p.tables e below (T375.setTop (mkF m 215 #[.val (.int x1), .val (.int x2), .val (.int x3), .val (.int x4), .val (.int (x4 &&& (3 : Int32))), .val (.int (own_pick x1)), .val (.int (own_pick x2)), .val (.int (own_pick x3)), .val (.ref b348), .val (.ref b353), .val (.int hsx_359), .val (.int dt_372), .val (.int dd_375), .unset] [])) _
                refine XS.iload X375.here hx rfl (hb hby at_215) rfl ?_
                exact kt
              by_cases hc217 : dd_375 = (0 : Int32)
              · skip
                have pre386 : ∀ t, Steps p.tables e below (T375.setTop (mkF m 227 #[.val (.int x1), .val (.int x2), .val (.int x3), .val (.int x4), .val (.int (x4 &&& (3 : Int32))), .val (.int (own_pick x1)), .val (.int (own_pick x2)), .val (.int (own_pick x3)), .val (.ref b348), .val (.ref b353), .val (.int hsx_359), .val (.int dt_372), .val (.int dd_375), .val (.int (1 : Int32))] [])) t → Steps p.tables e below (T375.setTop (mkF m 200 #[.val (.int x1), .val (.int x2), .val (.int x3), .val (.int x4), .val (.int (x4 &&& (3 : Int32))), .val (.int (own_pick x1)), .val (.int (own_pick x2)), .val (.int (own_pick x3)), .val (.ref b348), .val (.ref b353), .val (.int hsx_359), .val (.int dt_372), .val (.int dd_375), .unset] [])) t := by
                  intro t kt
                  refine pre385 t ?_
                  show Steps p.tables e below (T375.setTop (mkF m 217 #[.val (.int x1), .val (.int x2), .val (.int x3), .val (.int x4), .val (.int (x4 &&& (3 : Int32))), .val (.int (own_pick x1)), .val (.int (own_pick x2)), .val (.int (own_pick x3)), .val (.ref b348), .val (.ref b353), .val (.int hsx_359), .val (.int dt_372), .val (.int dd_375), .unset] [(.int dd_375)])) _
                  refine XS.ifNo X375.here hx rfl (hb hby at_217) rfl ((if0 _ _).trans (teq hc217).2) ?_
                  refine XS.iconst X375.here hx rfl (hb hby at_220) ?_
                  refine XS.goto X375.here hx rfl (pc0 := 221) (pc' := 225) rfl (hb hby at_221) (by decide) (by decide) ?_
                  refine XS.istore X375.here hx rfl (hb hby at_225) rfl (l' := #[.val (.int x1), .val (.int x2), .val (.int x3), .val (.int x4), .val (.int (x4 &&& (3 : Int32))), .val (.int (own_pick x1)), .val (.int (own_pick x2)), .val (.int (own_pick x3)), .val (.ref b348), .val (.ref b353), .val (.int hsx_359), .val (.int dt_372), .val (.int dd_375), .val (.int (1 : Int32))]) rfl ?_
                  exact kt
                exact ⟨(1 : Int32), T375, _, X375, e375, N375, (by simp only [own_b]; rw [hc54]; simp [hc207, hc212, hc217]), pre386⟩
              · skip
                have pre387 : ∀ t, Steps p.tables e below (T375.setTop (mkF m 227 #[.val (.int x1), .val (.int x2), .val (.int x3), .val (.int x4), .val (.int (x4 &&& (3 : Int32))), .val (.int (own_pick x1)), .val (.int (own_pick x2)), .val (.int (own_pick x3)), .val (.ref b348), .val (.ref b353), .val (.int hsx_359), .val (.int dt_372), .val (.int dd_375), .val (.int (0 : Int32))] [])) t → Steps p.tables e below (T375.setTop (mkF m 200 #[.val (.int x1), .val (.int x2), .val (.int x3), .val (.int x4), .val (.int (x4 &&& (3 : Int32))), .val (.int (own_pick x1)), .val (.int (own_pick x2)), .val (.int (own_pick x3)), .val (.ref b348), .val (.ref b353), .val (.int hsx_359), .val (.int dt_372), .val (.int dd_375), .unset] [])) t := by
                  intro t kt
                  refine pre385 t ?_
                  show Steps p.tables e below (T375.setTop (mkF m 217 #[.val (.int x1), .val (.int x2), .val (.int x3), .val (.int x4), .val (.int (x4 &&& (3 : Int32))), .val (.int (own_pick x1)), .val (.int (own_pick x2)), .val (.int (own_pick x3)), .val (.ref b348), .val (.ref b353), .val (.int hsx_359), .val (.int dt_372), .val (.int dd_375), .unset] [(.int dd_375)])) _
                  refine XS.ifYes X375.here hx rfl (pc0 := 217) (pc' := 224) rfl (hb hby at_217) rfl ((if0 _ _).trans (feq hc217).2) (by decide) (by decide) ?_
                  refine XS.iconst X375.here hx rfl (hb hby at_224) ?_
                  refine XS.istore X375.here hx rfl (hb hby at_225) rfl (l' := #[.val (.int x1), .val (.int x2), .val (.int x3), .val (.int x4), .val (.int (x4 &&& (3 : Int32))), .val (.int (own_pick x1)), .val (.int (own_pick x2)), .val (.int (own_pick x3)), .val (.ref b348), .val (.ref b353), .val (.int hsx_359), .val (.int dt_372), .val (.int dd_375), .val (.int (0 : Int32))]) rfl ?_
                  exact kt
                exact ⟨(0 : Int32), T375, _, X375, e375, N375, (by simp only [own_b]; rw [hc54]; simp [hc207, hc212, hc217]), pre387⟩
            · skip
              have pre388 : ∀ t, Steps p.tables e below (T375.setTop (mkF m 227 #[.val (.int x1), .val (.int x2), .val (.int x3), .val (.int x4), .val (.int (x4 &&& (3 : Int32))), .val (.int (own_pick x1)), .val (.int (own_pick x2)), .val (.int (own_pick x3)), .val (.ref b348), .val (.ref b353), .val (.int hsx_359), .val (.int dt_372), .val (.int dd_375), .val (.int (0 : Int32))] [])) t → Steps p.tables e below (T375.setTop (mkF m 200 #[.val (.int x1), .val (.int x2), .val (.int x3), .val (.int x4), .val (.int (x4 &&& (3 : Int32))), .val (.int (own_pick x1)), .val (.int (own_pick x2)), .val (.int (own_pick x3)), .val (.ref b348), .val (.ref b353), .val (.int hsx_359), .val (.int dt_372), .val (.int dd_375), .unset] [])) t := by
                intro t kt
                refine pre384 t ?_
                show Steps p.tables e below (T375.setTop (mkF m 212 #[.val (.int x1), .val (.int x2), .val (.int x3), .val (.int x4), .val (.int (x4 &&& (3 : Int32))), .val (.int (own_pick x1)), .val (.int (own_pick x2)), .val (.int (own_pick x3)), .val (.ref b348), .val (.ref b353), .val (.int hsx_359), .val (.int dt_372), .val (.int dd_375), .unset] [(.int dt_372)])) _
                refine XS.ifYes X375.here hx rfl (pc0 := 212) (pc' := 224) rfl (hb hby at_212) rfl ((if0 _ _).trans (feq hc212).2) (by decide) (by decide) ?_
                show Steps p.tables e below (T375.setTop (mkF m 224 #[.val (.int x1), .val (.int x2), .val (.int x3), .val (.int x4), .val (.int (x4 &&& (3 : Int32))), .val (.int (own_pick x1)), .val (.int (own_pick x2)), .val (.int (own_pick x3)), .val (.ref b348), .val (.ref b353), .val (.int hsx_359), .val (.int dt_372), .val (.int dd_375), .unset] [])) _
                refine XS.iconst X375.here hx rfl (hb hby at_224) ?_
                refine XS.istore X375.here hx rfl (hb hby at_225) rfl (l' := #[.val (.int x1), .val (.int x2), .val (.int x3), .val (.int x4), .val (.int (x4 &&& (3 : Int32))), .val (.int (own_pick x1)), .val (.int (own_pick x2)), .val (.int (own_pick x3)), .val (.ref b348), .val (.ref b353), .val (.int hsx_359), .val (.int dt_372), .val (.int dd_375), .val (.int (0 : Int32))]) rfl ?_
                exact kt
              exact ⟨(0 : Int32), T375, _, X375, e375, N375, (by simp only [own_b]; rw [hc54]; simp [hc207, hc212]), pre388⟩
          · skip
            have pre389 : ∀ t, Steps p.tables e below (T375.setTop (mkF m 227 #[.val (.int x1), .val (.int x2), .val (.int x3), .val (.int x4), .val (.int (x4 &&& (3 : Int32))), .val (.int (own_pick x1)), .val (.int (own_pick x2)), .val (.int (own_pick x3)), .val (.ref b348), .val (.ref b353), .val (.int hsx_359), .val (.int dt_372), .val (.int dd_375), .val (.int (0 : Int32))] [])) t → Steps p.tables e below (T375.setTop (mkF m 200 #[.val (.int x1), .val (.int x2), .val (.int x3), .val (.int x4), .val (.int (x4 &&& (3 : Int32))), .val (.int (own_pick x1)), .val (.int (own_pick x2)), .val (.int (own_pick x3)), .val (.ref b348), .val (.ref b353), .val (.int hsx_359), .val (.int dt_372), .val (.int dd_375), .unset] [])) t := by
              intro t kt
              refine pre383 t ?_
              show Steps p.tables e below (T375.setTop (mkF m 207 #[.val (.int x1), .val (.int x2), .val (.int x3), .val (.int x4), .val (.int (x4 &&& (3 : Int32))), .val (.int (own_pick x1)), .val (.int (own_pick x2)), .val (.int (own_pick x3)), .val (.ref b348), .val (.ref b353), .val (.int hsx_359), .val (.int dt_372), .val (.int dd_375), .unset] [(.int hsx_359)])) _
              refine XS.ifYes X375.here hx rfl (pc0 := 207) (pc' := 224) rfl (hb hby at_207) rfl ((if0 _ _).trans (feq hc207).2) (by decide) (by decide) ?_
              refine XS.iconst X375.here hx rfl (hb hby at_224) ?_
              refine XS.istore X375.here hx rfl (hb hby at_225) rfl (l' := #[.val (.int x1), .val (.int x2), .val (.int x3), .val (.int x4), .val (.int (x4 &&& (3 : Int32))), .val (.int (own_pick x1)), .val (.int (own_pick x2)), .val (.int (own_pick x3)), .val (.ref b348), .val (.ref b353), .val (.int hsx_359), .val (.int dt_372), .val (.int dd_375), .val (.int (0 : Int32))]) rfl ?_
              exact kt
            exact ⟨(0 : Int32), T375, _, X375, e375, N375, (by simp only [own_b]; rw [hc54]; simp [hc207]), pre389⟩
        obtain ⟨_, _, ⟨T390, L390, k390, n390⟩, -, X390, hS390, hg390, ⟨Lc390, hQ390, l390, y390, z390, R390⟩, st390⟩ := callSS X382 hx (y := (⟨"com/example/stock/stock/io/FileNames", "isBare", "(Ljava/lang/String;)Z"⟩ : MethodName)) howna (mvT hZa (own_wd hw 37 rfl)) (mvT hZa (own_wd hw 38 rfl)) (mvT hZa (own_wd hw 39 rfl)) (mvT hZa (own_wd hw 40 rfl)) (by decide) (backOfSH (s := s) (vm0 := s.vm) (W := 0) (rm9_2 l Z a0 hw [] b353 t356 ((own_pick x1).toUInt32.toUInt16.toUInt32.toInt32) ((own_pick x2).toUInt32.toUInt16.toUInt32.toInt32) kb356 st_COMPACT_STRINGS T356.heap n0 Z356 O356 E356 V356 C356 A356 hp355 S_COMPACT_STRINGS hcomp) hZa (own_wd hw 40 rfl) (own_wd hw 39 rfl) (by decide) (by decide) (own_EW hw) CH356) (g := (mkF m 229 #[.val (.int x1), .val (.int x2), .val (.int x3), .val (.int x4), .val (.int (x4 &&& (3 : Int32))), .val (.int (own_pick x1)), .val (.int (own_pick x2)), .val (.int (own_pick x3)), .val (.ref b348), .val (.ref b353), .val (.int hsx_359), .val (.int dt_372), .val (.int dd_375), .val (.int exq_382)] [(.ref b353)])) rfl (by rw [hml]; rfl) (argsL := [(.ref b353)]) (rest := []) (lenOf pd_11 rfl) rfl (by show 2 * 0 + _ ≤ _; exact Nat.le_of_eq rfl) (hb hby at_229) (fun _ _ => ⟨rfl, e382, (by decide : 3 + 10 ≤ _), (by decide : 8 + 44 ≤ _)⟩)
        dsimp only [Pt.U, Pt.locs, Pt.cells, Pt.slots] at X390 l390 y390 z390 st390 hQ390 hS390 hg390 R390
        subst l390 y390 z390
        obtain ⟨X390, hS390, hZ390, hown390⟩ := rebS hS0 (Nat.le_trans (Nat.le_trans (Nat.le_trans (Nat.le_trans (Nat.le_trans hk0 E348.1) (Keep.of_wr W350).1) (Keep.of_wr W352).1) E353.1) KK356.1) X390 hS390 (by rw [← e382]; exact hg390) hZa howna
        obtain ⟨rfl, N390q, KK390⟩ := hQ390
        have N390 := Fr.app N382 N390q
        have O390 : Old Z n0 T390.heap := O356.keep KK390 all0
        have Z390 : n0 ≤ T390.heap.size := Nat.le_trans Z356 KK390.1
        have K390 : Keep h0 T390.heap [] := K356.trans KK390 all0
        have CH390 : CHv Z own_EL T390.vm T390.heap := R390.1
        have CR390 : CHr Z own_EL s.vm h0 T390.vm T390.heap := CR356.trans R390
        obtain ⟨fs, hr, hrun, hended, hW, hsame⟩ := X390.leave (v := some (.int (1 : Int32))) (fun h => by rw [Bd.returns] at h; cases h)
        have hend := hS390.ended hW (show _ ≤ T390.heap.size from (Nat.le_refl _)) hsame
        have hcr : CHr Z own_EL s.vm s.heap T390.vm T390.heap := by
          rw [hh]
          exact CR390.trans (CHv.at X390 hZ390 (own_EW hw) CH390)
        refine ⟨_, _, pre381 _ ?_, hrun, hended, _, _, rfl, ?_, hcr, ⟨_, rfl⟩, hend.1, hend.2.1, hend.2.2.mono (by decide) (by decide)⟩
        · show Steps p.tables e below (T375.setTop (mkF m 200 #[.val (.int x1), .val (.int x2), .val (.int x3), .val (.int x4), .val (.int (x4 &&& (3 : Int32))), .val (.int (own_pick x1)), .val (.int (own_pick x2)), .val (.int (own_pick x3)), .val (.ref b348), .val (.ref b353), .val (.int hsx_359), .val (.int dt_372), .val (.int dd_375), .unset] [])) _
          refine k382 _ ?_
          refine XS.aload X382.here hx rfl (hb hby at_227) rfl rfl ?_
          show Steps p.tables e below (T382.setTop (mkF m 229 #[.val (.int x1), .val (.int x2), .val (.int x3), .val (.int x4), .val (.int (x4 &&& (3 : Int32))), .val (.int (own_pick x1)), .val (.int (own_pick x2)), .val (.int (own_pick x3)), .val (.ref b348), .val (.ref b353), .val (.int hsx_359), .val (.int dt_372), .val (.int dd_375), .val (.int exq_382)] [(.ref b353)])) _
          refine st390.trans ?_
          show Steps p.tables e below (T390.setTop (mkF m 232 #[.val (.int x1), .val (.int x2), .val (.int x3), .val (.int x4), .val (.int (x4 &&& (3 : Int32))), .val (.int (own_pick x1)), .val (.int (own_pick x2)), .val (.int (own_pick x3)), .val (.ref b348), .val (.ref b353), .val (.int hsx_359), .val (.int dt_372), .val (.int dd_375), .val (.int exq_382)] [(.int (own_b (¬ (([((own_pick x1).toUInt32.toUInt16.toUInt32.toInt32), ((own_pick x2).toUInt32.toUInt16.toUInt32.toInt32)] : List Int32) = []) ∧ ¬ ((47 : Int32) ∈ ([(((own_pick x1).toUInt32.toUInt16.toUInt32.toInt32).toInt8.toInt32), (((own_pick x2).toUInt32.toUInt16.toUInt32.toInt32).toInt8.toInt32)] : List Int32)) ∧ ¬ ((92 : Int32) ∈ ([(((own_pick x1).toUInt32.toUInt16.toUInt32.toInt32).toInt8.toInt32), (((own_pick x2).toUInt32.toUInt16.toUInt32.toInt32).toInt8.toInt32)] : List Int32)) ∧ ¬ ((58 : Int32) ∈ ([(((own_pick x1).toUInt32.toUInt16.toUInt32.toInt32).toInt8.toInt32), (((own_pick x2).toUInt32.toUInt16.toUInt32.toInt32).toInt8.toInt32)] : List Int32)) ∧ ¬ (([((own_pick x1).toUInt32.toUInt16.toUInt32.toInt32), ((own_pick x2).toUInt32.toUInt16.toUInt32.toInt32)] : List Int32) = ([(46 : Int32)] : List Int32)) ∧ ¬ (([((own_pick x1).toUInt32.toUInt16.toUInt32.toInt32), ((own_pick x2).toUInt32.toUInt16.toUInt32.toInt32)] : List Int32) = ([(46 : Int32), (46 : Int32)] : List Int32)))))])) _
          refine XS.iload X390.here hx rfl (hb hby at_232) rfl ?_
          refine XS.icmpNo X390.here hx rfl (hb hby at_234) rfl (teq (own_fin2 hc54 J382_0 J359_0 J372_0 J375_0 (own_pick_r x1) (own_pick_r x2))).2 ?_
          refine XS.iconst X390.here hx rfl (hb hby at_237) ?_
          refine XS.goto X390.here hx rfl (pc0 := 238) (pc' := 242) rfl (hb hby at_238) (by decide) (by decide) ?_
          show Steps p.tables e below (T390.setTop (mkF m 242 #[.val (.int x1), .val (.int x2), .val (.int x3), .val (.int x4), .val (.int (x4 &&& (3 : Int32))), .val (.int (own_pick x1)), .val (.int (own_pick x2)), .val (.int (own_pick x3)), .val (.ref b348), .val (.ref b353), .val (.int hsx_359), .val (.int dt_372), .val (.int dd_375), .val (.int exq_382)] [(.int (1 : Int32))])) _
          exact retN X390 hx (t := .boolean) Bd.returns (by simp) (hb hby at_242) hr
        · show Q0 Z x1 x2 x3 x4 st_COMPACT_STRINGS h0 n0 _ T390.heap _
          exact ⟨rfl, N390, K390⟩
      · skip
        have hn3 : (x4 &&& (3 : Int32)) = (3 : Int32) := own_and3 _ hc25 hc37 hc54
        obtain ⟨T391, h391, k391, X391, e391, E391, A391, st391⟩ := newP X293 hx hZa (own_wd hw 4 rfl) eh293 (g := (mkF m 74 #[.val (.int x1), .val (.int x2), .val (.int x3), .val (.int x4), .val (.int (x4 &&& (3 : Int32))), .val (.int (own_pick x1)), .val (.int (own_pick x2)), .val (.int (own_pick x3)), .unset, .unset, .unset, .unset, .unset, .unset] [(.int (3 : Int32))])) rfl (hb hby at_74) rfl (by decide) (cap := 3) (by decide) (by decide) (by decide) (by decide)
        obtain ⟨b391, g391⟩ : ∃ z, z = h0.size := ⟨_, rfl⟩
        rw [← g391] at A391 st391
        have O391 : Old Z n0 h391 := O0.ext E391
        have Z391 : n0 ≤ h391.size := Nat.le_trans Z0 E391.1
        have K391 : Keep h0 h391 [] := K0.ext E391
        have CH391 : CHv Z own_EL s.vm h391 := CHv.ext E391 CH0
        have CR391 : CHr Z own_EL s.vm h0 s.vm h391 := CR0.trans (CHr.ext E391 CH0)
        have g_b391 : n0 ≤ b391 := Nat.le_trans Z0 (Nat.le_of_eq g391.symm)
        have sz_b391 : h0.size ≤ b391 := Nat.le_trans K0.1 (Nat.le_of_eq g391.symm)
        have V391 : Arv Z h391 b391 k391 .char (3 : Int32) [(.int (0 : Int32)), (.int (0 : Int32)), (.int (0 : Int32))] (.int (0 : Int32)) := (Arv.new A391 (by decide)).pad (pad_rep [] (.int (0 : Int32)) 3)
        obtain ⟨cl_a392, Ar_a392, q_a392, S_a392, N_a392, H_a392, G_a392⟩ := id V391
        have hin_a392 : ¬ ((0 : Int32) < 0 ∨ cl_a392.slots.size ≤ ((0 : Int32)).toNatClampNeg) := inb_of S_a392 ⟨by decide, by decide⟩
        obtain ⟨T393, h393, X393, e393, W393, st393⟩ := stC X391 hx hZa e391 Ar_a392 (j := (0 : Int32)) hin_a392 (g := (mkF m 80 #[.val (.int x1), .val (.int x2), .val (.int x3), .val (.int x4), .val (.int (x4 &&& (3 : Int32))), .val (.int (own_pick x1)), .val (.int (own_pick x2)), .val (.int (own_pick x3)), .unset, .unset, .unset, .unset, .unset, .unset] [(.int (own_pick x1)), (.int (0 : Int32)), (.ref b391), (.ref b391)])) rfl rfl (hb hby at_80)
        have O393 : Old Z n0 h393 := O391.wr W393 g_b391
        have Z393 : n0 ≤ h393.size := Nat.le_trans Z391 (Keep.of_wr W393).1
        have K393 : Keep h0 h393 [] := K391.wr W393 (Or.inr sz_b391)
        have N393 := Fr.snoc X393 N293 g_b391
        have CH393 : CHv Z own_EL s.vm h393 := CHv.wr W393 (Safe.arv hZa.alike V391 (by decide)) CH391
        have CR393 : CHr Z own_EL s.vm h0 s.vm h393 := CR391.trans (CHr.wr W393 (Safe.arv hZa.alike V391 (by decide)) CH391)
        have V393 : Arv Z h393 b391 k391 .char (3 : Int32) [(.int (own_pick x1).toUInt32.toUInt16.toUInt32.toInt32), (.int (0 : Int32)), (.int (0 : Int32))] (.int (0 : Int32)) := Arv.set Ar_a392 q_a392 S_a392 N_a392 H_a392 G_a392 (fits_nar_char _) W393 0 rfl (Nat.le_of_ble_eq_true rfl)
        obtain ⟨cl_a394, Ar_a394, q_a394, S_a394, N_a394, H_a394, G_a394⟩ := id V393
        have hin_a394 : ¬ ((1 : Int32) < 0 ∨ cl_a394.slots.size ≤ ((1 : Int32)).toNatClampNeg) := inb_of S_a394 ⟨by decide, by decide⟩
        obtain ⟨T395, h395, X395, e395, W395, st395⟩ := stC X393 hx hZa e393 Ar_a394 (j := (1 : Int32)) hin_a394 (g := (mkF m 85 #[.val (.int x1), .val (.int x2), .val (.int x3), .val (.int x4), .val (.int (x4 &&& (3 : Int32))), .val (.int (own_pick x1)), .val (.int (own_pick x2)), .val (.int (own_pick x3)), .unset, .unset, .unset, .unset, .unset, .unset] [(.int (own_pick x2)), (.int (1 : Int32)), (.ref b391), (.ref b391)])) rfl rfl (hb hby at_85)
        have O395 : Old Z n0 h395 := O393.wr W395 g_b391
        have Z395 : n0 ≤ h395.size := Nat.le_trans Z393 (Keep.of_wr W395).1
        have K395 : Keep h0 h395 [] := K393.wr W395 (Or.inr sz_b391)
        have N395 := Fr.snoc X395 N393 g_b391
        have CH395 : CHv Z own_EL s.vm h395 := CHv.wr W395 (Safe.arv hZa.alike V393 (by decide)) CH393
        have CR395 : CHr Z own_EL s.vm h0 s.vm h395 := CR393.trans (CHr.wr W395 (Safe.arv hZa.alike V393 (by decide)) CH393)
        have V395 : Arv Z h395 b391 k391 .char (3 : Int32) [(.int (own_pick x1).toUInt32.toUInt16.toUInt32.toInt32), (.int (own_pick x2).toUInt32.toUInt16.toUInt32.toInt32), (.int (0 : Int32))] (.int (0 : Int32)) := Arv.set Ar_a394 q_a394 S_a394 N_a394 H_a394 G_a394 (fits_nar_char _) W395 1 rfl (Nat.le_of_ble_eq_true rfl)
        obtain ⟨cl_a396, Ar_a396, q_a396, S_a396, N_a396, H_a396, G_a396⟩ := id V395
        have hin_a396 : ¬ ((2 : Int32) < 0 ∨ cl_a396.slots.size ≤ ((2 : Int32)).toNatClampNeg) := inb_of S_a396 ⟨by decide, by decide⟩
        obtain ⟨T397, h397, X397, e397, W397, st397⟩ := stC X395 hx hZa e395 Ar_a396 (j := (2 : Int32)) hin_a396 (g := (mkF m 90 #[.val (.int x1), .val (.int x2), .val (.int x3), .val (.int x4), .val (.int (x4 &&& (3 : Int32))), .val (.int (own_pick x1)), .val (.int (own_pick x2)), .val (.int (own_pick x3)), .unset, .unset, .unset, .unset, .unset, .unset] [(.int (own_pick x3)), (.int (2 : Int32)), (.ref b391), (.ref b391)])) rfl rfl (hb hby at_90)
        have O397 : Old Z n0 h397 := O395.wr W397 g_b391
        have Z397 : n0 ≤ h397.size := Nat.le_trans Z395 (Keep.of_wr W397).1
        have K397 : Keep h0 h397 [] := K395.wr W397 (Or.inr sz_b391)
        have N397 := Fr.snoc X397 N395 g_b391
        have CH397 : CHv Z own_EL s.vm h397 := CHv.wr W397 (Safe.arv hZa.alike V395 (by decide)) CH395
        have CR397 : CHr Z own_EL s.vm h0 s.vm h397 := CR395.trans (CHr.wr W397 (Safe.arv hZa.alike V395 (by decide)) CH395)
        have V397 : Arv Z h397 b391 k391 .char (3 : Int32) [(.int (own_pick x1).toUInt32.toUInt16.toUInt32.toInt32), (.int (own_pick x2).toUInt32.toUInt16.toUInt32.toInt32), (.int (own_pick x3).toUInt32.toUInt16.toUInt32.toInt32)] (.int (0 : Int32)) := Arv.set Ar_a396 q_a396 S_a396 N_a396 H_a396 G_a396 (fits_nar_char _) W397 2 rfl (Nat.le_of_ble_eq_true rfl)
        obtain ⟨T398, h398, X398, e398, E398, A398, D398, U398, st398⟩ := newO X397 hx hZa howna (own_wd hw 5 rfl) (own_wd hw 6 rfl) (own_wd hw 7 rfl) e397 (g := (mkF m 93 #[.val (.int x1), .val (.int x2), .val (.int x3), .val (.int x4), .val (.int (x4 &&& (3 : Int32))), .val (.int (own_pick x1)), .val (.int (own_pick x2)), .val (.int (own_pick x3)), .val (.ref b391), .unset, .unset, .unset, .unset, .unset] [])) rfl (hb hby at_93) (by decide) (by decide)
        obtain ⟨b398, g398⟩ : ∃ z, z = h397.size := ⟨_, rfl⟩
        rw [← g398] at A398 D398 st398
        have O398 : Old Z n0 h398 := O397.ext E398
        have Z398 : n0 ≤ h398.size := Nat.le_trans Z397 E398.1
        have K398 : Keep h0 h398 [] := K397.ext E398
        have CH398 : CHv Z own_EL s.vm h398 := CHv.ext E398 CH397
        have CR398 : CHr Z own_EL s.vm h0 s.vm h398 := CR397.trans (CHr.ext E398 CH397)
        have g_b398 : n0 ≤ b398 := Nat.le_trans Z397 (Nat.le_of_eq g398.symm)
        have sz_b398 : h0.size ≤ b398 := Nat.le_trans K397.1 (Nat.le_of_eq g398.symm)
        have F_b398_coder : Fld Z h398 b398 "java/lang/String" "coder" "B" (.int (0 : Int32)) := D398 (Or.inr (own_wd hw 31 rfl)) (ty := .byte) (by decide)
        have F_b398_value : Fld Z h398 b398 "java/lang/String" "value" "[B" .null := D398 (Or.inr (own_wd hw 33 rfl)) (ty := (.array .byte)) (by decide)
        have V399 : Arv Z h398 b391 k391 .char (3 : Int32) [(.int (own_pick x1).toUInt32.toUInt16.toUInt32.toInt32), (.int (own_pick x2).toUInt32.toUInt16.toUInt32.toInt32), (.int (own_pick x3).toUInt32.toUInt16.toUInt32.toInt32)] (.int (0 : Int32)) := (V397.ext E398)
        have hp400 : ∀ c ∈ ([(own_pick x1).toUInt32.toUInt16.toUInt32.toInt32, (own_pick x2).toUInt32.toUInt16.toUInt32.toInt32, (own_pick x3).toUInt32.toUInt16.toUInt32.toInt32] : List Int32), ¬ c < 0 ∧ ¬ (255 : Int32) < c := by
          intro c hc
          simp only [List.mem_cons, List.not_mem_nil, or_false] at hc
          rcases hc with rfl | rfl | rfl
          · exact own_chP x1
          · exact own_chP x2
          · exact own_chP x3
        obtain ⟨_, _, ⟨T401, L401, k401, n401⟩, -, X401, ⟨Lc401, hQ401, l401, y401, z401⟩, st401⟩ := X398.specialBack hx (y := (⟨"java/lang/String", "<init>", "([C)V"⟩ : MethodName)) rfl howna (mvT hZa (own_wd hw 8 rfl)) (mvT hZa (own_wd hw 9 rfl)) (mvT hZa (own_wd hw 10 rfl)) (by decide) (StrChars.Road.backV (W := 1) hZa (own_hws hw) (kI := 4) (own_wd hw 6 rfl) (cs := ([(own_pick x1).toUInt32.toUInt16.toUInt32.toInt32, (own_pick x2).toUInt32.toUInt16.toUInt32.toInt32, (own_pick x3).toUInt32.toUInt16.toUInt32.toInt32] : List Int32)) (bs := ([(own_pick x1).toUInt32.toUInt16.toUInt32.toInt32, (own_pick x2).toUInt32.toUInt16.toUInt32.toInt32, (own_pick x3).toUInt32.toUInt16.toUInt32.toInt32] : List Int32).map (fun c => c.toInt8.toInt32)) (n := 3) g_b398 Z398 A398 F_b398_value F_b398_coder V399 (S_COMPACT_STRINGS.ext O398.2) hcomp rfl rfl (by decide) (by decide) hp400 rfl (by decide) (by decide)) (g := (mkF m 99 #[.val (.int x1), .val (.int x2), .val (.int x3), .val (.int x4), .val (.int (x4 &&& (3 : Int32))), .val (.int (own_pick x1)), .val (.int (own_pick x2)), .val (.int (own_pick x3)), .val (.ref b391), .unset, .unset, .unset, .unset, .unset] [(.ref b391), (.ref b398), (.ref b398)])) rfl (by rw [hml]; rfl) (Steps.refl _) (a := b398) (argsL := [(.ref b391)]) (rest := [(.ref b398)]) (lenOf pd_10 rfl) rfl (by show 2 * 0 + _ ≤ _; exact Nat.le_of_eq rfl) (hb hby at_99) (fun _ _ => ⟨rfl, e398, (by decide : 2 + 1 ≤ _), (by decide : 7 + 3 ≤ _)⟩)
        dsimp only [Pt.U, Pt.locs, Pt.cells, Pt.slots] at X401 l401 y401 z401 st401 hQ401
        subst l401 y401 z401
        obtain ⟨rfl, N401q, KK401, E401, C401, t401, kb401, g_t401, s401, ne401, V401, A401⟩ := hQ401
        have N401 := Fr.app N397 N401q
        have sf402 : Safe Z own_EL s.vm h398 b398 := (Safe.ext E398 CH397 (Safe.new (Nat.le_of_eq g398.symm)))
        have O401 : Old Z n0 T401.heap := O398.keep KK401 (allS g_b398 all0)
        have Z401 : n0 ≤ T401.heap.size := Nat.le_trans Z398 KK401.1
        have K401 : Keep h0 T401.heap [] := K398.trans KK401 (allS (Or.inr sz_b398) all0)
        have CH401 : CHv Z own_EL s.vm T401.heap := CHv.keep KK401 (sfS sf402 sf0) CH398
        have CR401 : CHr Z own_EL s.vm h0 s.vm T401.heap := CR398.trans (CHr.keep KK401 (sfS sf402 sf0) CH398)
        have sz_t401 : h0.size ≤ t401 := Nat.le_trans K398.1 s401
        have pre403 : ∀ t, Steps p.tables e below (T401.setTop (mkF m 104 #[.val (.int x1), .val (.int x2), .val (.int x3), .val (.int x4), .val (.int (x4 &&& (3 : Int32))), .val (.int (own_pick x1)), .val (.int (own_pick x2)), .val (.int (own_pick x3)), .val (.ref b391), .val (.ref b398), .unset, .unset, .unset, .unset] [])) t → Steps p.tables e below (s₁.setTop (entryFrame m #[(.int x1), (.int x2), (.int x3), (.int x4)] maxLocals)) t := by
          intro t kt
          refine pre347 t ?_
          show Steps p.tables e below (T293.setTop (mkF m 54 #[.val (.int x1), .val (.int x2), .val (.int x3), .val (.int x4), .val (.int (x4 &&& (3 : Int32))), .val (.int (own_pick x1)), .val (.int (own_pick x2)), .val (.int (own_pick x3)), .unset, .unset, .unset, .unset, .unset, .unset] [(.int (2 : Int32)), (.int (x4 &&& (3 : Int32)))])) _
          refine XS.icmpYes X293.here hx rfl (pc0 := 54) (pc' := 73) rfl (hb hby at_54) rfl (feq hc54).2 (by decide) (by decide) ?_
          refine XS.iconst X293.here hx rfl (hb hby at_73) ?_
          show Steps p.tables e below (T293.setTop (mkF m 74 #[.val (.int x1), .val (.int x2), .val (.int x3), .val (.int x4), .val (.int (x4 &&& (3 : Int32))), .val (.int (own_pick x1)), .val (.int (own_pick x2)), .val (.int (own_pick x3)), .unset, .unset, .unset, .unset, .unset, .unset] [(.int (3 : Int32))])) _
          refine st391 _ ?_
          show Steps p.tables e below (T391.setTop (mkF m 76 #[.val (.int x1), .val (.int x2), .val (.int x3), .val (.int x4), .val (.int (x4 &&& (3 : Int32))), .val (.int (own_pick x1)), .val (.int (own_pick x2)), .val (.int (own_pick x3)), .unset, .unset, .unset, .unset, .unset, .unset] [(.ref b391)])) _
          refine XS.dup X391.here hx rfl (hb hby at_76) rfl rfl ?_
          refine XS.iconst X391.here hx rfl (hb hby at_77) ?_
          refine XS.iload X391.here hx rfl (hb hby at_78) rfl ?_
          show Steps p.tables e below (T391.setTop (mkF m 80 #[.val (.int x1), .val (.int x2), .val (.int x3), .val (.int x4), .val (.int (x4 &&& (3 : Int32))), .val (.int (own_pick x1)), .val (.int (own_pick x2)), .val (.int (own_pick x3)), .unset, .unset, .unset, .unset, .unset, .unset] [(.int (own_pick x1)), (.int (0 : Int32)), (.ref b391), (.ref b391)])) _
          refine st393 _ ?_
          show Steps p.tables e below (T393.setTop (mkF m 81 #[.val (.int x1), .val (.int x2), .val (.int x3), .val (.int x4), .val (.int (x4 &&& (3 : Int32))), .val (.int (own_pick x1)), .val (.int (own_pick x2)), .val (.int (own_pick x3)), .unset, .unset, .unset, .unset, .unset, .unset] [(.ref b391)])) _
          refine XS.dup X393.here hx rfl (hb hby at_81) rfl rfl ?_
          refine XS.iconst X393.here hx rfl (hb hby at_82) ?_
          refine XS.iload X393.here hx rfl (hb hby at_83) rfl ?_
          show Steps p.tables e below (T393.setTop (mkF m 85 #[.val (.int x1), .val (.int x2), .val (.int x3), .val (.int x4), .val (.int (x4 &&& (3 : Int32))), .val (.int (own_pick x1)), .val (.int (own_pick x2)), .val (.int (own_pick x3)), .unset, .unset, .unset, .unset, .unset, .unset] [(.int (own_pick x2)), (.int (1 : Int32)), (.ref b391), (.ref b391)])) _
          refine st395 _ ?_
          show Steps p.tables e below (T395.setTop (mkF m 86 #[.val (.int x1), .val (.int x2), .val (.int x3), .val (.int x4), .val (.int (x4 &&& (3 : Int32))), .val (.int (own_pick x1)), .val (.int (own_pick x2)), .val (.int (own_pick x3)), .unset, .unset, .unset, .unset, .unset, .unset] [(.ref b391)])) _
          refine XS.dup X395.here hx rfl (hb hby at_86) rfl rfl ?_
          refine XS.iconst X395.here hx rfl (hb hby at_87) ?_
          refine XS.iload X395.here hx rfl (hb hby at_88) rfl ?_
          show Steps p.tables e below (T395.setTop (mkF m 90 #[.val (.int x1), .val (.int x2), .val (.int x3), .val (.int x4), .val (.int (x4 &&& (3 : Int32))), .val (.int (own_pick x1)), .val (.int (own_pick x2)), .val (.int (own_pick x3)), .unset, .unset, .unset, .unset, .unset, .unset] [(.int (own_pick x3)), (.int (2 : Int32)), (.ref b391), (.ref b391)])) _
          refine st397 _ ?_
          show Steps p.tables e below (T397.setTop (mkF m 91 #[.val (.int x1), .val (.int x2), .val (.int x3), .val (.int x4), .val (.int (x4 &&& (3 : Int32))), .val (.int (own_pick x1)), .val (.int (own_pick x2)), .val (.int (own_pick x3)), .unset, .unset, .unset, .unset, .unset, .unset] [(.ref b391)])) _
          refine XS.astore X397.here hx rfl (hb hby at_91) rfl rfl (l' := #[.val (.int x1), .val (.int x2), .val (.int x3), .val (.int x4), .val (.int (x4 &&& (3 : Int32))), .val (.int (own_pick x1)), .val (.int (own_pick x2)), .val (.int (own_pick x3)), .val (.ref b391), .unset, .unset, .unset, .unset, .unset]) rfl ?_
          show Steps p.tables e below (T397.setTop (mkF m 93 #[.val (.int x1), .val (.int x2), .val (.int x3), .val (.int x4), .val (.int (x4 &&& (3 : Int32))), .val (.int (own_pick x1)), .val (.int (own_pick x2)), .val (.int (own_pick x3)), .val (.ref b391), .unset, .unset, .unset, .unset, .unset] [])) _
          refine st398 _ ?_
          show Steps p.tables e below (T398.setTop (mkF m 96 #[.val (.int x1), .val (.int x2), .val (.int x3), .val (.int x4), .val (.int (x4 &&& (3 : Int32))), .val (.int (own_pick x1)), .val (.int (own_pick x2)), .val (.int (own_pick x3)), .val (.ref b391), .unset, .unset, .unset, .unset, .unset] [(.ref b398)])) _
          refine XS.dup X398.here hx rfl (hb hby at_96) rfl rfl ?_
          refine XS.aload X398.here hx rfl (hb hby at_97) rfl rfl ?_
          show Steps p.tables e below (T398.setTop (mkF m 99 #[.val (.int x1), .val (.int x2), .val (.int x3), .val (.int x4), .val (.int (x4 &&& (3 : Int32))), .val (.int (own_pick x1)), .val (.int (own_pick x2)), .val (.int (own_pick x3)), .val (.ref b391), .unset, .unset, .unset, .unset, .unset] [(.ref b391), (.ref b398), (.ref b398)])) _
          refine st401.trans ?_
          show Steps p.tables e below (T401.setTop (mkF m 102 #[.val (.int x1), .val (.int x2), .val (.int x3), .val (.int x4), .val (.int (x4 &&& (3 : Int32))), .val (.int (own_pick x1)), .val (.int (own_pick x2)), .val (.int (own_pick x3)), .val (.ref b391), .unset, .unset, .unset, .unset, .unset] [(.ref b398)])) _
          refine XS.astore X401.here hx rfl (hb hby at_102) rfl rfl (l' := #[.val (.int x1), .val (.int x2), .val (.int x3), .val (.int x4), .val (.int (x4 &&& (3 : Int32))), .val (.int (own_pick x1)), .val (.int (own_pick x2)), .val (.int (own_pick x3)), .val (.ref b391), .val (.ref b398), .unset, .unset, .unset, .unset]) rfl ?_
          exact kt
        obtain ⟨hsx_404, T404, L404, X404, e404, N404, J404_0, k404⟩ : ∃ (hsx_404 : Int32) (T404 : State) (L404 : List Loc), Stand p l e room_1 (s.setVm s.vm) m #[(.int x1), (.int x2), (.int x3), (.int x4)] below meth c T404 L404 3 10 ∧ T404.heap = T401.heap ∧ Fr n0 L404 ∧ (hsx_404 = own_b (((own_pick x1) = (47 : Int32) ∨ (own_pick x1) = (92 : Int32) ∨ (own_pick x1) = (58 : Int32)) ∨ ((own_pick x2) = (47 : Int32) ∨ (own_pick x2) = (92 : Int32) ∨ (own_pick x2) = (58 : Int32)) ∨ ((own_pick x3) = (47 : Int32) ∨ (own_pick x3) = (92 : Int32) ∨ (own_pick x3) = (58 : Int32)))) ∧ ∀ t, Steps p.tables e below (T404.setTop (mkF m 153 #[.val (.int x1), .val (.int x2), .val (.int x3), .val (.int x4), .val (.int (x4 &&& (3 : Int32))), .val (.int (own_pick x1)), .val (.int (own_pick x2)), .val (.int (own_pick x3)), .val (.ref b391), .val (.ref b398), .val (.int hsx_404), .unset, .unset, .unset] [])) t → Steps p.tables e below (T401.setTop (mkF m 104 #[.val (.int x1), .val (.int x2), .val (.int x3), .val (.int x4), .val (.int (x4 &&& (3 : Int32))), .val (.int (own_pick x1)), .val (.int (own_pick x2)), .val (.int (own_pick x3)), .val (.ref b391), .val (.ref b398), .unset, .unset, .unset, .unset] [])) t := by
          have pj404 : ∀ t, Steps p.tables e below (T401.setTop (mkF m 104 #[.val (.int x1), .val (.int x2), .val (.int x3), .val (.int x4), .val (.int (x4 &&& (3 : Int32))), .val (.int (own_pick x1)), .val (.int (own_pick x2)), .val (.int (own_pick x3)), .val (.ref b391), .val (.ref b398), .unset, .unset, .unset, .unset] [])) t → Steps p.tables e below (T401.setTop (mkF m 104 #[.val (.int x1), .val (.int x2), .val (.int x3), .val (.int x4), .val (.int (x4 &&& (3 : Int32))), .val (.int (own_pick x1)), .val (.int (own_pick x2)), .val (.int (own_pick x3)), .val (.ref b391), .val (.ref b398), .unset, .unset, .unset, .unset] [])) t := fun _ k => k
          obtain ⟨_, _, ⟨T405, L405, k405, n405⟩, -, X405, ⟨Lc405, hQ405, l405, y405, z405⟩, st405⟩ := Jvm.LawKit.callS X401 hx (y := (⟨"com/example/stock/stock/io/FileNamesIsBarePinLaw", "sep", "(C)Z"⟩ : MethodName)) howna (mvT hZa (own_wd hw 34 rfl)) (mvT hZa (own_wd hw 35 rfl)) (mvT hZa (own_wd hw 2 rfl)) (mvT hZa (own_wd hw 36 rfl)) (by decide) (backOf (W := 0) (rm8 l Z a0 hw [] (own_pick x1) T401.heap n0 Z401 O401) hZa (own_wd hw 36 rfl) (own_wd hw 2 rfl) (by decide) (by decide)) (g := (mkF m 112 #[.val (.int x1), .val (.int x2), .val (.int x3), .val (.int x4), .val (.int (x4 &&& (3 : Int32))), .val (.int (own_pick x1)), .val (.int (own_pick x2)), .val (.int (own_pick x3)), .val (.ref b391), .val (.ref b398), .unset, .unset, .unset, .unset] [(.int (own_pick x1))])) rfl (by rw [hml]; rfl) (argsL := [(.int (own_pick x1))]) (rest := []) (lenOf pd_12 rfl) rfl (by show 2 * 0 + _ ≤ _; exact Nat.le_of_eq rfl) (hb hby at_112) (fun _ _ => ⟨rfl, rfl, (by decide : 3 + 0 ≤ _), (by decide : 10 + 0 ≤ _)⟩)
          dsimp only [Pt.U, Pt.locs, Pt.cells, Pt.slots] at X405 l405 y405 z405 st405 hQ405
          subst l405 y405 z405
          obtain ⟨rfl, N405q, eh405⟩ := hQ405
          have N405 := Fr.app N401 N405q
          have pre406 : ∀ t, Steps p.tables e below (T405.setTop (mkF m 115 #[.val (.int x1), .val (.int x2), .val (.int x3), .val (.int x4), .val (.int (x4 &&& (3 : Int32))), .val (.int (own_pick x1)), .val (.int (own_pick x2)), .val (.int (own_pick x3)), .val (.ref b391), .val (.ref b398), .unset, .unset, .unset, .unset] [(.int (own_b ((own_pick x1) = (47 : Int32) ∨ (own_pick x1) = (92 : Int32) ∨ (own_pick x1) = (58 : Int32))))])) t → Steps p.tables e below (T401.setTop (mkF m 104 #[.val (.int x1), .val (.int x2), .val (.int x3), .val (.int x4), .val (.int (x4 &&& (3 : Int32))), .val (.int (own_pick x1)), .val (.int (own_pick x2)), .val (.int (own_pick x3)), .val (.ref b391), .val (.ref b398), .unset, .unset, .unset, .unset] [])) t := by
            intro t kt
            refine pj404 t ?_
            show Steps p.tables e below (T401.setTop (mkF m 104 #[.val (.int x1), .val (.int x2), .val (.int x3), .val (.int x4), .val (.int (x4 &&& (3 : Int32))), .val (.int (own_pick x1)), .val (.int (own_pick x2)), .val (.int (own_pick x3)), .val (.ref b391), .val (.ref b398), .unset, .unset, .unset, .unset] [])) _
            refine XS.iload X401.here hx rfl (hb hby at_104) rfl ?_
            refine XS.iconst X401.here hx rfl (hb hby at_106) ?_
            refine XS.icmpNo X401.here hx rfl (hb hby at_107) rfl (flt (by rw [hn3]; try decide : ¬ ((x4 &&& (3 : Int32)) < (1 : Int32)))).1 ?_
            refine XS.iload X401.here hx rfl (hb hby at_110) rfl ?_
            show Steps p.tables e below (T401.setTop (mkF m 112 #[.val (.int x1), .val (.int x2), .val (.int x3), .val (.int x4), .val (.int (x4 &&& (3 : Int32))), .val (.int (own_pick x1)), .val (.int (own_pick x2)), .val (.int (own_pick x3)), .val (.ref b391), .val (.ref b398), .unset, .unset, .unset, .unset] [(.int (own_pick x1))])) _
            refine st405 _ ?_
            exact kt
          by_cases hc115 : (own_b ((own_pick x1) = (47 : Int32) ∨ (own_pick x1) = (92 : Int32) ∨ (own_pick x1) = (58 : Int32))) = (0 : Int32)
          · skip
            have hq407 : ¬ ((own_pick x1) = (47 : Int32) ∨ (own_pick x1) = (92 : Int32) ∨ (own_pick x1) = (58 : Int32)) := own_b_not hc115
            obtain ⟨_, _, ⟨T408, L408, k408, n408⟩, -, X408, ⟨Lc408, hQ408, l408, y408, z408⟩, st408⟩ := Jvm.LawKit.callS X405 hx (y := (⟨"com/example/stock/stock/io/FileNamesIsBarePinLaw", "sep", "(C)Z"⟩ : MethodName)) howna (mvT hZa (own_wd hw 34 rfl)) (mvT hZa (own_wd hw 35 rfl)) (mvT hZa (own_wd hw 2 rfl)) (mvT hZa (own_wd hw 36 rfl)) (by decide) (backOf (W := 0) (rm8 l Z a0 hw [] (own_pick x2) T401.heap n0 Z401 O401) hZa (own_wd hw 36 rfl) (own_wd hw 2 rfl) (by decide) (by decide)) (g := (mkF m 126 #[.val (.int x1), .val (.int x2), .val (.int x3), .val (.int x4), .val (.int (x4 &&& (3 : Int32))), .val (.int (own_pick x1)), .val (.int (own_pick x2)), .val (.int (own_pick x3)), .val (.ref b391), .val (.ref b398), .unset, .unset, .unset, .unset] [(.int (own_pick x2))])) rfl (by rw [hml]; rfl) (argsL := [(.int (own_pick x2))]) (rest := []) (lenOf pd_12 rfl) rfl (by show 2 * 0 + _ ≤ _; exact Nat.le_of_eq rfl) (hb hby at_126) (fun _ _ => ⟨rfl, eh405, (by decide : 3 + 0 ≤ _), (by decide : 10 + 0 ≤ _)⟩)
            dsimp only [Pt.U, Pt.locs, Pt.cells, Pt.slots] at X408 l408 y408 z408 st408 hQ408
            subst l408 y408 z408
            obtain ⟨rfl, N408q, eh408⟩ := hQ408
            have N408 := Fr.app N405 N408q
            have pre409 : ∀ t, Steps p.tables e below (T408.setTop (mkF m 129 #[.val (.int x1), .val (.int x2), .val (.int x3), .val (.int x4), .val (.int (x4 &&& (3 : Int32))), .val (.int (own_pick x1)), .val (.int (own_pick x2)), .val (.int (own_pick x3)), .val (.ref b391), .val (.ref b398), .unset, .unset, .unset, .unset] [(.int (own_b ((own_pick x2) = (47 : Int32) ∨ (own_pick x2) = (92 : Int32) ∨ (own_pick x2) = (58 : Int32))))])) t → Steps p.tables e below (T401.setTop (mkF m 104 #[.val (.int x1), .val (.int x2), .val (.int x3), .val (.int x4), .val (.int (x4 &&& (3 : Int32))), .val (.int (own_pick x1)), .val (.int (own_pick x2)), .val (.int (own_pick x3)), .val (.ref b391), .val (.ref b398), .unset, .unset, .unset, .unset] [])) t := by
              intro t kt
              refine pre406 t ?_
              show Steps p.tables e below (T405.setTop (mkF m 115 #[.val (.int x1), .val (.int x2), .val (.int x3), .val (.int x4), .val (.int (x4 &&& (3 : Int32))), .val (.int (own_pick x1)), .val (.int (own_pick x2)), .val (.int (own_pick x3)), .val (.ref b391), .val (.ref b398), .unset, .unset, .unset, .unset] [(.int (own_b ((own_pick x1) = (47 : Int32) ∨ (own_pick x1) = (92 : Int32) ∨ (own_pick x1) = (58 : Int32))))])) _
              refine XS.ifNo X405.here hx rfl (hb hby at_115) rfl ((if0 _ _).trans (teq hc115).2) ?_
              refine XS.iload X405.here hx rfl (hb hby at_118) rfl ?_
              refine XS.iconst X405.here hx rfl (hb hby at_120) ?_
              refine XS.icmpNo X405.here hx rfl (hb hby at_121) rfl (flt (by rw [hn3]; try decide : ¬ ((x4 &&& (3 : Int32)) < (2 : Int32)))).1 ?_
              refine XS.iload X405.here hx rfl (hb hby at_124) rfl ?_
              show Steps p.tables e below (T405.setTop (mkF m 126 #[.val (.int x1), .val (.int x2), .val (.int x3), .val (.int x4), .val (.int (x4 &&& (3 : Int32))), .val (.int (own_pick x1)), .val (.int (own_pick x2)), .val (.int (own_pick x3)), .val (.ref b391), .val (.ref b398), .unset, .unset, .unset, .unset] [(.int (own_pick x2))])) _
              refine st408 _ ?_
              exact kt
            by_cases hc129 : (own_b ((own_pick x2) = (47 : Int32) ∨ (own_pick x2) = (92 : Int32) ∨ (own_pick x2) = (58 : Int32))) = (0 : Int32)
            · skip
              have hq410 : ¬ ((own_pick x2) = (47 : Int32) ∨ (own_pick x2) = (92 : Int32) ∨ (own_pick x2) = (58 : Int32)) := own_b_not hc129
              obtain ⟨_, _, ⟨T411, L411, k411, n411⟩, -, X411, ⟨Lc411, hQ411, l411, y411, z411⟩, st411⟩ := Jvm.LawKit.callS X408 hx (y := (⟨"com/example/stock/stock/io/FileNamesIsBarePinLaw", "sep", "(C)Z"⟩ : MethodName)) howna (mvT hZa (own_wd hw 34 rfl)) (mvT hZa (own_wd hw 35 rfl)) (mvT hZa (own_wd hw 2 rfl)) (mvT hZa (own_wd hw 36 rfl)) (by decide) (backOf (W := 0) (rm8 l Z a0 hw [] (own_pick x3) T401.heap n0 Z401 O401) hZa (own_wd hw 36 rfl) (own_wd hw 2 rfl) (by decide) (by decide)) (g := (mkF m 140 #[.val (.int x1), .val (.int x2), .val (.int x3), .val (.int x4), .val (.int (x4 &&& (3 : Int32))), .val (.int (own_pick x1)), .val (.int (own_pick x2)), .val (.int (own_pick x3)), .val (.ref b391), .val (.ref b398), .unset, .unset, .unset, .unset] [(.int (own_pick x3))])) rfl (by rw [hml]; rfl) (argsL := [(.int (own_pick x3))]) (rest := []) (lenOf pd_12 rfl) rfl (by show 2 * 0 + _ ≤ _; exact Nat.le_of_eq rfl) (hb hby at_140) (fun _ _ => ⟨rfl, eh408, (by decide : 3 + 0 ≤ _), (by decide : 10 + 0 ≤ _)⟩)
              dsimp only [Pt.U, Pt.locs, Pt.cells, Pt.slots] at X411 l411 y411 z411 st411 hQ411
              subst l411 y411 z411
              obtain ⟨rfl, N411q, eh411⟩ := hQ411
              have N411 := Fr.app N408 N411q
              have pre412 : ∀ t, Steps p.tables e below (T411.setTop (mkF m 143 #[.val (.int x1), .val (.int x2), .val (.int x3), .val (.int x4), .val (.int (x4 &&& (3 : Int32))), .val (.int (own_pick x1)), .val (.int (own_pick x2)), .val (.int (own_pick x3)), .val (.ref b391), .val (.ref b398), .unset, .unset, .unset, .unset] [(.int (own_b ((own_pick x3) = (47 : Int32) ∨ (own_pick x3) = (92 : Int32) ∨ (own_pick x3) = (58 : Int32))))])) t → Steps p.tables e below (T401.setTop (mkF m 104 #[.val (.int x1), .val (.int x2), .val (.int x3), .val (.int x4), .val (.int (x4 &&& (3 : Int32))), .val (.int (own_pick x1)), .val (.int (own_pick x2)), .val (.int (own_pick x3)), .val (.ref b391), .val (.ref b398), .unset, .unset, .unset, .unset] [])) t := by
                intro t kt
                refine pre409 t ?_
                show Steps p.tables e below (T408.setTop (mkF m 129 #[.val (.int x1), .val (.int x2), .val (.int x3), .val (.int x4), .val (.int (x4 &&& (3 : Int32))), .val (.int (own_pick x1)), .val (.int (own_pick x2)), .val (.int (own_pick x3)), .val (.ref b391), .val (.ref b398), .unset, .unset, .unset, .unset] [(.int (own_b ((own_pick x2) = (47 : Int32) ∨ (own_pick x2) = (92 : Int32) ∨ (own_pick x2) = (58 : Int32))))])) _
                refine XS.ifNo X408.here hx rfl (hb hby at_129) rfl ((if0 _ _).trans (teq hc129).2) ?_
                refine XS.iload X408.here hx rfl (hb hby at_132) rfl ?_
                refine XS.iconst X408.here hx rfl (hb hby at_134) ?_
                refine XS.icmpNo X408.here hx rfl (hb hby at_135) rfl (flt (by rw [hn3]; try decide : ¬ ((x4 &&& (3 : Int32)) < (3 : Int32)))).1 ?_
                refine XS.iload X408.here hx rfl (hb hby at_138) rfl ?_
                show Steps p.tables e below (T408.setTop (mkF m 140 #[.val (.int x1), .val (.int x2), .val (.int x3), .val (.int x4), .val (.int (x4 &&& (3 : Int32))), .val (.int (own_pick x1)), .val (.int (own_pick x2)), .val (.int (own_pick x3)), .val (.ref b391), .val (.ref b398), .unset, .unset, .unset, .unset] [(.int (own_pick x3))])) _
                refine st411 _ ?_
                exact kt
              by_cases hc143 : (own_b ((own_pick x3) = (47 : Int32) ∨ (own_pick x3) = (92 : Int32) ∨ (own_pick x3) = (58 : Int32))) = (0 : Int32)
              · skip
                have hq413 : ¬ ((own_pick x3) = (47 : Int32) ∨ (own_pick x3) = (92 : Int32) ∨ (own_pick x3) = (58 : Int32)) := own_b_not hc143
                have pre414 : ∀ t, Steps p.tables e below (T411.setTop (mkF m 153 #[.val (.int x1), .val (.int x2), .val (.int x3), .val (.int x4), .val (.int (x4 &&& (3 : Int32))), .val (.int (own_pick x1)), .val (.int (own_pick x2)), .val (.int (own_pick x3)), .val (.ref b391), .val (.ref b398), .val (.int (0 : Int32)), .unset, .unset, .unset] [])) t → Steps p.tables e below (T401.setTop (mkF m 104 #[.val (.int x1), .val (.int x2), .val (.int x3), .val (.int x4), .val (.int (x4 &&& (3 : Int32))), .val (.int (own_pick x1)), .val (.int (own_pick x2)), .val (.int (own_pick x3)), .val (.ref b391), .val (.ref b398), .unset, .unset, .unset, .unset] [])) t := by
                  intro t kt
                  refine pre412 t ?_
                  show Steps p.tables e below (T411.setTop (mkF m 143 #[.val (.int x1), .val (.int x2), .val (.int x3), .val (.int x4), .val (.int (x4 &&& (3 : Int32))), .val (.int (own_pick x1)), .val (.int (own_pick x2)), .val (.int (own_pick x3)), .val (.ref b391), .val (.ref b398), .unset, .unset, .unset, .unset] [(.int (own_b ((own_pick x3) = (47 : Int32) ∨ (own_pick x3) = (92 : Int32) ∨ (own_pick x3) = (58 : Int32))))])) _
                  refine XS.ifYes X411.here hx rfl (pc0 := 143) (pc' := 150) rfl (hb hby at_143) rfl ((if0 _ _).trans (teq hc143).1) (by decide) (by decide) ?_
                  refine XS.iconst X411.here hx rfl (hb hby at_150) ?_
                  refine XS.istore X411.here hx rfl (hb hby at_151) rfl (l' := #[.val (.int x1), .val (.int x2), .val (.int x3), .val (.int x4), .val (.int (x4 &&& (3 : Int32))), .val (.int (own_pick x1)), .val (.int (own_pick x2)), .val (.int (own_pick x3)), .val (.ref b391), .val (.ref b398), .val (.int (0 : Int32)), .unset, .unset, .unset]) rfl ?_
                  exact kt
                exact ⟨(0 : Int32), T411, _, X411, eh411, N411, (by simp only [own_b]; simp [hc25, hq407, hq410, hq413]), pre414⟩
              · skip
                have hq415 : (own_pick x3) = (47 : Int32) ∨ (own_pick x3) = (92 : Int32) ∨ (own_pick x3) = (58 : Int32) := own_b_of hc143
                have pre416 : ∀ t, Steps p.tables e below (T411.setTop (mkF m 153 #[.val (.int x1), .val (.int x2), .val (.int x3), .val (.int x4), .val (.int (x4 &&& (3 : Int32))), .val (.int (own_pick x1)), .val (.int (own_pick x2)), .val (.int (own_pick x3)), .val (.ref b391), .val (.ref b398), .val (.int (1 : Int32)), .unset, .unset, .unset] [])) t → Steps p.tables e below (T401.setTop (mkF m 104 #[.val (.int x1), .val (.int x2), .val (.int x3), .val (.int x4), .val (.int (x4 &&& (3 : Int32))), .val (.int (own_pick x1)), .val (.int (own_pick x2)), .val (.int (own_pick x3)), .val (.ref b391), .val (.ref b398), .unset, .unset, .unset, .unset] [])) t := by
                  intro t kt
                  refine pre412 t ?_
                  show Steps p.tables e below (T411.setTop (mkF m 143 #[.val (.int x1), .val (.int x2), .val (.int x3), .val (.int x4), .val (.int (x4 &&& (3 : Int32))), .val (.int (own_pick x1)), .val (.int (own_pick x2)), .val (.int (own_pick x3)), .val (.ref b391), .val (.ref b398), .unset, .unset, .unset, .unset] [(.int (own_b ((own_pick x3) = (47 : Int32) ∨ (own_pick x3) = (92 : Int32) ∨ (own_pick x3) = (58 : Int32))))])) _
                  refine XS.ifNo X411.here hx rfl (hb hby at_143) rfl ((if0 _ _).trans (feq hc143).1) ?_
                  refine XS.iconst X411.here hx rfl (hb hby at_146) ?_
                  refine XS.goto X411.here hx rfl (pc0 := 147) (pc' := 151) rfl (hb hby at_147) (by decide) (by decide) ?_
                  refine XS.istore X411.here hx rfl (hb hby at_151) rfl (l' := #[.val (.int x1), .val (.int x2), .val (.int x3), .val (.int x4), .val (.int (x4 &&& (3 : Int32))), .val (.int (own_pick x1)), .val (.int (own_pick x2)), .val (.int (own_pick x3)), .val (.ref b391), .val (.ref b398), .val (.int (1 : Int32)), .unset, .unset, .unset]) rfl ?_
                  exact kt
                exact ⟨(1 : Int32), T411, _, X411, eh411, N411, (by simp only [own_b]; simp [hc25, hq407, hq410, hq415]), pre416⟩
            · skip
              have hq417 : (own_pick x2) = (47 : Int32) ∨ (own_pick x2) = (92 : Int32) ∨ (own_pick x2) = (58 : Int32) := own_b_of hc129
              have pre418 : ∀ t, Steps p.tables e below (T408.setTop (mkF m 153 #[.val (.int x1), .val (.int x2), .val (.int x3), .val (.int x4), .val (.int (x4 &&& (3 : Int32))), .val (.int (own_pick x1)), .val (.int (own_pick x2)), .val (.int (own_pick x3)), .val (.ref b391), .val (.ref b398), .val (.int (1 : Int32)), .unset, .unset, .unset] [])) t → Steps p.tables e below (T401.setTop (mkF m 104 #[.val (.int x1), .val (.int x2), .val (.int x3), .val (.int x4), .val (.int (x4 &&& (3 : Int32))), .val (.int (own_pick x1)), .val (.int (own_pick x2)), .val (.int (own_pick x3)), .val (.ref b391), .val (.ref b398), .unset, .unset, .unset, .unset] [])) t := by
                intro t kt
                refine pre409 t ?_
                show Steps p.tables e below (T408.setTop (mkF m 129 #[.val (.int x1), .val (.int x2), .val (.int x3), .val (.int x4), .val (.int (x4 &&& (3 : Int32))), .val (.int (own_pick x1)), .val (.int (own_pick x2)), .val (.int (own_pick x3)), .val (.ref b391), .val (.ref b398), .unset, .unset, .unset, .unset] [(.int (own_b ((own_pick x2) = (47 : Int32) ∨ (own_pick x2) = (92 : Int32) ∨ (own_pick x2) = (58 : Int32))))])) _
                refine XS.ifYes X408.here hx rfl (pc0 := 129) (pc' := 146) rfl (hb hby at_129) rfl ((if0 _ _).trans (feq hc129).2) (by decide) (by decide) ?_
                refine XS.iconst X408.here hx rfl (hb hby at_146) ?_
                refine XS.goto X408.here hx rfl (pc0 := 147) (pc' := 151) rfl (hb hby at_147) (by decide) (by decide) ?_
                refine XS.istore X408.here hx rfl (hb hby at_151) rfl (l' := #[.val (.int x1), .val (.int x2), .val (.int x3), .val (.int x4), .val (.int (x4 &&& (3 : Int32))), .val (.int (own_pick x1)), .val (.int (own_pick x2)), .val (.int (own_pick x3)), .val (.ref b391), .val (.ref b398), .val (.int (1 : Int32)), .unset, .unset, .unset]) rfl ?_
                exact kt
              exact ⟨(1 : Int32), T408, _, X408, eh408, N408, (by simp only [own_b]; simp [hc25, hq407, hq417]), pre418⟩
          · skip
            have hq419 : (own_pick x1) = (47 : Int32) ∨ (own_pick x1) = (92 : Int32) ∨ (own_pick x1) = (58 : Int32) := own_b_of hc115
            have pre420 : ∀ t, Steps p.tables e below (T405.setTop (mkF m 153 #[.val (.int x1), .val (.int x2), .val (.int x3), .val (.int x4), .val (.int (x4 &&& (3 : Int32))), .val (.int (own_pick x1)), .val (.int (own_pick x2)), .val (.int (own_pick x3)), .val (.ref b391), .val (.ref b398), .val (.int (1 : Int32)), .unset, .unset, .unset] [])) t → Steps p.tables e below (T401.setTop (mkF m 104 #[.val (.int x1), .val (.int x2), .val (.int x3), .val (.int x4), .val (.int (x4 &&& (3 : Int32))), .val (.int (own_pick x1)), .val (.int (own_pick x2)), .val (.int (own_pick x3)), .val (.ref b391), .val (.ref b398), .unset, .unset, .unset, .unset] [])) t := by
              intro t kt
              refine pre406 t ?_
              show Steps p.tables e below (T405.setTop (mkF m 115 #[.val (.int x1), .val (.int x2), .val (.int x3), .val (.int x4), .val (.int (x4 &&& (3 : Int32))), .val (.int (own_pick x1)), .val (.int (own_pick x2)), .val (.int (own_pick x3)), .val (.ref b391), .val (.ref b398), .unset, .unset, .unset, .unset] [(.int (own_b ((own_pick x1) = (47 : Int32) ∨ (own_pick x1) = (92 : Int32) ∨ (own_pick x1) = (58 : Int32))))])) _
              refine XS.ifYes X405.here hx rfl (pc0 := 115) (pc' := 146) rfl (hb hby at_115) rfl ((if0 _ _).trans (feq hc115).2) (by decide) (by decide) ?_
              refine XS.iconst X405.here hx rfl (hb hby at_146) ?_
              refine XS.goto X405.here hx rfl (pc0 := 147) (pc' := 151) rfl (hb hby at_147) (by decide) (by decide) ?_
              refine XS.istore X405.here hx rfl (hb hby at_151) rfl (l' := #[.val (.int x1), .val (.int x2), .val (.int x3), .val (.int x4), .val (.int (x4 &&& (3 : Int32))), .val (.int (own_pick x1)), .val (.int (own_pick x2)), .val (.int (own_pick x3)), .val (.ref b391), .val (.ref b398), .val (.int (1 : Int32)), .unset, .unset, .unset]) rfl ?_
              exact kt
            exact ⟨(1 : Int32), T405, _, X405, eh405, N405, (by simp only [own_b]; simp [hc25, hq419]), pre420⟩
        have pre421 : ∀ t, Steps p.tables e below (T404.setTop (mkF m 153 #[.val (.int x1), .val (.int x2), .val (.int x3), .val (.int x4), .val (.int (x4 &&& (3 : Int32))), .val (.int (own_pick x1)), .val (.int (own_pick x2)), .val (.int (own_pick x3)), .val (.ref b391), .val (.ref b398), .val (.int hsx_404), .unset, .unset, .unset] [])) t → Steps p.tables e below (s₁.setTop (entryFrame m #[(.int x1), (.int x2), (.int x3), (.int x4)] maxLocals)) t := by
          intro t kt
          refine pre403 t ?_
          show Steps p.tables e below (T401.setTop (mkF m 104 #[.val (.int x1), .val (.int x2), .val (.int x3), .val (.int x4), .val (.int (x4 &&& (3 : Int32))), .val (.int (own_pick x1)), .val (.int (own_pick x2)), .val (.int (own_pick x3)), .val (.ref b391), .val (.ref b398), .unset, .unset, .unset, .unset] [])) _
          refine k404 _ ?_
          exact kt
        obtain ⟨dt_422, T422, L422, X422, e422, N422, J422_0, k422⟩ : ∃ (dt_422 : Int32) (T422 : State) (L422 : List Loc), Stand p l e room_1 (s.setVm s.vm) m #[(.int x1), (.int x2), (.int x3), (.int x4)] below meth c T422 L422 3 10 ∧ T422.heap = T401.heap ∧ Fr n0 L422 ∧ (dt_422 = own_b (False)) ∧ ∀ t, Steps p.tables e below (T422.setTop (mkF m 173 #[.val (.int x1), .val (.int x2), .val (.int x3), .val (.int x4), .val (.int (x4 &&& (3 : Int32))), .val (.int (own_pick x1)), .val (.int (own_pick x2)), .val (.int (own_pick x3)), .val (.ref b391), .val (.ref b398), .val (.int hsx_404), .val (.int dt_422), .unset, .unset] [])) t → Steps p.tables e below (T404.setTop (mkF m 153 #[.val (.int x1), .val (.int x2), .val (.int x3), .val (.int x4), .val (.int (x4 &&& (3 : Int32))), .val (.int (own_pick x1)), .val (.int (own_pick x2)), .val (.int (own_pick x3)), .val (.ref b391), .val (.ref b398), .val (.int hsx_404), .unset, .unset, .unset] [])) t := by
          have pj422 : ∀ t, Steps p.tables e below (T404.setTop (mkF m 153 #[.val (.int x1), .val (.int x2), .val (.int x3), .val (.int x4), .val (.int (x4 &&& (3 : Int32))), .val (.int (own_pick x1)), .val (.int (own_pick x2)), .val (.int (own_pick x3)), .val (.ref b391), .val (.ref b398), .val (.int hsx_404), .unset, .unset, .unset] [])) t → Steps p.tables e below (T404.setTop (mkF m 153 #[.val (.int x1), .val (.int x2), .val (.int x3), .val (.int x4), .val (.int (x4 &&& (3 : Int32))), .val (.int (own_pick x1)), .val (.int (own_pick x2)), .val (.int (own_pick x3)), .val (.ref b391), .val (.ref b398), .val (.int hsx_404), .unset, .unset, .unset] [])) t := fun _ k => k
          have pre423 : ∀ t, Steps p.tables e below (T404.setTop (mkF m 173 #[.val (.int x1), .val (.int x2), .val (.int x3), .val (.int x4), .val (.int (x4 &&& (3 : Int32))), .val (.int (own_pick x1)), .val (.int (own_pick x2)), .val (.int (own_pick x3)), .val (.ref b391), .val (.ref b398), .val (.int hsx_404), .val (.int (0 : Int32)), .unset, .unset] [])) t → Steps p.tables e below (T404.setTop (mkF m 153 #[.val (.int x1), .val (.int x2), .val (.int x3), .val (.int x4), .val (.int (x4 &&& (3 : Int32))), .val (.int (own_pick x1)), .val (.int (own_pick x2)), .val (.int (own_pick x3)), .val (.ref b391), .val (.ref b398), .val (.int hsx_404), .unset, .unset, .unset] [])) t := by
            intro t kt
            refine pj422 t ?_
            show Steps p.tables e below (T404.setTop (mkF m 153 #[.val (.int x1), .val (.int x2), .val (.int x3), .val (.int x4), .val (.int (x4 &&& (3 : Int32))), .val (.int (own_pick x1)), .val (.int (own_pick x2)), .val (.int (own_pick x3)), .val (.ref b391), .val (.ref b398), .val (.int hsx_404), .unset, .unset, .unset] [])) _
            refine XS.iload X404.here hx rfl (hb hby at_153) rfl ?_
            refine XS.iconst X404.here hx rfl (hb hby at_155) ?_
            refine XS.icmpYes X404.here hx rfl (pc0 := 156) (pc' := 170) rfl (hb hby at_156) rfl (feq (by rw [hn3]; try decide : ¬ ((x4 &&& (3 : Int32)) = (1 : Int32)))).2 (by decide) (by decide) ?_
            refine XS.iconst X404.here hx rfl (hb hby at_170) ?_
            refine XS.istore X404.here hx rfl (hb hby at_171) rfl (l' := #[.val (.int x1), .val (.int x2), .val (.int x3), .val (.int x4), .val (.int (x4 &&& (3 : Int32))), .val (.int (own_pick x1)), .val (.int (own_pick x2)), .val (.int (own_pick x3)), .val (.ref b391), .val (.ref b398), .val (.int hsx_404), .val (.int (0 : Int32)), .unset, .unset]) rfl ?_
            exact kt
          exact ⟨(0 : Int32), T404, _, X404, e404, N404, (by simp [own_b]), pre423⟩
        have pre424 : ∀ t, Steps p.tables e below (T422.setTop (mkF m 173 #[.val (.int x1), .val (.int x2), .val (.int x3), .val (.int x4), .val (.int (x4 &&& (3 : Int32))), .val (.int (own_pick x1)), .val (.int (own_pick x2)), .val (.int (own_pick x3)), .val (.ref b391), .val (.ref b398), .val (.int hsx_404), .val (.int dt_422), .unset, .unset] [])) t → Steps p.tables e below (s₁.setTop (entryFrame m #[(.int x1), (.int x2), (.int x3), (.int x4)] maxLocals)) t := by
          intro t kt
          refine pre421 t ?_
          show Steps p.tables e below (T404.setTop (mkF m 153 #[.val (.int x1), .val (.int x2), .val (.int x3), .val (.int x4), .val (.int (x4 &&& (3 : Int32))), .val (.int (own_pick x1)), .val (.int (own_pick x2)), .val (.int (own_pick x3)), .val (.ref b391), .val (.ref b398), .val (.int hsx_404), .unset, .unset, .unset] [])) _
          refine k422 _ ?_
          exact kt
        obtain ⟨dd_425, T425, L425, X425, e425, N425, J425_0, k425⟩ : ∃ (dd_425 : Int32) (T425 : State) (L425 : List Loc), Stand p l e room_1 (s.setVm s.vm) m #[(.int x1), (.int x2), (.int x3), (.int x4)] below meth c T425 L425 3 10 ∧ T425.heap = T401.heap ∧ Fr n0 L425 ∧ (dd_425 = own_b (False)) ∧ ∀ t, Steps p.tables e below (T425.setTop (mkF m 200 #[.val (.int x1), .val (.int x2), .val (.int x3), .val (.int x4), .val (.int (x4 &&& (3 : Int32))), .val (.int (own_pick x1)), .val (.int (own_pick x2)), .val (.int (own_pick x3)), .val (.ref b391), .val (.ref b398), .val (.int hsx_404), .val (.int dt_422), .val (.int dd_425), .unset] [])) t → Steps p.tables e below (T422.setTop (mkF m 173 #[.val (.int x1), .val (.int x2), .val (.int x3), .val (.int x4), .val (.int (x4 &&& (3 : Int32))), .val (.int (own_pick x1)), .val (.int (own_pick x2)), .val (.int (own_pick x3)), .val (.ref b391), .val (.ref b398), .val (.int hsx_404), .val (.int dt_422), .unset, .unset] [])) t := by
          have pj425 : ∀ t, Steps p.tables e below (T422.setTop (mkF m 173 #[.val (.int x1), .val (.int x2), .val (.int x3), .val (.int x4), .val (.int (x4 &&& (3 : Int32))), .val (.int (own_pick x1)), .val (.int (own_pick x2)), .val (.int (own_pick x3)), .val (.ref b391), .val (.ref b398), .val (.int hsx_404), .val (.int dt_422), .unset, .unset] [])) t → Steps p.tables e below (T422.setTop (mkF m 173 #[.val (.int x1), .val (.int x2), .val (.int x3), .val (.int x4), .val (.int (x4 &&& (3 : Int32))), .val (.int (own_pick x1)), .val (.int (own_pick x2)), .val (.int (own_pick x3)), .val (.ref b391), .val (.ref b398), .val (.int hsx_404), .val (.int dt_422), .unset, .unset] [])) t := fun _ k => k
          have pre426 : ∀ t, Steps p.tables e below (T422.setTop (mkF m 200 #[.val (.int x1), .val (.int x2), .val (.int x3), .val (.int x4), .val (.int (x4 &&& (3 : Int32))), .val (.int (own_pick x1)), .val (.int (own_pick x2)), .val (.int (own_pick x3)), .val (.ref b391), .val (.ref b398), .val (.int hsx_404), .val (.int dt_422), .val (.int (0 : Int32)), .unset] [])) t → Steps p.tables e below (T422.setTop (mkF m 173 #[.val (.int x1), .val (.int x2), .val (.int x3), .val (.int x4), .val (.int (x4 &&& (3 : Int32))), .val (.int (own_pick x1)), .val (.int (own_pick x2)), .val (.int (own_pick x3)), .val (.ref b391), .val (.ref b398), .val (.int hsx_404), .val (.int dt_422), .unset, .unset] [])) t := by
            intro t kt
            refine pj425 t ?_
            show Steps p.tables e below (T422.setTop (mkF m 173 #[.val (.int x1), .val (.int x2), .val (.int x3), .val (.int x4), .val (.int (x4 &&& (3 : Int32))), .val (.int (own_pick x1)), .val (.int (own_pick x2)), .val (.int (own_pick x3)), .val (.ref b391), .val (.ref b398), .val (.int hsx_404), .val (.int dt_422), .unset, .unset] [])) _
            refine XS.iload X422.here hx rfl (hb hby at_173) rfl ?_
            refine XS.iconst X422.here hx rfl (hb hby at_175) ?_
            refine XS.icmpYes X422.here hx rfl (pc0 := 176) (pc' := 197) rfl (hb hby at_176) rfl (feq (by rw [hn3]; try decide : ¬ ((x4 &&& (3 : Int32)) = (2 : Int32)))).2 (by decide) (by decide) ?_
            refine XS.iconst X422.here hx rfl (hb hby at_197) ?_
            refine XS.istore X422.here hx rfl (hb hby at_198) rfl (l' := #[.val (.int x1), .val (.int x2), .val (.int x3), .val (.int x4), .val (.int (x4 &&& (3 : Int32))), .val (.int (own_pick x1)), .val (.int (own_pick x2)), .val (.int (own_pick x3)), .val (.ref b391), .val (.ref b398), .val (.int hsx_404), .val (.int dt_422), .val (.int (0 : Int32)), .unset]) rfl ?_
            exact kt
          exact ⟨(0 : Int32), T422, _, X422, e422, N422, (by simp [own_b]), pre426⟩
        have pre427 : ∀ t, Steps p.tables e below (T425.setTop (mkF m 200 #[.val (.int x1), .val (.int x2), .val (.int x3), .val (.int x4), .val (.int (x4 &&& (3 : Int32))), .val (.int (own_pick x1)), .val (.int (own_pick x2)), .val (.int (own_pick x3)), .val (.ref b391), .val (.ref b398), .val (.int hsx_404), .val (.int dt_422), .val (.int dd_425), .unset] [])) t → Steps p.tables e below (s₁.setTop (entryFrame m #[(.int x1), (.int x2), (.int x3), (.int x4)] maxLocals)) t := by
          intro t kt
          refine pre424 t ?_
          show Steps p.tables e below (T422.setTop (mkF m 173 #[.val (.int x1), .val (.int x2), .val (.int x3), .val (.int x4), .val (.int (x4 &&& (3 : Int32))), .val (.int (own_pick x1)), .val (.int (own_pick x2)), .val (.int (own_pick x3)), .val (.ref b391), .val (.ref b398), .val (.int hsx_404), .val (.int dt_422), .unset, .unset] [])) _
          refine k425 _ ?_
          exact kt
        obtain ⟨exq_428, T428, L428, X428, e428, N428, J428_0, k428⟩ : ∃ (exq_428 : Int32) (T428 : State) (L428 : List Loc), Stand p l e room_1 (s.setVm s.vm) m #[(.int x1), (.int x2), (.int x3), (.int x4)] below meth c T428 L428 3 10 ∧ T428.heap = T401.heap ∧ Fr n0 L428 ∧ (exq_428 = own_b (¬ ((x4 &&& (3 : Int32)) = (0 : Int32)) ∧ hsx_404 = (0 : Int32) ∧ dt_422 = (0 : Int32) ∧ dd_425 = (0 : Int32))) ∧ ∀ t, Steps p.tables e below (T428.setTop (mkF m 227 #[.val (.int x1), .val (.int x2), .val (.int x3), .val (.int x4), .val (.int (x4 &&& (3 : Int32))), .val (.int (own_pick x1)), .val (.int (own_pick x2)), .val (.int (own_pick x3)), .val (.ref b391), .val (.ref b398), .val (.int hsx_404), .val (.int dt_422), .val (.int dd_425), .val (.int exq_428)] [])) t → Steps p.tables e below (T425.setTop (mkF m 200 #[.val (.int x1), .val (.int x2), .val (.int x3), .val (.int x4), .val (.int (x4 &&& (3 : Int32))), .val (.int (own_pick x1)), .val (.int (own_pick x2)), .val (.int (own_pick x3)), .val (.ref b391), .val (.ref b398), .val (.int hsx_404), .val (.int dt_422), .val (.int dd_425), .unset] [])) t := by
          have pj428 : ∀ t, Steps p.tables e below (T425.setTop (mkF m 200 #[.val (.int x1), .val (.int x2), .val (.int x3), .val (.int x4), .val (.int (x4 &&& (3 : Int32))), .val (.int (own_pick x1)), .val (.int (own_pick x2)), .val (.int (own_pick x3)), .val (.ref b391), .val (.ref b398), .val (.int hsx_404), .val (.int dt_422), .val (.int dd_425), .unset] [])) t → Steps p.tables e below (T425.setTop (mkF m 200 #[.val (.int x1), .val (.int x2), .val (.int x3), .val (.int x4), .val (.int (x4 &&& (3 : Int32))), .val (.int (own_pick x1)), .val (.int (own_pick x2)), .val (.int (own_pick x3)), .val (.ref b391), .val (.ref b398), .val (.int hsx_404), .val (.int dt_422), .val (.int dd_425), .unset] [])) t := fun _ k => k
          have pre429 : ∀ t, Steps p.tables e below (T425.setTop (mkF m 207 #[.val (.int x1), .val (.int x2), .val (.int x3), .val (.int x4), .val (.int (x4 &&& (3 : Int32))), .val (.int (own_pick x1)), .val (.int (own_pick x2)), .val (.int (own_pick x3)), .val (.ref b391), .val (.ref b398), .val (.int hsx_404), .val (.int dt_422), .val (.int dd_425), .unset] [(.int hsx_404)])) t → Steps p.tables e below (T425.setTop (mkF m 200 #[.val (.int x1), .val (.int x2), .val (.int x3), .val (.int x4), .val (.int (x4 &&& (3 : Int32))), .val (.int (own_pick x1)), .val (.int (own_pick x2)), .val (.int (own_pick x3)), .val (.ref b391), .val (.ref b398), .val (.int hsx_404), .val (.int dt_422), .val (.int dd_425), .unset] [])) t := by
            intro t kt
            refine pj428 t ?_
            show Steps p.tables e below (T425.setTop (mkF m 200 #[.val (.int x1), .val (.int x2), .val (.int x3), .val (.int x4), .val (.int (x4 &&& (3 : Int32))), .val (.int (own_pick x1)), .val (.int (own_pick x2)), .val (.int (own_pick x3)), .val (.ref b391), .val (.ref b398), .val (.int hsx_404), .val (.int dt_422), .val (.int dd_425), .unset] [])) _
            refine XS.iload X425.here hx rfl (hb hby at_200) rfl ?_
            refine XS.ifNo X425.here hx rfl (hb hby at_202) rfl ((if0 _ _).trans (feq (by rw [hn3]; try decide : ¬ ((x4 &&& (3 : Int32)) = (0 : Int32)))).1) ?_
            refine XS.iload X425.here hx rfl (hb hby at_205) rfl ?_
            exact kt
          by_cases hc207 : hsx_404 = (0 : Int32)
          · skip
            have pre430 : ∀ t, Steps p.tables e below (T425.setTop (mkF m 212 #[.val (.int x1), .val (.int x2), .val (.int x3), .val (.int x4), .val (.int (x4 &&& (3 : Int32))), .val (.int (own_pick x1)), .val (.int (own_pick x2)), .val (.int (own_pick x3)), .val (.ref b391), .val (.ref b398), .val (.int hsx_404), .val (.int dt_422), .val (.int dd_425), .unset] [(.int dt_422)])) t → Steps p.tables e below (T425.setTop (mkF m 200 #[.val (.int x1), .val (.int x2), .val (.int x3), .val (.int x4), .val (.int (x4 &&& (3 : Int32))), .val (.int (own_pick x1)), .val (.int (own_pick x2)), .val (.int (own_pick x3)), .val (.ref b391), .val (.ref b398), .val (.int hsx_404), .val (.int dt_422), .val (.int dd_425), .unset] [])) t := by
              intro t kt
              refine pre429 t ?_
              show Steps p.tables e below (T425.setTop (mkF m 207 #[.val (.int x1), .val (.int x2), .val (.int x3), .val (.int x4), .val (.int (x4 &&& (3 : Int32))), .val (.int (own_pick x1)), .val (.int (own_pick x2)), .val (.int (own_pick x3)), .val (.ref b391), .val (.ref b398), .val (.int hsx_404), .val (.int dt_422), .val (.int dd_425), .unset] [(.int hsx_404)])) _
              refine XS.ifNo X425.here hx rfl (hb hby at_207) rfl ((if0 _ _).trans (teq hc207).2) ?_
              refine XS.iload X425.here hx rfl (hb hby at_210) rfl ?_
              exact kt
            by_cases hc212 : dt_422 = (0 : Int32)
            · skip
              have pre431 : ∀ t, Steps p.tables e below (T425.setTop (mkF m 217 #[.val (.int x1), .val (.int x2), .val (.int x3), .val (.int x4), .val (.int (x4 &&& (3 : Int32))), .val (.int (own_pick x1)), .val (.int (own_pick x2)), .val (.int (own_pick x3)), .val (.ref b391), .val (.ref b398), .val (.int hsx_404), .val (.int dt_422), .val (.int dd_425), .unset] [(.int dd_425)])) t → Steps p.tables e below (T425.setTop (mkF m 200 #[.val (.int x1), .val (.int x2), .val (.int x3), .val (.int x4), .val (.int (x4 &&& (3 : Int32))), .val (.int (own_pick x1)), .val (.int (own_pick x2)), .val (.int (own_pick x3)), .val (.ref b391), .val (.ref b398), .val (.int hsx_404), .val (.int dt_422), .val (.int dd_425), .unset] [])) t := by
                intro t kt
                refine pre430 t ?_
                show Steps p.tables e below (T425.setTop (mkF m 212 #[.val (.int x1), .val (.int x2), .val (.int x3), .val (.int x4), .val (.int (x4 &&& (3 : Int32))), .val (.int (own_pick x1)), .val (.int (own_pick x2)), .val (.int (own_pick x3)), .val (.ref b391), .val (.ref b398), .val (.int hsx_404), .val (.int dt_422), .val (.int dd_425), .unset] [(.int dt_422)])) _
                refine XS.ifNo X425.here hx rfl (hb hby at_212) rfl ((if0 _ _).trans (teq hc212).2) ?_
                show Steps p.tables e below (T425.setTop (mkF m 215 #[.val (.int x1), .val (.int x2), .val (.int x3), .val (.int x4), .val (.int (x4 &&& (3 : Int32))), .val (.int (own_pick x1)), .val (.int (own_pick x2)), .val (.int (own_pick x3)), .val (.ref b391), .val (.ref b398), .val (.int hsx_404), .val (.int dt_422), .val (.int dd_425), .unset] [])) _
                refine XS.iload X425.here hx rfl (hb hby at_215) rfl ?_
                exact kt
              by_cases hc217 : dd_425 = (0 : Int32)
              · skip
                have pre432 : ∀ t, Steps p.tables e below (T425.setTop (mkF m 227 #[.val (.int x1), .val (.int x2), .val (.int x3), .val (.int x4), .val (.int (x4 &&& (3 : Int32))), .val (.int (own_pick x1)), .val (.int (own_pick x2)), .val (.int (own_pick x3)), .val (.ref b391), .val (.ref b398), .val (.int hsx_404), .val (.int dt_422), .val (.int dd_425), .val (.int (1 : Int32))] [])) t → Steps p.tables e below (T425.setTop (mkF m 200 #[.val (.int x1), .val (.int x2), .val (.int x3), .val (.int x4), .val (.int (x4 &&& (3 : Int32))), .val (.int (own_pick x1)), .val (.int (own_pick x2)), .val (.int (own_pick x3)), .val (.ref b391), .val (.ref b398), .val (.int hsx_404), .val (.int dt_422), .val (.int dd_425), .unset] [])) t := by
                  intro t kt
                  refine pre431 t ?_
                  show Steps p.tables e below (T425.setTop (mkF m 217 #[.val (.int x1), .val (.int x2), .val (.int x3), .val (.int x4), .val (.int (x4 &&& (3 : Int32))), .val (.int (own_pick x1)), .val (.int (own_pick x2)), .val (.int (own_pick x3)), .val (.ref b391), .val (.ref b398), .val (.int hsx_404), .val (.int dt_422), .val (.int dd_425), .unset] [(.int dd_425)])) _
                  refine XS.ifNo X425.here hx rfl (hb hby at_217) rfl ((if0 _ _).trans (teq hc217).2) ?_
                  refine XS.iconst X425.here hx rfl (hb hby at_220) ?_
                  refine XS.goto X425.here hx rfl (pc0 := 221) (pc' := 225) rfl (hb hby at_221) (by decide) (by decide) ?_
                  refine XS.istore X425.here hx rfl (hb hby at_225) rfl (l' := #[.val (.int x1), .val (.int x2), .val (.int x3), .val (.int x4), .val (.int (x4 &&& (3 : Int32))), .val (.int (own_pick x1)), .val (.int (own_pick x2)), .val (.int (own_pick x3)), .val (.ref b391), .val (.ref b398), .val (.int hsx_404), .val (.int dt_422), .val (.int dd_425), .val (.int (1 : Int32))]) rfl ?_
                  exact kt
                exact ⟨(1 : Int32), T425, _, X425, e425, N425, (by simp only [own_b]; rw [hn3]; simp [hc207, hc212, hc217]), pre432⟩
              · skip
                have pre433 : ∀ t, Steps p.tables e below (T425.setTop (mkF m 227 #[.val (.int x1), .val (.int x2), .val (.int x3), .val (.int x4), .val (.int (x4 &&& (3 : Int32))), .val (.int (own_pick x1)), .val (.int (own_pick x2)), .val (.int (own_pick x3)), .val (.ref b391), .val (.ref b398), .val (.int hsx_404), .val (.int dt_422), .val (.int dd_425), .val (.int (0 : Int32))] [])) t → Steps p.tables e below (T425.setTop (mkF m 200 #[.val (.int x1), .val (.int x2), .val (.int x3), .val (.int x4), .val (.int (x4 &&& (3 : Int32))), .val (.int (own_pick x1)), .val (.int (own_pick x2)), .val (.int (own_pick x3)), .val (.ref b391), .val (.ref b398), .val (.int hsx_404), .val (.int dt_422), .val (.int dd_425), .unset] [])) t := by
                  intro t kt
                  refine pre431 t ?_
                  show Steps p.tables e below (T425.setTop (mkF m 217 #[.val (.int x1), .val (.int x2), .val (.int x3), .val (.int x4), .val (.int (x4 &&& (3 : Int32))), .val (.int (own_pick x1)), .val (.int (own_pick x2)), .val (.int (own_pick x3)), .val (.ref b391), .val (.ref b398), .val (.int hsx_404), .val (.int dt_422), .val (.int dd_425), .unset] [(.int dd_425)])) _
                  refine XS.ifYes X425.here hx rfl (pc0 := 217) (pc' := 224) rfl (hb hby at_217) rfl ((if0 _ _).trans (feq hc217).2) (by decide) (by decide) ?_
                  refine XS.iconst X425.here hx rfl (hb hby at_224) ?_
                  refine XS.istore X425.here hx rfl (hb hby at_225) rfl (l' := #[.val (.int x1), .val (.int x2), .val (.int x3), .val (.int x4), .val (.int (x4 &&& (3 : Int32))), .val (.int (own_pick x1)), .val (.int (own_pick x2)), .val (.int (own_pick x3)), .val (.ref b391), .val (.ref b398), .val (.int hsx_404), .val (.int dt_422), .val (.int dd_425), .val (.int (0 : Int32))]) rfl ?_
                  exact kt
                exact ⟨(0 : Int32), T425, _, X425, e425, N425, (by simp only [own_b]; rw [hn3]; simp [hc207, hc212, hc217]), pre433⟩
            · skip
              have pre434 : ∀ t, Steps p.tables e below (T425.setTop (mkF m 227 #[.val (.int x1), .val (.int x2), .val (.int x3), .val (.int x4), .val (.int (x4 &&& (3 : Int32))), .val (.int (own_pick x1)), .val (.int (own_pick x2)), .val (.int (own_pick x3)), .val (.ref b391), .val (.ref b398), .val (.int hsx_404), .val (.int dt_422), .val (.int dd_425), .val (.int (0 : Int32))] [])) t → Steps p.tables e below (T425.setTop (mkF m 200 #[.val (.int x1), .val (.int x2), .val (.int x3), .val (.int x4), .val (.int (x4 &&& (3 : Int32))), .val (.int (own_pick x1)), .val (.int (own_pick x2)), .val (.int (own_pick x3)), .val (.ref b391), .val (.ref b398), .val (.int hsx_404), .val (.int dt_422), .val (.int dd_425), .unset] [])) t := by
                intro t kt
                refine pre430 t ?_
                show Steps p.tables e below (T425.setTop (mkF m 212 #[.val (.int x1), .val (.int x2), .val (.int x3), .val (.int x4), .val (.int (x4 &&& (3 : Int32))), .val (.int (own_pick x1)), .val (.int (own_pick x2)), .val (.int (own_pick x3)), .val (.ref b391), .val (.ref b398), .val (.int hsx_404), .val (.int dt_422), .val (.int dd_425), .unset] [(.int dt_422)])) _
                refine XS.ifYes X425.here hx rfl (pc0 := 212) (pc' := 224) rfl (hb hby at_212) rfl ((if0 _ _).trans (feq hc212).2) (by decide) (by decide) ?_
                show Steps p.tables e below (T425.setTop (mkF m 224 #[.val (.int x1), .val (.int x2), .val (.int x3), .val (.int x4), .val (.int (x4 &&& (3 : Int32))), .val (.int (own_pick x1)), .val (.int (own_pick x2)), .val (.int (own_pick x3)), .val (.ref b391), .val (.ref b398), .val (.int hsx_404), .val (.int dt_422), .val (.int dd_425), .unset] [])) _
                refine XS.iconst X425.here hx rfl (hb hby at_224) ?_
                refine XS.istore X425.here hx rfl (hb hby at_225) rfl (l' := #[.val (.int x1), .val (.int x2), .val (.int x3), .val (.int x4), .val (.int (x4 &&& (3 : Int32))), .val (.int (own_pick x1)), .val (.int (own_pick x2)), .val (.int (own_pick x3)), .val (.ref b391), .val (.ref b398), .val (.int hsx_404), .val (.int dt_422), .val (.int dd_425), .val (.int (0 : Int32))]) rfl ?_
                exact kt
              exact ⟨(0 : Int32), T425, _, X425, e425, N425, (by simp only [own_b]; rw [hn3]; simp [hc207, hc212]), pre434⟩
          · skip
            have pre435 : ∀ t, Steps p.tables e below (T425.setTop (mkF m 227 #[.val (.int x1), .val (.int x2), .val (.int x3), .val (.int x4), .val (.int (x4 &&& (3 : Int32))), .val (.int (own_pick x1)), .val (.int (own_pick x2)), .val (.int (own_pick x3)), .val (.ref b391), .val (.ref b398), .val (.int hsx_404), .val (.int dt_422), .val (.int dd_425), .val (.int (0 : Int32))] [])) t → Steps p.tables e below (T425.setTop (mkF m 200 #[.val (.int x1), .val (.int x2), .val (.int x3), .val (.int x4), .val (.int (x4 &&& (3 : Int32))), .val (.int (own_pick x1)), .val (.int (own_pick x2)), .val (.int (own_pick x3)), .val (.ref b391), .val (.ref b398), .val (.int hsx_404), .val (.int dt_422), .val (.int dd_425), .unset] [])) t := by
              intro t kt
              refine pre429 t ?_
              show Steps p.tables e below (T425.setTop (mkF m 207 #[.val (.int x1), .val (.int x2), .val (.int x3), .val (.int x4), .val (.int (x4 &&& (3 : Int32))), .val (.int (own_pick x1)), .val (.int (own_pick x2)), .val (.int (own_pick x3)), .val (.ref b391), .val (.ref b398), .val (.int hsx_404), .val (.int dt_422), .val (.int dd_425), .unset] [(.int hsx_404)])) _
              refine XS.ifYes X425.here hx rfl (pc0 := 207) (pc' := 224) rfl (hb hby at_207) rfl ((if0 _ _).trans (feq hc207).2) (by decide) (by decide) ?_
              refine XS.iconst X425.here hx rfl (hb hby at_224) ?_
              refine XS.istore X425.here hx rfl (hb hby at_225) rfl (l' := #[.val (.int x1), .val (.int x2), .val (.int x3), .val (.int x4), .val (.int (x4 &&& (3 : Int32))), .val (.int (own_pick x1)), .val (.int (own_pick x2)), .val (.int (own_pick x3)), .val (.ref b391), .val (.ref b398), .val (.int hsx_404), .val (.int dt_422), .val (.int dd_425), .val (.int (0 : Int32))]) rfl ?_
              exact kt
            exact ⟨(0 : Int32), T425, _, X425, e425, N425, (by simp only [own_b]; rw [hn3]; simp [hc207]), pre435⟩
        obtain ⟨_, _, ⟨T436, L436, k436, n436⟩, -, X436, hS436, hg436, ⟨Lc436, hQ436, l436, y436, z436, R436⟩, st436⟩ := callSS X428 hx (y := (⟨"com/example/stock/stock/io/FileNames", "isBare", "(Ljava/lang/String;)Z"⟩ : MethodName)) howna (mvT hZa (own_wd hw 37 rfl)) (mvT hZa (own_wd hw 38 rfl)) (mvT hZa (own_wd hw 39 rfl)) (mvT hZa (own_wd hw 40 rfl)) (by decide) (backOfSH (s := s) (vm0 := s.vm) (W := 0) (rm9_3 l Z a0 hw [] b398 t401 ((own_pick x1).toUInt32.toUInt16.toUInt32.toInt32) ((own_pick x2).toUInt32.toUInt16.toUInt32.toInt32) ((own_pick x3).toUInt32.toUInt16.toUInt32.toInt32) kb401 st_COMPACT_STRINGS T401.heap n0 Z401 O401 E401 V401 C401 A401 hp400 S_COMPACT_STRINGS hcomp) hZa (own_wd hw 40 rfl) (own_wd hw 39 rfl) (by decide) (by decide) (own_EW hw) CH401) (g := (mkF m 229 #[.val (.int x1), .val (.int x2), .val (.int x3), .val (.int x4), .val (.int (x4 &&& (3 : Int32))), .val (.int (own_pick x1)), .val (.int (own_pick x2)), .val (.int (own_pick x3)), .val (.ref b391), .val (.ref b398), .val (.int hsx_404), .val (.int dt_422), .val (.int dd_425), .val (.int exq_428)] [(.ref b398)])) rfl (by rw [hml]; rfl) (argsL := [(.ref b398)]) (rest := []) (lenOf pd_11 rfl) rfl (by show 2 * 0 + _ ≤ _; exact Nat.le_of_eq rfl) (hb hby at_229) (fun _ _ => ⟨rfl, e428, (by decide : 3 + 10 ≤ _), (by decide : 10 + 44 ≤ _)⟩)
        dsimp only [Pt.U, Pt.locs, Pt.cells, Pt.slots] at X436 l436 y436 z436 st436 hQ436 hS436 hg436 R436
        subst l436 y436 z436
        obtain ⟨X436, hS436, hZ436, hown436⟩ := rebS hS0 (Nat.le_trans (Nat.le_trans (Nat.le_trans (Nat.le_trans (Nat.le_trans (Nat.le_trans hk0 E391.1) (Keep.of_wr W393).1) (Keep.of_wr W395).1) (Keep.of_wr W397).1) E398.1) KK401.1) X436 hS436 (by rw [← e428]; exact hg436) hZa howna
        obtain ⟨rfl, N436q, KK436⟩ := hQ436
        have N436 := Fr.app N428 N436q
        have O436 : Old Z n0 T436.heap := O401.keep KK436 all0
        have Z436 : n0 ≤ T436.heap.size := Nat.le_trans Z401 KK436.1
        have K436 : Keep h0 T436.heap [] := K401.trans KK436 all0
        have CH436 : CHv Z own_EL T436.vm T436.heap := R436.1
        have CR436 : CHr Z own_EL s.vm h0 T436.vm T436.heap := CR401.trans R436
        obtain ⟨fs, hr, hrun, hended, hW, hsame⟩ := X436.leave (v := some (.int (1 : Int32))) (fun h => by rw [Bd.returns] at h; cases h)
        have hend := hS436.ended hW (show _ ≤ T436.heap.size from (Nat.le_refl _)) hsame
        have hcr : CHr Z own_EL s.vm s.heap T436.vm T436.heap := by
          rw [hh]
          exact CR436.trans (CHv.at X436 hZ436 (own_EW hw) CH436)
        refine ⟨_, _, pre427 _ ?_, hrun, hended, _, _, rfl, ?_, hcr, ⟨_, rfl⟩, hend.1, hend.2.1, hend.2.2.mono (by decide) (by decide)⟩
        · show Steps p.tables e below (T425.setTop (mkF m 200 #[.val (.int x1), .val (.int x2), .val (.int x3), .val (.int x4), .val (.int (x4 &&& (3 : Int32))), .val (.int (own_pick x1)), .val (.int (own_pick x2)), .val (.int (own_pick x3)), .val (.ref b391), .val (.ref b398), .val (.int hsx_404), .val (.int dt_422), .val (.int dd_425), .unset] [])) _
          refine k428 _ ?_
          refine XS.aload X428.here hx rfl (hb hby at_227) rfl rfl ?_
          show Steps p.tables e below (T428.setTop (mkF m 229 #[.val (.int x1), .val (.int x2), .val (.int x3), .val (.int x4), .val (.int (x4 &&& (3 : Int32))), .val (.int (own_pick x1)), .val (.int (own_pick x2)), .val (.int (own_pick x3)), .val (.ref b391), .val (.ref b398), .val (.int hsx_404), .val (.int dt_422), .val (.int dd_425), .val (.int exq_428)] [(.ref b398)])) _
          refine st436.trans ?_
          show Steps p.tables e below (T436.setTop (mkF m 232 #[.val (.int x1), .val (.int x2), .val (.int x3), .val (.int x4), .val (.int (x4 &&& (3 : Int32))), .val (.int (own_pick x1)), .val (.int (own_pick x2)), .val (.int (own_pick x3)), .val (.ref b391), .val (.ref b398), .val (.int hsx_404), .val (.int dt_422), .val (.int dd_425), .val (.int exq_428)] [(.int (own_b (¬ (([((own_pick x1).toUInt32.toUInt16.toUInt32.toInt32), ((own_pick x2).toUInt32.toUInt16.toUInt32.toInt32), ((own_pick x3).toUInt32.toUInt16.toUInt32.toInt32)] : List Int32) = []) ∧ ¬ ((47 : Int32) ∈ ([(((own_pick x1).toUInt32.toUInt16.toUInt32.toInt32).toInt8.toInt32), (((own_pick x2).toUInt32.toUInt16.toUInt32.toInt32).toInt8.toInt32), (((own_pick x3).toUInt32.toUInt16.toUInt32.toInt32).toInt8.toInt32)] : List Int32)) ∧ ¬ ((92 : Int32) ∈ ([(((own_pick x1).toUInt32.toUInt16.toUInt32.toInt32).toInt8.toInt32), (((own_pick x2).toUInt32.toUInt16.toUInt32.toInt32).toInt8.toInt32), (((own_pick x3).toUInt32.toUInt16.toUInt32.toInt32).toInt8.toInt32)] : List Int32)) ∧ ¬ ((58 : Int32) ∈ ([(((own_pick x1).toUInt32.toUInt16.toUInt32.toInt32).toInt8.toInt32), (((own_pick x2).toUInt32.toUInt16.toUInt32.toInt32).toInt8.toInt32), (((own_pick x3).toUInt32.toUInt16.toUInt32.toInt32).toInt8.toInt32)] : List Int32)) ∧ ¬ (([((own_pick x1).toUInt32.toUInt16.toUInt32.toInt32), ((own_pick x2).toUInt32.toUInt16.toUInt32.toInt32), ((own_pick x3).toUInt32.toUInt16.toUInt32.toInt32)] : List Int32) = ([(46 : Int32)] : List Int32)) ∧ ¬ (([((own_pick x1).toUInt32.toUInt16.toUInt32.toInt32), ((own_pick x2).toUInt32.toUInt16.toUInt32.toInt32), ((own_pick x3).toUInt32.toUInt16.toUInt32.toInt32)] : List Int32) = ([(46 : Int32), (46 : Int32)] : List Int32)))))])) _
          refine XS.iload X436.here hx rfl (hb hby at_232) rfl ?_
          refine XS.icmpNo X436.here hx rfl (hb hby at_234) rfl (teq (own_fin3 hn3 J428_0 J404_0 J422_0 J425_0 (own_pick_r x1) (own_pick_r x2) (own_pick_r x3))).2 ?_
          refine XS.iconst X436.here hx rfl (hb hby at_237) ?_
          refine XS.goto X436.here hx rfl (pc0 := 238) (pc' := 242) rfl (hb hby at_238) (by decide) (by decide) ?_
          show Steps p.tables e below (T436.setTop (mkF m 242 #[.val (.int x1), .val (.int x2), .val (.int x3), .val (.int x4), .val (.int (x4 &&& (3 : Int32))), .val (.int (own_pick x1)), .val (.int (own_pick x2)), .val (.int (own_pick x3)), .val (.ref b391), .val (.ref b398), .val (.int hsx_404), .val (.int dt_422), .val (.int dd_425), .val (.int exq_428)] [(.int (1 : Int32))])) _
          exact retN X436 hx (t := .boolean) Bd.returns (by simp) (hb hby at_242) hr
        · show Q0 Z x1 x2 x3 x4 st_COMPACT_STRINGS h0 n0 _ T436.heap _
          exact ⟨rfl, N436, K436⟩
set_option maxRecDepth 65536 in
set_option maxHeartbeats 40000000 in
theorem comes_1 {Post : Tables → Env → Array Value → State → Outcome → State → Prop} (hpost : ∀ tb e args s v u, (limb_1_1.after args s (.returned v) u = true ∧ limb_1_2.after args s (.returned v) u = true ∧ True) → ReturnedEndW s (.returned v) u (Jvm.fieldLocs frame_1_writes args s ++ Jvm.arrayLocs frame_1_arrays args s ++ Jvm.staticLocs frame_1_statics s) 32 6272 → Post tb e args s (.returned v) u) :
    ArmFor flags0 classFile x code maxLocals ret World_1 tables_1 room_1 Calls_1 rest_1 Pre_1 Post := by
  intro l hfl _ _ p e ha hc hk s m args below hf hA hF happ hP
  obtain ⟨hcalls, hrest, hpre⟩ := hP
  obtain ⟨-, -, -, hnamed, -, -, -, hat⟩ := (Spec.applies_iff hf).mp happ
  obtain ⟨hg, hn⟩ := and_e (Cond.before_iff.mp (show (Jvm.Cond.and given_1 narrow_1).before args s = true from hpre))
  obtain ⟨gg1, gg2⟩ := and_e hg
  obtain ⟨gg3, gg4⟩ := and_e gg2
  obtain ⟨gg5, gg6⟩ := and_e gg4
  obtain ⟨gg7, gg8⟩ := and_e gg6
  obtain ⟨w0, w1, w2, w3, rfl⟩ : ∃ w0 w1 w2 w3 : Value, args = #[w0, w1, w2, w3] := by
    have hs : args.size = 4 := by simpa [Cond.value, given_1] using gg1
    obtain ⟨L⟩ := args
    match L, hs with
    | [w0, w1, w2, w3], _ => exact ⟨w0, w1, w2, w3, rfl⟩
  have hw := fun d (hd : d ∈ tables_1) => atoms_spec (ws := Jvm.Cond.code x code maxLocals ret :: tables_1) hat d (List.mem_cons_of_mem _ hd)
  have hfit : Fit s := fun {y c} hc i hi => by
    obtain ⟨ha, rfl⟩ := Array.getElem?_eq_some_iff.mp hc
    have q := List.all_eq_true.mp ((Array.all_eq_true_iff_forall_mem.mp hF) _ (Array.getElem_mem ha)) i (List.mem_range.mpr hi)
    simpa [Array.getElem?_eq_getElem hi] using q
  obtain ⟨hsets, hown0⟩ := atoms_of _ (rest_1_c_eq ▸ (show rest_1_c.before _ s = true from hrest))
  have hr0 := Cond.before_iff.mp hown0
  obtain ⟨i0, ei0⟩ := is_v gg3
  obtain rfl : w0 = (.int i0) := Option.some.inj ei0
  obtain ⟨i1, ei1⟩ := is_v gg5
  obtain rfl : w1 = (.int i1) := Option.some.inj ei1
  obtain ⟨i2, ei2⟩ := is_v gg7
  obtain rfl : w2 = (.int i2) := Option.some.inj ei2
  obtain ⟨i3, ei3⟩ := is_v gg8
  obtain rfl : w3 = (.int i3) := Option.some.inj ei3
  obtain ⟨st_COMPACT_STRINGS, ev_comp⟩ := is_v (Cond.before_iff.mp (hsets _ (List.mem_of_getElem? (i := 1) rfl)))
  have S_COMPACT_STRINGS : Sta s s.heap "java/lang/String" "COMPACT_STRINGS" "Z" (.int st_COMPACT_STRINGS) := Sta.start ev_comp (Or.inl (hsets _ (List.mem_of_getElem? (i := 0) rfl)))
  have hcomp : ¬ (st_COMPACT_STRINGS = (0 : Int32)) := gotF (Cond.eq_ints ev_comp (Term.int_eval 0)) (not_v (Cond.before_iff.mp (hsets _ (List.mem_of_getElem? (i := 2) rfl))))
  have hch : CHv s own_EL s.vm s.heap := CHv.start (own_EW hw) (fun p hp => hcalls.1 p hp) (hsets _ (List.mem_of_getElem? (i := 2) rfl)) (own_wd hw 23 rfl) (own_wd hw 6 rfl)
  obtain ⟨n, o, h1, h2, h3, _, L, rfl, ⟨rfl, N, -⟩, -, hq⟩ := rm0 l s _ hw tables_1 i0 i1 i2 i3 st_COMPACT_STRINGS s.heap s.heap.size (Nat.le_refl _) (Old.start s) S_COMPACT_STRINGS hcomp p e ha hc hk s m _ below hf ((Spec.applies_iff_loose hf).mp happ).1 ⟨rfl, State.Warmed39.refl s, rfl, hch⟩ trivial
  refine ⟨n, _, h1, h2, h3, hpost _ _ _ _ _ _ ⟨Cond.after_iff.mpr rfl, Cond.after_iff.mpr (eq_i res_at (Term.int_eval (1)) rfl), trivial⟩ ⟨hq.1, hq.2.1, hq.2.2.1, (hq.2.2.2.sift fun y hy => Or.inr (N y hy)).mono (by decide) (by decide)⟩⟩
theorem main_1_1 : Claimed_1_1 := comes_1 fun _ _ _ _ _ _ h hF => ⟨h.1, hF⟩
theorem main_1_2 : Claimed_1_2 := comes_1 fun _ _ _ _ _ _ h hF => ⟨h.2.1, hF⟩
end Jvm.Pilot.@@N@@
namespace Jvm.Pilot.@@N@@
open Jvm Jvm.ClassFile Sem Op Lib Jvm.Free Jvm.Stand Jvm.Pilot.@@N@@.Jvm.D
/-! MADE BY PROGRAM (witnessworld.py) out of the Statement's table words and the real class files: 20 classes; the members and pool entries that the words name. The judged class is class 1, her method 3. -/
namespace start1
open Jvm.ClassFile
def u (s : String) : CpInfo := .utf8 (stringToUtf16 s)
/-- a pool by its gaps: so many unusable entries, then the entry; so many at the end -/
def gap : Nat → List CpInfo → List CpInfo
  | 0, r => r
  | n + 1, r => .unusable :: gap n r
def poolList (es : List (Nat × CpInfo)) (last : Nat) : List CpInfo := es.foldr (fun e r => gap e.1 (e.2 :: r)) (gap last [])
def pool (es : List (Nat × CpInfo)) (last : Nat) : Array CpInfo := ⟨poolList es last⟩
def fileOf (pool : Array CpInfo) (this : Nat) (attrs : Array Attribute := #[]) (ms : Array MethodInfo := #[]) (fl : Nat := 33) (sup : Nat := 0) (ifs : Array Nat := #[]) (fds : Array FieldInfo := #[]) : ClassFile where
  minorVersion := 0
  majorVersion := 65
  constantPool := pool
  accessFlags := fl
  thisClass := this
  superClass := sup
  interfaces := ifs
  fields := fds
  methods := ms
  attributes := attrs
def plain (name : String) (sup : Option ClassId) : Class where
  name := name
  kind := .ordinary
  loader := none
  accessFlags := 33
  super := sup
  interfaces := #[]
  cf := none
  fields := #[]
  methods := #[]
  instanceTypes := #[]
  staticTypes := #[]
  resolved := #[]
  callSites := []
  init := .initialized
  statics := none
  mirror := none

def pool0 : Array CpInfo := pool [(5, u "<init>"), (0, u "()V"), (1, .class_ 10), (1, u "java/lang/Object")] 113

def k0c0 : Code := { maxStack := 0, maxLocals := 1, code := object_method_1_code, exceptionTable := #[], attributes := #[] }
def k0m0 : Method := { name := "<init>", desc := "()V", sig := { parameters := [], returnType := none }, accessFlags := 1, code := some k0c0 }
/-- java/lang/Object -/
def k0 : Class := { plain "java/lang/Object" none with
  accessFlags := 33
  interfaces := #[]
  cf := some (fileOf pool0 8 #[] #[{ accessFlags := 1, nameIndex := 5, descriptorIndex := 6, attributes := #[] }] 33 0 #[] #[])
  fields := #[]
  methods := #[k0m0]
  instanceTypes := #[]
  staticTypes := #[]
  resolved := Array.replicate 124 none
  statics := none }

def pool1 : Array CpInfo := pool [(2, .class_ 4), (1, u "java/lang/Object"), (0, u "<init>"), (0, u "()V"), (0, .methodref 8 9), (0, .class_ 10), (0, .nameAndType 11 12), (0, u "com/example/stock/stock/io/FileNamesIsBarePinLaw"), (0, u "pick"), (0, u "(I)C"), (0, .class_ 14), (0, u "java/lang/String"), (0, .methodref 13 16), (0, .nameAndType 5 17), (0, u "([C)V"), (0, .methodref 8 19), (0, .nameAndType 20 21), (0, u "sep"), (0, u "(C)Z"), (0, .methodref 23 24), (0, .class_ 25), (0, .nameAndType 26 27), (0, u "com/example/stock/stock/io/FileNames"), (0, u "isBare"), (0, u "(Ljava/lang/String;)Z"), (3, u "law"), (0, u "(IIII)Z")] 4

def k1m0 : Method := { name := "<init>", desc := "()V", sig := { parameters := [], returnType := none }, accessFlags := 2, code := none }
def k1c1 : Code := { maxStack := 2, maxLocals := 3, code := method_2_code, exceptionTable := #[], attributes := #[] }
def k1m1 : Method := { name := "pick", desc := "(I)C", sig := { parameters := [.int], returnType := some .char }, accessFlags := 10, code := some k1c1 }
def k1c2 : Code := { maxStack := 2, maxLocals := 1, code := method_3_code, exceptionTable := #[], attributes := #[] }
def k1m2 : Method := { name := "sep", desc := "(C)Z", sig := { parameters := [.char], returnType := some .boolean }, accessFlags := 10, code := some k1c2 }
def k1c3 : Code := { maxStack := 4, maxLocals := 14, code := code, exceptionTable := #[], attributes := #[] }
def k1m3 : Method := { name := "law", desc := "(IIII)Z", sig := { parameters := [.int, .int, .int, .int], returnType := some .boolean }, accessFlags := 9, code := some k1c3 }
/-- com/example/stock/stock/io/FileNamesIsBarePinLaw -/
def k1 : Class := { plain "com/example/stock/stock/io/FileNamesIsBarePinLaw" (some 0) with
  accessFlags := 49
  interfaces := #[]
  cf := some (fileOf pool1 8 #[] #[{ accessFlags := 2, nameIndex := 5, descriptorIndex := 6, attributes := #[] }, { accessFlags := 10, nameIndex := 11, descriptorIndex := 12, attributes := #[] }, { accessFlags := 10, nameIndex := 20, descriptorIndex := 21, attributes := #[] }, { accessFlags := 9, nameIndex := 31, descriptorIndex := 32, attributes := #[] }] 49 2 #[] #[])
  fields := #[]
  methods := #[k1m0, k1m1, k1m2, k1m3]
  instanceTypes := #[]
  staticTypes := #[]
  resolved := Array.replicate 37 none
  statics := none }

def pool2 : Array CpInfo := pool [(1, .class_ 2), (0, u "java/io/Serializable"), (0, .class_ 4), (0, u "java/lang/Object")] 2

/-- java/io/Serializable -/
def k2 : Class := { plain "java/io/Serializable" (some 0) with
  accessFlags := 1537
  interfaces := #[]
  cf := some (fileOf pool2 1 #[] #[] 1537 3 #[] #[])
  fields := #[]
  methods := #[]
  instanceTypes := #[]
  staticTypes := #[]
  resolved := Array.replicate 7 none
  statics := none }

def pool3 : Array CpInfo := pool [(1, .class_ 2), (0, u "java/lang/Comparable"), (0, .class_ 4), (0, u "java/lang/Object")] 7

/-- java/lang/Comparable -/
def k3 : Class := { plain "java/lang/Comparable" (some 0) with
  accessFlags := 1537
  interfaces := #[]
  cf := some (fileOf pool3 1 #[] #[] 1537 3 #[] #[])
  fields := #[]
  methods := #[]
  instanceTypes := #[]
  staticTypes := #[]
  resolved := Array.replicate 12 none
  statics := none }

def pool4 : Array CpInfo := pool [(2, .class_ 4), (1, u "java/lang/CharSequence"), (42, .class_ 48), (0, u "java/lang/CharSequence$1CodePointIterator"), (10, .class_ 60), (0, u "java/lang/CharSequence$1CharIterator"), (5, .class_ 67), (0, u "java/lang/Object"), (10, u "toString"), (0, u "()Ljava/lang/String;")] 51

def k4m0 : Method := { name := "toString", desc := "()Ljava/lang/String;", sig := { parameters := [], returnType := some (.object "java/lang/String") }, accessFlags := 1025, code := none }
/-- java/lang/CharSequence -/
def k4 : Class := { plain "java/lang/CharSequence" (some 0) with
  accessFlags := 1537
  interfaces := #[]
  cf := some (fileOf pool4 2 #[.nestMembers #[47, 59]] #[{ accessFlags := 1025, nameIndex := 78, descriptorIndex := 79, attributes := #[] }] 1537 66 #[] #[])
  fields := #[]
  methods := #[k4m0]
  instanceTypes := #[]
  staticTypes := #[]
  resolved := Array.replicate 131 none
  statics := none }

def pool5 : Array CpInfo := pool [(1, .class_ 2), (0, u "java/lang/constant/Constable"), (0, .class_ 4), (0, u "java/lang/Object")] 6

/-- java/lang/constant/Constable -/
def k5 : Class := { plain "java/lang/constant/Constable" (some 0) with
  accessFlags := 1537
  interfaces := #[]
  cf := some (fileOf pool5 1 #[] #[] 1537 3 #[] #[])
  fields := #[]
  methods := #[]
  instanceTypes := #[]
  staticTypes := #[]
  resolved := Array.replicate 11 none
  statics := none }

def pool6 : Array CpInfo := pool [(1, .class_ 2), (0, u "java/lang/constant/ConstantDesc"), (0, .class_ 4), (0, u "java/lang/Object")] 32

/-- java/lang/constant/ConstantDesc -/
def k6 : Class := { plain "java/lang/constant/ConstantDesc" (some 0) with
  accessFlags := 1537
  interfaces := #[]
  cf := some (fileOf pool6 1 #[] #[] 1537 3 #[] #[])
  fields := #[]
  methods := #[]
  instanceTypes := #[]
  staticTypes := #[]
  resolved := Array.replicate 37 none
  statics := none }

def pool7 : Array CpInfo := pool [(1, .methodref 2 3), (0, .class_ 4), (0, .nameAndType 5 6), (0, u "java/lang/Object"), (0, u "<init>"), (0, u "()V"), (0, .string 8), (0, u ""), (0, .fieldref 10 11), (0, .class_ 12), (0, .nameAndType 13 14), (0, u "java/lang/String"), (0, u "value"), (0, u "[B"), (0, .fieldref 10 16), (0, .nameAndType 17 18), (0, u "coder"), (0, u "B"), (2, u "hash"), (0, u "I"), (2, u "hashIsZero"), (0, u "Z"), (0, .methodref 10 28), (0, .nameAndType 5 29), (0, u "([CIILjava/lang/Void;)V"), (8, .fieldref 10 39), (0, .nameAndType 40 26), (0, u "COMPACT_STRINGS"), (1, .class_ 44), (1, u "java/lang/StringUTF16"), (0, u "compress"), (1, .methodref 42 48), (0, .nameAndType 49 50), (0, u "coderFromArrayLen"), (0, u "([BI)B"), (56, .class_ 109), (1, u "java/lang/StringLatin1"), (32, u "()Z"), (34, .methodref 42 178), (0, .nameAndType 45 179), (0, u "([CII)[B"), (155, .methodref 10 336), (0, .nameAndType 17 337), (0, u "()B"), (124, .nameAndType 463 464), (0, u "toString"), (0, u "()Ljava/lang/String;"), (27, .methodref 10 493), (0, .nameAndType 494 142), (0, u "isLatin1"), (46, .methodref 107 542), (0, .nameAndType 543 544), (0, u "equals"), (0, u "([B[B)Z"), (3, u "(Ljava/lang/CharSequence;)Z"), (24, u "(Ljava/lang/Object;)Z"), (1, .class_ 576), (0, u "java/lang/CharSequence"), (12, u "([B[B)I"), (9, u "CASE_INSENSITIVE_ORDER"), (0, u "Ljava/util/Comparator;"), (34, u "indexOf"), (11, .methodref 107 648), (0, .nameAndType 635 589), (43, u "isEmpty"), (17, .interfaceMethodref 575 462), (0, .methodref 10 712), (0, .nameAndType 635 713), (0, u "(Ljava/lang/String;)I"), (296, u "([C)V"), (90, u "serialPersistentFields"), (0, u "[Ljava/io/ObjectStreamField;"), (0, .class_ 1104), (0, u "java/lang/String$CaseInsensitiveComparator"), (1, .class_ 1107), (0, u "java/io/Serializable"), (0, .class_ 1109), (0, u "java/lang/Comparable"), (0, .class_ 1111), (0, u "java/lang/constant/Constable"), (0, .class_ 1113), (0, u "java/lang/constant/ConstantDesc"), (2, u "serialVersionUID"), (0, u "J"), (3, u "REPL"), (0, u "C"), (2, u "LATIN1"), (1, u "UTF16"), (163, u "contains")] 159

def k7m0 : Method := { name := "<init>", desc := "()V", sig := { parameters := [], returnType := none }, accessFlags := 1, code := none }
def k7c1 : Code := { maxStack := 5, maxLocals := 2, code := jdk_42_method_3_code, exceptionTable := #[], attributes := #[] }
def k7m1 : Method := { name := "<init>", desc := "([C)V", sig := { parameters := [(.array .char)], returnType := none }, accessFlags := 1, code := some k7c1 }
def k7c2 : Code := { maxStack := 1, maxLocals := 1, code := jdk_42_method_55_code, exceptionTable := #[], attributes := #[] }
def k7m2 : Method := { name := "isEmpty", desc := "()Z", sig := { parameters := [], returnType := some .boolean }, accessFlags := 1, code := some k7c2 }
def k7c3 : Code := { maxStack := 2, maxLocals := 3, code := jdk_42_method_66_code, exceptionTable := #[], attributes := #[] }
def k7m3 : Method := { name := "equals", desc := "(Ljava/lang/Object;)Z", sig := { parameters := [(.object "java/lang/Object")], returnType := some .boolean }, accessFlags := 1, code := some k7c3 }
def k7c4 : Code := { maxStack := 2, maxLocals := 3, code := jdk_42_method_84_code, exceptionTable := #[], attributes := #[] }
def k7m4 : Method := { name := "indexOf", desc := "(Ljava/lang/String;)I", sig := { parameters := [(.object "java/lang/String")], returnType := some .int }, accessFlags := 1, code := some k7c4 }
def k7c5 : Code := { maxStack := 2, maxLocals := 2, code := jdk_42_method_97_code, exceptionTable := #[], attributes := #[] }
def k7m5 : Method := { name := "contains", desc := "(Ljava/lang/CharSequence;)Z", sig := { parameters := [(.object "java/lang/CharSequence")], returnType := some .boolean }, accessFlags := 1, code := some k7c5 }
def k7c6 : Code := { maxStack := 1, maxLocals := 1, code := jdk_42_method_126_code, exceptionTable := #[], attributes := #[] }
def k7m6 : Method := { name := "toString", desc := "()Ljava/lang/String;", sig := { parameters := [], returnType := some (.object "java/lang/String") }, accessFlags := 1, code := some k7c6 }
def k7c7 : Code := { maxStack := 4, maxLocals := 6, code := jdk_42_method_149_code, exceptionTable := #[], attributes := #[] }
def k7m7 : Method := { name := "<init>", desc := "([CIILjava/lang/Void;)V", sig := { parameters := [(.array .char), .int, .int, (.object "java/lang/Void")], returnType := none }, accessFlags := 2, code := some k7c7 }
def k7c8 : Code := { maxStack := 1, maxLocals := 1, code := jdk_42_method_152_code, exceptionTable := #[], attributes := #[] }
def k7m8 : Method := { name := "coder", desc := "()B", sig := { parameters := [], returnType := some .byte }, accessFlags := 0, code := some k7c8 }
def k7c9 : Code := { maxStack := 1, maxLocals := 1, code := jdk_42_method_154_code, exceptionTable := #[], attributes := #[] }
def k7m9 : Method := { name := "isLatin1", desc := "()Z", sig := { parameters := [], returnType := some .boolean }, accessFlags := 0, code := some k7c9 }
/-- java/lang/String -/
def k7 : Class := { plain "java/lang/String" (some 0) with
  accessFlags := 49
  interfaces := #[2, 3, 4, 5, 6]
  cf := some (fileOf pool7 10 #[.nestMembers #[1103]] #[{ accessFlags := 1, nameIndex := 5, descriptorIndex := 6, attributes := #[] }, { accessFlags := 1, nameIndex := 5, descriptorIndex := 1010, attributes := #[] }, { accessFlags := 1, nameIndex := 692, descriptorIndex := 142, attributes := #[] }, { accessFlags := 1, nameIndex := 543, descriptorIndex := 573, attributes := #[] }, { accessFlags := 1, nameIndex := 635, descriptorIndex := 713, attributes := #[] }, { accessFlags := 1, nameIndex := 1291, descriptorIndex := 548, attributes := #[] }, { accessFlags := 1, nameIndex := 463, descriptorIndex := 464, attributes := #[] }, { accessFlags := 2, nameIndex := 5, descriptorIndex := 29, attributes := #[] }, { accessFlags := 0, nameIndex := 17, descriptorIndex := 337, attributes := #[] }, { accessFlags := 0, nameIndex := 494, descriptorIndex := 142, attributes := #[] }] 49 2 #[1106, 1108, 575, 1110, 1112] #[{ accessFlags := 18, nameIndex := 13, descriptorIndex := 14, attributes := #[] }, { accessFlags := 18, nameIndex := 17, descriptorIndex := 18, attributes := #[] }, { accessFlags := 2, nameIndex := 21, descriptorIndex := 22, attributes := #[] }, { accessFlags := 2, nameIndex := 25, descriptorIndex := 26, attributes := #[] }, { accessFlags := 26, nameIndex := 1116, descriptorIndex := 1117, attributes := #[] }, { accessFlags := 24, nameIndex := 40, descriptorIndex := 26, attributes := #[] }, { accessFlags := 26, nameIndex := 1101, descriptorIndex := 1102, attributes := #[] }, { accessFlags := 26, nameIndex := 1121, descriptorIndex := 1122, attributes := #[] }, { accessFlags := 25, nameIndex := 599, descriptorIndex := 600, attributes := #[] }, { accessFlags := 24, nameIndex := 1125, descriptorIndex := 18, attributes := #[] }, { accessFlags := 24, nameIndex := 1127, descriptorIndex := 18, attributes := #[] }])
  fields := #[{ name := "value", type := (.array .byte), accessFlags := 18, slot := 0, constantValue := 0 }, { name := "coder", type := .byte, accessFlags := 18, slot := 1, constantValue := 0 }, { name := "hash", type := .int, accessFlags := 2, slot := 2, constantValue := 0 }, { name := "hashIsZero", type := .boolean, accessFlags := 2, slot := 3, constantValue := 0 }, { name := "serialVersionUID", type := .long, accessFlags := 26, slot := 0, constantValue := 0 }, { name := "COMPACT_STRINGS", type := .boolean, accessFlags := 24, slot := 1, constantValue := 0 }, { name := "serialPersistentFields", type := (.array (.object "java/io/ObjectStreamField")), accessFlags := 26, slot := 2, constantValue := 0 }, { name := "REPL", type := .char, accessFlags := 26, slot := 3, constantValue := 0 }, { name := "CASE_INSENSITIVE_ORDER", type := (.object "java/util/Comparator"), accessFlags := 25, slot := 4, constantValue := 0 }, { name := "LATIN1", type := .byte, accessFlags := 24, slot := 5, constantValue := 0 }, { name := "UTF16", type := .byte, accessFlags := 24, slot := 6, constantValue := 0 }]
  methods := #[k7m0, k7m1, k7m2, k7m3, k7m4, k7m5, k7m6, k7m7, k7m8, k7m9]
  instanceTypes := #[(.array .byte), .byte, .int, .boolean]
  staticTypes := #[.long, .boolean, (.array (.object "java/io/ObjectStreamField")), .char, (.object "java/util/Comparator"), .byte, .byte]
  resolved := Array.replicate 1451 none
  statics := some 0 }

def pool8 : Array CpInfo := pool [(6, .class_ 8), (1, u "java/lang/Object"), (0, u "<init>"), (0, u "()V"), (1, .class_ 14), (1, u "java/lang/StringUTF16"), (31, u "$assertionsDisabled"), (0, u "Z"), (13, u "HI_BYTE_SHIFT"), (0, u "I"), (2, u "LO_BYTE_SHIFT"), (49, .methodref 12 116), (0, .nameAndType 117 118), (0, u "compress"), (0, u "([CI[BII)I"), (3, u "([CII)[B"), (138, u "coderFromArrayLen"), (0, u "([BI)B"), (106, .class_ 371), (1, u "java/lang/StringUTF16$LinesSpliterator"), (58, u "MAX_LENGTH"), (196, .class_ 628), (0, u "java/lang/StringUTF16$CodePointsSpliterator"), (0, .class_ 630), (0, u "java/lang/StringUTF16$CharsSpliterator")] 4

def k8m0 : Method := { name := "<init>", desc := "()V", sig := { parameters := [], returnType := none }, accessFlags := 0, code := none }
def k8c1 : Code := { maxStack := 2, maxLocals := 2, code := jdk_52_method_15_code, exceptionTable := #[], attributes := #[] }
def k8m1 : Method := { name := "coderFromArrayLen", desc := "([BI)B", sig := { parameters := [(.array .byte), .int], returnType := some .byte }, accessFlags := 8, code := some k8c1 }
def k8c2 : Code := { maxStack := 5, maxLocals := 6, code := jdk_52_method_16_code, exceptionTable := #[], attributes := #[] }
def k8m2 : Method := { name := "compress", desc := "([CII)[B", sig := { parameters := [(.array .char), .int, .int], returnType := some (.array .byte) }, accessFlags := 9, code := some k8c2 }
def k8c3 : Code := { maxStack := 3, maxLocals := 7, code := jdk_52_method_21_code, exceptionTable := #[], attributes := #[] }
def k8m3 : Method := { name := "compress", desc := "([CI[BII)I", sig := { parameters := [(.array .char), .int, (.array .byte), .int, .int], returnType := some .int }, accessFlags := 9, code := some k8c3 }
/-- java/lang/StringUTF16 -/
def k8 : Class := { plain "java/lang/StringUTF16" (some 0) with
  accessFlags := 48
  interfaces := #[]
  cf := some (fileOf pool8 12 #[.nestMembers #[627, 629, 369]] #[{ accessFlags := 0, nameIndex := 9, descriptorIndex := 10, attributes := #[] }, { accessFlags := 8, nameIndex := 261, descriptorIndex := 262, attributes := #[] }, { accessFlags := 9, nameIndex := 117, descriptorIndex := 122, attributes := #[] }, { accessFlags := 9, nameIndex := 117, descriptorIndex := 118, attributes := #[] }] 48 6 #[] #[{ accessFlags := 26, nameIndex := 61, descriptorIndex := 62, attributes := #[] }, { accessFlags := 26, nameIndex := 65, descriptorIndex := 62, attributes := #[] }, { accessFlags := 24, nameIndex := 430, descriptorIndex := 62, attributes := #[] }, { accessFlags := 4120, nameIndex := 46, descriptorIndex := 47, attributes := #[] }])
  fields := #[{ name := "HI_BYTE_SHIFT", type := .int, accessFlags := 26, slot := 0, constantValue := 0 }, { name := "LO_BYTE_SHIFT", type := .int, accessFlags := 26, slot := 1, constantValue := 0 }, { name := "MAX_LENGTH", type := .int, accessFlags := 24, slot := 2, constantValue := 0 }, { name := "$assertionsDisabled", type := .boolean, accessFlags := 4120, slot := 3, constantValue := 0 }]
  methods := #[k8m0, k8m1, k8m2, k8m3]
  instanceTypes := #[]
  staticTypes := #[.int, .int, .int, .boolean]
  resolved := Array.replicate 635 none
  statics := none }

def pool9 : Array CpInfo := pool [(2, .class_ 4), (1, u "java/lang/Object"), (0, u "<init>"), (0, u "()V"), (0, .string 8), (0, u "/"), (0, .methodref 10 11), (0, .class_ 12), (0, .nameAndType 13 14), (0, u "java/lang/String"), (0, u "contains"), (0, u "(Ljava/lang/CharSequence;)Z"), (0, .string 16), (0, u "\\"), (0, .string 18), (0, u ":"), (0, .methodref 10 20), (0, .nameAndType 21 22), (0, u "isEmpty"), (0, u "()Z"), (0, .string 24), (0, u "."), (0, .methodref 10 26), (0, .nameAndType 27 28), (0, u "equals"), (0, u "(Ljava/lang/Object;)Z"), (0, .string 30), (0, u ".."), (0, .class_ 32), (0, u "com/example/stock/stock/io/FileNames"), (2, u "isBare"), (0, u "(Ljava/lang/String;)Z")] 3

def k9m0 : Method := { name := "<init>", desc := "()V", sig := { parameters := [], returnType := none }, accessFlags := 2, code := none }
def k9c1 : Code := { maxStack := 2, maxLocals := 2, code := prog_20_method_2_code, exceptionTable := #[], attributes := #[] }
def k9m1 : Method := { name := "isBare", desc := "(Ljava/lang/String;)Z", sig := { parameters := [(.object "java/lang/String")], returnType := some .boolean }, accessFlags := 8, code := some k9c1 }
/-- com/example/stock/stock/io/FileNames -/
def k9 : Class := { plain "com/example/stock/stock/io/FileNames" (some 0) with
  accessFlags := 48
  interfaces := #[]
  cf := some (fileOf pool9 31 #[] #[{ accessFlags := 2, nameIndex := 5, descriptorIndex := 6, attributes := #[] }, { accessFlags := 8, nameIndex := 35, descriptorIndex := 36, attributes := #[] }] 48 2 #[] #[])
  fields := #[]
  methods := #[k9m0, k9m1]
  instanceTypes := #[]
  staticTypes := #[]
  resolved := Array.replicate 40 none
  statics := none }

def pool10 : Array CpInfo := pool [(4, .class_ 6), (1, u "java/lang/Object"), (0, u "<init>"), (0, u "()V"), (5, .class_ 16), (1, u "java/lang/StringLatin1"), (82, .methodref 14 100), (0, .nameAndType 101 102), (0, u "indexOf"), (0, u "([BI[BII)I"), (18, u "$assertionsDisabled"), (0, u "Z"), (98, .class_ 223), (1, u "java/lang/StringLatin1$LinesSpliterator"), (57, u "equals"), (0, u "([B[B)Z"), (4, u "([B[B)I"), (102, .class_ 391), (0, u "java/lang/StringLatin1$CharsSpliterator")] 3

def k10m0 : Method := { name := "<init>", desc := "()V", sig := { parameters := [], returnType := none }, accessFlags := 0, code := none }
def k10c1 : Code := { maxStack := 3, maxLocals := 3, code := jdk_43_method_13_code, exceptionTable := #[], attributes := #[] }
def k10m1 : Method := { name := "equals", desc := "([B[B)Z", sig := { parameters := [(.array .byte), (.array .byte)], returnType := some .boolean }, accessFlags := 9, code := some k10c1 }
def k10c2 : Code := { maxStack := 5, maxLocals := 2, code := jdk_43_method_24_code, exceptionTable := #[], attributes := #[] }
def k10m2 : Method := { name := "indexOf", desc := "([B[B)I", sig := { parameters := [(.array .byte), (.array .byte)], returnType := some .int }, accessFlags := 9, code := some k10c2 }
def k10c3 : Code := { maxStack := 3, maxLocals := 11, code := jdk_43_method_25_code, exceptionTable := #[], attributes := #[] }
def k10m3 : Method := { name := "indexOf", desc := "([BI[BII)I", sig := { parameters := [(.array .byte), .int, (.array .byte), .int, .int], returnType := some .int }, accessFlags := 9, code := some k10c3 }
/-- java/lang/StringLatin1 -/
def k10 : Class := { plain "java/lang/StringLatin1" (some 0) with
  accessFlags := 48
  interfaces := #[]
  cf := some (fileOf pool10 14 #[.nestMembers #[390, 221]] #[{ accessFlags := 0, nameIndex := 7, descriptorIndex := 8, attributes := #[] }, { accessFlags := 9, nameIndex := 281, descriptorIndex := 282, attributes := #[] }, { accessFlags := 9, nameIndex := 101, descriptorIndex := 287, attributes := #[] }, { accessFlags := 9, nameIndex := 101, descriptorIndex := 102, attributes := #[] }] 48 4 #[] #[{ accessFlags := 4120, nameIndex := 121, descriptorIndex := 122, attributes := #[] }])
  fields := #[{ name := "$assertionsDisabled", type := .boolean, accessFlags := 4120, slot := 0, constantValue := 0 }]
  methods := #[k10m0, k10m1, k10m2, k10m3]
  instanceTypes := #[]
  staticTypes := #[.boolean]
  resolved := Array.replicate 395 none
  statics := none }

def pool11 : Array CpInfo := pool [(2, .class_ 4), (1, u "java/lang/Object"), (0, u "<init>"), (0, u "()V"), (17, .class_ 26), (1, u "jdk/internal/util/Preconditions"), (28, .class_ 56), (0, u "jdk/internal/util/Preconditions$4"), (57, .class_ 115), (0, u "jdk/internal/util/Preconditions$1"), (7, u "SIOOBE_FORMATTER"), (0, u "Ljava/util/function/BiFunction;"), (0, .class_ 126), (0, u "jdk/internal/util/Preconditions$2"), (3, u "AIOOBE_FORMATTER"), (0, .class_ 132), (0, u "jdk/internal/util/Preconditions$3"), (3, u "IOOBE_FORMATTER")] 57

def k11m0 : Method := { name := "<init>", desc := "()V", sig := { parameters := [], returnType := none }, accessFlags := 1, code := none }
/-- jdk/internal/util/Preconditions -/
def k11 : Class := { plain "jdk/internal/util/Preconditions" (some 0) with
  accessFlags := 33
  interfaces := #[]
  cf := some (fileOf pool11 24 #[.nestMembers #[55, 131, 125, 114]] #[{ accessFlags := 1, nameIndex := 5, descriptorIndex := 6, attributes := #[] }] 33 2 #[] #[{ accessFlags := 25, nameIndex := 123, descriptorIndex := 124, attributes := #[] }, { accessFlags := 25, nameIndex := 130, descriptorIndex := 124, attributes := #[] }, { accessFlags := 25, nameIndex := 136, descriptorIndex := 124, attributes := #[] }])
  fields := #[{ name := "SIOOBE_FORMATTER", type := (.object "java/util/function/BiFunction"), accessFlags := 25, slot := 0, constantValue := 0 }, { name := "AIOOBE_FORMATTER", type := (.object "java/util/function/BiFunction"), accessFlags := 25, slot := 1, constantValue := 0 }, { name := "IOOBE_FORMATTER", type := (.object "java/util/function/BiFunction"), accessFlags := 25, slot := 2, constantValue := 0 }]
  methods := #[k11m0]
  instanceTypes := #[]
  staticTypes := #[(.object "java/util/function/BiFunction"), (.object "java/util/function/BiFunction"), (.object "java/util/function/BiFunction")]
  resolved := Array.replicate 194 none
  statics := some 1 }

def pool12 : Array CpInfo := pool [(9, u "<init>"), (6, .class_ 18), (1, u "java/lang/Object"), (0, u "()V"), (1, .class_ 23), (1, u "jdk/internal/util/ArraysSupport"), (0, u "LOG2_ARRAY_LONG_INDEX_SCALE"), (0, u "I"), (2, u "U"), (0, u "Ljdk/internal/misc/Unsafe;"), (8, u "BIG_ENDIAN"), (0, u "Z"), (8, u "LOG2_BYTE_BIT_SIZE"), (4, u "LOG2_ARRAY_INT_INDEX_SCALE"), (54, u "JLA"), (0, u "Ljdk/internal/access/JavaLangAccess;"), (11, u "LOG2_ARRAY_BOOLEAN_INDEX_SCALE"), (9, u "LOG2_ARRAY_BYTE_INDEX_SCALE"), (5, u "LOG2_ARRAY_CHAR_INDEX_SCALE"), (5, u "LOG2_ARRAY_SHORT_INDEX_SCALE"), (18, u "LOG2_ARRAY_FLOAT_INDEX_SCALE"), (24, u "LOG2_ARRAY_DOUBLE_INDEX_SCALE"), (89, u "T_BOOLEAN"), (2, u "T_CHAR"), (1, u "T_FLOAT"), (1, u "T_DOUBLE"), (1, u "T_BYTE"), (1, u "T_SHORT"), (1, u "T_INT"), (1, u "T_LONG"), (1, u "SOFT_MAX_ARRAY_LENGTH")] 83

def k12m0 : Method := { name := "<init>", desc := "()V", sig := { parameters := [], returnType := none }, accessFlags := 2, code := none }
/-- jdk/internal/util/ArraysSupport -/
def k12 : Class := { plain "jdk/internal/util/ArraysSupport" (some 0) with
  accessFlags := 33
  interfaces := #[]
  cf := some (fileOf pool12 21 #[] #[{ accessFlags := 2, nameIndex := 9, descriptorIndex := 19, attributes := #[] }] 33 16 #[] #[{ accessFlags := 24, nameIndex := 28, descriptorIndex := 29, attributes := #[] }, { accessFlags := 26, nameIndex := 38, descriptorIndex := 39, attributes := #[] }, { accessFlags := 25, nameIndex := 121, descriptorIndex := 25, attributes := #[] }, { accessFlags := 25, nameIndex := 131, descriptorIndex := 25, attributes := #[] }, { accessFlags := 25, nameIndex := 137, descriptorIndex := 25, attributes := #[] }, { accessFlags := 25, nameIndex := 143, descriptorIndex := 25, attributes := #[] }, { accessFlags := 25, nameIndex := 53, descriptorIndex := 25, attributes := #[] }, { accessFlags := 25, nameIndex := 24, descriptorIndex := 25, attributes := #[] }, { accessFlags := 25, nameIndex := 162, descriptorIndex := 25, attributes := #[] }, { accessFlags := 25, nameIndex := 187, descriptorIndex := 25, attributes := #[] }, { accessFlags := 26, nameIndex := 48, descriptorIndex := 25, attributes := #[] }, { accessFlags := 25, nameIndex := 277, descriptorIndex := 25, attributes := #[] }, { accessFlags := 25, nameIndex := 280, descriptorIndex := 25, attributes := #[] }, { accessFlags := 25, nameIndex := 282, descriptorIndex := 25, attributes := #[] }, { accessFlags := 25, nameIndex := 284, descriptorIndex := 25, attributes := #[] }, { accessFlags := 25, nameIndex := 286, descriptorIndex := 25, attributes := #[] }, { accessFlags := 25, nameIndex := 288, descriptorIndex := 25, attributes := #[] }, { accessFlags := 25, nameIndex := 290, descriptorIndex := 25, attributes := #[] }, { accessFlags := 25, nameIndex := 292, descriptorIndex := 25, attributes := #[] }, { accessFlags := 26, nameIndex := 108, descriptorIndex := 109, attributes := #[] }, { accessFlags := 25, nameIndex := 294, descriptorIndex := 25, attributes := #[] }])
  fields := #[{ name := "U", type := (.object "jdk/internal/misc/Unsafe"), accessFlags := 24, slot := 0, constantValue := 0 }, { name := "BIG_ENDIAN", type := .boolean, accessFlags := 26, slot := 1, constantValue := 0 }, { name := "LOG2_ARRAY_BOOLEAN_INDEX_SCALE", type := .int, accessFlags := 25, slot := 2, constantValue := 0 }, { name := "LOG2_ARRAY_BYTE_INDEX_SCALE", type := .int, accessFlags := 25, slot := 3, constantValue := 0 }, { name := "LOG2_ARRAY_CHAR_INDEX_SCALE", type := .int, accessFlags := 25, slot := 4, constantValue := 0 }, { name := "LOG2_ARRAY_SHORT_INDEX_SCALE", type := .int, accessFlags := 25, slot := 5, constantValue := 0 }, { name := "LOG2_ARRAY_INT_INDEX_SCALE", type := .int, accessFlags := 25, slot := 6, constantValue := 0 }, { name := "LOG2_ARRAY_LONG_INDEX_SCALE", type := .int, accessFlags := 25, slot := 7, constantValue := 0 }, { name := "LOG2_ARRAY_FLOAT_INDEX_SCALE", type := .int, accessFlags := 25, slot := 8, constantValue := 0 }, { name := "LOG2_ARRAY_DOUBLE_INDEX_SCALE", type := .int, accessFlags := 25, slot := 9, constantValue := 0 }, { name := "LOG2_BYTE_BIT_SIZE", type := .int, accessFlags := 26, slot := 10, constantValue := 0 }, { name := "T_BOOLEAN", type := .int, accessFlags := 25, slot := 11, constantValue := 0 }, { name := "T_CHAR", type := .int, accessFlags := 25, slot := 12, constantValue := 0 }, { name := "T_FLOAT", type := .int, accessFlags := 25, slot := 13, constantValue := 0 }, { name := "T_DOUBLE", type := .int, accessFlags := 25, slot := 14, constantValue := 0 }, { name := "T_BYTE", type := .int, accessFlags := 25, slot := 15, constantValue := 0 }, { name := "T_SHORT", type := .int, accessFlags := 25, slot := 16, constantValue := 0 }, { name := "T_INT", type := .int, accessFlags := 25, slot := 17, constantValue := 0 }, { name := "T_LONG", type := .int, accessFlags := 25, slot := 18, constantValue := 0 }, { name := "JLA", type := (.object "jdk/internal/access/JavaLangAccess"), accessFlags := 26, slot := 19, constantValue := 0 }, { name := "SOFT_MAX_ARRAY_LENGTH", type := .int, accessFlags := 25, slot := 20, constantValue := 0 }]
  methods := #[k12m0]
  instanceTypes := #[]
  staticTypes := #[(.object "jdk/internal/misc/Unsafe"), .boolean, .int, .int, .int, .int, .int, .int, .int, .int, .int, .int, .int, .int, .int, .int, .int, .int, .int, (.object "jdk/internal/access/JavaLangAccess"), .int]
  resolved := Array.replicate 378 none
  statics := none }

def pool13 : Array CpInfo := pool [(1, u "java/lang/Cloneable"), (0, .class_ 1), (0, u "java/lang/Object"), (0, .class_ 3)] 3

/-- java/lang/Cloneable -/
def k13 : Class := { plain "java/lang/Cloneable" (some 0) with
  accessFlags := 1537
  interfaces := #[]
  cf := some (fileOf pool13 2 #[] #[] 1537 4 #[] #[])
  fields := #[]
  methods := #[]
  instanceTypes := #[]
  staticTypes := #[]
  resolved := Array.replicate 8 none
  statics := none }

/-- the primitive byte -/
def k14 : Class := { plain "byte" none with kind := .primitive 'B', accessFlags := 0x411 }
/-- [B -/
def k15 : Class := { plain "[B" (some 0) with kind := .array 14 .byte, interfaces := #[13, 2], accessFlags := 1041 }

/-- the primitive char -/
def k16 : Class := { plain "char" none with kind := .primitive 'C', accessFlags := 0x411 }
/-- [C -/
def k17 : Class := { plain "[C" (some 0) with kind := .array 16 .char, interfaces := #[13, 2], accessFlags := 1041 }

/-- the primitive int -/
def k18 : Class := { plain "int" none with kind := .primitive 'I', accessFlags := 0x411 }
/-- [I -/
def k19 : Class := { plain "[I" (some 0) with kind := .array 18 .int, interfaces := #[13, 2], accessFlags := 1041 }

def heap : Heap := #[{ cls := 7, slots := #[.long 0, .int 1, .null, .int 0, .null, .int 0, .int 0], vm := .statics 7 },
  { cls := 11, slots := #[.null, .null, .null], vm := .statics 11 }]
def classes : Array Class := #[k0, k1, k2, k3, k4, k5, k6, k7, k8, k9, k10, k11, k12, k13, k14, k15, k16, k17, k18, k19]
def interned : List (Array UInt16 × Addr) := []
def slotsUsed : Nat := 10
def theMethod : MethodId := ⟨1, 3⟩
def args0 : Array Value := #[.int 5, .int 5, .int 5, .int 5]
def aboutOver (below : List Frame) : State where
  vm := { classes := classes, interned := interned.toArray }
  heap := heap
  slotsUsed := slotsUsed
  threads := #[{ frames := .invoking theMethod args0 :: below }]
def below0 : List Frame := [.native { method := ⟨0, 0⟩, args := #[] }]
def about1 : State := aboutOver below0
def p0 : Program := .bare "" "" ""
def e0 : Env := launch0.env 0 0 0
theorem w_frames : about1.frames = Frame.invoking theMethod args0 :: below0 := rfl
set_option maxRecDepth 65536 in
theorem w_args : argsFit about1.vm theMethod args0 = true := by decide +kernel
set_option maxRecDepth 65536 in
theorem w_heap : heapFits about1 = true := by decide +kernel
set_option maxRecDepth 65536 in
theorem w_runnable : about1.curStatus? = some .runnable := by decide +kernel
set_option maxRecDepth 65536 in
theorem w_alone : about1.alone = true := by decide +kernel
set_option maxRecDepth 65536 in
theorem w_named : about1.methodNamed? x = some theMethod := by decide +kernel
set_option maxRecDepth 65536 in
theorem w_hears : about1.hears theMethod below0 = true := by decide +kernel
set_option maxRecDepth 65536 in
theorem w_ripe : about1.ripe theMethod args0 below0 = true := by decide +kernel
theorem w_running : about1.status = .running := rfl
set_option maxRecDepth 65536 in
theorem w_room : about1.hasRoom e0.platform room_1 = true :=
  launch0.hasRoom_least _ room_1 (by decide +kernel) (by decide +kernel) (by decide +kernel) (by decide +kernel) (by decide +kernel) (by decide +kernel)
theorem allAtoms_all (ts : List Jvm.Cond) (a : Array Jvm.Value) (st : Jvm.State) : (allAtoms ts).before a st = ts.all (fun c => c.before a st) := by
  induction ts with
  | nil => rfl
  | cons c t ih =>
    show (Jvm.Cond.and c (allAtoms t)).before a st = _
    rw [Jvm.Cond.before_and, ih, List.all_cons]
def words1 : List Jvm.Cond := Jvm.Cond.code x code maxLocals ret :: tables_1
/-- a 'code' word, met by the world's own term for the bytes: nothing is compared byte by byte -/
theorem code_word {y : MethodName} {bytes : ByteArray} {mx : Nat} {rt : Option FieldType} {a : Array Value} {s : State} {m : MethodId} {meth : Method} {c : Code} (h1 : s.methodNamed? y = some m) (h2 : s.vm.method? m = some meth) (h3 : meth.code = some c) (h4 : c.code = bytes)
    (h5 : (c.maxLocals == mx && c.exceptionTable.isEmpty && decide (c.maxStack ≤ mostOperands) && decide (meth.sig.returnType = rt) && !meth.locks && decide (parseMethodDescriptor y.desc = some meth.sig)) = true) : (Jvm.Cond.code y bytes mx rt).before a s = true := by
  simp only [Bool.and_eq_true, beq_iff_eq, Bool.not_eq_true', decide_eq_true_eq] at h5
  obtain ⟨⟨⟨⟨⟨g1, g2⟩, g3⟩, g4⟩, g5⟩, g6⟩ := h5
  simp [Cond.before, Cond.holds, Cond.value, h1, h2, h3, h4, g1, g2, g3, g4, g5, g6]
def isCode : Jvm.Cond → Bool
  | .code _ _ _ _ => true
  | _ => false
theorem all_split {L : List Jvm.Cond} {P : Jvm.Cond → Bool} (h1 : L.all (fun c => isCode c || P c) = true) (h2 : ∀ c ∈ L.filter isCode, P c = true) : L.all P = true := by
  refine List.all_eq_true.mpr fun c hc => ?_
  have h := List.all_eq_true.mp h1 c hc
  rcases Bool.eq_false_or_eq_true (isCode c) with hi | hi
  · exact h2 c (List.mem_filter.mpr ⟨hc, hi⟩)
  · simpa [hi] using h
set_option maxRecDepth 65536 in
theorem w_c0 : (Jvm.Cond.code x code maxLocals ret).before args0 about1 = true := code_word (m := ⟨1, 3⟩) (meth := k1m3) (c := k1c3) (by decide +kernel) rfl rfl rfl (by decide +kernel)
set_option maxRecDepth 65536 in
theorem w_c1 : (Jvm.Cond.code ({ cls := "com/example/stock/stock/io/FileNamesIsBarePinLaw", name := "pick", desc := "(I)C" } : Jvm.MethodName) method_2_code (3 : Nat) (Option.some Jvm.ClassFile.FieldType.char)).before args0 about1 = true := code_word (m := ⟨1, 1⟩) (meth := k1m1) (c := k1c1) (by decide +kernel) rfl rfl rfl (by decide +kernel)
set_option maxRecDepth 65536 in
theorem w_c2 : (Jvm.Cond.code ({ cls := "java/lang/String", name := "<init>", desc := "([C)V" } : Jvm.MethodName) jdk_42_method_3_code (2 : Nat) (Option.none : Option Jvm.ClassFile.FieldType)).before args0 about1 = true := code_word (m := ⟨7, 1⟩) (meth := k7m1) (c := k7c1) (by decide +kernel) rfl rfl rfl (by decide +kernel)
set_option maxRecDepth 65536 in
theorem w_c3 : (Jvm.Cond.code ({ cls := "java/lang/String", name := "<init>", desc := "([CIILjava/lang/Void;)V" } : Jvm.MethodName) jdk_42_method_149_code (6 : Nat) (Option.none : Option Jvm.ClassFile.FieldType)).before args0 about1 = true := code_word (m := ⟨7, 7⟩) (meth := k7m7) (c := k7c7) (by decide +kernel) rfl rfl rfl (by decide +kernel)
set_option maxRecDepth 65536 in
theorem w_c4 : (Jvm.Cond.code ({ cls := "java/lang/Object", name := "<init>", desc := "()V" } : Jvm.MethodName) object_method_1_code (1 : Nat) (Option.none : Option Jvm.ClassFile.FieldType)).before args0 about1 = true := code_word (m := ⟨0, 0⟩) (meth := k0m0) (c := k0c0) (by decide +kernel) rfl rfl rfl (by decide +kernel)
set_option maxRecDepth 65536 in
theorem w_c5 : (Jvm.Cond.code ({ cls := "java/lang/StringUTF16", name := "compress", desc := "([CII)[B" } : Jvm.MethodName) jdk_52_method_16_code (6 : Nat) (Option.some (Jvm.ClassFile.FieldType.array Jvm.ClassFile.FieldType.byte))).before args0 about1 = true := code_word (m := ⟨8, 2⟩) (meth := k8m2) (c := k8c2) (by decide +kernel) rfl rfl rfl (by decide +kernel)
set_option maxRecDepth 65536 in
theorem w_c6 : (Jvm.Cond.code ({ cls := "java/lang/StringUTF16", name := "compress", desc := "([CI[BII)I" } : Jvm.MethodName) jdk_52_method_21_code (7 : Nat) (Option.some Jvm.ClassFile.FieldType.int)).before args0 about1 = true := code_word (m := ⟨8, 3⟩) (meth := k8m3) (c := k8c3) (by decide +kernel) rfl rfl rfl (by decide +kernel)
set_option maxRecDepth 65536 in
theorem w_c7 : (Jvm.Cond.code ({ cls := "java/lang/StringUTF16", name := "coderFromArrayLen", desc := "([BI)B" } : Jvm.MethodName) jdk_52_method_15_code (2 : Nat) (Option.some Jvm.ClassFile.FieldType.byte)).before args0 about1 = true := code_word (m := ⟨8, 1⟩) (meth := k8m1) (c := k8c1) (by decide +kernel) rfl rfl rfl (by decide +kernel)
set_option maxRecDepth 65536 in
theorem w_c8 : (Jvm.Cond.code ({ cls := "com/example/stock/stock/io/FileNamesIsBarePinLaw", name := "sep", desc := "(C)Z" } : Jvm.MethodName) method_3_code (1 : Nat) (Option.some Jvm.ClassFile.FieldType.boolean)).before args0 about1 = true := code_word (m := ⟨1, 2⟩) (meth := k1m2) (c := k1c2) (by decide +kernel) rfl rfl rfl (by decide +kernel)
set_option maxRecDepth 65536 in
theorem w_c9 : (Jvm.Cond.code ({ cls := "com/example/stock/stock/io/FileNames", name := "isBare", desc := "(Ljava/lang/String;)Z" } : Jvm.MethodName) prog_20_method_2_code (2 : Nat) (Option.some Jvm.ClassFile.FieldType.boolean)).before args0 about1 = true := code_word (m := ⟨9, 1⟩) (meth := k9m1) (c := k9c1) (by decide +kernel) rfl rfl rfl (by decide +kernel)
set_option maxRecDepth 65536 in
theorem w_c10 : (Jvm.Cond.code ({ cls := "java/lang/String", name := "contains", desc := "(Ljava/lang/CharSequence;)Z" } : Jvm.MethodName) jdk_42_method_97_code (2 : Nat) (Option.some Jvm.ClassFile.FieldType.boolean)).before args0 about1 = true := code_word (m := ⟨7, 5⟩) (meth := k7m5) (c := k7c5) (by decide +kernel) rfl rfl rfl (by decide +kernel)
set_option maxRecDepth 65536 in
theorem w_c11 : (Jvm.Cond.code ({ cls := "java/lang/String", name := "toString", desc := "()Ljava/lang/String;" } : Jvm.MethodName) jdk_42_method_126_code (1 : Nat) (Option.some (Jvm.ClassFile.FieldType.object "java/lang/String"))).before args0 about1 = true := code_word (m := ⟨7, 6⟩) (meth := k7m6) (c := k7c6) (by decide +kernel) rfl rfl rfl (by decide +kernel)
set_option maxRecDepth 65536 in
theorem w_c12 : (Jvm.Cond.code ({ cls := "java/lang/String", name := "indexOf", desc := "(Ljava/lang/String;)I" } : Jvm.MethodName) jdk_42_method_84_code (3 : Nat) (Option.some Jvm.ClassFile.FieldType.int)).before args0 about1 = true := code_word (m := ⟨7, 4⟩) (meth := k7m4) (c := k7c4) (by decide +kernel) rfl rfl rfl (by decide +kernel)
set_option maxRecDepth 65536 in
theorem w_c13 : (Jvm.Cond.code ({ cls := "java/lang/String", name := "coder", desc := "()B" } : Jvm.MethodName) jdk_42_method_152_code (1 : Nat) (Option.some Jvm.ClassFile.FieldType.byte)).before args0 about1 = true := code_word (m := ⟨7, 8⟩) (meth := k7m8) (c := k7c8) (by decide +kernel) rfl rfl rfl (by decide +kernel)
set_option maxRecDepth 65536 in
theorem w_c14 : (Jvm.Cond.code ({ cls := "java/lang/String", name := "isLatin1", desc := "()Z" } : Jvm.MethodName) jdk_42_method_154_code (1 : Nat) (Option.some Jvm.ClassFile.FieldType.boolean)).before args0 about1 = true := code_word (m := ⟨7, 9⟩) (meth := k7m9) (c := k7c9) (by decide +kernel) rfl rfl rfl (by decide +kernel)
set_option maxRecDepth 65536 in
theorem w_c15 : (Jvm.Cond.code ({ cls := "java/lang/StringLatin1", name := "indexOf", desc := "([B[B)I" } : Jvm.MethodName) jdk_43_method_24_code (2 : Nat) (Option.some Jvm.ClassFile.FieldType.int)).before args0 about1 = true := code_word (m := ⟨10, 2⟩) (meth := k10m2) (c := k10c2) (by decide +kernel) rfl rfl rfl (by decide +kernel)
set_option maxRecDepth 65536 in
theorem w_c16 : (Jvm.Cond.code ({ cls := "java/lang/StringLatin1", name := "indexOf", desc := "([BI[BII)I" } : Jvm.MethodName) jdk_43_method_25_code (11 : Nat) (Option.some Jvm.ClassFile.FieldType.int)).before args0 about1 = true := code_word (m := ⟨10, 3⟩) (meth := k10m3) (c := k10c3) (by decide +kernel) rfl rfl rfl (by decide +kernel)
set_option maxRecDepth 65536 in
theorem w_c17 : (Jvm.Cond.code ({ cls := "java/lang/String", name := "isEmpty", desc := "()Z" } : Jvm.MethodName) jdk_42_method_55_code (1 : Nat) (Option.some Jvm.ClassFile.FieldType.boolean)).before args0 about1 = true := code_word (m := ⟨7, 2⟩) (meth := k7m2) (c := k7c2) (by decide +kernel) rfl rfl rfl (by decide +kernel)
set_option maxRecDepth 65536 in
theorem w_c18 : (Jvm.Cond.code ({ cls := "java/lang/String", name := "equals", desc := "(Ljava/lang/Object;)Z" } : Jvm.MethodName) jdk_42_method_66_code (3 : Nat) (Option.some Jvm.ClassFile.FieldType.boolean)).before args0 about1 = true := code_word (m := ⟨7, 3⟩) (meth := k7m3) (c := k7c3) (by decide +kernel) rfl rfl rfl (by decide +kernel)
set_option maxRecDepth 65536 in
theorem w_c19 : (Jvm.Cond.code ({ cls := "java/lang/StringLatin1", name := "equals", desc := "([B[B)Z" } : Jvm.MethodName) jdk_43_method_13_code (3 : Nat) (Option.some Jvm.ClassFile.FieldType.boolean)).before args0 about1 = true := code_word (m := ⟨10, 1⟩) (meth := k10m1) (c := k10c1) (by decide +kernel) rfl rfl rfl (by decide +kernel)
def codes1 : List Jvm.Cond := [Jvm.Cond.code x code maxLocals ret, Jvm.Cond.code ({ cls := "com/example/stock/stock/io/FileNamesIsBarePinLaw", name := "pick", desc := "(I)C" } : Jvm.MethodName) method_2_code (3 : Nat) (Option.some Jvm.ClassFile.FieldType.char), Jvm.Cond.code ({ cls := "java/lang/String", name := "<init>", desc := "([C)V" } : Jvm.MethodName) jdk_42_method_3_code (2 : Nat) (Option.none : Option Jvm.ClassFile.FieldType), Jvm.Cond.code ({ cls := "java/lang/String", name := "<init>", desc := "([CIILjava/lang/Void;)V" } : Jvm.MethodName) jdk_42_method_149_code (6 : Nat) (Option.none : Option Jvm.ClassFile.FieldType), Jvm.Cond.code ({ cls := "java/lang/Object", name := "<init>", desc := "()V" } : Jvm.MethodName) object_method_1_code (1 : Nat) (Option.none : Option Jvm.ClassFile.FieldType), Jvm.Cond.code ({ cls := "java/lang/StringUTF16", name := "compress", desc := "([CII)[B" } : Jvm.MethodName) jdk_52_method_16_code (6 : Nat) (Option.some (Jvm.ClassFile.FieldType.array Jvm.ClassFile.FieldType.byte)), Jvm.Cond.code ({ cls := "java/lang/StringUTF16", name := "compress", desc := "([CI[BII)I" } : Jvm.MethodName) jdk_52_method_21_code (7 : Nat) (Option.some Jvm.ClassFile.FieldType.int), Jvm.Cond.code ({ cls := "java/lang/StringUTF16", name := "coderFromArrayLen", desc := "([BI)B" } : Jvm.MethodName) jdk_52_method_15_code (2 : Nat) (Option.some Jvm.ClassFile.FieldType.byte), Jvm.Cond.code ({ cls := "com/example/stock/stock/io/FileNamesIsBarePinLaw", name := "sep", desc := "(C)Z" } : Jvm.MethodName) method_3_code (1 : Nat) (Option.some Jvm.ClassFile.FieldType.boolean), Jvm.Cond.code ({ cls := "com/example/stock/stock/io/FileNames", name := "isBare", desc := "(Ljava/lang/String;)Z" } : Jvm.MethodName) prog_20_method_2_code (2 : Nat) (Option.some Jvm.ClassFile.FieldType.boolean), Jvm.Cond.code ({ cls := "java/lang/String", name := "contains", desc := "(Ljava/lang/CharSequence;)Z" } : Jvm.MethodName) jdk_42_method_97_code (2 : Nat) (Option.some Jvm.ClassFile.FieldType.boolean), Jvm.Cond.code ({ cls := "java/lang/String", name := "toString", desc := "()Ljava/lang/String;" } : Jvm.MethodName) jdk_42_method_126_code (1 : Nat) (Option.some (Jvm.ClassFile.FieldType.object "java/lang/String")), Jvm.Cond.code ({ cls := "java/lang/String", name := "indexOf", desc := "(Ljava/lang/String;)I" } : Jvm.MethodName) jdk_42_method_84_code (3 : Nat) (Option.some Jvm.ClassFile.FieldType.int), Jvm.Cond.code ({ cls := "java/lang/String", name := "coder", desc := "()B" } : Jvm.MethodName) jdk_42_method_152_code (1 : Nat) (Option.some Jvm.ClassFile.FieldType.byte), Jvm.Cond.code ({ cls := "java/lang/String", name := "isLatin1", desc := "()Z" } : Jvm.MethodName) jdk_42_method_154_code (1 : Nat) (Option.some Jvm.ClassFile.FieldType.boolean), Jvm.Cond.code ({ cls := "java/lang/StringLatin1", name := "indexOf", desc := "([B[B)I" } : Jvm.MethodName) jdk_43_method_24_code (2 : Nat) (Option.some Jvm.ClassFile.FieldType.int), Jvm.Cond.code ({ cls := "java/lang/StringLatin1", name := "indexOf", desc := "([BI[BII)I" } : Jvm.MethodName) jdk_43_method_25_code (11 : Nat) (Option.some Jvm.ClassFile.FieldType.int), Jvm.Cond.code ({ cls := "java/lang/String", name := "isEmpty", desc := "()Z" } : Jvm.MethodName) jdk_42_method_55_code (1 : Nat) (Option.some Jvm.ClassFile.FieldType.boolean), Jvm.Cond.code ({ cls := "java/lang/String", name := "equals", desc := "(Ljava/lang/Object;)Z" } : Jvm.MethodName) jdk_42_method_66_code (3 : Nat) (Option.some Jvm.ClassFile.FieldType.boolean), Jvm.Cond.code ({ cls := "java/lang/StringLatin1", name := "equals", desc := "([B[B)Z" } : Jvm.MethodName) jdk_43_method_13_code (3 : Nat) (Option.some Jvm.ClassFile.FieldType.boolean)]
set_option maxRecDepth 65536 in
theorem codes_eq : words1.filter isCode = codes1 := rfl
theorem w_codes : ∀ c ∈ words1.filter isCode, c.before args0 about1 = true := by
  rw [codes_eq]
  intro c hc
  simp only [codes1, List.mem_cons, List.not_mem_nil, or_false] at hc
  rcases hc with rfl | rfl | rfl | rfl | rfl | rfl | rfl | rfl | rfl | rfl | rfl | rfl | rfl | rfl | rfl | rfl | rfl | rfl | rfl | rfl
  · exact w_c0
  · exact w_c1
  · exact w_c2
  · exact w_c3
  · exact w_c4
  · exact w_c5
  · exact w_c6
  · exact w_c7
  · exact w_c8
  · exact w_c9
  · exact w_c10
  · exact w_c11
  · exact w_c12
  · exact w_c13
  · exact w_c14
  · exact w_c15
  · exact w_c16
  · exact w_c17
  · exact w_c18
  · exact w_c19
set_option maxRecDepth 65536 in
theorem w_t1 : (words1.take 24).all (fun c => isCode c || c.before args0 about1) = true := by decide +kernel
set_option maxRecDepth 65536 in
theorem w_t2 : ((words1.drop 24).take 24).all (fun c => isCode c || c.before args0 about1) = true := by decide +kernel
set_option maxRecDepth 65536 in
theorem w_t3 : (((words1.drop 24).drop 24).take 24).all (fun c => isCode c || c.before args0 about1) = true := by decide +kernel
set_option maxRecDepth 65536 in
theorem w_t4 : ((((words1.drop 24).drop 24).drop 24).take 24).all (fun c => isCode c || c.before args0 about1) = true := by decide +kernel
set_option maxRecDepth 65536 in
theorem w_t5 : ((((words1.drop 24).drop 24).drop 24).drop 24).all (fun c => isCode c || c.before args0 about1) = true := by decide +kernel
theorem w_tables : (allAtoms (Jvm.Cond.code x code maxLocals ret :: tables_1)).before args0 about1 = true := by
  rw [allAtoms_all]
  show words1.all (fun c => c.before args0 about1) = true
  refine all_split ?_ w_codes
  rw [← List.take_append_drop 24 words1, List.all_append, w_t1, ← List.take_append_drop 24 (words1.drop 24), List.all_append, w_t2, ← List.take_append_drop 24 ((words1.drop 24).drop 24), List.all_append, w_t3, ← List.take_append_drop 24 (((words1.drop 24).drop 24).drop 24), List.all_append, w_t4, w_t5]
  rfl
set_option maxRecDepth 65536 in
theorem w_rest : rest_1_c.before args0 about1 = true := by decide +kernel
set_option maxRecDepth 65536 in
theorem w_case : (Jvm.Cond.and given_1 narrow_1).before args0 about1 = true := by decide +kernel
set_option maxRecDepth 65536 in
theorem w_consts : constsHeld consts_1 about1 := Jvm.Lit.constsHeldB_iff.mp (by decide +kernel)
theorem w_applies : (headSpec (Jvm.Cond.code x code maxLocals ret :: tables_1) room_1).applies x e0.platform about1 = true :=
  (Spec.applies_iff w_frames).mpr ⟨w_running, w_runnable, w_alone, w_named, w_hears, w_ripe, w_room, w_tables⟩
theorem atStart : AtStart classFile x code maxLocals ret World_1 tables_1 room_1 Calls_1 rest_1 Pre_1 launch0 p0 e0 about1 theMethod args0 below0 :=
  ⟨lists_1, trivial, launch0.admits_env _ _ _, launch0.least_env, fairChoices_fair.cas, fairChoices_fair.clock, w_frames, w_args, w_heap, w_applies, ⟨w_consts, trivial⟩, w_rest, w_case⟩
end start1
theorem witness_1 : WitnessClaimed_1 := ⟨start1.p0, start1.e0, start1.about1, start1.theMethod, start1.args0, start1.below0, start1.atStart⟩
end Jvm.Pilot.@@N@@
