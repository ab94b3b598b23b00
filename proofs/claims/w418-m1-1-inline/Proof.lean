import JvmDerived
import JvmDerived.Pilot.@@N@@Statement
import JvmDerived.Pilot.@@N@@Code
set_option linter.unusedVariables false
set_option linter.unusedSimpArgs false
namespace Jvm.RoadKit
open Sem ClassFile Op Lib Jvm.Stand Jvm.Free Jvm.LawKit
section New
variable {p : Program} {l : Launch} {e : Env} {R : Room} {s : State} {m : MethodId} {args : Array Value} {below : List Frame} {meth : Method} {c : Code} {T : State} {locs : List Loc} {cells slots : Nat}
theorem retI (X : Stand p l e R s m args below meth c T locs cells slots) (hx : p.tables.exec = Jvm.exec) {pc : Nat} {Ls : Array Slot} {z : Int32} {rest : List Value} (hret : meth.sig.returnType = some .int) (hd : decode c.code pc = .ok (.ireturn, 1)) {fs : List Frame}
    (hl : ∀ (f : JFrame) (acts : List Action), f.method = m → f.locked = none → f.entered = [] → (doReturn e (T.setTop f) acts (some (.int z))).1 = T.setFrames fs) : Steps p.tables e below (T.setTop (mkF m pc Ls (.int z :: rest))) (T.setFrames fs) :=
  retOut X hx hret rfl (Or.inl ⟨rfl, Or.inl rfl, z, rfl⟩) hd hl
end New
end Jvm.RoadKit
/- laws to paste: Road.backV, Road.lenW, Road.chN, Road.codOf (cut by pick.py; bodies as the Statement names them) -/
namespace Jvm.Pilot.@@N@@
namespace StrChars
open Jvm Sem ClassFile Op Lib Jvm.Stand Jvm.Free.XT Jvm.Free.ALB Jvm.Free.JM Jvm.Free
open Jvm.Lib.Cold (StaticIs)
/-- a char array whose places are chars -/
def Ch (a : Addr) (A : Cell) (U : State) : Prop := Arr .char a A U ∧ Typed .char A
theorem Ch.mv {a : Addr} {A : Cell} {U U' : State} (h : Ch a A U) (hal : U.vm.Alike U'.vm) (hh : U'.heap = U.heap) : Ch a A U' := ⟨h.1.mv hal hh, h.2⟩
theorem Ch.keep {a : Addr} {A : Cell} {U U' : State} (h : Ch a A U) (hal : U.vm.Alike U'.vm) (hk : U'.heap[a]? = some A) : Ch a A U' := ⟨h.1.keep hal hk, h.2⟩
/-- what place i of a char[]'s cell holds -/
def cv (A : Cell) (i : Nat) : Int32 := match A.slots[i]? with | some (.int x) => x | _ => 0
theorem Ch.get {a : Addr} {A : Cell} {U : State} (h : Ch a A U) {i : Nat} (hi : i < A.slots.size) : A.slots[i]? = some (.int (cv A i)) := by
  have e := Array.getElem?_eq_getElem hi
  have f := h.2 i _ e
  unfold cv; rw [e]
  generalize A.slots[i] = v at f
  cases v <;> simp [fits] at f ⊢
/-- the byte that i2b leaves of a char -/
def lo8 (x : Int32) : Int32 := x.toInt8.toInt32
theorem fits_lo8 (y : Int32) : fits .byte (.int (lo8 y)) = true := by
  have h1 := y.toInt8.le_toInt
  have h2 := y.toInt8.toInt_lt
  simp only [lo8, fits, Bool.and_eq_true, decide_eq_true_eq, Int32.le_iff_toInt_le, Int8.toInt_toInt32, show (-128 : Int32).toInt = -128 from by decide, show (127 : Int32).toInt = 127 from by decide]
  omega
/-- A' is A but that each place j of lo .. hi - 1 holds f j -/
def Laid (A A' : Cell) (lo hi : Nat) (f : Nat → Value) : Prop := A'.cls = A.cls ∧ A'.vm = A.vm ∧ A'.slots.size = A.slots.size ∧ ∀ i, A'.slots[i]? = if lo ≤ i ∧ i < hi then some (f i) else A.slots[i]?
theorem Laid.zero (A : Cell) (lo : Nat) (f : Nat → Value) : Laid A A lo (lo + 0) f := ⟨rfl, rfl, rfl, fun i => by rw [if_neg (by omega)]⟩
theorem Laid.step {A Ak : Cell} {lo k : Nat} {f : Nat → Value} {v : Value} (h : Laid A Ak lo k f) (hlo : lo ≤ k) (hk : k < Ak.slots.size) (hv : v = f k) : Laid A (Ak.setSlot k v) lo (k + 1) f := by
  refine ⟨h.1, h.2.1, by simpa [Cell.setSlot] using h.2.2.1, fun i => ?_⟩
  by_cases e : k = i
  · subst e; rw [Cell.slots_setSlot_self v hk, if_pos (by omega), hv]
  · rw [Cell.slots_setSlot_ne v e, h.2.2.2 i]
    by_cases q : lo ≤ i ∧ i < k
    · rw [if_pos q, if_pos (by omega)]
    · rw [if_neg q, if_neg (by omega)]
def U16 : String := "java/lang/StringUTF16"
namespace Cmp5
def yN : MethodName := ⟨"java/lang/StringUTF16", "compress", "([CI[BII)I"⟩
abbrev yB : ByteArray := jdk_52_method_21_code
theorem d0 : decode yB 0 = .ok (.iconst 0, 1) := by decide +kernel
theorem d1 : decode yB 1 = .ok (.istore 5, 2) := by decide +kernel
theorem d3 : decode yB 3 = .ok (.iload 5, 2) := by decide +kernel
theorem d5 : decode yB 5 = .ok (.iload 4, 2) := by decide +kernel
theorem d7 : decode yB 7 = .ok (.if_icmp (.ge) 37, 3) := by decide +kernel
theorem d10 : decode yB 10 = .ok (.aload_n 0, 1) := by decide +kernel
theorem d11 : decode yB 11 = .ok (.iload_n 1, 1) := by decide +kernel
theorem d12 : decode yB 12 = .ok (.caload, 1) := by decide +kernel
theorem d13 : decode yB 13 = .ok (.istore 6, 2) := by decide +kernel
theorem d15 : decode yB 15 = .ok (.iload 6, 2) := by decide +kernel
theorem d17 : decode yB 17 = .ok (.sipush 255, 3) := by decide +kernel
theorem d20 : decode yB 20 = .ok (.if_icmp (.le) 6, 3) := by decide +kernel
theorem d26 : decode yB 26 = .ok (.aload_n 2, 1) := by decide +kernel
theorem d27 : decode yB 27 = .ok (.iload_n 3, 1) := by decide +kernel
theorem d28 : decode yB 28 = .ok (.iload 6, 2) := by decide +kernel
theorem d30 : decode yB 30 = .ok (.i2b, 1) := by decide +kernel
theorem d31 : decode yB 31 = .ok (.bastore, 1) := by decide +kernel
theorem d32 : decode yB 32 = .ok (.iinc 1 1, 3) := by decide +kernel
theorem d35 : decode yB 35 = .ok (.iinc 3 1, 3) := by decide +kernel
theorem d38 : decode yB 38 = .ok (.iinc 5 1, 3) := by decide +kernel
theorem d41 : decode yB 41 = .ok (.goto (-38), 3) := by decide +kernel
theorem d44 : decode yB 44 = .ok (.iload 4, 2) := by decide +kernel
theorem d46 : decode yB 46 = .ok (.ireturn, 1) := by decide +kernel
def site : List Cond := []
def tab : Cond := tabOf yN yB 7 (some .int) site
def P (b : Addr) (A : Cell) (d : Addr) (B : Cell) (o q len : Nat) (args : Array Value) (s : State) : Prop := args = #[.ref b, .int (Int32.ofNat o), .ref d, .int (Int32.ofNat q), .int (Int32.ofNat len)] ∧ Ch b A s ∧ Arr .byte d B s ∧ b ≠ d ∧ o + len ≤ A.slots.size ∧ q + len ≤ B.slots.size ∧ ∀ i, i < len → ¬ 255 < cv A (o + i)
def E (b : Addr) (A : Cell) (d : Addr) (B : Cell) (o q len : Nat) (r : Option Value) (s u : State) : Prop := r = some (.int (Int32.ofNat len)) ∧ ∃ B', Put d B' s u ∧ Laid B B' q (q + len) (fun j => Value.int (lo8 (cv A (o + (j - q)))))
/-- no char of the range above 255: len; the places written hold each char's low byte -/
theorem law (l : Launch) (b : Addr) (A : Cell) (d : Addr) (B : Cell) (o q len : Nat) : Law l yN 5 5 0 0 yB 7 (some .int) site (P b A d B o q len) (E b A d B o q len) (copyLocs d q len) 0 0 := by
  refine Law.of_walk (plainFor_of_name (by decide +kernel)) (by decide +kernel) (by decide +kernel) (by decide) (fun _ _ h => by rw [h.1]; rfl) (fun _ U U' hal hh h => ⟨h.1, h.2.1.mv hal hh, h.2.2.1.mv hal hh, h.2.2.2⟩) (fun r U U' V V' h1 hal h2 h => ⟨h.1, h.2.elim fun B' q => ⟨B', q.1.mv h1 h2, q.2⟩⟩) ?_
  intro p e s m args below meth c s₁ X0 hexec hbytes hml hret hlk hnm hown hh0 W hP
  obtain ⟨rfl, hA, hB, hne, l1, l2, hp⟩ := hP
  have c1 : Steps p.tables e below (s₁.setTop (entryFrame m #[.ref b, .int (Int32.ofNat o), .ref d, .int (Int32.ofNat q), .int (Int32.ofNat len)] 7)) (s₁.setTop (mkF m 0 #[.val (.ref b), .val (.int (Int32.ofNat o)), .val (.ref d), .val (.int (Int32.ofNat q)), .val (.int (Int32.ofNat len)), .unset, .unset] [])) := entry rfl
  have hA0 := hA.1.mv X0.warmed.alike hh0
  have hB0 := hB.mv X0.warmed.alike hh0
  have a31 := hA.1.2.2.2
  have c2 : Steps p.tables e below (s₁.setTop (entryFrame m #[.ref b, .int (Int32.ofNat o), .ref d, .int (Int32.ofNat q), .int (Int32.ofNat len)] 7)) (s₁.setTop (mkF m 3 #[.val (.ref b), .val (.int (Int32.ofNat o)), .val (.ref d), .val (.int (Int32.ofNat q)), .val (.int (Int32.ofNat len)), .val (.int 0), .unset] [])) := c1.trans (by
    refine iconstV X0.here hexec rfl 0 (hb hbytes d0) (by decide) ?_
    refine XS.istore X0.here hexec rfl (hb hbytes d1) rfl rfl ?_
    exact Steps.refl _)
  have loop : ∀ (r i : Nat), i + r = len → ∀ (z : Slot), (z = .unset ∨ ∃ w, z = .val w ∧ w.category = 1) → ∀ (Tl : State) (Bk : Cell), Stand p l e { frames := 0, locals := 0, cells := 0, slots := 0 } s m #[.ref b, .int (Int32.ofNat o), .ref d, .int (Int32.ofNat q), .int (Int32.ofNat len)] below meth c Tl ([] ++ copyLocs d q i) 0 0 → Put d Bk s₁ Tl → Laid B Bk q (q + i) (fun j => Value.int (lo8 (cv A (o + (j - q))))) →
      Steps p.tables e below (s₁.setTop (entryFrame m #[.ref b, .int (Int32.ofNat o), .ref d, .int (Int32.ofNat q), .int (Int32.ofNat len)] 7)) (Tl.setTop (mkF m 3 #[.val (.ref b), .val (.int (Int32.ofNat (o + i))), .val (.ref d), .val (.int (Int32.ofNat (q + i))), .val (.int (Int32.ofNat len)), .val (.int (Int32.ofNat i)), z] [])) → ∃ (T' : State) (B' : Cell) (z' : Slot), Stand p l e { frames := 0, locals := 0, cells := 0, slots := 0 } s m #[.ref b, .int (Int32.ofNat o), .ref d, .int (Int32.ofNat q), .int (Int32.ofNat len)] below meth c T' ([] ++ copyLocs d q len) 0 0 ∧ Put d B' s₁ T' ∧ Laid B B' q (q + len) (fun j => Value.int (lo8 (cv A (o + (j - q))))) ∧
      Steps p.tables e below (s₁.setTop (entryFrame m #[.ref b, .int (Int32.ofNat o), .ref d, .int (Int32.ofNat q), .int (Int32.ofNat len)] 7)) (T'.setTop (mkF m 3 #[.val (.ref b), .val (.int (Int32.ofNat (o + len))), .val (.ref d), .val (.int (Int32.ofNat (q + len))), .val (.int (Int32.ofNat len)), .val (.int (Int32.ofNat len)), z'] [])) := by
    intro r
    induction r with
    | zero =>
      intro i hi z hz Tl Bk Xl pl fl cl
      have hil : i = len := by omega
      rw [hil] at Xl fl cl
      exact ⟨Tl, Bk, z, Xl, pl, fl, cl⟩
    | succ r ih =>
      intro i hi z hz Tl Bk Xl pl fl cl
      have all := X0.warmed.alike.symm.trans Xl.warmed.alike
      have hAl := hA0.keep all (pl.other hne hA0.1)
      have hBk := hB0.like all pl.1 fl.1 fl.2.1 fl.2.2.1
      have hlt : q + i < Bk.slots.size := by rw [fl.2.2.1]; omega
      have c3 : Steps p.tables e below (s₁.setTop (entryFrame m #[.ref b, .int (Int32.ofNat o), .ref d, .int (Int32.ofNat q), .int (Int32.ofNat len)] 7)) (Tl.setTop (mkF m 12 #[.val (.ref b), .val (.int (Int32.ofNat (o + i))), .val (.ref d), .val (.int (Int32.ofNat (q + i))), .val (.int (Int32.ofNat len)), .val (.int (Int32.ofNat i)), z] [.int (Int32.ofNat (o + i)), .ref b])) := cl.trans (by
        refine XS.iload Xl.here hexec rfl (hb hbytes d3) rfl ?_
        refine XS.iload Xl.here hexec rfl (hb hbytes d5) rfl ?_
        refine XS.icmpNo Xl.here hexec rfl (hb hbytes d7) rfl (ii_ge_f (lt32 (by omega) (by omega))) ?_
        refine XS.aloadN Xl.here hexec rfl (hb hbytes d10) rfl rfl ?_
        refine XS.iloadN Xl.here hexec rfl (hb hbytes d11) rfl ?_
        exact Steps.refl _)
      have c4 : Steps p.tables e below (s₁.setTop (entryFrame m #[.ref b, .int (Int32.ofNat o), .ref d, .int (Int32.ofNat q), .int (Int32.ofNat len)] 7)) (Tl.setTop (mkF m 13 #[.val (.ref b), .val (.int (Int32.ofNat (o + i))), .val (.ref d), .val (.int (Int32.ofNat (q + i))), .val (.int (Int32.ofNat len)), .val (.int (Int32.ofNat i)), z] [.int (cv A (o + i))])) := c3.trans (by
        refine Xl.aget hexec hAl rfl (hA.get (i := o + i) (by omega)) rfl rfl (hb hbytes d12) ?_
        exact Steps.refl _)
      have c5 : Steps p.tables e below (s₁.setTop (entryFrame m #[.ref b, .int (Int32.ofNat o), .ref d, .int (Int32.ofNat q), .int (Int32.ofNat len)] 7)) (Tl.setTop (mkF m 15 #[.val (.ref b), .val (.int (Int32.ofNat (o + i))), .val (.ref d), .val (.int (Int32.ofNat (q + i))), .val (.int (Int32.ofNat len)), .val (.int (Int32.ofNat i)), .val (.int (cv A (o + i)))] [])) := c4.trans (by
        refine XS.istoreS Xl.here hexec rfl (hb hbytes d13) rfl rfl hz ?_
        exact Steps.refl _)
      have c6 : Steps p.tables e below (s₁.setTop (entryFrame m #[.ref b, .int (Int32.ofNat o), .ref d, .int (Int32.ofNat q), .int (Int32.ofNat len)] 7)) (Tl.setTop (mkF m 31 #[.val (.ref b), .val (.int (Int32.ofNat (o + i))), .val (.ref d), .val (.int (Int32.ofNat (q + i))), .val (.int (Int32.ofNat len)), .val (.int (Int32.ofNat i)), .val (.int (cv A (o + i)))] [.int (lo8 (cv A (o + i))), .int (Int32.ofNat (q + i)), .ref d])) := c5.trans (by
        refine XS.iload Xl.here hexec rfl (hb hbytes d15) rfl ?_
        refine sipushV Xl.here hexec rfl 255 (hb hbytes d17) (by decide) ?_
        refine XS.icmpYes Xl.here hexec rfl (pc0 := 20) rfl (hb hbytes d20) rfl (ii_le_t (hp i (by omega))) (by decide) rfl ?_
        refine XS.aloadN Xl.here hexec rfl (hb hbytes d26) rfl rfl ?_
        refine XS.iloadN Xl.here hexec rfl (hb hbytes d27) rfl ?_
        refine XS.iload Xl.here hexec rfl (hb hbytes d28) rfl ?_
        refine i2b Xl.here hexec rfl (hb hbytes d30) rfl ?_
        exact Steps.refl _)
      obtain ⟨T7, X7, p7, st7⟩ := Xl.aput hexec hBk rfl hlt rfl (fits_lo8 (cv A (o + i))) (g := (mkF m 31 #[.val (.ref b), .val (.int (Int32.ofNat (o + i))), .val (.ref d), .val (.int (Int32.ofNat (q + i))), .val (.int (Int32.ofNat len)), .val (.int (Int32.ofNat i)), .val (.int (cv A (o + i)))] [.int (lo8 (cv A (o + i))), .int (Int32.ofNat (q + i)), .ref d])) rfl (rest := []) rfl (hb hbytes d31)
      have c8 : Steps p.tables e below (s₁.setTop (entryFrame m #[.ref b, .int (Int32.ofNat o), .ref d, .int (Int32.ofNat q), .int (Int32.ofNat len)] 7)) (T7.setTop (mkF m 32 #[.val (.ref b), .val (.int (Int32.ofNat (o + i))), .val (.ref d), .val (.int (Int32.ofNat (q + i))), .val (.int (Int32.ofNat len)), .val (.int (Int32.ofNat i)), .val (.int (cv A (o + i)))] [])) := c6.trans (st7 _ (Steps.refl _))
      have c9 : Steps p.tables e below (s₁.setTop (entryFrame m #[.ref b, .int (Int32.ofNat o), .ref d, .int (Int32.ofNat q), .int (Int32.ofNat len)] 7)) (T7.setTop (mkF m 3 #[.val (.ref b), .val (.int (Int32.ofNat (o + i) + 1)), .val (.ref d), .val (.int (Int32.ofNat (q + i) + 1)), .val (.int (Int32.ofNat len)), .val (.int (Int32.ofNat i + 1)), .val (.int (cv A (o + i)))] [])) := c8.trans (by
        refine iincV X7.here hexec rfl 1 (hb hbytes d32) (by decide) rfl rfl ?_
        refine iincV X7.here hexec rfl 1 (hb hbytes d35) (by decide) rfl rfl ?_
        refine iincV X7.here hexec rfl 1 (hb hbytes d38) (by decide) rfl rfl ?_
        refine XS.goto X7.here hexec rfl (pc0 := 41) rfl (hb hbytes d41) (by decide) rfl ?_
        exact Steps.refl _)
      have c10 : Steps p.tables e below (s₁.setTop (entryFrame m #[.ref b, .int (Int32.ofNat o), .ref d, .int (Int32.ofNat q), .int (Int32.ofNat len)] 7)) (T7.setTop (mkF m 3 #[.val (.ref b), .val (.int (Int32.ofNat (o + (i + 1)))), .val (.ref d), .val (.int (Int32.ofNat (q + (i + 1)))), .val (.int (Int32.ofNat len)), .val (.int (Int32.ofNat (i + 1))), .val (.int (cv A (o + i)))] [])) := by
        have := c9
        rw [succ32, succ32, succ32] at this
        exact this
      exact ih (i + 1) (by omega) _ (Or.inr ⟨_, rfl, rfl⟩) T7 _ (by rw [copyLocs_step, ← List.append_assoc]; exact X7) (pl.trans p7) (fl.step (by omega) hlt (by simp)) c10
  obtain ⟨T9, B9, z9, X9, p9, f9, g9⟩ := loop len 0 (by omega) .unset (Or.inl rfl) s₁ B (by simpa [copyLocs] using X0) ⟨hB0.1, fun _ _ => rfl, rfl⟩ (Laid.zero _ _ _) c2
  have c11 : Steps p.tables e below (s₁.setTop (entryFrame m #[.ref b, .int (Int32.ofNat o), .ref d, .int (Int32.ofNat q), .int (Int32.ofNat len)] 7)) (T9.setTop (mkF m 46 #[.val (.ref b), .val (.int (Int32.ofNat (o + len))), .val (.ref d), .val (.int (Int32.ofNat (q + len))), .val (.int (Int32.ofNat len)), .val (.int (Int32.ofNat len)), z9] [.int (Int32.ofNat len)])) := g9.trans (by
    refine XS.iload X9.here hexec rfl (hb hbytes d3) rfl ?_
    refine XS.iload X9.here hexec rfl (hb hbytes d5) rfl ?_
    refine XS.icmpYes X9.here hexec rfl (pc0 := 7) rfl (hb hbytes d7) rfl (ii_ge_t (nlt32 (by omega) (Nat.le_refl _))) (by decide) rfl ?_
    refine XS.iload X9.here hexec rfl (hb hbytes d44) rfl ?_
    exact Steps.refl _)
  exact ⟨T9, some (.int (Int32.ofNat len)), _, _, _, X9, by simp, rfl, rfl, (fun h => by cases h), ⟨rfl, B9, p9.from hh0, f9⟩, fun fs hl => c11.trans (X9.ireturnOut hexec hret rfl (Or.inl rfl) (hb hbytes d46) hl)⟩
end Cmp5
namespace Cmp3
def yN : MethodName := ⟨"java/lang/StringUTF16", "compress", "([CII)[B"⟩
abbrev yB : ByteArray := jdk_52_method_16_code
theorem d0 : decode yB 0 = .ok (.iload_n 2, 1) := by decide +kernel
theorem d1 : decode yB 1 = .ok (.newarray .byte, 2) := by decide +kernel
theorem d3 : decode yB 3 = .ok (.astore_n 3, 1) := by decide +kernel
theorem d4 : decode yB 4 = .ok (.aload_n 0, 1) := by decide +kernel
theorem d5 : decode yB 5 = .ok (.iload_n 1, 1) := by decide +kernel
theorem d6 : decode yB 6 = .ok (.aload_n 3, 1) := by decide +kernel
theorem d7 : decode yB 7 = .ok (.iconst 0, 1) := by decide +kernel
theorem d8 : decode yB 8 = .ok (.iload_n 2, 1) := by decide +kernel
theorem d9 : decode yB 9 = .ok (.invokestatic 115, 3) := by decide +kernel
theorem d12 : decode yB 12 = .ok (.istore 4, 2) := by decide +kernel
theorem d14 : decode yB 14 = .ok (.iload 4, 2) := by decide +kernel
theorem d16 : decode yB 16 = .ok (.iload_n 2, 1) := by decide +kernel
theorem d17 : decode yB 17 = .ok (.if_icmp (.eq) 40, 3) := by decide +kernel
theorem d57 : decode yB 57 = .ok (.aload_n 3, 1) := by decide +kernel
theorem d58 : decode yB 58 = .ok (.areturn, 1) := by decide +kernel
def site : List Cond := [.arrayClass .byte, Cmp5.tab] ++ staticW U16 115 Cmp5.yN
def tab : Cond := tabOf yN yB 6 (some (.array .byte)) site
def P (b : Addr) (A : Cell) (o len : Nat) (args : Array Value) (s : State) : Prop := args = #[.ref b, .int (Int32.ofNat o), .int (Int32.ofNat len)] ∧ Ch b A s ∧ o + len ≤ A.slots.size ∧ len ≤ 536870912 ∧ ∀ i, i < len → ¬ 255 < cv A (o + i)
def E (b : Addr) (A : Cell) (o len : Nat) (r : Option Value) (s u : State) : Prop := NewArr .byte "[B" len (fun j => .int (lo8 (cv A (o + j)))) r s u ∧ u.heap.size = s.heap.size + 1
/-- no char of the range above 255: a new byte[] of their low bytes -/
theorem law (l : Launch) (b : Addr) (A : Cell) (o len : Nat) : Law l yN 3 3 1 18 yB 6 (some (.array .byte)) site (P b A o len) (E b A o len) [] 1 len := by
  refine Law.of_walk (plainFor_of_name (by decide +kernel)) (by decide +kernel) (by decide +kernel) (by decide) (fun _ _ h => by rw [h.1]; rfl) (fun _ U U' hal hh h => ⟨h.1, h.2.1.mv hal hh, h.2.2⟩) (fun r U U' V V' h1 hal h2 h => ⟨NewArr.mv r U U' V V' h1 hal h2 h.1, by rw [h1, h2]; exact h.2⟩) ?_
  intro p e s m args below meth c s₁ X0 hexec hbytes hml hret hlk hnm hown hh0 W hP
  obtain ⟨rfl, hA, l1, l2, hp⟩ := hP
  have a31 := hA.1.2.2.2
  have c1 : Steps p.tables e below (s₁.setTop (entryFrame m #[.ref b, .int (Int32.ofNat o), .int (Int32.ofNat len)] 6)) (s₁.setTop (mkF m 0 #[.val (.ref b), .val (.int (Int32.ofNat o)), .val (.int (Int32.ofNat len)), .unset, .unset, .unset] [])) := entry rfl
  have c2 : Steps p.tables e below (s₁.setTop (entryFrame m #[.ref b, .int (Int32.ofNat o), .int (Int32.ofNat len)] 6)) (s₁.setTop (mkF m 1 #[.val (.ref b), .val (.int (Int32.ofNat o)), .val (.int (Int32.ofNat len)), .unset, .unset, .unset] [.int (Int32.ofNat len)])) := c1.trans (by
    refine XS.iloadN X0.here hexec rfl (hb hbytes d0) rfl ?_
    exact Steps.refl _)
  obtain ⟨T3, B3, X3, ba3, bs3, bv3, bh3, bf3, st3⟩ := X0.anew hexec (atype := .byte) (wk W (.arrayClass .byte)) rfl (by show len * 1 ≤ _; omega) (by omega) (g := (mkF m 1 #[.val (.ref b), .val (.int (Int32.ofNat o)), .val (.int (Int32.ofNat len)), .unset, .unset, .unset] [.int (Int32.ofNat len)])) rfl (hb hbytes d1) (rest := []) rfl (Nat.le_refl _) (by show 0 + len ≤ len; omega)
  rw [hh0] at ba3 st3
  have kp3 : XT.Kept s T3 := (XT.Kept.of_eq hh0).push bh3
  have hA3 := hA.keep X3.warmed.alike (kp3 _ _ hA.1.1)
  have hne : b ≠ s.heap.size := hA.1.ne
  have c4 : Steps p.tables e below (s₁.setTop (entryFrame m #[.ref b, .int (Int32.ofNat o), .int (Int32.ofNat len)] 6)) (T3.setTop (mkF m 3 #[.val (.ref b), .val (.int (Int32.ofNat o)), .val (.int (Int32.ofNat len)), .unset, .unset, .unset] [.ref s.heap.size])) := c2.trans (st3 _ (Steps.refl _))
  have c5 : Steps p.tables e below (s₁.setTop (entryFrame m #[.ref b, .int (Int32.ofNat o), .int (Int32.ofNat len)] 6)) (T3.setTop (mkF m 9 #[.val (.ref b), .val (.int (Int32.ofNat o)), .val (.int (Int32.ofNat len)), .val (.ref s.heap.size), .unset, .unset] [.int (Int32.ofNat len), .int 0, .ref s.heap.size, .int (Int32.ofNat o), .ref b])) := c4.trans (by
    refine XS.astoreN X3.here hexec rfl (hb hbytes d3) rfl rfl rfl ?_
    refine XS.aloadN X3.here hexec rfl (hb hbytes d4) rfl rfl ?_
    refine XS.iloadN X3.here hexec rfl (hb hbytes d5) rfl ?_
    refine XS.aloadN X3.here hexec rfl (hb hbytes d6) rfl rfl ?_
    refine iconstV X3.here hexec rfl 0 (hb hbytes d7) (by decide) ?_
    refine XS.iloadN X3.here hexec rfl (hb hbytes d8) rfl ?_
    exact Steps.refl _)
  obtain ⟨v6, T6, X6, E6, g6⟩ := X3.callS hexec (Cmp5.law l b A s.heap.size B3 o 0 len) hown (wks W (staticW U16 115 Cmp5.yN)) (wk W Cmp5.tab) (W := 0) (Nat.le_of_ble_eq_true rfl) (Nat.le_of_ble_eq_true rfl) (Nat.le_refl _) (by show 0 + len + 0 ≤ len; omega) (g := (mkF m 9 #[.val (.ref b), .val (.int (Int32.ofNat o)), .val (.int (Int32.ofNat len)), .val (.ref s.heap.size), .unset, .unset] [.int (Int32.ofNat len), .int (Int32.ofNat 0), .ref s.heap.size, .int (Int32.ofNat o), .ref b])) rfl (by rw [hml]; rfl) c5 (argsL := [.ref b, .int (Int32.ofNat o), .ref s.heap.size, .int (Int32.ofNat 0), .int (Int32.ofNat len)]) (rest := []) rfl rfl (by show 2 * 0 + 0 ≤ _; decide) (hb hbytes d9) (⟨rfl, hA3, ba3, hne, l1, by rw [bs3]; simp, hp⟩)
  obtain ⟨rfl, B6, p6, f6⟩ := E6
  have c7 : Steps p.tables e below (s₁.setTop (entryFrame m #[.ref b, .int (Int32.ofNat o), .int (Int32.ofNat len)] 6)) (T6.setTop (mkF m 12 #[.val (.ref b), .val (.int (Int32.ofNat o)), .val (.int (Int32.ofNat len)), .val (.ref s.heap.size), .unset, .unset] [.int (Int32.ofNat len)])) := g6
  have c8 : Steps p.tables e below (s₁.setTop (entryFrame m #[.ref b, .int (Int32.ofNat o), .int (Int32.ofNat len)] 6)) (T6.setTop (mkF m 58 #[.val (.ref b), .val (.int (Int32.ofNat o)), .val (.int (Int32.ofNat len)), .val (.ref s.heap.size), .val (.int (Int32.ofNat len)), .unset] [.ref s.heap.size])) := c7.trans (by
    refine XS.istore X6.here hexec rfl (hb hbytes d12) rfl rfl ?_
    refine XS.iload X6.here hexec rfl (hb hbytes d14) rfl ?_
    refine XS.iloadN X6.here hexec rfl (hb hbytes d16) rfl ?_
    refine XS.icmpYes X6.here hexec rfl (pc0 := 17) rfl (hb hbytes d17) rfl (ii_eq_t rfl) (by decide) rfl ?_
    refine XS.aloadN X6.here hexec rfl (hb hbytes d57) rfl rfl ?_
    exact Steps.refl _)
  have X8 := X6.wide (L' := []) (cells' := 1) (slots' := len) (fun x hx hlt => by
    simp only [List.nil_append, copyLocs, List.mem_map, List.mem_range] at hx
    obtain ⟨i, -, rfl⟩ := hx
    exact absurd hlt (Nat.lt_irrefl _)) (Nat.le_refl _) (by omega)
  exact ⟨T6, some (.ref s.heap.size), _, _, _, X8, rfl, rfl, rfl, (fun h => by cases h), ⟨⟨rfl, B6, ba3.like (X3.warmed.alike.symm.trans X6.warmed.alike) p6.1 f6.1 f6.2.1 f6.2.2.1, f6.2.1.trans bv3, by rw [X6.warmed.alike.findClass, f6.1]; exact bf3, by rw [f6.2.2.1, bs3]; simp, fun j hj => by rw [f6.2.2.2 j, if_pos (by omega)]; rfl, kp3.put p6 (Nat.le_refl _)⟩, by rw [p6.2.2, bh3, hh0]; simp⟩, fun fs hl => c8.trans (X8.areturnOut hexec rfl hret rfl (hb hbytes d58) hl)⟩
end Cmp3
namespace CodL
def yN : MethodName := ⟨"java/lang/StringUTF16", "coderFromArrayLen", "([BI)B"⟩
abbrev yB : ByteArray := jdk_52_method_15_code
theorem d0 : decode yB 0 = .ok (.iload_n 1, 1) := by decide +kernel
theorem d1 : decode yB 1 = .ok (.aload_n 0, 1) := by decide +kernel
theorem d2 : decode yB 2 = .ok (.arraylength, 1) := by decide +kernel
theorem d3 : decode yB 3 = .ok (.isub, 1) := by decide +kernel
theorem d4 : decode yB 4 = .ok (.bipush 31, 2) := by decide +kernel
theorem d6 : decode yB 6 = .ok (.iushr, 1) := by decide +kernel
theorem d7 : decode yB 7 = .ok (.i2b, 1) := by decide +kernel
theorem d8 : decode yB 8 = .ok (.ireturn, 1) := by decide +kernel
def site : List Cond := []
def tab : Cond := tabOf yN yB 2 (some .byte) site
def P (d : Addr) (B : Cell) (args : Array Value) (s : State) : Prop := args = #[.ref d, .int (Int32.ofNat B.slots.size)] ∧ Arr .byte d B s
def E (r : Option Value) (s u : State) : Prop := XT.PureE (some (.int 0)) r s u
/-- an array as long as the number of chars: LATIN1 -/
theorem law (l : Launch) (d : Addr) (B : Cell) : Law l yN 2 2 0 0 yB 2 (some .byte) site (P d B) E [] 0 0 := by
  refine Law.of_walk (plainFor_of_name (by decide +kernel)) (by decide +kernel) (by decide +kernel) (by decide) (fun _ _ h => by rw [h.1]; rfl) (fun _ U U' hal hh h => ⟨h.1, h.2.mv hal hh⟩) (fun r U U' V V' h1 hal h2 h => XT.PureE.mv r U U' V V' h1 hal h2 h) ?_
  intro p e s m args below meth c s₁ X0 hexec hbytes hml hret hlk hnm hown hh0 W hP
  obtain ⟨rfl, hB⟩ := hP
  have hB0 := hB.mv X0.warmed.alike hh0
  have c1 : Steps p.tables e below (s₁.setTop (entryFrame m #[.ref d, .int (Int32.ofNat B.slots.size)] 2)) (s₁.setTop (mkF m 0 #[.val (.ref d), .val (.int (Int32.ofNat B.slots.size))] [])) := entry rfl
  have c2 : Steps p.tables e below (s₁.setTop (entryFrame m #[.ref d, .int (Int32.ofNat B.slots.size)] 2)) (s₁.setTop (mkF m 2 #[.val (.ref d), .val (.int (Int32.ofNat B.slots.size))] [.ref d, .int (Int32.ofNat B.slots.size)])) := c1.trans (by
    refine XS.iloadN X0.here hexec rfl (hb hbytes d0) rfl ?_
    refine XS.aloadN X0.here hexec rfl (hb hbytes d1) rfl rfl ?_
    exact Steps.refl _)
  have c3 : Steps p.tables e below (s₁.setTop (entryFrame m #[.ref d, .int (Int32.ofNat B.slots.size)] 2)) (s₁.setTop (mkF m 8 #[.val (.ref d), .val (.int (Int32.ofNat B.slots.size))] [.int (lo8 (ushr (Int32.ofNat B.slots.size - Int32.ofNat B.slots.size) 31))])) := c2.trans (by
    refine X0.alen hexec hB0 rfl rfl (hb hbytes d2) ?_
    refine XS.isub X0.here hexec rfl (hb hbytes d3) rfl ?_
    refine bipushV X0.here hexec rfl 31 (hb hbytes d4) (by decide) ?_
    refine iushr X0.here hexec rfl (hb hbytes d6) rfl ?_
    refine i2b X0.here hexec rfl (hb hbytes d7) rfl ?_
    exact Steps.refl _)
  have e0 : lo8 (ushr (Int32.ofNat B.slots.size - Int32.ofNat B.slots.size) 31) = 0 := by rw [Int32.sub_self]; decide
  rw [e0] at c3
  exact ⟨s₁, some (.int 0), _, _, _, X0, rfl, rfl, rfl, (fun h => by cases h), ⟨rfl, hh0⟩, fun fs hl => c3.trans (X0.ireturnOut hexec hret rfl (Or.inr (Or.inr (Or.inl rfl))) (hb hbytes d8) hl)⟩
end CodL
/-- the String at a is Latin-1 over a new byte[] (the heap's one new cell): the low bytes of the len chars of A from o on; every cell but a is kept -/
def Got (a : Addr) (D : Cell) (fV fC : Field) (A : Cell) (o len : Nat) (r : Option Value) (s u : State) : Prop := r = none ∧ ∃ D' V : Cell, Blank "java/lang/String" a D' u ∧ Same D D' [fV.slot, fC.slot] ∧ D'.slots[fV.slot]? = some (.ref s.heap.size) ∧ D'.slots[fC.slot]? = some (.int 0) ∧ Arr .byte s.heap.size V u ∧ V.vm = .none ∧ u.vm.findClass "[B" = some V.cls ∧ V.slots.size = len ∧ (∀ j, j < len → V.slots[j]? = some (.int (lo8 (cv A (o + j))))) ∧ (∀ (y : Addr) (c : Cell), y ≠ a → s.heap[y]? = some c → u.heap[y]? = some c) ∧ u.heap.size = s.heap.size + 1
theorem Got.mv {a : Addr} {D A : Cell} {fV fC : Field} {o len : Nat} : ∀ r (U U' V V' : State), U'.heap = U.heap → V.vm.Alike V'.vm → V'.heap = V.heap → Got a D fV fC A o len r U V → Got a D fV fC A o len r U' V' :=
  fun r U U' V V' h1 hal h2 ⟨e0, D', X, a1, a2, a3, a4, a5, a6, a7, a8, a9, a10, a11⟩ => ⟨e0, D', X, a1.mv hal h2, a2, by rw [h1]; exact a3, a4, by rw [h1]; exact a5.mv hal h2, a6, by rw [hal.findClass]; exact a7, a8, a9, by rw [h1, h2]; exact a10, by rw [h1, h2]; exact a11⟩
namespace New4
def yN : MethodName := ⟨"java/lang/String", "<init>", "([CIILjava/lang/Void;)V"⟩
abbrev yB : ByteArray := jdk_42_method_149_code
theorem d0 : decode yB 0 = .ok (.aload_n 0, 1) := by decide +kernel
theorem d1 : decode yB 1 = .ok (.invokespecial 1, 3) := by decide +kernel
theorem d4 : decode yB 4 = .ok (.iload_n 3, 1) := by decide +kernel
theorem d5 : decode yB 5 = .ok (.ifCond (.ne) 22, 3) := by decide +kernel
theorem d27 : decode yB 27 = .ok (.getstatic 38, 3) := by decide +kernel
theorem d30 : decode yB 30 = .ok (.ifCond (.eq) 28, 3) := by decide +kernel
theorem d33 : decode yB 33 = .ok (.aload_n 1, 1) := by decide +kernel
theorem d34 : decode yB 34 = .ok (.iload_n 2, 1) := by decide +kernel
theorem d35 : decode yB 35 = .ok (.iload_n 3, 1) := by decide +kernel
theorem d36 : decode yB 36 = .ok (.invokestatic 177, 3) := by decide +kernel
theorem d39 : decode yB 39 = .ok (.astore 5, 2) := by decide +kernel
theorem d41 : decode yB 41 = .ok (.aload_n 0, 1) := by decide +kernel
theorem d42 : decode yB 42 = .ok (.aload 5, 2) := by decide +kernel
theorem d44 : decode yB 44 = .ok (.iload_n 3, 1) := by decide +kernel
theorem d45 : decode yB 45 = .ok (.invokestatic 47, 3) := by decide +kernel
theorem d48 : decode yB 48 = .ok (.putfield 15, 3) := by decide +kernel
theorem d51 : decode yB 51 = .ok (.aload_n 0, 1) := by decide +kernel
theorem d52 : decode yB 52 = .ok (.aload 5, 2) := by decide +kernel
theorem d54 : decode yB 54 = .ok (.putfield 9, 3) := by decide +kernel
theorem d57 : decode yB 57 = .ok (.return_, 1) := by decide +kernel
def site : List Cond := [.fieldLink "java/lang/String" 38 "java/lang/String" "COMPACT_STRINGS" "Z", Cmp3.tab, CodL.tab, .laysFinal "java/lang/String" "java/lang/String" "value" "[B", .fieldLink "java/lang/String" 9 "java/lang/String" "value" "[B", .laysFinal "java/lang/String" "java/lang/String" "coder" "B", .fieldLink "java/lang/String" 15 "java/lang/String" "coder" "B"] ++ objW "java/lang/String" 1 ++ staticW "java/lang/String" 177 Cmp3.yN ++ staticW "java/lang/String" 47 CodL.yN
def tab : Cond := tabOf yN yB 6 none site
def P (a : Addr) (D : Cell) (fV fC : Field) (b : Addr) (A : Cell) (z : Int32) (o len : Nat) (args : Array Value) (s : State) : Prop := args = #[.ref a, .ref b, .int (Int32.ofNat o), .int (Int32.ofNat len), .null] ∧ Blank "java/lang/String" a D s ∧ Found "java/lang/String" "value" "[B" fV s ∧ Found "java/lang/String" "coder" "B" fC s ∧ Ch b A s ∧ StaticIs s "java/lang/String" "COMPACT_STRINGS" "Z" (.int z) ∧ ¬ z = 0 ∧ 0 < len ∧ o + len ≤ A.slots.size ∧ len ≤ 536870912 ∧ ∀ i, i < len → ¬ 255 < cv A (o + i)
def E (a : Addr) (D : Cell) (fV fC : Field) (A : Cell) (o len : Nat) (r : Option Value) (s u : State) : Prop := Got a D fV fC A o len r s u
/-- len > 0, no char of the range above 255: a Latin-1 String of their low bytes -/
theorem law (l : Launch) (a : Addr) (D : Cell) (fV fC : Field) (b : Addr) (A : Cell) (z : Int32) (o len : Nat) : Law l yN 5 4 2 35 yB 6 none site (P a D fV fC b A z o len) (E a D fV fC A o len) [⟨a, fC.slot⟩, ⟨a, fV.slot⟩] 1 len := by
  refine Law.of_walk (plainFor_of_name (by decide +kernel)) (by decide +kernel) (by decide +kernel) (by decide) (fun _ _ h => by rw [h.1]; rfl) (fun _ U U' hal hh h => ⟨h.1, h.2.1.mv hal hh, h.2.2.1.al hal, h.2.2.2.1.al hal, h.2.2.2.2.1.mv hal hh, h.2.2.2.2.2.1.there hal hh, h.2.2.2.2.2.2⟩) (fun r U U' V V' h1 hal h2 h => Got.mv r U U' V V' h1 hal h2 h) ?_
  intro p e s m args below meth c s₁ X0 hexec hbytes hml hret hlk hnm hown hh0 W hP
  obtain ⟨rfl, hB, f1, f2, hA, s1, hz, l0, l1, l2, hp⟩ := hP
  have a31 := hA.1.2.2.2
  have c1 : Steps p.tables e below (s₁.setTop (entryFrame m #[.ref a, .ref b, .int (Int32.ofNat o), .int (Int32.ofNat len), .null] 6)) (s₁.setTop (mkF m 0 #[.val (.ref a), .val (.ref b), .val (.int (Int32.ofNat o)), .val (.int (Int32.ofNat len)), .val .null, .unset] [])) := entry rfl
  have c2 : Steps p.tables e below (s₁.setTop (entryFrame m #[.ref a, .ref b, .int (Int32.ofNat o), .int (Int32.ofNat len), .null] 6)) (s₁.setTop (mkF m 1 #[.val (.ref a), .val (.ref b), .val (.int (Int32.ofNat o)), .val (.int (Int32.ofNat len)), .val .null, .unset] [.ref a])) := c1.trans (by
    refine XS.aloadN X0.here hexec rfl (hb hbytes d0) rfl rfl ?_
    exact Steps.refl _)
  obtain ⟨T3, X3, q3, st3⟩ := X0.oinit hexec hown (wks W (objW "java/lang/String" 1)) (g := (mkF m 1 #[.val (.ref a), .val (.ref b), .val (.int (Int32.ofNat o)), .val (.int (Int32.ofNat len)), .val .null, .unset] [.ref a])) rfl (by rw [hml]; rfl) (rest := []) rfl (hb hbytes d1) (W := 0) (by show 2 * 0 + 0 ≤ _; decide) (Nat.le_of_ble_eq_true rfl) (Nat.le_of_ble_eq_true rfl)
  have hh3 := q3.trans hh0
  have c4 : Steps p.tables e below (s₁.setTop (entryFrame m #[.ref a, .ref b, .int (Int32.ofNat o), .int (Int32.ofNat len), .null] 6)) (T3.setTop (mkF m 27 #[.val (.ref a), .val (.ref b), .val (.int (Int32.ofNat o)), .val (.int (Int32.ofNat len)), .val .null, .unset] [])) := (c2.trans (st3 _ (Steps.refl _))).trans (by
    refine XS.iloadN X3.here hexec rfl (hb hbytes d4) rfl ?_
    refine XS.ifYes X3.here hexec rfl (pc0 := 5) rfl (hb hbytes d5) rfl (i0_ne_t (nz32 (by omega) l0)) (by decide) rfl ?_
    exact Steps.refl _)
  obtain ⟨T5, X5, q5, st5⟩ := X3.sget hexec hown (wk W (.fieldLink "java/lang/String" 38 "java/lang/String" "COMPACT_STRINGS" "Z")) s1 (fun _ _ h => by rw [hh3]; exact h) (g := (mkF m 27 #[.val (.ref a), .val (.ref b), .val (.int (Int32.ofNat o)), .val (.int (Int32.ofNat len)), .val .null, .unset] [])) rfl (hb hbytes d27)
  have hh5 := q5.trans hh3
  have c6 : Steps p.tables e below (s₁.setTop (entryFrame m #[.ref a, .ref b, .int (Int32.ofNat o), .int (Int32.ofNat len), .null] 6)) (T5.setTop (mkF m 30 #[.val (.ref a), .val (.ref b), .val (.int (Int32.ofNat o)), .val (.int (Int32.ofNat len)), .val .null, .unset] [.int z])) := c4.trans (st5 _ (Steps.refl _))
  have c7 : Steps p.tables e below (s₁.setTop (entryFrame m #[.ref a, .ref b, .int (Int32.ofNat o), .int (Int32.ofNat len), .null] 6)) (T5.setTop (mkF m 36 #[.val (.ref a), .val (.ref b), .val (.int (Int32.ofNat o)), .val (.int (Int32.ofNat len)), .val .null, .unset] [.int (Int32.ofNat len), .int (Int32.ofNat o), .ref b])) := c6.trans (by
    refine XS.ifNo X5.here hexec rfl (hb hbytes d30) rfl (i0_eq_f hz) ?_
    refine XS.aloadN X5.here hexec rfl (hb hbytes d33) rfl rfl ?_
    refine XS.iloadN X5.here hexec rfl (hb hbytes d34) rfl ?_
    refine XS.iloadN X5.here hexec rfl (hb hbytes d35) rfl ?_
    exact Steps.refl _)
  obtain ⟨v8, T8, X8, E8, g8⟩ := X5.callS hexec (Cmp3.law l b A o len) hown (wks W (staticW "java/lang/String" 177 Cmp3.yN)) (wk W Cmp3.tab) (W := 0) (Nat.le_of_ble_eq_true rfl) (Nat.le_of_ble_eq_true rfl) (Nat.le_refl _) (by show 0 + len ≤ len; omega) (g := (mkF m 36 #[.val (.ref a), .val (.ref b), .val (.int (Int32.ofNat o)), .val (.int (Int32.ofNat len)), .val .null, .unset] [.int (Int32.ofNat len), .int (Int32.ofNat o), .ref b])) rfl (by rw [hml]; rfl) c7 (argsL := [.ref b, .int (Int32.ofNat o), .int (Int32.ofNat len)]) (rest := []) rfl rfl (by show 2 * 0 + 0 ≤ _; decide) (hb hbytes d36) (⟨rfl, hA.mv X5.warmed.alike hh5, l1, l2, hp⟩)
  obtain ⟨e8, z8⟩ := E8
  obtain ⟨rfl, N, n1, n2, n3, n4, n5, n6⟩ := NewArr.mv _ T5 s _ _ hh5.symm (Vm.Alike.refl _) rfl e8
  rw [hh5] at z8
  have hB1 := hB.keep X8.warmed.alike (n6 _ _ hB.1)
  have hne : s.heap.size ≠ a := (Nat.ne_of_lt (Array.getElem?_eq_some_iff.mp hB.1).1).symm
  have c9 : Steps p.tables e below (s₁.setTop (entryFrame m #[.ref a, .ref b, .int (Int32.ofNat o), .int (Int32.ofNat len), .null] 6)) (T8.setTop (mkF m 39 #[.val (.ref a), .val (.ref b), .val (.int (Int32.ofNat o)), .val (.int (Int32.ofNat len)), .val .null, .unset] [.ref s.heap.size])) := g8
  have c10 : Steps p.tables e below (s₁.setTop (entryFrame m #[.ref a, .ref b, .int (Int32.ofNat o), .int (Int32.ofNat len), .null] 6)) (T8.setTop (mkF m 45 #[.val (.ref a), .val (.ref b), .val (.int (Int32.ofNat o)), .val (.int (Int32.ofNat len)), .val .null, .val (.ref s.heap.size)] [.int (Int32.ofNat N.slots.size), .ref s.heap.size, .ref a])) := by
    have hc : Steps p.tables e below (s₁.setTop (entryFrame m #[.ref a, .ref b, .int (Int32.ofNat o), .int (Int32.ofNat len), .null] 6)) (T8.setTop (mkF m 45 #[.val (.ref a), .val (.ref b), .val (.int (Int32.ofNat o)), .val (.int (Int32.ofNat len)), .val .null, .val (.ref s.heap.size)] [.int (Int32.ofNat len), .ref s.heap.size, .ref a])) := c9.trans (by
      refine XS.astore X8.here hexec rfl (hb hbytes d39) rfl rfl rfl ?_
      refine XS.aloadN X8.here hexec rfl (hb hbytes d41) rfl rfl ?_
      refine XS.aload X8.here hexec rfl (hb hbytes d42) rfl rfl ?_
      refine XS.iloadN X8.here hexec rfl (hb hbytes d44) rfl ?_
      exact Steps.refl _)
    rw [n4]; exact hc
  obtain ⟨v11, T11, X11, E11, g11⟩ := X8.callS hexec (CodL.law l s.heap.size N) hown (wks W (staticW "java/lang/String" 47 CodL.yN)) (wk W CodL.tab) (W := 1) (Nat.le_of_ble_eq_true rfl) (Nat.le_of_ble_eq_true rfl) (Nat.le_refl _) (by show 0 + len + 0 ≤ len; omega) (g := (mkF m 45 #[.val (.ref a), .val (.ref b), .val (.int (Int32.ofNat o)), .val (.int (Int32.ofNat len)), .val .null, .val (.ref s.heap.size)] [.int (Int32.ofNat N.slots.size), .ref s.heap.size, .ref a])) rfl (by rw [hml]; rfl) c10 (argsL := [.ref s.heap.size, .int (Int32.ofNat N.slots.size)]) (rest := [.ref a]) rfl rfl (by show 2 * 0 + (1 + 0) ≤ _; decide) (hb hbytes d45) (⟨rfl, n1⟩)
  obtain ⟨rfl, q11⟩ := E11
  have hB11 := hB1.mv (X8.warmed.alike.symm.trans X11.warmed.alike) q11
  have c12 : Steps p.tables e below (s₁.setTop (entryFrame m #[.ref a, .ref b, .int (Int32.ofNat o), .int (Int32.ofNat len), .null] 6)) (T11.setTop (mkF m 48 #[.val (.ref a), .val (.ref b), .val (.int (Int32.ofNat o)), .val (.int (Int32.ofNat len)), .val .null, .val (.ref s.heap.size)] [.int 0, .ref a])) := g11
  obtain ⟨T13, X13, p13, bl13, sl13, st13⟩ := X11.finit hexec hown (wk W (.fieldLink "java/lang/String" 15 "java/lang/String" "coder" "B")) (Or.inr ⟨_, (wk W (.laysFinal "java/lang/String" "java/lang/String" "coder" "B"))⟩) (Or.inl ⟨rfl, hnm⟩) f2 (Or.inl rfl) hB11 (t := .byte) (by decide +kernel) rfl (g := (mkF m 48 #[.val (.ref a), .val (.ref b), .val (.int (Int32.ofNat o)), .val (.int (Int32.ofNat len)), .val .null, .val (.ref s.heap.size)] [.int 0, .ref a])) rfl (rest := []) rfl (hb hbytes d48)
  have c14 : Steps p.tables e below (s₁.setTop (entryFrame m #[.ref a, .ref b, .int (Int32.ofNat o), .int (Int32.ofNat len), .null] 6)) (T13.setTop (mkF m 54 #[.val (.ref a), .val (.ref b), .val (.int (Int32.ofNat o)), .val (.int (Int32.ofNat len)), .val .null, .val (.ref s.heap.size)] [.ref s.heap.size, .ref a])) := (c12.trans (st13 _ (Steps.refl _))).trans (by
    refine XS.aloadN X13.here hexec rfl (hb hbytes d51) rfl rfl ?_
    refine XS.aload X13.here hexec rfl (hb hbytes d52) rfl rfl ?_
    exact Steps.refl _)
  obtain ⟨T15, X15, p15, bl15, sl15, st15⟩ := X13.finit hexec hown (wk W (.fieldLink "java/lang/String" 9 "java/lang/String" "value" "[B")) (Or.inr ⟨_, (wk W (.laysFinal "java/lang/String" "java/lang/String" "value" "[B"))⟩) (Or.inl ⟨rfl, hnm⟩) f1 (Or.inl rfl) bl13 (t := (.array .byte)) (by decide +kernel) rfl (g := (mkF m 54 #[.val (.ref a), .val (.ref b), .val (.int (Int32.ofNat o)), .val (.int (Int32.ofNat len)), .val .null, .val (.ref s.heap.size)] [.ref s.heap.size, .ref a])) rfl (rest := []) rfl (hb hbytes d54)
  have c16 : Steps p.tables e below (s₁.setTop (entryFrame m #[.ref a, .ref b, .int (Int32.ofNat o), .int (Int32.ofNat len), .null] 6)) (T15.setTop (mkF m 57 #[.val (.ref a), .val (.ref b), .val (.int (Int32.ofNat o)), .val (.int (Int32.ofNat len)), .val .null, .val (.ref s.heap.size)] [])) := c14.trans (st15 _ (Steps.refl _))
  have ap := apart (Or.inr ⟨_, (wk W (.laysFinal "java/lang/String" "java/lang/String" "value" "[B"))⟩) (Or.inr ⟨_, (wk W (.laysFinal "java/lang/String" "java/lang/String" "coder" "B"))⟩) f1 f2 (t₁ := .array .byte) (t₂ := .byte) (by decide +kernel) (by decide +kernel) (by decide)
  have al := X8.warmed.alike.symm.trans X15.warmed.alike
  have n7 : T11.heap[s.heap.size]? = some N := by rw [q11]; exact n1.1
  exact ⟨T15, none, _, _, _, X15, by simp, rfl, by omega, (fun _ => rfl), ⟨rfl, _, N, bl15, ((Same.refl D _).set _ (by simp)).set _ (by simp), sl15, (Cell.slots_setSlot_ne _ ap).trans sl13, n1.keep al (p15.other hne (p13.other hne n7)), n2, by rw [al.findClass]; exact n3, n4, n5, fun y c h1 h2 => p15.other h1 (p13.other h1 (by rw [q11]; exact n6 y c h2)), by rw [p15.2.2, p13.2.2, q11]; exact z8⟩, fun fs hl => c16.trans (X15.returnOut hexec hret (hb hbytes d57) hl)⟩
end New4
namespace New1
def yN : MethodName := ⟨"java/lang/String", "<init>", "([C)V"⟩
abbrev yB : ByteArray := jdk_42_method_3_code
theorem d0 : decode yB 0 = .ok (.aload_n 0, 1) := by decide +kernel
theorem d1 : decode yB 1 = .ok (.aload_n 1, 1) := by decide +kernel
theorem d2 : decode yB 2 = .ok (.iconst 0, 1) := by decide +kernel
theorem d3 : decode yB 3 = .ok (.aload_n 1, 1) := by decide +kernel
theorem d4 : decode yB 4 = .ok (.arraylength, 1) := by decide +kernel
theorem d5 : decode yB 5 = .ok (.aconst_null, 1) := by decide +kernel
theorem d6 : decode yB 6 = .ok (.invokespecial 27, 3) := by decide +kernel
theorem d9 : decode yB 9 = .ok (.return_, 1) := by decide +kernel
def site : List Cond := [New4.tab] ++ initW "java/lang/String" 27 New4.yN
def tab : Cond := tabOf yN yB 2 none site
def P (a : Addr) (D : Cell) (fV fC : Field) (b : Addr) (A : Cell) (z : Int32) (args : Array Value) (s : State) : Prop := args = #[.ref a, .ref b] ∧ Blank "java/lang/String" a D s ∧ Found "java/lang/String" "value" "[B" fV s ∧ Found "java/lang/String" "coder" "B" fC s ∧ Ch b A s ∧ StaticIs s "java/lang/String" "COMPACT_STRINGS" "Z" (.int z) ∧ ¬ z = 0 ∧ 0 < A.slots.size ∧ A.slots.size ≤ 536870912 ∧ ∀ i, i < A.slots.size → ¬ 255 < cv A i
def E (a : Addr) (D : Cell) (fV fC : Field) (A : Cell) (r : Option Value) (s u : State) : Prop := Got a D fV fC A 0 A.slots.size r s u
/-- new String(chars), not empty, no char above 255: a Latin-1 String of their low bytes -/
theorem law (l : Launch) (a : Addr) (D : Cell) (fV fC : Field) (b : Addr) (A : Cell) (z : Int32) : Law l yN 2 1 3 52 yB 2 none site (P a D fV fC b A z) (E a D fV fC A) [⟨a, fC.slot⟩, ⟨a, fV.slot⟩] 1 A.slots.size := by
  refine Law.of_walk (plainFor_of_name (by decide +kernel)) (by decide +kernel) (by decide +kernel) (by decide) (fun _ _ h => by rw [h.1]; rfl) (fun _ U U' hal hh h => ⟨h.1, h.2.1.mv hal hh, h.2.2.1.al hal, h.2.2.2.1.al hal, h.2.2.2.2.1.mv hal hh, h.2.2.2.2.2.1.there hal hh, h.2.2.2.2.2.2⟩) (fun r U U' V V' h1 hal h2 h => Got.mv r U U' V V' h1 hal h2 h) ?_
  intro p e s m args below meth c s₁ X0 hexec hbytes hml hret hlk hnm hown hh0 W hP
  obtain ⟨rfl, hB, f1, f2, hA, s1, hz, l0, l2, hp⟩ := hP
  have c1 : Steps p.tables e below (s₁.setTop (entryFrame m #[.ref a, .ref b] 2)) (s₁.setTop (mkF m 0 #[.val (.ref a), .val (.ref b)] [])) := entry rfl
  have c2 : Steps p.tables e below (s₁.setTop (entryFrame m #[.ref a, .ref b] 2)) (s₁.setTop (mkF m 6 #[.val (.ref a), .val (.ref b)] [.null, .int (Int32.ofNat A.slots.size), .int 0, .ref b, .ref a])) := c1.trans (by
    refine XS.aloadN X0.here hexec rfl (hb hbytes d0) rfl rfl ?_
    refine XS.aloadN X0.here hexec rfl (hb hbytes d1) rfl rfl ?_
    refine iconstV X0.here hexec rfl 0 (hb hbytes d2) (by decide) ?_
    refine XS.aloadN X0.here hexec rfl (hb hbytes d3) rfl rfl ?_
    refine X0.alen hexec (hA.1.mv X0.warmed.alike hh0) rfl rfl (hb hbytes d4) ?_
    refine XS.aconstNull X0.here hexec rfl (hb hbytes d5) ?_
    exact Steps.refl _)
  obtain ⟨v3, T3, X3, E3, g3⟩ := X0.callN hexec (New4.law l a D fV fC b A z 0 A.slots.size) rfl hown (wks W (initW "java/lang/String" 27 New4.yN)) (W New4.tab (by simp only [site, List.mem_cons, List.mem_append, true_or, or_true])) (W := 0) (Nat.le_of_ble_eq_true rfl) (Nat.le_of_ble_eq_true rfl) (Nat.le_refl _) (by show 0 + A.slots.size ≤ A.slots.size; omega) (g := (mkF m 6 #[.val (.ref a), .val (.ref b)] [.null, .int (Int32.ofNat A.slots.size), .int (Int32.ofNat 0), .ref b, .ref a])) rfl (by rw [hml]; rfl) c2 (argsL := [.ref b, .int (Int32.ofNat 0), .int (Int32.ofNat A.slots.size), .null]) (rest := []) rfl rfl (by show 2 * 0 + 0 ≤ _; decide) (hb hbytes d6) (⟨rfl, hB.mv X0.warmed.alike hh0, f1.al X0.warmed.alike, f2.al X0.warmed.alike, hA.mv X0.warmed.alike hh0, s1.there X0.warmed.alike hh0, hz, l0, by omega, l2, fun i hi => by rw [Nat.zero_add]; exact hp i hi⟩)
  have e0 := Got.mv _ s₁ s _ _ hh0.symm (Vm.Alike.refl _) rfl E3
  obtain rfl := e0.1
  have c4 : Steps p.tables e below (s₁.setTop (entryFrame m #[.ref a, .ref b] 2)) (T3.setTop (mkF m 9 #[.val (.ref a), .val (.ref b)] [])) := g3
  exact ⟨T3, none, _, _, _, X3, by simp, rfl, by omega, (fun _ => rfl), e0, fun fs hl => c4.trans (X3.returnOut hexec hret (hb hbytes d9) hl)⟩
theorem pays {l : Launch} {R : Room} {p : Program} {e : Env} {below : List Frame} {s : State} {sargs : Array Value} {len W : Nat} (a : Addr) (D : Cell) (fV fC : Field) (b : Addr) (A : Cell) (z : Int32) (htab : tab.before sargs s = true) (hfr : 4 ≤ R.frames) (hlo : W + 65 ≤ R.locals) :
    Back l R p e below s sargs yN len W (fun A₁ a₁ => A₁.cells + 1 ≤ R.cells ∧ A₁.slots + A.slots.size ≤ R.slots ∧ P a D fV fC b A z a₁ A₁.U) (fun A₁ _ v₁ B₁ => E a D fV fC A v₁ A₁.U B₁.U ∧ B₁.locs = A₁.locs ++ [⟨a, fC.slot⟩, ⟨a, fV.slot⟩] ∧ B₁.cells = A₁.cells + 1 ∧ B₁.slots = A₁.slots + A.slots.size) :=
  (law l a D fV fC b A z).pays htab hfr (by omega)
end New1
/-- the byte, read back as charAt reads it, is the char -/
theorem lo8_mask {x : Int32} (h0 : ¬ x < 0) (h1 : ¬ 255 < x) : lo8 x &&& 255 = x := by
  have t : ∀ k : Fin 256, lo8 (Int32.ofNat k.val) &&& 255 = Int32.ofNat k.val := by decide +kernel
  rw [Int32.lt_iff_toInt_lt] at h0 h1
  have e0 : (0 : Int32).toInt = 0 := rfl
  have e1 : (255 : Int32).toInt = 255 := rfl
  obtain ⟨k, hk⟩ : ∃ k : Nat, x.toInt = k := ⟨x.toInt.toNat, by omega⟩
  have hx : x = Int32.ofNat k := Int32.toInt_inj.mp (by rw [hk, Int32.toInt_ofNat_small (by omega)])
  rw [hx]
  exact t ⟨k, by omega⟩
end StrChars
namespace StrChars.Road
open Jvm Sem ClassFile Op Lib Jvm.Stand Jvm.Free Jvm.Free.XT
open Jvm.Lib.Cold (StaticIs)
abbrev ST : String := "java/lang/String"
/-- every table word that New1's law asks, flat -/
abbrev words : List Jvm.Cond := [.code New1.yN New1.yB 2 none, .initialized ST, .methodLink ST 27 New4.yN, .instanceMethod New4.yN,
  .code New4.yN New4.yB 6 none, .fieldLink ST 38 ST "COMPACT_STRINGS" "Z", .laysFinal ST ST "value" "[B", .fieldLink ST 9 ST "value" "[B", .laysFinal ST ST "coder" "B", .fieldLink ST 15 ST "coder" "B",
  .methodLink ST 1 Lib.objectInit, .instanceMethod Lib.objectInit, .code Lib.objectInit ⟨#[0xb1]⟩ 1 none, .methodLink ST 177 Cmp3.yN, .static Cmp3.yN, .methodLink ST 47 CodL.yN, .static CodL.yN,
  .code Cmp3.yN Cmp3.yB 6 (some (.array .byte)), .initialized U16, .arrayClass .byte, .methodLink U16 115 Cmp5.yN, .static Cmp5.yN, .code Cmp5.yN Cmp5.yB 7 (some .int), .code CodL.yN CodL.yB 2 (some .byte)]
theorem tab_of {a : Array Value} {s : State} (h : ∀ w ∈ words, w.before a s = true) : New1.tab.before a s = true := by
  have h5 : Cmp5.tab.before a s = true := unparts (wk h (.code Cmp5.yN Cmp5.yB 7 (some .int))) (wks h (.initialized Cmp5.yN.cls :: Cmp5.site))
  have hc : CodL.tab.before a s = true := unparts (wk h (.code CodL.yN CodL.yB 2 (some .byte))) (wks h (.initialized CodL.yN.cls :: CodL.site))
  have q5 : ∀ w ∈ Cmp5.tab :: words, w.before a s = true := fun w hw => (List.mem_cons.mp hw).elim (fun e => e ▸ h5) (h w)
  have h3 : Cmp3.tab.before a s = true := unparts (wk q5 (.code Cmp3.yN Cmp3.yB 6 (some (.array .byte)))) (wks q5 (.initialized Cmp3.yN.cls :: Cmp3.site))
  have q3 : ∀ w ∈ Cmp3.tab :: CodL.tab :: words, w.before a s = true := fun w hw => (List.mem_cons.mp hw).elim (fun e => e ▸ h3) fun hw => (List.mem_cons.mp hw).elim (fun e => e ▸ hc) (h w)
  have h4 : New4.tab.before a s = true := unparts (wk q3 (.code New4.yN New4.yB 6 none)) (wks q3 (.initialized New4.yN.cls :: New4.site))
  have q4 : ∀ w ∈ New4.tab :: words, w.before a s = true := fun w hw => (List.mem_cons.mp hw).elim (fun e => e ▸ h4) (h w)
  exact unparts (wk q4 (.code New1.yN New1.yB 2 none)) (wks q4 (.initialized New1.yN.cls :: New1.site))
/-- the words ride from the start Z to the walk's own state -/
theorem moved {Z s : State} {a0 args : Array Value} (hZ : Z.Warmed39 s.vm) (hw : ∀ d ∈ words, d.before a0 Z = true) : ∀ d ∈ words, d.before args s = true := fun d hd => by
  have q := hw d hd
  have t : ∀ d ∈ words, d = .arrayClass .byte ∨ (d.onTables && d.keepsFace) = true := by decide +kernel
  rcases t d hd with rfl | t
  · exact RoadKit.mvA hZ q
  · exact RoadKit.mv hZ q t
/-- WHAT COMES BACK, over the tables of the start Z: h the heap at the call, h' behind it -/
def Q (Z : State) (x : Addr) (A : Cell) (h : Heap) (v : Option Value) (h' : Heap) (L : List Loc) : Prop := v = none ∧ (∀ y ∈ L, y.base = x) ∧ RoadKit.Keep h h' [x] ∧ h'.size = h.size + 1 ∧ RoadKit.Exa Z h' x ST ∧ RoadKit.Fld Z h' x ST "value" "[B" (.ref h.size) ∧ RoadKit.Fld Z h' x ST "coder" "B" (.int 0) ∧
  (∃ V : Cell, RoadKit.Arr Z h' h.size V .byte ∧ V.vm = .none ∧ Z.vm.findClass "[B" = some V.cls ∧ V.slots.size = A.slots.size ∧ ∀ j, j < A.slots.size → V.slots[j]? = some (.int (lo8 (cv A j)))) ∧
  ∀ (O n d : String) (w : Value), RoadKit.Fld Z h x O n d w → RoadKit.slotOf Z O n d ≠ RoadKit.slotOf Z ST "value" "[B" → RoadKit.slotOf Z O n d ≠ RoadKit.slotOf Z ST "coder" "B" → RoadKit.Fld Z h' x O n d w
/-- **new String(chars) AT A CALL, IN THE ROAD'S FORM**: for specialBack behind newO: x the fresh String, b the char[] with the cell A -/
theorem back {p : Program} {l : Launch} {e : Env} {R : Room} {s : State} {args : Array Value} {below : List Frame} {len W : Nat} {Z : State} {a0 : Array Value} {h : Heap} (hZ : Z.Warmed39 s.vm) (hw : ∀ d ∈ words, d.before a0 Z = true) {kI : Nat} (wi : (Jvm.Cond.instantiable ST kI).before a0 Z = true)
    {x b : Addr} {A : Cell} {z : Int32} {v0 c0 : Value} (E : RoadKit.Exa Z h x ST) (V : RoadKit.Fld Z h x ST "value" "[B" v0) (C : RoadKit.Fld Z h x ST "coder" "B" c0) (K : RoadKit.Arr Z h b A .char) (hty : Typed .char A) (S : RoadKit.Sta Z h ST "COMPACT_STRINGS" "Z" (.int z)) (hz : ¬ z = 0)
    (l0 : 0 < A.slots.size) (l2 : A.slots.size ≤ 536870912) (hp : ∀ i, i < A.slots.size → ¬ 255 < cv A i) (hfr : 4 ≤ R.frames) (hlo : W + 65 ≤ R.locals) :
    Back l R p e below s args New1.yN len W (fun P a => a = #[.ref x, .ref b] ∧ P.U.heap = h ∧ P.cells + 1 ≤ R.cells ∧ P.slots + A.slots.size ≤ R.slots)
      (fun P _ v B => ∃ L, Q Z x A h v B.U.heap L ∧ B.locs = P.locs ++ L ∧ B.cells = P.cells + 1 ∧ B.slots = P.slots + A.slots.size) := by
  intro m meth c P g ig mk a X hg hsize hdg hW hn hp'
  obtain ⟨rfl, rfl, r1, r2⟩ := hp'
  have al : Z.vm.Alike P.U.vm := hZ.alike.trans X.warmed.alike
  obtain ⟨D, cfV, kV, iV, fV, hD, gV, stV, knV, obV, asV, slV⟩ := id V
  obtain ⟨D', cfC, kC, iC, fC, hD', gC, stC, -, -, asC, slC⟩ := id C
  cases hD.symm.trans hD'
  obtain ⟨D2, kD, e1, e2, e3, e4, e5⟩ := id E
  cases hD.symm.trans e1
  obtain ⟨c2, k2, i1, i2, i3, -⟩ := Cond.instantiable_spec wi
  cases e2.symm.trans i1
  cases e3.symm.trans i2
  obtain ⟨kU, u1, u2⟩ := al.2.2 _ _ e3
  have hB : Blank ST x D P.U := ⟨hD, ⟨knV, fun q hq => by rw [hq] at obV; cases obV⟩, by rw [al.findClass]; exact e2, kU, u1, by rw [u2]; exact i3, by rw [u2]; exact e5 i3⟩
  have F1 : Found ST "value" "[B" fV P.U := ⟨SBG.found_only al ⟨cfV, kV, iV, gV⟩, stV⟩
  have F2 : Found ST "coder" "B" fC P.U := ⟨SBG.found_only al ⟨cfC, kC, iC, gC⟩, stC⟩
  have hA : Ch b A P.U := ⟨⟨K.1, State.isArrayOf_alike al K.2.1, K.2.2, by omega⟩, hty⟩
  have hS : StaticIs P.U ST "COMPACT_STRINGS" "Z" (.int z) := by
    obtain ⟨cfS, iS, kS, fS, st, cS, t1, t2, t3, t4, t5, t6, t7⟩ := S
    exact StaticIs.there (s := { Z with heap := P.U.heap }) ⟨cfS, iS, kS, fS, st, cS, t1, t2, t3, t4, t5, (fun q => by rw [q] at t6; cases t6), t7⟩ al rfl
  obtain ⟨v, B, X', ⟨⟨hv, E', V', q1, q2, q3, q4, q5, q6, q7, q8, q9, q10, q11⟩, hl, hc, hs⟩, st⟩ := New1.pays x D fV fC b A z (tab_of (moved hZ hw)) hfr hlo m meth c P g ig mk _ X hg hsize hdg hW hn ⟨r1, r2, rfl, hB, F1, F2, hA, hS, hz, l0, l2, hp⟩
  have al' : Z.vm.Alike B.U.vm := hZ.alike.trans X'.warmed.alike
  have hsz : E'.slots.size = D.slots.size := by
    obtain ⟨-, -, -, kB, w1, w2, w3⟩ := q1
    obtain ⟨kB', y1, y2⟩ := al'.2.2 _ _ e3
    rw [q2.2.1] at w1
    cases w1.symm.trans y1
    rw [w3, e5 i3, y2]
  refine ⟨v, B, X', ⟨_, ⟨hv, ?_, ⟨by omega, fun y cy hy hn' => q10 y cy (by simpa using hn') hy, fun y cy hy => ?_⟩, q11, ⟨E', _, q1.1, by rw [q2.2.1]; exact e2, by rw [q2.2.1]; exact e3, by rw [q2.1]; exact obV, fun _ => by rw [hsz]; exact e5 i3⟩,
    ⟨E', cfV, kV, iV, fV, q1.1, gV, stV, by rw [q2.1]; exact knV, by rw [q2.1]; exact obV, by rw [q2.2.1]; exact asV, q3⟩, ⟨E', cfC, kC, iC, fC, q1.1, gC, stC, by rw [q2.1]; exact knV, by rw [q2.1]; exact obV, by rw [q2.2.1]; exact asC, q4⟩,
    ⟨V', ⟨q5.1, State.isArrayOf_alike al'.symm q5.2.1, q5.2.2.1⟩, q6, by rw [← al'.findClass]; exact q7, q8, fun j hj => by have := q9 j hj; rwa [Nat.zero_add] at this⟩, fun O n d w F n1 n2 => ?_⟩, hl, hc, hs⟩, st⟩
  · intro y hy
    simp only [List.mem_cons, List.not_mem_nil, or_false] at hy
    rcases hy with rfl | rfl <;> rfl
  · by_cases q : y = x
    · subst q
      cases hD.symm.trans hy
      exact ⟨E', q1.1, q2.2.1, q2.1, hsz⟩
    · exact ⟨cy, q10 y cy q hy, rfl, rfl, rfl⟩
  · obtain ⟨D3, cf, k, i, f, g1, g2, g3, g4, g5, g6, g7⟩ := F
    cases hD.symm.trans g1
    simp only [RoadKit.slotOf, g2, gV, gC, Option.map_some, Option.getD_some] at n1 n2
    exact ⟨E', cf, k, i, f, q1.1, g2, g3, by rw [q2.1]; exact g4, by rw [q2.1]; exact g5, by rw [q2.2.1]; exact g6, by rw [q2.2.2 f.slot (by simp [n1, n2])]; exact g7⟩
end StrChars.Road
namespace StrChars.Road
open Jvm Sem ClassFile Op Lib Jvm.Stand Jvm.Free Jvm.Free.XT
/-- WHAT COMES BACK, the byte[] as a list of values -/
def QA (Z : State) (x : Addr) (zn : Int32) (cs : List Int32) (h : Heap) (v : Option Value) (h' : Heap) (L : List Loc) : Prop := v = none ∧ (∀ y ∈ L, y.base = x) ∧ RoadKit.Keep h h' [x] ∧ h'.size = h.size + 1 ∧ RoadKit.Exa Z h' x ST ∧ RoadKit.Fld Z h' x ST "value" "[B" (.ref h.size) ∧ RoadKit.Fld Z h' x ST "coder" "B" (.int 0) ∧
  (∃ kb, Z.vm.findClass "[B" = some kb ∧ RoadKit.Arv Z h' h.size kb .byte zn (cs.map fun c => .int (lo8 c)) (.int 0)) ∧
  ∀ (O n d : String) (w : Value), RoadKit.Fld Z h x O n d w → RoadKit.slotOf Z O n d ≠ RoadKit.slotOf Z ST "value" "[B" → RoadKit.slotOf Z O n d ≠ RoadKit.slotOf Z ST "coder" "B" → RoadKit.Fld Z h' x O n d w
/-- **new String(chars) AT A CALL, THE ARRAYS AS LISTS**: the char[] at b holds cs, not empty, no char above 255 -/
theorem backArv {p : Program} {l : Launch} {e : Env} {R : Room} {s : State} {args : Array Value} {below : List Frame} {len W : Nat} {Z : State} {a0 : Array Value} {h : Heap} (hZ : Z.Warmed39 s.vm) (hw : ∀ d ∈ words, d.before a0 Z = true) {kI : Nat} (wi : (Jvm.Cond.instantiable ST kI).before a0 Z = true)
    {x b : Addr} {k : ClassId} {zn z : Int32} {cs : List Int32} {dv v0 c0 : Value} (E : RoadKit.Exa Z h x ST) (V : RoadKit.Fld Z h x ST "value" "[B" v0) (C : RoadKit.Fld Z h x ST "coder" "B" c0) (K : RoadKit.Arv Z h b k .char zn (cs.map Value.int) dv) (S : RoadKit.Sta Z h ST "COMPACT_STRINGS" "Z" (.int z)) (hz : ¬ z = 0)
    (hlen : zn.toNatClampNeg = cs.length) (h0 : 0 < cs.length) (hbig : cs.length ≤ 536870912) (hall : ∀ c ∈ cs, ¬ 255 < c) (hfr : 4 ≤ R.frames) (hlo : W + 65 ≤ R.locals) :
    Back l R p e below s args New1.yN len W (fun P a => a = #[.ref x, .ref b] ∧ P.U.heap = h ∧ P.cells + 1 ≤ R.cells ∧ P.slots + cs.length ≤ R.slots)
      (fun P _ v B => ∃ L, QA Z x zn cs h v B.U.heap L ∧ B.locs = P.locs ++ L ∧ B.cells = P.cells + 1 ∧ B.slots = P.slots + cs.length) := by
  obtain ⟨A, K1, K2, K3, K4, K5, K6⟩ := K
  have e : A.slots.size = cs.length := K3.trans hlen
  have hat : ∀ (i : Nat) (hi : i < cs.length), A.slots[i]? = some (.int cs[i]) := fun i hi => by rw [K5 i (by omega)]; simp [List.getD_eq_getElem?_getD, hi]
  have hcv : ∀ (i : Nat) (hi : i < cs.length), cv A i = cs[i] := fun i hi => by unfold cv; rw [hat i hi]
  have hty : Typed .char A := fun i v hv => by
    have hi : i < A.slots.size := (Array.getElem?_eq_some_iff.mp hv).1
    have q := K5 i hi
    rw [hv] at q
    rw [Option.some.inj q]
    exact K6 i hi
  refine Back.mono (back hZ hw wi E V C K1 hty S hz (by omega) (by omega) (fun i hi => by rw [hcv i (by omega)]; exact hall _ (List.getElem_mem _)) hfr hlo) (fun P a hp => ⟨hp.1, hp.2.1, hp.2.2.1, by rw [e]; exact hp.2.2.2⟩) (fun P a v B hp hq => ?_)
  obtain ⟨L, ⟨q1, q2, q3, q4, q5, q6, q7, ⟨V', v1, v2, v3, v4, v5⟩, q9⟩, hl, hc, hs⟩ := hq
  refine ⟨L, ⟨q1, q2, q3, q4, q5, q6, q7, ⟨V'.cls, v3, V', v1, rfl, by rw [v4, e, hlen], K4, fun i hi => ?_, fun i hi => ?_⟩, q9⟩, hl, hc, by rw [hs, e]⟩
  · have hi' : i < cs.length := by omega
    rw [v5 i (by omega), hcv i hi']; simp [List.getD_eq_getElem?_getD, hi']
  · have hi' : i < cs.length := by omega
    simp only [List.getD_eq_getElem?_getD, List.getElem?_map, List.getElem?_eq_getElem hi', Option.map_some, Option.getD_some]
    exact fits_lo8 _
end StrChars.Road
namespace StrChars.Road
open Jvm Sem ClassFile Op Lib Jvm.Stand Jvm.Free Jvm.Free.XT
/-- WHAT COMES BACK, in the writer's own shape -/
def QV (Z : State) (x : Addr) (N : Int32) (bs : List Int32) (h : Heap) (n0 : Nat) (v : Option Value) (h' : Heap) (L : List Loc) : Prop := v = none ∧ RoadKit.Fr n0 L ∧ RoadKit.Keep h h' [x] ∧ RoadKit.Exa Z h' x ST ∧ RoadKit.Fld Z h' x ST "coder" "B" (.int 0) ∧
  ∃ (t : Addr) (kb : ClassId), n0 ≤ t ∧ h.size ≤ t ∧ ¬ t = x ∧ RoadKit.Fld Z h' x ST "value" "[B" (.ref t) ∧ RoadKit.Arv Z h' t kb .byte N (bs.map Value.int) (.int 0)
/-- **new String(chars) AT A CALL, FOR THE WRITER**: a char[] of n known ints, each 0 to 255 -/
theorem backV {p : Program} {l : Launch} {e : Env} {R : Room} {s : State} {args : Array Value} {below : List Frame} {len W : Nat} {Z : State} {a0 : Array Value} {h : Heap} (hZ : Z.Warmed39 s.vm) (hw : ∀ d ∈ words, d.before a0 Z = true) {kI : Nat} (wi : (Jvm.Cond.instantiable ST kI).before a0 Z = true)
    {x b : Addr} {kC : ClassId} {cs bs : List Int32} {d v0 c0 : Value} {z N : Int32} {n n0 : Nat} (hx0 : n0 ≤ x) (hh0 : n0 ≤ h.size) (E : RoadKit.Exa Z h x ST) (V : RoadKit.Fld Z h x ST "value" "[B" v0) (C : RoadKit.Fld Z h x ST "coder" "B" c0) (K : RoadKit.Arv Z h b kC .char N (cs.map Value.int) d) (S : RoadKit.Sta Z h ST "COMPACT_STRINGS" "Z" (.int z)) (hz : ¬ z = 0)
    (hn : cs.length = n) (hN : N = Int32.ofNat n) (l0 : 0 < n) (l2 : n ≤ 4000) (hp : ∀ c ∈ cs, ¬ c < 0 ∧ ¬ (255 : Int32) < c) (hb : bs = cs.map (fun c => c.toInt8.toInt32)) (hfr : 4 ≤ R.frames) (hlo : W + 65 ≤ R.locals) :
    Back l R p e below s args (⟨"java/lang/String", "<init>", "([C)V"⟩ : MethodName) len W (fun P a => a = #[.ref x, .ref b] ∧ P.U.heap = h ∧ P.cells + 1 ≤ R.cells ∧ P.slots + n ≤ R.slots)
      (fun P _ v B => ∃ L, QV Z x N bs h n0 v B.U.heap L ∧ B.locs = P.locs ++ L ∧ B.cells = P.cells + 1 ∧ B.slots = P.slots + n) := by
  subst hn hN hb
  refine Back.mono (backArv hZ hw wi E V C K S hz (n32 (by omega)) l0 (by omega) (fun c hc => (hp c hc).2) hfr hlo) (fun P a hp => hp) (fun P a v B hp hq => ?_)
  obtain ⟨L, ⟨q1, q2, q3, q4, q5, q6, q7, ⟨kb, v1, v2⟩, q9⟩, hl, hc, hs⟩ := hq
  exact ⟨L, ⟨q1, fun y hy => by rw [q2 y hy]; exact hx0, q3, q5, q7, h.size, kb, hh0, Nat.le_refl _, Nat.ne_of_gt E.lt, q6, by rw [List.map_map]; exact v2⟩, hl, hc, hs⟩
end StrChars.Road
namespace StrChars
open Jvm Sem ClassFile Op Lib Jvm.Stand Jvm.Free.XT Jvm.Free.ALB Jvm.Free.JM Jvm.Free
open Jvm.Lib.Cold (StaticIs)
def hi8 (x : Int32) : Int32 := lo8 (x >>> ((8 : Int32) &&& 31))
/-- what StringUTF16.getChar makes of two bytes -/
def pairCh (u v : Int32) : Int32 := (((u &&& 255) <<< ((0 : Int32) &&& 31)) ||| ((v &&& 255) <<< ((8 : Int32) &&& 31))).toUInt32.toUInt16.toUInt32.toInt32
theorem shr0 (c : Int32) : c >>> ((0 : Int32) &&& 31) = c := by
  have e : ((0 : Int32) &&& 31) = 0 := by decide
  rw [e]
  apply Int32.toBitVec_inj.mp
  rw [Int32.toBitVec_shiftRight]
  have e1 : ((0 : Int32).toBitVec.smod 32) = 0#32 := by decide
  rw [e1, BitVec.sshiftRight_eq']
  exact BitVec.sshiftRight_zero
theorem lo8_and (x : Int32) : (lo8 x &&& 255).toBitVec.toNat = x.toBitVec.toNat % 256 := by
  have h : (lo8 x).toBitVec = (x.toBitVec.signExtend 8).signExtend 32 := by rw [lo8, Int8.toBitVec_toInt32, Int32.toBitVec_toInt8]
  rw [Int32.toBitVec_and, BitVec.toNat_and, h]
  have e : ((x.toBitVec.signExtend 8).signExtend 32).toNat % 256 = x.toBitVec.toNat % 256 := by
    rw [BitVec.toNat_signExtend]
    have hlt := x.toBitVec.isLt
    simp only [BitVec.toNat_setWidth, BitVec.toNat_signExtend]
    split <;> split <;> omega
  rw [← e]
  exact Nat.and_two_pow_sub_one_eq_mod _ 8
theorem pair_says {c : Int32} (h0 : ¬ c < 0) (h1 : ¬ 65535 < c) : pairCh (lo8 c) (hi8 c) = c := by
  rw [Int32.lt_iff_toInt_lt] at h0 h1
  have e0 : (0 : Int32).toInt = 0 := rfl
  have e1 : (65535 : Int32).toInt = 65535 := rfl
  have hc : c.toInt = c.toBitVec.toNat := by
    have := c.toBitVec.isLt
    have e : c.toInt = c.toBitVec.toInt := rfl
    rw [e] at h0 h1
    rw [e]
    rw [BitVec.toInt_eq_toNat_cond] at h0 h1 ⊢
    split at h0 <;> split <;> omega
  have hn : c.toBitVec.toNat < 65536 := by omega
  have a1 := lo8_and c
  have a2 : (hi8 c &&& 255).toBitVec.toNat = c.toBitVec.toNat / 256 := by
    rw [hi8, lo8_and]
    have e : ((8 : Int32) &&& 31) = 8 := by decide
    rw [e, Int32.toBitVec_shiftRight]
    have e2 : ((8 : Int32).toBitVec.smod 32) = 8#32 := by decide
    rw [e2, BitVec.sshiftRight_eq', BitVec.toNat_sshiftRight_of_msb_false (by rw [BitVec.msb_eq_false_iff_two_mul_lt]; omega)]
    show c.toBitVec.toNat >>> 8 % 256 = _
    rw [Nat.shiftRight_eq_div_pow]
    omega
  unfold pairCh
  apply Int32.toBitVec_inj.mp
  apply BitVec.eq_of_toNat_eq
  have f0 : ((0 : Int32) &&& 31) = 0 := by decide
  have f8 : ((8 : Int32) &&& 31) = 8 := by decide
  rw [f0, f8]
  have g : (((lo8 c &&& 255) <<< (0 : Int32)) ||| ((hi8 c &&& 255) <<< (8 : Int32))).toBitVec.toNat = c.toBitVec.toNat := by
    rw [Int32.toBitVec_or, Int32.toBitVec_shiftLeft, Int32.toBitVec_shiftLeft]
    have s0 : ((0 : Int32).toBitVec.smod 32) = 0#32 := by decide
    have s8 : ((8 : Int32).toBitVec.smod 32) = 8#32 := by decide
    rw [s0, s8, BitVec.toNat_or]
    simp only [BitVec.shiftLeft_eq', BitVec.toNat_shiftLeft, a1, a2]
    show (c.toBitVec.toNat % 256) <<< 0 % 2 ^ 32 ||| (c.toBitVec.toNat / 256) <<< 8 % 2 ^ 32 = _
    rw [Nat.shiftLeft_zero, Nat.mod_eq_of_lt (show c.toBitVec.toNat % 256 < 2 ^ 32 by omega), Nat.mod_eq_of_lt (show (c.toBitVec.toNat / 256) <<< 8 < 2 ^ 32 by rw [Nat.shiftLeft_eq]; omega), Nat.or_comm, ← Nat.shiftLeft_add_eq_or_of_lt (by omega), Nat.shiftLeft_eq]
    omega
  show BitVec.toNat (((((lo8 c &&& 255) <<< (0 : Int32)) ||| ((hi8 c &&& 255) <<< (8 : Int32))).toBitVec.setWidth 16).setWidth 32) = _
  rw [BitVec.toNat_setWidth, BitVec.toNat_setWidth, g]
  omega
end StrChars
namespace StrChars
open Jvm Sem ClassFile Op Lib Jvm.Stand Jvm.Free.XT Jvm.Free.ALB Jvm.Free.JM Jvm.Free
open Jvm.Lib.Cold (StaticIs)
theorem shr1 {n : Nat} (h : 2 * n < 2 ^ 31) : Int32.ofNat (2 * n) >>> ((1 : Int32) &&& 31) = Int32.ofNat n := by
  have e : ((1 : Int32) &&& 31) = 1 := by decide
  rw [e]
  apply Int32.toBitVec_inj.mp
  rw [Int32.toBitVec_shiftRight]
  have e1 : ((1 : Int32).toBitVec.smod 32) = 1#32 := by decide
  have hm : (BitVec.ofNat 32 (2 * n)).toNat = 2 * n := by rw [BitVec.toNat_ofNat, Nat.mod_eq_of_lt (by omega)]
  rw [e1, BitVec.sshiftRight_eq']
  apply BitVec.eq_of_toNat_eq
  show ((BitVec.ofNat 32 (2 * n)).sshiftRight 1).toNat = (BitVec.ofNat 32 n).toNat
  rw [BitVec.toNat_sshiftRight_of_msb_false (by rw [BitVec.msb_eq_false_iff_two_mul_lt, hm]; omega), hm, BitVec.toNat_ofNat, Nat.shiftRight_eq_div_pow]
  omega
/-- charAt's cast of a byte read back -/
def chr8 (u : Int32) : Int32 := (u &&& 255).toUInt32.toUInt16.toUInt32.toInt32
theorem chr8_lo8 {c : Int32} (h0 : ¬ c < 0) (h1 : ¬ 255 < c) : chr8 (lo8 c) = c := by
  have t : ∀ k : Fin 256, (Int32.ofNat k.val).toUInt32.toUInt16.toUInt32.toInt32 = Int32.ofNat k.val := by decide +kernel
  unfold chr8
  rw [lo8_mask h0 h1]
  rw [Int32.lt_iff_toInt_lt] at h0 h1
  have e0 : (0 : Int32).toInt = 0 := rfl
  have e1 : (255 : Int32).toInt = 255 := rfl
  obtain ⟨k, hk⟩ : ∃ k : Nat, c.toInt = k := ⟨c.toInt.toNat, by omega⟩
  have hx : c = Int32.ofNat k := Int32.toInt_inj.mp (by rw [hk, Int32.toInt_ofNat_small (by omega)])
  rw [hx]
  exact t ⟨k, by omega⟩
theorem narrow_ch {c : Int32} (h0 : ¬ c < 0) (h1 : ¬ 65535 < c) : narrow .char (.int c) = .int c := by
  have q : narrow .char (.int (pairCh (lo8 c) (hi8 c))) = .int (pairCh (lo8 c) (hi8 c)) := narrow_c _
  rwa [pair_says h0 h1] at q
/-- the array's cell V codes the n chars f 0 .. f (n - 1) by the coder cd, as the JDK does: coder 1 just where some char is above 255 -/
def Cod (cd : Int32) (n : Nat) (f : Nat → Int32) (V : Cell) : Prop := (cd = 0 ∧ V.slots.size = n ∧ ∀ j, j < n → V.slots[j]? = some (.int (lo8 (f j))) ∧ ¬ 255 < f j) ∨ (cd = 1 ∧ V.slots.size = 2 * n ∧ (∀ j, j < n → V.slots[2 * j]? = some (.int (lo8 (f j))) ∧ V.slots[2 * j + 1]? = some (.int (hi8 (f j)))) ∧ ∃ j, j < n ∧ 255 < f j)
theorem Cod.cd {cd : Int32} {n : Nat} {f : Nat → Int32} {V : Cell} (h : Cod cd n f V) : cd = 0 ∨ cd = 1 := h.imp (fun q => q.1) fun q => q.1
theorem Cod.len {cd : Int32} {n : Nat} {f : Nat → Int32} {V : Cell} (h : Cod cd n f V) (hs : V.slots.size < 2 ^ 31) : Int32.ofNat V.slots.size >>> (cd &&& 31) = Int32.ofNat n := by
  rcases h with ⟨rfl, h, -⟩ | ⟨rfl, h, -⟩
  · rw [shr0, h]
  · rw [h, shr1 (by omega)]
/-- **x is a String of the n chars f 0 .. f (n - 1)**, Latin-1 or UTF-16; its array at t has the cell V -/
def Txt (x t : Addr) (V : Cell) (cd : Int32) (n : Nat) (f : Nat → Int32) (U : State) : Prop := Exact "java/lang/String" x U ∧ Has x "java/lang/String" "value" "[B" (.ref t) U ∧ Has x "java/lang/String" "coder" "B" (.int cd) U ∧ XT.Arr .byte t V U ∧ Cod cd n f V ∧ ∀ j, j < n → ¬ f j < 0 ∧ ¬ 65535 < f j
theorem Txt.mv {x t : Addr} {V : Cell} {cd : Int32} {n : Nat} {f : Nat → Int32} {U U' : State} (h : Txt x t V cd n f U) (hal : U.vm.Alike U'.vm) (hh : U'.heap = U.heap) : Txt x t V cd n f U' := ⟨h.1.mv hal hh, h.2.1.mv hal hh, h.2.2.1.mv hal hh, h.2.2.2.1.mv hal hh, h.2.2.2.2⟩
namespace Cdr
def yN : MethodName := ⟨"java/lang/String", "coder", "()B"⟩
abbrev yB : ByteArray := jdk_42_method_152_code
theorem d0 : decode yB 0 = .ok (.getstatic 38, 3) := by decide +kernel
theorem d3 : decode yB 3 = .ok (.ifCond (.eq) 10, 3) := by decide +kernel
theorem d6 : decode yB 6 = .ok (.aload_n 0, 1) := by decide +kernel
theorem d7 : decode yB 7 = .ok (.getfield 15, 3) := by decide +kernel
theorem d10 : decode yB 10 = .ok (.goto 4, 3) := by decide +kernel
theorem d14 : decode yB 14 = .ok (.ireturn, 1) := by decide +kernel
def site : List Cond := [.fieldLink "java/lang/String" 38 "java/lang/String" "COMPACT_STRINGS" "Z", .fieldLink "java/lang/String" 15 "java/lang/String" "coder" "B"]
def tab : Cond := tabOf yN yB 1 (some .byte) site
def P (x : Addr) (cd z : Int32) (args : Array Value) (s : State) : Prop := args = #[.ref x] ∧ Has x "java/lang/String" "coder" "B" (.int cd) s ∧ (cd = 0 ∨ cd = 1) ∧ StaticIs s "java/lang/String" "COMPACT_STRINGS" "Z" (.int z) ∧ ¬ z = 0
def E (cd : Int32) (r : Option Value) (s u : State) : Prop := XT.PureE (some (.int cd)) r s u
theorem law (l : Launch) (x : Addr) (cd z : Int32) : Law l yN 1 0 0 0 yB 1 (some .byte) site (P x cd z) (E cd) [] 0 0 := by
  refine Law.of_walk (plainFor_of_name (by decide +kernel)) (by decide +kernel) (by decide +kernel) (by decide) (fun _ _ h => by rw [h.1]; rfl) (fun _ U U' hal hh h => ⟨h.1, h.2.1.mv hal hh, h.2.2.1, h.2.2.2.1.there hal hh, h.2.2.2.2⟩) (fun r U U' V V' h1 hal h2 h => XT.PureE.mv r U U' V V' h1 hal h2 h) ?_
  intro p e s m args below meth c s₁ X0 hexec hbytes hml hret hlk hnm hown hh0 W hP
  obtain ⟨rfl, hx, hc, s1, hz⟩ := hP
  have c1 : Steps p.tables e below (s₁.setTop (entryFrame m #[.ref x] 1)) (s₁.setTop (mkF m 0 #[.val (.ref x)] [])) := entry rfl
  obtain ⟨T2, X2, q2, st2⟩ := X0.sget hexec hown (wk W (.fieldLink "java/lang/String" 38 "java/lang/String" "COMPACT_STRINGS" "Z")) s1 (fun _ _ h => by rw [hh0]; exact h) (g := (mkF m 0 #[.val (.ref x)] [])) rfl (hb hbytes d0)
  have hh2 := q2.trans hh0
  have c3 : Steps p.tables e below (s₁.setTop (entryFrame m #[.ref x] 1)) (T2.setTop (mkF m 7 #[.val (.ref x)] [.ref x])) := (c1.trans (st2 _ (Steps.refl _))).trans (by
    refine XS.ifNo X2.here hexec rfl (hb hbytes d3) rfl (i0_eq_f hz) ?_
    refine XS.aloadN X2.here hexec rfl (hb hbytes d6) rfl rfl ?_
    exact Steps.refl _)
  obtain ⟨T4, X4, q4, st4⟩ := X2.hget hexec hown (wk W (.fieldLink "java/lang/String" 15 "java/lang/String" "coder" "B")) (hx.mv X2.warmed.alike hh2) (g := (mkF m 7 #[.val (.ref x)] [.ref x])) rfl (rest := []) rfl (hb hbytes d7)
  have c5 : Steps p.tables e below (s₁.setTop (entryFrame m #[.ref x] 1)) (T4.setTop (mkF m 14 #[.val (.ref x)] [.int cd])) := (c3.trans (st4 _ (Steps.refl _))).trans (by
    refine XS.goto X4.here hexec rfl (pc0 := 10) rfl (hb hbytes d10) (by decide) rfl ?_
    exact Steps.refl _)
  exact ⟨T4, some (.int cd), _, _, _, X4, rfl, rfl, rfl, (fun h => by cases h), ⟨rfl, q4.trans hh2⟩, fun fs hl => c5.trans (X4.ireturnOut hexec hret (by rcases hc with rfl | rfl <;> rfl) (Or.inr (Or.inr (Or.inl rfl))) (hb hbytes d14) hl)⟩
end Cdr
namespace Len
def yN : MethodName := ⟨"java/lang/String", "length", "()I"⟩
abbrev yB : ByteArray := jdk_42_method_54_code
theorem d0 : decode yB 0 = .ok (.aload_n 0, 1) := by decide +kernel
theorem d1 : decode yB 1 = .ok (.getfield 9, 3) := by decide +kernel
theorem d4 : decode yB 4 = .ok (.arraylength, 1) := by decide +kernel
theorem d5 : decode yB 5 = .ok (.aload_n 0, 1) := by decide +kernel
theorem d6 : decode yB 6 = .ok (.invokevirtual 335, 3) := by decide +kernel
theorem d9 : decode yB 9 = .ok (.ishr, 1) := by decide +kernel
theorem d10 : decode yB 10 = .ok (.ireturn, 1) := by decide +kernel
def site : List Cond := [.fieldLink "java/lang/String" 9 "java/lang/String" "value" "[B", Cdr.tab] ++ virtW "java/lang/String" 335 "java/lang/String" Cdr.yN Cdr.yN
def tab : Cond := tabOf yN yB 1 (some .int) site
def P (x t : Addr) (V : Cell) (cd : Int32) (n : Nat) (f : Nat → Int32) (z : Int32) (args : Array Value) (s : State) : Prop := args = #[.ref x] ∧ Txt x t V cd n f s ∧ StaticIs s "java/lang/String" "COMPACT_STRINGS" "Z" (.int z) ∧ ¬ z = 0
def E (n : Nat) (r : Option Value) (s u : State) : Prop := XT.PureE (some (.int (Int32.ofNat n))) r s u
/-- length() of a String of n chars, in either coding -/
theorem law (l : Launch) (x t : Addr) (V : Cell) (cd : Int32) (n : Nat) (f : Nat → Int32) (z : Int32) : Law l yN 1 0 1 13 yB 1 (some .int) site (P x t V cd n f z) (E n) [] 0 0 := by
  refine Law.of_walk (plainFor_of_name (by decide +kernel)) (by decide +kernel) (by decide +kernel) (by decide) (fun _ _ h => by rw [h.1]; rfl) (fun _ U U' hal hh h => ⟨h.1, h.2.1.mv hal hh, h.2.2.1.there hal hh, h.2.2.2⟩) (fun r U U' V V' h1 hal h2 h => XT.PureE.mv r U U' V V' h1 hal h2 h) ?_
  intro p e s m args below meth c s₁ X0 hexec hbytes hml hret hlk hnm hown hh0 W hP
  obtain ⟨rfl, hx, s1, hz⟩ := hP
  have v31 := hx.2.2.2.1.2.2.2
  have c1 : Steps p.tables e below (s₁.setTop (entryFrame m #[.ref x] 1)) (s₁.setTop (mkF m 1 #[.val (.ref x)] [.ref x])) := Steps.trans (entry rfl) (by
    show Steps p.tables e below (s₁.setTop (mkF m 0 #[.val (.ref x)] [])) _
    refine XS.aloadN X0.here hexec rfl (hb hbytes d0) rfl rfl ?_
    exact Steps.refl _)
  obtain ⟨T2, X2, q2, st2⟩ := X0.hget hexec hown (wk W (.fieldLink "java/lang/String" 9 "java/lang/String" "value" "[B")) (hx.mv X0.warmed.alike hh0).2.1 (g := (mkF m 1 #[.val (.ref x)] [.ref x])) rfl (rest := []) rfl (hb hbytes d1)
  have hh2 := q2.trans hh0
  have hx2 := hx.mv X2.warmed.alike hh2
  have c3 : Steps p.tables e below (s₁.setTop (entryFrame m #[.ref x] 1)) (T2.setTop (mkF m 6 #[.val (.ref x)] [.ref x, .int (Int32.ofNat V.slots.size)])) := (c1.trans (st2 _ (Steps.refl _))).trans (by
    refine X2.alen hexec hx2.2.2.2.1 rfl rfl (hb hbytes d4) ?_
    refine XS.aloadN X2.here hexec rfl (hb hbytes d5) rfl rfl ?_
    exact Steps.refl _)
  obtain ⟨v4, T4, X4, E4, g4⟩ := X2.callV hexec (Cdr.law l x cd z) hown (wks W (virtW "java/lang/String" 335 "java/lang/String" Cdr.yN Cdr.yN)) rfl (by decide) (wk W Cdr.tab) (W := 1) (Nat.le_of_ble_eq_true rfl) (Nat.le_of_ble_eq_true rfl) (Nat.le_refl _) (Nat.le_refl _) (hx2.1.fc X2.warmed.alike) hx2.1.is (g := (mkF m 6 #[.val (.ref x)] [.ref x, .int (Int32.ofNat V.slots.size)])) rfl (by rw [hml]; rfl) c3 (argsL := []) (rest := [.int (Int32.ofNat V.slots.size)]) rfl rfl (by show 2 * 0 + (1 + 0) ≤ _; decide) (hb hbytes d6) (⟨rfl, hx2.2.2.1, hx.2.2.2.2.1.cd, s1.there X2.warmed.alike hh2, hz⟩)
  obtain ⟨rfl, q4⟩ := E4
  have c5 : Steps p.tables e below (s₁.setTop (entryFrame m #[.ref x] 1)) (T4.setTop (mkF m 10 #[.val (.ref x)] [.int (Int32.ofNat V.slots.size >>> (cd &&& 31))])) := Steps.trans g4 (by
    refine ishr X4.here hexec rfl (hb hbytes d9) rfl ?_
    exact Steps.refl _)
  rw [hx.2.2.2.2.1.len v31] at c5
  exact ⟨T4, some (.int (Int32.ofNat n)), _, _, _, X4, rfl, rfl, rfl, (fun h => by cases h), ⟨rfl, q4.trans hh2⟩, fun fs hl => c5.trans (X4.ireturnOut hexec hret rfl (Or.inl rfl) (hb hbytes d10) hl)⟩
theorem pays {l : Launch} {R : Room} {p : Program} {e : Env} {below : List Frame} {s : State} {sargs : Array Value} {len W : Nat} (x t : Addr) (V : Cell) (cd : Int32) (n : Nat) (f : Nat → Int32) (z : Int32) (htab : tab.before sargs s = true) (hfr : 2 ≤ R.frames) (hlo : W + 25 ≤ R.locals) :
    Back l R p e below s sargs yN len W (fun A₁ a₁ => A₁.cells + 0 ≤ R.cells ∧ A₁.slots + 0 ≤ R.slots ∧ P x t V cd n f z a₁ A₁.U) (fun A₁ _ v₁ B₁ => E n v₁ A₁.U B₁.U ∧ B₁.locs = A₁.locs ++ [] ∧ B₁.cells = A₁.cells + 0 ∧ B₁.slots = A₁.slots + 0) :=
  (law l x t V cd n f z).pays htab hfr (by omega)
end Len
namespace IsL
def yN : MethodName := ⟨"java/lang/String", "isLatin1", "()Z"⟩
abbrev yB : ByteArray := jdk_42_method_154_code
theorem d0 : decode yB 0 = .ok (.getstatic 38, 3) := by decide +kernel
theorem d3 : decode yB 3 = .ok (.ifCond (.eq) 14, 3) := by decide +kernel
theorem d6 : decode yB 6 = .ok (.aload_n 0, 1) := by decide +kernel
theorem d7 : decode yB 7 = .ok (.getfield 15, 3) := by decide +kernel
theorem d10 : decode yB 10 = .ok (.ifCond (.ne) 7, 3) := by decide +kernel
theorem d13 : decode yB 13 = .ok (.iconst 1, 1) := by decide +kernel
theorem d14 : decode yB 14 = .ok (.goto 4, 3) := by decide +kernel
theorem d17 : decode yB 17 = .ok (.iconst 0, 1) := by decide +kernel
theorem d18 : decode yB 18 = .ok (.ireturn, 1) := by decide +kernel
def site : List Cond := [.fieldLink "java/lang/String" 38 "java/lang/String" "COMPACT_STRINGS" "Z", .fieldLink "java/lang/String" 15 "java/lang/String" "coder" "B"]
def tab : Cond := tabOf yN yB 1 (some .boolean) site
def P (x : Addr) (cd z : Int32) (args : Array Value) (s : State) : Prop := args = #[.ref x] ∧ Has x "java/lang/String" "coder" "B" (.int cd) s ∧ (cd = 0 ∨ cd = 1) ∧ StaticIs s "java/lang/String" "COMPACT_STRINGS" "Z" (.int z) ∧ ¬ z = 0
def E (cd : Int32) (r : Option Value) (s u : State) : Prop := XT.PureE (some (.int (1 - cd))) r s u
theorem law (l : Launch) (x : Addr) (cd z : Int32) : Law l yN 1 0 0 0 yB 1 (some .boolean) site (P x cd z) (E cd) [] 0 0 := by
  refine Law.of_walk (plainFor_of_name (by decide +kernel)) (by decide +kernel) (by decide +kernel) (by decide) (fun _ _ h => by rw [h.1]; rfl) (fun _ U U' hal hh h => ⟨h.1, h.2.1.mv hal hh, h.2.2.1, h.2.2.2.1.there hal hh, h.2.2.2.2⟩) (fun r U U' V V' h1 hal h2 h => XT.PureE.mv r U U' V V' h1 hal h2 h) ?_
  intro p e s m args below meth c s₁ X0 hexec hbytes hml hret hlk hnm hown hh0 W hP
  obtain ⟨rfl, hx, hc, s1, hz⟩ := hP
  have c1 : Steps p.tables e below (s₁.setTop (entryFrame m #[.ref x] 1)) (s₁.setTop (mkF m 0 #[.val (.ref x)] [])) := entry rfl
  obtain ⟨T2, X2, q2, st2⟩ := X0.sget hexec hown (wk W (.fieldLink "java/lang/String" 38 "java/lang/String" "COMPACT_STRINGS" "Z")) s1 (fun _ _ h => by rw [hh0]; exact h) (g := (mkF m 0 #[.val (.ref x)] [])) rfl (hb hbytes d0)
  have hh2 := q2.trans hh0
  have c3 : Steps p.tables e below (s₁.setTop (entryFrame m #[.ref x] 1)) (T2.setTop (mkF m 7 #[.val (.ref x)] [.ref x])) := (c1.trans (st2 _ (Steps.refl _))).trans (by
    refine XS.ifNo X2.here hexec rfl (hb hbytes d3) rfl (i0_eq_f hz) ?_
    refine XS.aloadN X2.here hexec rfl (hb hbytes d6) rfl rfl ?_
    exact Steps.refl _)
  obtain ⟨T4, X4, q4, st4⟩ := X2.hget hexec hown (wk W (.fieldLink "java/lang/String" 15 "java/lang/String" "coder" "B")) (hx.mv X2.warmed.alike hh2) (g := (mkF m 7 #[.val (.ref x)] [.ref x])) rfl (rest := []) rfl (hb hbytes d7)
  have c5 : Steps p.tables e below (s₁.setTop (entryFrame m #[.ref x] 1)) (T4.setTop (mkF m 10 #[.val (.ref x)] [.int cd])) := c3.trans (st4 _ (Steps.refl _))
  have c6 : Steps p.tables e below (s₁.setTop (entryFrame m #[.ref x] 1)) (T4.setTop (mkF m 18 #[.val (.ref x)] [.int (1 - cd)])) := by
    rcases hc with rfl | rfl
    · exact c5.trans (by
        refine XS.ifNo X4.here hexec rfl (hb hbytes d10) rfl (i0_ne_f rfl) ?_
        refine iconstV X4.here hexec rfl 1 (hb hbytes d13) (by decide) ?_
        refine XS.goto X4.here hexec rfl (pc0 := 14) rfl (hb hbytes d14) (by decide) rfl ?_
        exact Steps.refl _)
    · exact c5.trans (by
        refine XS.ifYes X4.here hexec rfl (pc0 := 10) rfl (hb hbytes d10) rfl (i0_ne_t (by decide)) (by decide) rfl ?_
        refine iconstV X4.here hexec rfl 0 (hb hbytes d17) (by decide) ?_
        exact Steps.refl _)
  exact ⟨T4, some (.int (1 - cd)), _, _, _, X4, rfl, rfl, rfl, (fun h => by cases h), ⟨rfl, q4.trans hh2⟩, fun fs hl => c6.trans (X4.ireturnOut hexec hret (by rcases hc with rfl | rfl <;> rfl) (Or.inr (Or.inl rfl)) (hb hbytes d18) hl)⟩
end IsL
namespace LChA
def yN : MethodName := ⟨"java/lang/StringLatin1", "charAt", "([BI)C"⟩
abbrev yB : ByteArray := jdk_43_method_2_code
theorem d0 : decode yB 0 = .ok (.iload_n 1, 1) := by decide +kernel
theorem d1 : decode yB 1 = .ok (.aload_n 0, 1) := by decide +kernel
theorem d2 : decode yB 2 = .ok (.arraylength, 1) := by decide +kernel
theorem d3 : decode yB 3 = .ok (.invokestatic 9, 3) := by decide +kernel
theorem d6 : decode yB 6 = .ok (.aload_n 0, 1) := by decide +kernel
theorem d7 : decode yB 7 = .ok (.iload_n 1, 1) := by decide +kernel
theorem d8 : decode yB 8 = .ok (.baload, 1) := by decide +kernel
theorem d9 : decode yB 9 = .ok (.sipush 255, 3) := by decide +kernel
theorem d12 : decode yB 12 = .ok (.iand, 1) := by decide +kernel
theorem d13 : decode yB 13 = .ok (.i2c, 1) := by decide +kernel
theorem d14 : decode yB 14 = .ok (.ireturn, 1) := by decide +kernel
def site : List Cond := [JO.Str_checkIndex.tab] ++ staticW "java/lang/StringLatin1" 9 JO.Str_checkIndex.yN
def tab : Cond := tabOf yN yB 2 (some .char) site
def P (t : Addr) (V : Cell) (i : Nat) (u : Int32) (fm : Value) (args : Array Value) (s : State) : Prop := args = #[.ref t, .int (Int32.ofNat i)] ∧ XT.Arr .byte t V s ∧ V.slots[i]? = some (.int u) ∧ (StaticIs s "jdk/internal/util/Preconditions" "SIOOBE_FORMATTER" "Ljava/util/function/BiFunction;" fm ∧ fm.isRef = true)
def E (u : Int32) (r : Option Value) (s w : State) : Prop := XT.PureE (some (.int (chr8 u))) r s w
theorem law (l : Launch) (t : Addr) (V : Cell) (i : Nat) (u : Int32) (fm : Value) : Law l yN 2 2 2 27 yB 2 (some .char) site (P t V i u fm) (E u) [] 0 0 := by
  refine Law.of_walk (plainFor_of_name (by decide +kernel)) (by decide +kernel) (by decide +kernel) (by decide) (fun _ _ h => by rw [h.1]; rfl) (fun _ U U' hal hh h => ⟨h.1, h.2.1.mv hal hh, h.2.2.1, h.2.2.2.1.there hal hh, h.2.2.2.2⟩) (fun r U U' V V' h1 hal h2 h => XT.PureE.mv r U U' V V' h1 hal h2 h) ?_
  intro p e s m args below meth c s₁ X0 hexec hbytes hml hret hlk hnm hown hh0 W hP
  obtain ⟨rfl, hV, hu, s1, rf⟩ := hP
  have v31 := hV.2.2.2
  have hi : i < V.slots.size := (Array.getElem?_eq_some_iff.mp hu).1
  have c1 : Steps p.tables e below (s₁.setTop (entryFrame m #[.ref t, .int (Int32.ofNat i)] 2)) (s₁.setTop (mkF m 0 #[.val (.ref t), .val (.int (Int32.ofNat i))] [])) := entry rfl
  have c2 : Steps p.tables e below (s₁.setTop (entryFrame m #[.ref t, .int (Int32.ofNat i)] 2)) (s₁.setTop (mkF m 3 #[.val (.ref t), .val (.int (Int32.ofNat i))] [.int (Int32.ofNat V.slots.size), .int (Int32.ofNat i)])) := c1.trans (by
    refine XS.iloadN X0.here hexec rfl (hb hbytes d0) rfl ?_
    refine XS.aloadN X0.here hexec rfl (hb hbytes d1) rfl rfl ?_
    refine X0.alen hexec (hV.mv X0.warmed.alike hh0) rfl rfl (hb hbytes d2) ?_
    exact Steps.refl _)
  obtain ⟨v3, T3, X3, E3, g3⟩ := X0.callS hexec (JO.Str_checkIndex.law l (Int32.ofNat i) (Int32.ofNat V.slots.size) fm) hown (wks W (staticW "java/lang/StringLatin1" 9 JO.Str_checkIndex.yN)) (wk W JO.Str_checkIndex.tab) (W := 0) (Nat.le_of_ble_eq_true rfl) (Nat.le_of_ble_eq_true rfl) (Nat.le_refl _) (Nat.le_refl _) (g := (mkF m 3 #[.val (.ref t), .val (.int (Int32.ofNat i))] [.int (Int32.ofNat V.slots.size), .int (Int32.ofNat i)])) rfl (by rw [hml]; rfl) c2 (argsL := [.int (Int32.ofNat i), .int (Int32.ofNat V.slots.size)]) (rest := []) rfl rfl (by show 2 * 0 + 0 ≤ _; decide) (hb hbytes d3) (⟨rfl, rf, s1.there X0.warmed.alike hh0, Int32.ofNat_not_neg (by omega), lt32 v31 hi⟩)
  obtain ⟨rfl, q3⟩ := E3
  have hh3 := q3.trans hh0
  have c4 : Steps p.tables e below (s₁.setTop (entryFrame m #[.ref t, .int (Int32.ofNat i)] 2)) (T3.setTop (mkF m 14 #[.val (.ref t), .val (.int (Int32.ofNat i))] [.int (chr8 u)])) := Steps.trans g3 (by
    refine XS.aloadN X3.here hexec rfl (hb hbytes d6) rfl rfl ?_
    refine XS.iloadN X3.here hexec rfl (hb hbytes d7) rfl ?_
    refine X3.aget hexec (hV.mv X3.warmed.alike hh3) rfl hu rfl rfl (hb hbytes d8) ?_
    refine sipushV X3.here hexec rfl 255 (hb hbytes d9) (by decide) ?_
    refine XS.iand X3.here hexec rfl (hb hbytes d12) rfl ?_
    refine i2c X3.here hexec rfl (hb hbytes d13) rfl ?_
    exact Steps.refl _)
  exact ⟨T3, some (.int (chr8 u)), _, _, _, X3, rfl, rfl, rfl, (fun h => by cases h), ⟨rfl, hh3⟩, fun fs hl => c4.trans (X3.ireturnOut hexec hret (narrow_c _) (Or.inr (Or.inr (Or.inr (Or.inl rfl)))) (hb hbytes d14) hl)⟩
end LChA
end StrChars
namespace StrChars.Road
open Jvm Sem ClassFile Op Lib Jvm.Stand Jvm.Free Jvm.Free.XT
open Jvm.Lib.Cold (StaticIs)
theorem consq {a : Array Value} {s : State} {c : Jvm.Cond} {L : List Jvm.Cond} (h0 : c.before a s = true) (h : ∀ w ∈ L, w.before a s = true) : ∀ w ∈ c :: L, w.before a s = true := fun w hw => (List.mem_cons.mp hw).elim (fun e => e ▸ h0) (h w)
/-- the words of String.length(), either coding -/
abbrev wordsLen : List Jvm.Cond := [.code Len.yN Len.yB 1 (some .int), .initialized ST, .fieldLink ST 9 ST "value" "[B", .fieldLink ST 38 ST "COMPACT_STRINGS" "Z", .fieldLink ST 15 ST "coder" "B", .code Cdr.yN Cdr.yB 1 (some .byte), .methodLink ST 335 Cdr.yN, .declares Cdr.yN, .selects ST Cdr.yN Cdr.yN, .instanceMethod Cdr.yN]
theorem tabLen_of {a : Array Value} {s : State} (h : ∀ w ∈ wordsLen, w.before a s = true) : Len.tab.before a s = true := by
  have hc : Cdr.tab.before a s = true := unparts (wk h (.code Cdr.yN Cdr.yB 1 (some .byte))) (wks h (.initialized Cdr.yN.cls :: Cdr.site))
  have q := consq hc h
  exact unparts (wk q (.code Len.yN Len.yB 1 (some .int))) (wks q (.initialized Len.yN.cls :: Len.site))
theorem movedLen {Z s : State} {a0 args : Array Value} (hZ : Z.Warmed39 s.vm) (hw : ∀ d ∈ wordsLen, d.before a0 Z = true) : ∀ d ∈ wordsLen, d.before args s = true := fun d hd => by
  have q := hw d hd
  have t : ∀ d ∈ wordsLen, d = .arrayClass .byte ∨ (d.onTables && d.keepsFace) = true := by decide +kernel
  rcases t d hd with rfl | t
  · exact RoadKit.mvA hZ q
  · exact RoadKit.mv hZ q t
/-- the bytes of the chars cs, low before high -/
def wideBytes : List Int32 → List Value
  | [] => []
  | c :: cs => .int (lo8 c) :: .int (hi8 c) :: wideBytes cs
theorem wide_lo (d : Value) : ∀ (cs : List Int32) (j : Nat), j < cs.length → (wideBytes cs).getD (2 * j) d = .int (lo8 (cs.getD j 0))
  | [], j, h => absurd h (Nat.not_lt_zero j)
  | c :: cs, 0, _ => rfl
  | c :: cs, j + 1, h => by
    have q := wide_lo d cs j (by simpa using h)
    rw [show 2 * (j + 1) = 2 * j + 1 + 1 from by omega]
    simpa [wideBytes] using q
theorem wide_hi (d : Value) : ∀ (cs : List Int32) (j : Nat), j < cs.length → (wideBytes cs).getD (2 * j + 1) d = .int (hi8 (cs.getD j 0))
  | [], j, h => absurd h (Nat.not_lt_zero j)
  | c :: cs, 0, _ => rfl
  | c :: cs, j + 1, h => by
    have q := wide_hi d cs j (by simpa using h)
    rw [show 2 * (j + 1) + 1 = 2 * j + 1 + 1 + 1 from by omega]
    simpa [wideBytes] using q
theorem low_at (d : Value) (cs : List Int32) (j : Nat) (h : j < cs.length) : (cs.map fun c => Value.int (lo8 c)).getD j d = .int (lo8 (cs.getD j 0)) := by
  simp [List.getD_eq_getElem?_getD, h]
/-- an array of N2 bytes vs codes the chars cs by the coder cd -/
def CodA (cs : List Int32) (cd N2 : Int32) (vs : List Value) : Prop := (cd = 0 ∧ N2 = Int32.ofNat cs.length ∧ vs = (cs.map fun c => Value.int (lo8 c)) ∧ ∀ c ∈ cs, ¬ 255 < c) ∨ (cd = 1 ∧ N2 = Int32.ofNat (2 * cs.length) ∧ vs = wideBytes cs ∧ ∃ c ∈ cs, 255 < c)
theorem CodA.cod {cs : List Int32} {cd N2 : Int32} {vs : List Value} {V : Cell} (h : CodA cs cd N2 vs) (hn : 2 * cs.length < 2 ^ 31) (hs : V.slots.size = N2.toNatClampNeg) (hv : RoadKit.Has V vs (.int 0)) : Cod cd cs.length (fun j => cs.getD j 0) V := by
  rcases h with ⟨rfl, rfl, rfl, h⟩ | ⟨rfl, rfl, rfl, c, hc, hw⟩
  · rw [n32 (by omega)] at hs
    exact Or.inl ⟨rfl, hs, fun j hj => ⟨by rw [hv j (by omega), low_at _ _ _ hj], by
      have e : cs.getD j 0 = cs[j] := by simp [List.getD_eq_getElem?_getD, hj]
      show ¬ 255 < cs.getD j 0
      rw [e]; exact h _ (List.getElem_mem _)⟩⟩
  · rw [n32 (by omega)] at hs
    obtain ⟨j, hj, rfl⟩ := List.getElem_of_mem hc
    exact Or.inr ⟨rfl, hs, fun j hj => ⟨by rw [hv _ (by omega), wide_lo _ _ _ hj], by rw [hv _ (by omega), wide_hi _ _ _ hj]⟩, j, hj, by
      have e : cs.getD j 0 = cs[j] := by simp [List.getD_eq_getElem?_getD, hj]
      show 255 < cs.getD j 0
      rw [e]; exact hw⟩
/-- an object of exactly java/lang/String, its two fields found: as the laws ask it -/
theorem strObj {Z U : State} {a0 : Array Value} {kI : Nat} (wi : (Jvm.Cond.instantiable ST kI).before a0 Z = true) (al : Z.vm.Alike U.vm) {x : Addr} {v0 c0 : Value} (E : RoadKit.Exa Z U.heap x ST) (V : RoadKit.Fld Z U.heap x ST "value" "[B" v0) (C : RoadKit.Fld Z U.heap x ST "coder" "B" c0) :
    ∃ (D : Cell) (fV fC : Field), Blank ST x D U ∧ Found ST "value" "[B" fV U ∧ Found ST "coder" "B" fC U ∧ D.slots[fV.slot]? = some v0 ∧ D.slots[fC.slot]? = some c0 ∧ RoadKit.slotOf Z ST "value" "[B" = fV.slot ∧ RoadKit.slotOf Z ST "coder" "B" = fC.slot := by
  obtain ⟨D, cfV, kV, iV, fV, hD, gV, stV, knV, obV, asV, slV⟩ := V
  obtain ⟨D', cfC, kC, iC, fC, hD', gC, stC, -, -, asC, slC⟩ := C
  cases hD.symm.trans hD'
  obtain ⟨D2, kD, e1, e2, e3, e4, e5⟩ := E
  cases hD.symm.trans e1
  obtain ⟨c2, k2, i1, i2, i3, -⟩ := Cond.instantiable_spec wi
  cases e2.symm.trans i1
  cases e3.symm.trans i2
  obtain ⟨kU, u1, u2⟩ := al.2.2 _ _ e3
  exact ⟨D, fV, fC, ⟨hD, ⟨knV, fun q hq => by rw [hq] at obV; cases obV⟩, by rw [al.findClass]; exact e2, kU, u1, by rw [u2]; exact i3, by rw [u2]; exact e5 i3⟩, ⟨SBG.found_only al ⟨cfV, kV, iV, gV⟩, stV⟩, ⟨SBG.found_only al ⟨cfC, kC, iC, gC⟩, stC⟩, slV, slC, by simp [RoadKit.slotOf, gV], by simp [RoadKit.slotOf, gC]⟩
theorem sta_is {Z U : State} (al : Z.vm.Alike U.vm) {C n d : String} {v : Value} (S : RoadKit.Sta Z U.heap C n d v) : StaticIs U C n d v := by
  obtain ⟨cfS, iS, kS, fS, st, cS, t1, t2, t3, t4, t5, t6, t7⟩ := S
  exact StaticIs.there (s := { Z with heap := U.heap }) ⟨cfS, iS, kS, fS, st, cS, t1, t2, t3, t4, t5, (fun q => by rw [q] at t6; cases t6), t7⟩ al rfl
/-- **length() OF SUCH A STRING** -/
theorem lenW {p : Program} {l : Launch} {e : Env} {R : Room} {s : State} {args : Array Value} {below : List Frame} {len W : Nat} {Z : State} {a0 : Array Value} {h : Heap} (hZ : Z.Warmed39 s.vm) (hw : ∀ d ∈ wordsLen, d.before a0 Z = true) {kI : Nat} (wi : (Jvm.Cond.instantiable ST kI).before a0 Z = true)
    {x t : Addr} {kb : ClassId} {cs : List Int32} {cd N2 z : Int32} {vs : List Value} (E : RoadKit.Exa Z h x ST) (V : RoadKit.Fld Z h x ST "value" "[B" (.ref t)) (C : RoadKit.Fld Z h x ST "coder" "B" (.int cd)) (K : RoadKit.Arv Z h t kb .byte N2 vs (.int 0)) (hc : CodA cs cd N2 vs) (hb : ∀ c ∈ cs, ¬ c < 0 ∧ ¬ (65535 : Int32) < c)
    (S : RoadKit.Sta Z h ST "COMPACT_STRINGS" "Z" (.int z)) (hz : ¬ z = 0) (l2 : cs.length ≤ 4000) (hfr : 2 ≤ R.frames) (hlo : W + 25 ≤ R.locals) :
    Back l R p e below s args (⟨"java/lang/String", "length", "()I"⟩ : MethodName) len W (fun P a => a = #[.ref x] ∧ P.U.heap = h ∧ P.cells + 0 ≤ R.cells ∧ P.slots + 0 ≤ R.slots)
      (fun P _ v B => ∃ L, (v = some (.int (Int32.ofNat cs.length)) ∧ L = [] ∧ B.U.heap = h) ∧ B.locs = P.locs ++ L ∧ B.cells = P.cells + 0 ∧ B.slots = P.slots + 0) := by
  obtain ⟨A, K1, K2, K3, K4, K5, K6⟩ := K
  have hcod := hc.cod (by omega) K3 K5
  intro m meth c P g ig mk a X hg hsize hdg hW hn hp'
  obtain ⟨rfl, rfl, r1, r2⟩ := hp'
  have al : Z.vm.Alike P.U.vm := hZ.alike.trans X.warmed.alike
  obtain ⟨D, fV, fC, hB, F1, F2, g1, g2, -, -⟩ := strObj wi al E V C
  have hx : Txt x t A cd cs.length (fun j => cs.getD j 0) P.U := ⟨⟨_, hB.2.2.1, D, hB.1, rfl, by cases q : D.vm <;> first | rfl | exact absurd q (hB.2.1.2 _)⟩, Has.of hB F1 g1, Has.of hB F2 g2, ⟨K1.1, State.isArrayOf_alike al K1.2.1, K1.2.2, by rcases hcod with ⟨-, q, -⟩ | ⟨-, q, -⟩ <;> omega⟩, hcod, fun j hj => by
    have e : cs.getD j 0 = cs[j] := by simp [List.getD_eq_getElem?_getD, hj]
    show ¬ cs.getD j 0 < 0 ∧ ¬ 65535 < cs.getD j 0
    rw [e]; exact hb _ (List.getElem_mem _)⟩
  obtain ⟨v, B, X', ⟨⟨hv, hh⟩, hl, hk, hs⟩, st⟩ := Len.pays x t A cd cs.length (fun j => cs.getD j 0) z (tabLen_of (movedLen hZ hw)) hfr hlo m meth c P g ig mk _ X hg hsize hdg hW hn ⟨r1, r2, rfl, hx, sta_is al S, hz⟩
  exact ⟨v, B, X', ⟨[], ⟨hv, rfl, hh⟩, hl, hk, hs⟩, st⟩
end StrChars.Road
namespace StrChars.Road
open Jvm Sem ClassFile Op Lib Jvm.Stand Jvm.Free Jvm.Free.XT
open Jvm.Lib.Cold (StaticIs)
/-- the road's facts of a String, as the laws ask it -/
theorem txt_of {Z U : State} {a0 : Array Value} {kI : Nat} (wi : (Jvm.Cond.instantiable ST kI).before a0 Z = true) (al : Z.vm.Alike U.vm) {x t : Addr} {kb : ClassId} {cs : List Int32} {cd N2 : Int32} {vs : List Value} (E : RoadKit.Exa Z U.heap x ST) (V : RoadKit.Fld Z U.heap x ST "value" "[B" (.ref t)) (C : RoadKit.Fld Z U.heap x ST "coder" "B" (.int cd)) (K : RoadKit.Arv Z U.heap t kb .byte N2 vs (.int 0)) (hc : CodA cs cd N2 vs) (hb : ∀ c ∈ cs, ¬ c < 0 ∧ ¬ (65535 : Int32) < c) (l2 : cs.length ≤ 4000) :
    ∃ A, Txt x t A cd cs.length (fun j => cs.getD j 0) U := by
  obtain ⟨A, K1, K2, K3, K4, K5, K6⟩ := K
  have hcod := hc.cod (by omega) K3 K5
  obtain ⟨D, fV, fC, hB, F1, F2, g1, g2, -, -⟩ := strObj wi al E V C
  exact ⟨A, ⟨_, hB.2.2.1, D, hB.1, rfl, by cases q : D.vm <;> first | rfl | exact absurd q (hB.2.1.2 _)⟩, Has.of hB F1 g1, Has.of hB F2 g2, ⟨K1.1, State.isArrayOf_alike al K1.2.1, K1.2.2, by rcases hcod with ⟨-, q, -⟩ | ⟨-, q, -⟩ <;> omega⟩, hcod, fun j hj => by
    have e : cs.getD j 0 = cs[j] := by simp [List.getD_eq_getElem?_getD, hj]
    show ¬ cs.getD j 0 < 0 ∧ ¬ 65535 < cs.getD j 0
    rw [e]; exact hb _ (List.getElem_mem _)⟩
end StrChars.Road
namespace StrChars
open Jvm Sem ClassFile Op Lib Jvm.Stand Jvm.Free.XT Jvm.Free.ALB Jvm.Free.JM Jvm.Free
open Jvm.Lib.Cold (StaticIs)
namespace ChN
def yN : MethodName := ⟨"java/lang/String", "charAt", "(I)C"⟩
abbrev yB : ByteArray := jdk_42_method_56_code
theorem d0 : decode yB 0 = .ok (.aload_n 0, 1) := by decide +kernel
theorem d1 : decode yB 1 = .ok (.invokevirtual 492, 3) := by decide +kernel
theorem d4 : decode yB 4 = .ok (.ifCond (.eq) 12, 3) := by decide +kernel
theorem d7 : decode yB 7 = .ok (.aload_n 0, 1) := by decide +kernel
theorem d8 : decode yB 8 = .ok (.getfield 9, 3) := by decide +kernel
theorem d11 : decode yB 11 = .ok (.iload_n 1, 1) := by decide +kernel
theorem d12 : decode yB 12 = .ok (.invokestatic 495, 3) := by decide +kernel
theorem d15 : decode yB 15 = .ok (.ireturn, 1) := by decide +kernel
def site : List Cond := [.fieldLink "java/lang/String" 9 "java/lang/String" "value" "[B", IsL.tab, LChA.tab] ++ virtW "java/lang/String" 492 "java/lang/String" IsL.yN IsL.yN ++ staticW "java/lang/String" 495 LChA.yN
def tab : Cond := tabOf yN yB 2 (some .char) site
def P (x t : Addr) (V : Cell) (n : Nat) (f : Nat → Int32) (z : Int32) (fm : Value) (i : Nat) (args : Array Value) (s : State) : Prop := args = #[.ref x, .int (Int32.ofNat i)] ∧ Txt x t V 0 n f s ∧ i < n ∧ StaticIs s "java/lang/String" "COMPACT_STRINGS" "Z" (.int z) ∧ ¬ z = 0 ∧ StaticIs s "jdk/internal/util/Preconditions" "SIOOBE_FORMATTER" "Ljava/util/function/BiFunction;" fm ∧ fm.isRef = true
def E (f : Nat → Int32) (i : Nat) (r : Option Value) (s u : State) : Prop := XT.PureE (some (.int (f i))) r s u
/-- charAt(i) of a Latin-1 String of n chars, i < n: f i -/
theorem law (l : Launch) (x t : Addr) (V : Cell) (n : Nat) (f : Nat → Int32) (z : Int32) (fm : Value) (i : Nat) : Law l yN 2 1 3 40 yB 2 (some .char) site (P x t V n f z fm i) (E f i) [] 0 0 := by
  refine Law.of_walk (plainFor_of_name (by decide +kernel)) (by decide +kernel) (by decide +kernel) (by decide) (fun _ _ h => by rw [h.1]; rfl) (fun _ U U' hal hh h => ⟨h.1, h.2.1.mv hal hh, h.2.2.1, h.2.2.2.1.there hal hh, h.2.2.2.2.1, h.2.2.2.2.2.1.there hal hh, h.2.2.2.2.2.2⟩) (fun r U U' V V' h1 hal h2 h => XT.PureE.mv r U U' V V' h1 hal h2 h) ?_
  intro p e s m args below meth c s₁ X0 hexec hbytes hml hret hlk hnm hown hh0 W hP
  obtain ⟨rfl, hx, hi, s1, hz, s3, rf⟩ := hP
  have v31 := hx.2.2.2.1.2.2.2
  have hr := hx.2.2.2.2.2 i hi
  have hx0 := hx.mv X0.warmed.alike hh0
  have c1 : Steps p.tables e below (s₁.setTop (entryFrame m #[.ref x, .int (Int32.ofNat i)] 2)) (s₁.setTop (mkF m 1 #[.val (.ref x), .val (.int (Int32.ofNat i))] [.ref x])) := Steps.trans (entry rfl) (by
    show Steps p.tables e below (s₁.setTop (mkF m 0 #[.val (.ref x), .val (.int (Int32.ofNat i))] [])) _
    refine XS.aloadN X0.here hexec rfl (hb hbytes d0) rfl rfl ?_
    exact Steps.refl _)
  obtain ⟨v2, T2, X2, E2, g2⟩ := X0.callV hexec (IsL.law l x 0 z) hown (wks W (virtW "java/lang/String" 492 "java/lang/String" IsL.yN IsL.yN)) rfl (by decide) (wk W IsL.tab) (W := 0) (Nat.le_of_ble_eq_true rfl) (Nat.le_of_ble_eq_true rfl) (Nat.le_refl _) (Nat.le_refl _) (hx0.1.fc X0.warmed.alike) hx0.1.is (g := (mkF m 1 #[.val (.ref x), .val (.int (Int32.ofNat i))] [.ref x])) rfl (by rw [hml]; rfl) c1 (argsL := []) (rest := []) rfl rfl (by show 2 * 0 + 0 ≤ _; decide) (hb hbytes d1) (⟨rfl, hx0.2.2.1, hx.2.2.2.2.1.cd, s1.there X0.warmed.alike hh0, hz⟩)
  obtain ⟨rfl, q2⟩ := E2
  have hh2 := q2.trans hh0
  have hx2 := hx.mv X2.warmed.alike hh2
  obtain ⟨-, k1, k2⟩ | ⟨k0, -⟩ := hx.2.2.2.2.1
  · have c3 : Steps p.tables e below (s₁.setTop (entryFrame m #[.ref x, .int (Int32.ofNat i)] 2)) (T2.setTop (mkF m 8 #[.val (.ref x), .val (.int (Int32.ofNat i))] [.ref x])) := Steps.trans g2 (by
      refine XS.ifNo X2.here hexec rfl (hb hbytes d4) rfl (i0_eq_f (by decide)) ?_
      refine XS.aloadN X2.here hexec rfl (hb hbytes d7) rfl rfl ?_
      exact Steps.refl _)
    obtain ⟨T4, X4, q4, st4⟩ := X2.hget hexec hown (wk W (.fieldLink "java/lang/String" 9 "java/lang/String" "value" "[B")) hx2.2.1 (g := (mkF m 8 #[.val (.ref x), .val (.int (Int32.ofNat i))] [.ref x])) rfl (rest := []) rfl (hb hbytes d8)
    have hh4 := q4.trans hh2
    have c5 : Steps p.tables e below (s₁.setTop (entryFrame m #[.ref x, .int (Int32.ofNat i)] 2)) (T4.setTop (mkF m 12 #[.val (.ref x), .val (.int (Int32.ofNat i))] [.int (Int32.ofNat i), .ref t])) := (c3.trans (st4 _ (Steps.refl _))).trans (by
      refine XS.iloadN X4.here hexec rfl (hb hbytes d11) rfl ?_
      exact Steps.refl _)
    obtain ⟨v6, T6, X6, E6, g6⟩ := X4.callS hexec (LChA.law l t V i (lo8 (f i)) fm) hown (wks W (staticW "java/lang/String" 495 LChA.yN)) (wk W LChA.tab) (W := 0) (Nat.le_of_ble_eq_true rfl) (Nat.le_of_ble_eq_true rfl) (Nat.le_refl _) (Nat.le_refl _) (g := (mkF m 12 #[.val (.ref x), .val (.int (Int32.ofNat i))] [.int (Int32.ofNat i), .ref t])) rfl (by rw [hml]; rfl) c5 (argsL := [.ref t, .int (Int32.ofNat i)]) (rest := []) rfl rfl (by show 2 * 0 + 0 ≤ _; decide) (hb hbytes d12) (⟨rfl, hx.2.2.2.1.mv X4.warmed.alike hh4, (k2 i hi).1, s3.there X4.warmed.alike hh4, rf⟩)
    obtain ⟨rfl, q6⟩ := E6
    rw [chr8_lo8 hr.1 (k2 i hi).2] at g6
    exact ⟨T6, some (.int (f i)), _, _, _, X6, rfl, rfl, rfl, (fun h => by cases h), ⟨rfl, q6.trans hh4⟩, fun fs hl => Steps.trans g6 (X6.ireturnOut hexec hret (narrow_ch hr.1 hr.2) (Or.inr (Or.inr (Or.inr (Or.inl rfl)))) (hb hbytes d15) hl)⟩
  · exact absurd k0 (by decide)
theorem pays {l : Launch} {R : Room} {p : Program} {e : Env} {below : List Frame} {s : State} {sargs : Array Value} {len W : Nat} (x t : Addr) (V : Cell) (n : Nat) (f : Nat → Int32) (z : Int32) (fm : Value) (i : Nat) (htab : tab.before sargs s = true) (hfr : 4 ≤ R.frames) (hlo : W + 53 ≤ R.locals) :
    Back l R p e below s sargs yN len W (fun A₁ a₁ => A₁.cells + 0 ≤ R.cells ∧ A₁.slots + 0 ≤ R.slots ∧ P x t V n f z fm i a₁ A₁.U) (fun A₁ _ v₁ B₁ => E f i v₁ A₁.U B₁.U ∧ B₁.locs = A₁.locs ++ [] ∧ B₁.cells = A₁.cells + 0 ∧ B₁.slots = A₁.slots + 0) :=
  (law l x t V n f z fm i).pays htab hfr (by omega)
end ChN
end StrChars
namespace StrChars.Road
open Jvm Sem ClassFile Op Lib Jvm.Stand Jvm.Free Jvm.Free.XT
open Jvm.Lib.Cold (StaticIs)
/-- the words of String.charAt(int), the Latin-1 road alone -/
abbrev wordsChN : List Jvm.Cond := [.code ChN.yN ChN.yB 2 (some .char), .initialized ST, .fieldLink ST 9 ST "value" "[B", .fieldLink ST 38 ST "COMPACT_STRINGS" "Z", .fieldLink ST 15 ST "coder" "B", .code IsL.yN IsL.yB 1 (some .boolean), .methodLink ST 492 IsL.yN, .declares IsL.yN, .selects ST IsL.yN IsL.yN, .instanceMethod IsL.yN,
  .methodLink ST 495 LChA.yN, .static LChA.yN, .code LChA.yN LChA.yB 2 (some .char), .initialized "java/lang/StringLatin1", .methodLink "java/lang/StringLatin1" 9 JO.Str_checkIndex.yN, .static JO.Str_checkIndex.yN, .code JO.Str_checkIndex.yN JO.Str_checkIndex.yB 2 none,
  .fieldLink ST 1053 "jdk/internal/util/Preconditions" "SIOOBE_FORMATTER" "Ljava/util/function/BiFunction;", .methodLink ST 1059 JC.PreCheck.yN, .static JC.PreCheck.yN, .code JC.PreCheck.yN JC.PreCheck.yB 3 (some .int), .initialized "jdk/internal/util/Preconditions"]
theorem tabChN_of {a : Array Value} {s : State} (h : ∀ w ∈ wordsChN, w.before a s = true) : ChN.tab.before a s = true := by
  have hp : JC.PreCheck.tab.before a s = true := unparts (wk h (.code JC.PreCheck.yN JC.PreCheck.yB 3 (some .int))) (wks h (.initialized JC.PreCheck.yN.cls :: JC.PreCheck.site))
  have qk := consq hp h
  have hk : JO.Str_checkIndex.tab.before a s = true := unparts (wk qk (.code JO.Str_checkIndex.yN JO.Str_checkIndex.yB 2 none)) (wks qk (.initialized JO.Str_checkIndex.yN.cls :: JO.Str_checkIndex.site))
  have ql := consq hk h
  have hl : LChA.tab.before a s = true := unparts (wk ql (.code LChA.yN LChA.yB 2 (some .char))) (wks ql (.initialized LChA.yN.cls :: LChA.site))
  have hi : IsL.tab.before a s = true := unparts (wk h (.code IsL.yN IsL.yB 1 (some .boolean))) (wks h (.initialized IsL.yN.cls :: IsL.site))
  have q := consq hi (consq hl h)
  exact unparts (wk q (.code ChN.yN ChN.yB 2 (some .char))) (wks q (.initialized ChN.yN.cls :: ChN.site))
theorem movedChN {Z s : State} {a0 args : Array Value} (hZ : Z.Warmed39 s.vm) (hw : ∀ d ∈ wordsChN, d.before a0 Z = true) : ∀ d ∈ wordsChN, d.before args s = true := fun d hd => by
  have t : ∀ d ∈ wordsChN, (d.onTables && d.keepsFace) = true := by decide +kernel
  exact RoadKit.mv hZ (hw d hd) (t d hd)
/-- **charAt(i) OF A LATIN-1 STRING**, i < n: the char -/
theorem chN {p : Program} {l : Launch} {e : Env} {R : Room} {s : State} {args : Array Value} {below : List Frame} {len W : Nat} {Z : State} {a0 : Array Value} {h : Heap} (hZ : Z.Warmed39 s.vm) (hw : ∀ d ∈ wordsChN, d.before a0 Z = true) {kI : Nat} (wi : (Jvm.Cond.instantiable ST kI).before a0 Z = true)
    {x t : Addr} {kb : ClassId} {cs : List Int32} {N2 z : Int32} {vs : List Value} {fm : Value} {i : Nat} {j : Int32} (E : RoadKit.Exa Z h x ST) (V : RoadKit.Fld Z h x ST "value" "[B" (.ref t)) (C : RoadKit.Fld Z h x ST "coder" "B" (.int 0)) (K : RoadKit.Arv Z h t kb .byte N2 vs (.int 0)) (hc : CodA cs 0 N2 vs) (hb : ∀ c ∈ cs, ¬ c < 0 ∧ ¬ (65535 : Int32) < c)
    (S : RoadKit.Sta Z h ST "COMPACT_STRINGS" "Z" (.int z)) (hz : ¬ z = 0) (F : RoadKit.Sta Z h "jdk/internal/util/Preconditions" "SIOOBE_FORMATTER" "Ljava/util/function/BiFunction;" fm) (rf : fm.isRef = true) (l2 : cs.length ≤ 4000) (hi : i < cs.length) (hj : j = Int32.ofNat i) (hfr : 4 ≤ R.frames) (hlo : W + 53 ≤ R.locals) :
    Back l R p e below s args (⟨"java/lang/String", "charAt", "(I)C"⟩ : MethodName) len W (fun P a => a = #[.ref x, .int j] ∧ P.U.heap = h ∧ P.cells + 0 ≤ R.cells ∧ P.slots + 0 ≤ R.slots)
      (fun P _ v B => ∃ L, (v = some (.int (cs.getD i 0)) ∧ L = [] ∧ B.U.heap = h) ∧ B.locs = P.locs ++ L ∧ B.cells = P.cells + 0 ∧ B.slots = P.slots + 0) := by
  subst hj
  intro m meth c P g ig mk a X hg hsize hdg hW hn hp'
  obtain ⟨rfl, rfl, r1, r2⟩ := hp'
  have al : Z.vm.Alike P.U.vm := hZ.alike.trans X.warmed.alike
  obtain ⟨A, hx⟩ := txt_of wi al E V C K hc hb l2
  obtain ⟨v, B, X', ⟨⟨hv, hh⟩, hl, hk, hs⟩, st⟩ := ChN.pays x t A cs.length (fun j => cs.getD j 0) z fm i (tabChN_of (movedChN hZ hw)) hfr hlo m meth c P g ig mk _ X hg hsize hdg hW hn ⟨r1, r2, rfl, hx, hi, sta_is al S, hz, sta_is al F, rf⟩
  exact ⟨v, B, X', ⟨[], ⟨hv, rfl, hh⟩, hl, hk, hs⟩, st⟩
/-- what backV says of its String, as the contracts of this text ask it: cs's low bytes, coder 0 -/
theorem codOf {cs : List Int32} {n : Nat} (hn : cs.length = n) (hb : ∀ c ∈ cs, ¬ 255 < c) : CodA cs 0 (Int32.ofNat n) ((cs.map lo8).map Value.int) := Or.inl ⟨rfl, by rw [hn], by simp [List.map_map, Function.comp_def], hb⟩
end StrChars.Road
end Jvm.Pilot.@@N@@
namespace Jvm.Pilot.@@N@@
open Jvm Jvm.ClassFile Sem Op Lib Jvm.Free Jvm.Stand Jvm.LawKit Jvm.RoadKit Bundle Jvm.Pilot.@@N@@.Jvm.D
theorem own_selp {s : State} {args : Array Value} {C : String} {y : MethodName} (h : (Cond.selects C y y).before args s = true) (hpriv : s.PrivateAt y) (hinst : (Cond.instanceMethod y).before args s = true) (hy : y.cls ≠ "java/lang/invoke/MethodHandle" ∧ y.cls ≠ "java/lang/invoke/VarHandle") :
    (Cond.selects y.cls y y).before args s = true := by
  obtain ⟨c, r, mm, -, hr, hm, -, mk, hmk, hni⟩ := Cond.selects_spec h
  obtain ⟨mk', methM, hnamed, hmethM, -, -⟩ := Cond.instanceMethod_spec hinst
  cases hm.symm.trans hnamed
  have hfound : s.methodFound? y.cls y.name y.desc = some mm := State.methodFound?_of_named hnamed hy
  have hsel : selectMethod {} s.vm mm.cls mm = .method mm := selectMethod_private hmethM (hpriv mm methM hnamed hmethM)
  simp only [Cond.before, Cond.holds, Cond.value, findClass_of_methodNamed hnamed, hfound, hnamed, hsel, hmk]
  simp; exact hni
theorem own_nf {s : State} {a0 : Array Value} {y y' : MethodName} (h : NotFace s y) (hd : (Jvm.Cond.declares y).before a0 s = true) (e : y.cls = y'.cls) : NotFace s y' := fun r0 h0 => by
  obtain ⟨m, meth, hn, -, -, -⟩ := Cond.declares_spec hd
  obtain ⟨kr, hk, hi⟩ := h m hn
  have a := findClass_of_methodNamed hn
  have b := findClass_of_methodNamed h0
  rw [e] at a
  have c := Option.some.inj (a.symm.trans b)
  exact ⟨kr, by rw [← c]; exact hk, hi⟩
theorem own_same {Z : State} {a0 : Array Value} {y : MethodName} (hf : NotFace Z y) (h : (Jvm.Cond.declares y).before a0 Z = true) (hy : y.cls ≠ "java/lang/invoke/MethodHandle" ∧ y.cls ≠ "java/lang/invoke/VarHandle") : (Jvm.Cond.sameMethod y.cls y.cls y.name y.desc).before a0 Z = true := by
  obtain ⟨m, meth, hn, hm, -, -⟩ := Cond.declares_spec h
  have hfc := findClass_of_methodNamed hn
  have hfo := State.methodFound?_of_named hn hy
  have hn' : Z.methodNamed? ⟨y.cls, y.name, y.desc⟩ = some m := hn
  obtain ⟨kr, hk, hi⟩ := hf m hn
  simp [Cond.before, Cond.holds, Cond.value, hfc, hfo, hn', hk, hi]
theorem own_wd {Z : State} {a0 : Array Value} (hw : ∀ d ∈ tables_1, d.before a0 Z = true) (i : Nat) {d : Jvm.Cond} (h : tables_1[i]? = some d) : d.before a0 Z = true := hw _ (List.mem_of_getElem? h)
def own_b (P : Prop) [Decidable P] : Int32 := if P then (1 : Int32) else (0 : Int32)
theorem own_bt {P : Prop} [Decidable P] (h : P) : own_b P = (1 : Int32) := if_pos h
theorem own_bf {P : Prop} [Decidable P] (h : ¬ P) : own_b P = (0 : Int32) := if_neg h
theorem own_btn {P : Prop} [Decidable P] (h : P) : ¬ (own_b P = (0 : Int32)) := by rw [own_bt h]; decide
theorem own_bfn {P : Prop} [Decidable P] (h : ¬ P) : ¬ (own_b P = (1 : Int32)) := by rw [own_bf h]; decide
theorem own_b_congr {P Q : Prop} [Decidable P] [Decidable Q] (h : P ↔ Q) : own_b P = own_b Q := by
  by_cases q : P
  · rw [own_bt q, own_bt (h.mp q)]
  · rw [own_bf q, own_bf fun z => q (h.mpr z)]
theorem own_eqI {args : Array Value} {s : State} {t : Term} {k : Int32} (h : (Jvm.Cond.eq t (.int k)).value args s none s [] = some true) : t.eval args s none [] s = some (.int k) := by
  obtain ⟨x, y, h1, h2, -, h4⟩ := cmp_v (Or.inl h)
  cases Option.some.inj (h2.symm.trans (Term.int_eval k))
  obtain ⟨z, rfl⟩ := h4
  rw [h1, gotT (Cond.eq_ints h1 h2) h]
theorem own_eqR {args : Array Value} {s : State} {t u : Term} {y : Addr} (hu : u.eval args s none [] s = some (.ref y)) (h : (Jvm.Cond.eq t u).value args s none s [] = some true) : t.eval args s none [] s = some (.ref y) := by
  obtain ⟨x, y', h1, h2, -, h4⟩ := cmp_v (Or.inl h)
  cases Option.some.inj (h2.symm.trans hu)
  rw [h1, gotT (eq_R h1 h2 h4.2 rfl) h]
theorem own_len {args : Array Value} {s : State} {t : Term} {a : Addr} {cl : Cell} {ty : FieldType} {k : Int32} (ev : t.eval args s none [] s = some (.ref a)) (A : Arr s s.heap a cl ty) (h : (Term.length t).eval args s none [] s = some (.int k)) : cl.slots.size < 2 ^ 31 ∧ cl.slots.size.toInt32 = k := by
  have ha : s.arrayAt? a = some cl := A.fin (Vm.Alike.refl _)
  by_cases hl : cl.slots.size < 2 ^ 31
  · rw [len_f ev ha hl] at h
    exact ⟨hl, by simpa using h⟩
  · simp [Term.eval, ev, ha, hl] at h
theorem own_eqL {args : Array Value} {s : State} {t : Term} {k : Int64} (h : (Jvm.Cond.eq t (.long k)).value args s none s [] = some true) : t.eval args s none [] s = some (.long k) := by
  obtain ⟨x, y, h1, h2, -, h4⟩ := cmp_v (Or.inl h)
  cases Option.some.inj (h2.symm.trans (long_at k))
  obtain ⟨z, rfl⟩ := h4
  rw [h1, gotT (eq_L h1 h2) h]
def own_EL : List (String × Nat) := [("com/example/derive/derive/LikeWildcards", 53)]
theorem own_EW {Z : State} {a0 : Array Value} (hw : ∀ d ∈ tables_1, d.before a0 Z = true) : EW Z a0 own_EL := (EW.cons (hw _ (List.mem_of_getElem? (i := 140) rfl)) (by decide +kernel) EW.nil)
set_option maxRecDepth 65536 in
theorem own_wS {Z : State} {a0 : Array Value} (hw : ∀ d ∈ tables_1, d.before a0 Z = true) : ∀ d ∈ Bundle.stringAtoms, d.before a0 Z = true := fun d hd => hw d ((by decide +kernel : ∀ d ∈ Bundle.stringAtoms, d ∈ tables_1) d hd)
theorem own_chr (x : Int32) : ¬ ((x &&& (255 : Int32)).toUInt32.toUInt16.toUInt32.toInt32).toUInt32.toUInt16.toUInt32.toInt32 < 0 ∧ ¬ (255 : Int32) < ((x &&& (255 : Int32)).toUInt32.toUInt16.toUInt32.toInt32).toUInt32.toUInt16.toUInt32.toInt32 := by
  have h1 := c_and x 255 (by decide)
  have h2 := c_i2c (x &&& (255 : Int32))
  have h3 := c_i2c ((x &&& (255 : Int32)).toUInt32.toUInt16.toUInt32.toInt32)
  have e1 : (255 : Int32).toInt = 255 := by decide
  have e0 : (0 : Int32).toInt = 0 := by decide
  simp only [Int32.lt_iff_toInt_lt, e1, e0] at *
  omega
theorem own_up (cs : List Int32) (h : ∀ c ∈ cs, ¬ c < 0 ∧ ¬ (255 : Int32) < c) : ∀ c ∈ cs, ¬ c < 0 ∧ ¬ (65535 : Int32) < c := fun c hc => ⟨(h c hc).1, fun q => (h c hc).2 (by rw [Int32.lt_iff_toInt_lt] at q ⊢; have e1 : (65535 : Int32).toInt = 65535 := rfl; have e2 : (255 : Int32).toInt = 255 := rfl; omega)⟩
set_option maxRecDepth 65536 in
theorem own_hws {Z : State} {a0 : Array Value} (hw : ∀ d ∈ tables_1, d.before a0 Z = true) : ∀ d ∈ StrChars.Road.words, d.before a0 Z = true := fun d hd => hw d ((by decide +kernel : ∀ d ∈ StrChars.Road.words, d ∈ tables_1) d hd)
set_option maxRecDepth 65536 in
theorem own_hln {Z : State} {a0 : Array Value} (hw : ∀ d ∈ tables_1, d.before a0 Z = true) : ∀ d ∈ StrChars.Road.wordsLen, d.before a0 Z = true := fun d hd => hw d ((by decide +kernel : ∀ d ∈ StrChars.Road.wordsLen, d ∈ tables_1) d hd)
set_option maxRecDepth 65536 in
theorem own_hch {Z : State} {a0 : Array Value} (hw : ∀ d ∈ tables_1, d.before a0 Z = true) : ∀ d ∈ StrChars.Road.wordsChN, d.before a0 Z = true := fun d hd => hw d ((by decide +kernel : ∀ d ∈ StrChars.Road.wordsChN, d ∈ tables_1) d hd)
theorem own_b_of {P : Prop} [Decidable P] (h : ¬ (own_b P = (0 : Int32))) : P := Decidable.byContradiction fun q => h (own_bf q)
theorem own_b_not {P : Prop} [Decidable P] (h : own_b P = (0 : Int32)) : ¬ P := fun q => own_btn q h
theorem own_safe_blank {Z : State} {EL : List (String × Nat)} {vm : Vm} {h : Heap} {x : Addr} (hal : Z.vm.Alike vm) (E : Exa Z h x "java/lang/String") (F : Fld Z h x "java/lang/String" "value" "[B" .null) : Safe Z EL vm h x := fun B => by
  obtain ⟨p, -, u, a, -, q, -, G, rfl | rfl⟩ := B
  · obtain ⟨cell, cf, k, i, f, e1, e2, -, -, -, -, e7⟩ := F
    cases (show h[q.sa]? = some q.sC from G.ha).symm.trans e1
    obtain ⟨cS, ⟨⟨-, -, -, ⟨c1, k1, i1, f1, -⟩, -, -, -, v1, -⟩, -⟩, -⟩ := G
    obtain ⟨k3, e3, -⟩ := State.fieldFound?_setVm (s := ({ Z with heap := h } : State)) hal (show ({ Z with heap := h } : State).fieldFound? _ _ _ = _ from e2)
    have e4 := (show (Wst Z vm h).fieldFound? _ _ _ = _ from e3).symm.trans f1
    simp only [Option.some.injEq, Prod.mk.injEq] at e4
    rw [← e4.2.2.2, e7] at v1
    simp at v1
  · obtain ⟨cell, k, e1, e2, e3, -, -⟩ := E
    cases (show h[q.sd]? = some q.SA from G.hd).symm.trans e1
    obtain ⟨cS, -, -, f, -⟩ := G
    have f' : vm.findClass "[B" = some q.SA.cls := f
    rw [hal.findClass] at f'
    obtain ⟨k1, q1, q2⟩ := Vm.findClass_spec f'
    obtain ⟨k2, q3, q4⟩ := Vm.findClass_spec e2
    cases q1.symm.trans q3
    exact absurd (q2.symm.trans q4) (by decide)
theorem own_i2c {x : Int32} (h0 : ¬ (x < (0 : Int32))) (h1 : ¬ ((255 : Int32) < x)) : x.toUInt32.toUInt16.toUInt32.toInt32 = x := by
  have h2 := c_i2c x
  have e1 : (255 : Int32).toInt = 255 := by decide
  have e0 : (0 : Int32).toInt = 0 := by decide
  simp only [Int32.lt_iff_toInt_lt, ← Int32.toInt_inj, e1, e0] at *
  omega
theorem own_cc (x : Int32) : (x.toUInt32.toUInt16.toUInt32.toInt32).toUInt32.toUInt16.toUInt32.toInt32 = x.toUInt32.toUInt16.toUInt32.toInt32 := by
  have h2 := c_i2c x
  have h3 := c_i2c (x.toUInt32.toUInt16.toUInt32.toInt32)
  simp only [← Int32.toInt_inj] at *
  omega

theorem d11_0 : decode jdk_42_method_152_code 0 = .ok (.getstatic 38, 3) := by decide +kernel
theorem d11_3 : decode jdk_42_method_152_code 3 = .ok (.ifCond .eq 10, 3) := by decide +kernel
theorem d11_6 : decode jdk_42_method_152_code 6 = .ok (.aload_n 0, 1) := by decide +kernel
theorem d11_7 : decode jdk_42_method_152_code 7 = .ok (.getfield 15, 3) := by decide +kernel
theorem d11_10 : decode jdk_42_method_152_code 10 = .ok (.goto 4, 3) := by decide +kernel
theorem d11_14 : decode jdk_42_method_152_code 14 = .ok (.ireturn, 1) := by decide +kernel
theorem pn_java_lang_String : plainName "java/lang/String" = true := by first | (simp [plainName, overriddenIn]; done) | decide +kernel
theorem ef11 (m : MethodId) (tz : Addr) : entryFrame m #[(.ref tz)] 1 = mkF m 0 #[.val (.ref tz)] [] := by first | (simp [entryFrame, mkF, argsToLocals, Value.category]; done) | rfl
def Q11 (Z : State) (tz : Addr) (st_COMPACT_STRINGS : Int32) (h0 : Heap) (n0 : Nat) (v : Option Value) (h : Heap) (L : List Loc) : Prop := v = some (.int (0 : Int32)) ∧ Fr n0 L ∧ h = h0
set_option maxRecDepth 65536 in
set_option maxHeartbeats 40000000 in
theorem rm11 (l : Launch) (Z : State) (a0 : Array Value) (hw : ∀ d ∈ tables_1, d.before a0 Z = true) (ws : List Jvm.Cond) (tz : Addr) (st_COMPACT_STRINGS : Int32) (h0 : Heap) (n0 : Nat) (Z0 : n0 ≤ h0.size) (O0 : Old Z n0 h0) (F_tz_coder : Fld Z h0 tz "java/lang/String" "coder" "B" (.int (0 : Int32))) (S_COMPACT_STRINGS : Sta Z Z.heap "java/lang/String" "COMPACT_STRINGS" "Z" (.int st_COMPACT_STRINGS)) (hcomp : ¬ (st_COMPACT_STRINGS = (0 : Int32))) :
    MetFree l (⟨"java/lang/String", "coder", "()B"⟩ : MethodName) (head1 (Jvm.Cond.code (⟨"java/lang/String", "coder", "()B"⟩ : MethodName) jdk_42_method_152_code 1 (some .byte) :: ws) ({ frames := 0, cells := 0, slots := 0, locals := 0 } : Room)) (fun a U => a = #[(.ref tz)] ∧ Z.Warmed39 U.vm ∧ U.heap = h0) (fun _ _ _ _ _ => True) (fun _ U o U' => ∃ v L, o = .returned v ∧ Q11 Z tz st_COMPACT_STRINGS h0 n0 v U'.heap L ∧ FrameEnd U o U' L ({ frames := 0, cells := 0, slots := 0, locals := 0 } : Room).cells ({ frames := 0, cells := 0, slots := 0, locals := 0 } : Room).slots) := by
  refine MetFree.of_bodySF (plainFor_of_name pn_java_lang_String) hisR ?_
  intro p e s m args below meth c s₁ Bd hml0 hP hK
  obtain ⟨rfl, hZ, hh⟩ := hP
  have hx := Bd.exec
  have hby := Bd.bytes
  have hml : c.maxLocals = 1 := hml0
  have hown : s.vm.findClass "java/lang/String" = some m.cls := findClass_of_methodNamed Bd.named
  have hnm := (name_of_methodNamed Bd.named Bd.method).1
  have X0 : Stand p l e ({ frames := 0, cells := 0, slots := 0, locals := 0 } : Room) s m #[(.ref tz)] below meth c s₁ [] 0 0 := Stand.of_body Bd
  have e0 : s₁.heap = h0 := by rw [← hh, Bd.state]; rfl
  have N0 := Fr.nil n0
  have K0 : Keep h0 h0 [] := Keep.refl _ _
  have pre0 : ∀ t, Steps p.tables e below (s₁.setTop (mkF m 0 #[.val (.ref tz)] [])) t → Steps p.tables e below (s₁.setTop (entryFrame m #[(.ref tz)] 1)) t := fun t k => castTop (ef11 m tz) k
  obtain ⟨T1, X1, e1, st1⟩ := getS2 X0 hx hZ hown (host := "") (Or.inl (own_wd hw 14 rfl)) Via.refl e0 (S_COMPACT_STRINGS.ext O0.2) (g := (mkF m 0 #[.val (.ref tz)] [])) rfl (hb hby d11_0)
  obtain ⟨T2, X2, e2, st2⟩ := getF X1 hx hZ hown (host := "") (Or.inl (own_wd hw 26 rfl)) Via.refl e1 F_tz_coder (g := (mkF m 7 #[.val (.ref tz)] [(.ref tz)])) rfl rfl (hb hby d11_7)
  obtain ⟨fs, hr, hrun, hended, hW, hsame⟩ := X2.leave (v := some (.int (0 : Int32))) (fun h => by rw [Bd.returns] at h; cases h)
  refine ⟨_, _, pre0 _ ?_, hrun, hended, _, _, rfl, ?_, ⟨_, rfl⟩, hW, hsame.mono (by decide) (by decide)⟩
  · show Steps p.tables e below (s₁.setTop (mkF m 0 #[.val (.ref tz)] [])) _
    refine st1 _ ?_
    show Steps p.tables e below (T1.setTop (mkF m 3 #[.val (.ref tz)] [(.int st_COMPACT_STRINGS)])) _
    refine XS.ifNo X1.here hx rfl (hb hby d11_3) rfl ((if0 _ _).trans (feq hcomp).1) ?_
    refine XS.aloadN X1.here hx rfl (hb hby d11_6) rfl rfl ?_
    show Steps p.tables e below (T1.setTop (mkF m 7 #[.val (.ref tz)] [(.ref tz)])) _
    refine st2 _ ?_
    show Steps p.tables e below (T2.setTop (mkF m 10 #[.val (.ref tz)] [(.int (0 : Int32))])) _
    refine XS.goto X2.here hx rfl (pc0 := 10) (pc' := 14) rfl (hb hby d11_10) (by decide) (by decide) ?_
    show Steps p.tables e below (T2.setTop (mkF m 14 #[.val (.ref tz)] [(.int (0 : Int32))])) _
    exact retN X2 hx (t := .byte) Bd.returns (by simp) (hb hby d11_14) hr
  · show Q11 Z tz st_COMPACT_STRINGS h0 n0 _ T2.heap _
    rw [e2]
    exact ⟨rfl, N0, rfl⟩
theorem d31_0 : decode jdk_68_method_68_code 0 = .ok (.getstatic 18, 3) := by decide +kernel
theorem d31_3 : decode jdk_68_method_68_code 3 = .ok (.ifCond .eq 14, 3) := by decide +kernel
theorem d31_6 : decode jdk_68_method_68_code 6 = .ok (.aload_n 0, 1) := by decide +kernel
theorem d31_7 : decode jdk_68_method_68_code 7 = .ok (.getfield 22, 3) := by decide +kernel
theorem d31_10 : decode jdk_68_method_68_code 10 = .ok (.ifCond .ne 7, 3) := by decide +kernel
theorem d31_13 : decode jdk_68_method_68_code 13 = .ok (.iconst 1, 1) := by decide +kernel
theorem d31_14 : decode jdk_68_method_68_code 14 = .ok (.goto 4, 3) := by decide +kernel
theorem d31_18 : decode jdk_68_method_68_code 18 = .ok (.ireturn, 1) := by decide +kernel
theorem pn_java_lang_AbstractStringBuilder : plainName "java/lang/AbstractStringBuilder" = true := by first | (simp [plainName, overriddenIn]; done) | decide +kernel
theorem ef31 (m : MethodId) (tz : Addr) : entryFrame m #[(.ref tz)] 1 = mkF m 0 #[.val (.ref tz)] [] := by first | (simp [entryFrame, mkF, argsToLocals, Value.category]; done) | rfl
def Q31 (Z : State) (tz : Addr) (st_COMPACT_STRINGS : Int32) (h0 : Heap) (n0 : Nat) (v : Option Value) (h : Heap) (L : List Loc) : Prop := v = some (.int (1 : Int32)) ∧ Fr n0 L ∧ h = h0
set_option maxRecDepth 65536 in
set_option maxHeartbeats 40000000 in
theorem rm31 (l : Launch) (Z : State) (a0 : Array Value) (hw : ∀ d ∈ tables_1, d.before a0 Z = true) (ws : List Jvm.Cond) (tz : Addr) (st_COMPACT_STRINGS : Int32) (h0 : Heap) (n0 : Nat) (Z0 : n0 ≤ h0.size) (O0 : Old Z n0 h0) (F_tz_coder : Fld Z h0 tz "java/lang/AbstractStringBuilder" "coder" "B" (.int (0 : Int32))) (S_COMPACT_STRINGS : Sta Z Z.heap "java/lang/String" "COMPACT_STRINGS" "Z" (.int st_COMPACT_STRINGS)) (hcomp : ¬ (st_COMPACT_STRINGS = (0 : Int32))) :
    MetFree l (⟨"java/lang/AbstractStringBuilder", "isLatin1", "()Z"⟩ : MethodName) (head1 (Jvm.Cond.code (⟨"java/lang/AbstractStringBuilder", "isLatin1", "()Z"⟩ : MethodName) jdk_68_method_68_code 1 (some .boolean) :: ws) ({ frames := 0, cells := 0, slots := 0, locals := 0 } : Room)) (fun a U => a = #[(.ref tz)] ∧ Z.Warmed39 U.vm ∧ U.heap = h0) (fun _ _ _ _ _ => True) (fun _ U o U' => ∃ v L, o = .returned v ∧ Q31 Z tz st_COMPACT_STRINGS h0 n0 v U'.heap L ∧ FrameEnd U o U' L ({ frames := 0, cells := 0, slots := 0, locals := 0 } : Room).cells ({ frames := 0, cells := 0, slots := 0, locals := 0 } : Room).slots) := by
  refine MetFree.of_bodySF (plainFor_of_name pn_java_lang_AbstractStringBuilder) hisR ?_
  intro p e s m args below meth c s₁ Bd hml0 hP hK
  obtain ⟨rfl, hZ, hh⟩ := hP
  have hx := Bd.exec
  have hby := Bd.bytes
  have hml : c.maxLocals = 1 := hml0
  have hown : s.vm.findClass "java/lang/AbstractStringBuilder" = some m.cls := findClass_of_methodNamed Bd.named
  have hnm := (name_of_methodNamed Bd.named Bd.method).1
  have X0 : Stand p l e ({ frames := 0, cells := 0, slots := 0, locals := 0 } : Room) s m #[(.ref tz)] below meth c s₁ [] 0 0 := Stand.of_body Bd
  have e0 : s₁.heap = h0 := by rw [← hh, Bd.state]; rfl
  have N0 := Fr.nil n0
  have K0 : Keep h0 h0 [] := Keep.refl _ _
  have pre0 : ∀ t, Steps p.tables e below (s₁.setTop (mkF m 0 #[.val (.ref tz)] [])) t → Steps p.tables e below (s₁.setTop (entryFrame m #[(.ref tz)] 1)) t := fun t k => castTop (ef31 m tz) k
  obtain ⟨T3, X3, e3, st3⟩ := getS2 X0 hx hZ hown (host := "") (Or.inl (own_wd hw 97 rfl)) Via.refl e0 (S_COMPACT_STRINGS.ext O0.2) (g := (mkF m 0 #[.val (.ref tz)] [])) rfl (hb hby d31_0)
  obtain ⟨T4, X4, e4, st4⟩ := getF X3 hx hZ hown (host := "") (Or.inl (own_wd hw 100 rfl)) Via.refl e3 F_tz_coder (g := (mkF m 7 #[.val (.ref tz)] [(.ref tz)])) rfl rfl (hb hby d31_7)
  obtain ⟨fs, hr, hrun, hended, hW, hsame⟩ := X4.leave (v := some (.int (1 : Int32))) (fun h => by rw [Bd.returns] at h; cases h)
  refine ⟨_, _, pre0 _ ?_, hrun, hended, _, _, rfl, ?_, ⟨_, rfl⟩, hW, hsame.mono (by decide) (by decide)⟩
  · show Steps p.tables e below (s₁.setTop (mkF m 0 #[.val (.ref tz)] [])) _
    refine st3 _ ?_
    show Steps p.tables e below (T3.setTop (mkF m 3 #[.val (.ref tz)] [(.int st_COMPACT_STRINGS)])) _
    refine XS.ifNo X3.here hx rfl (hb hby d31_3) rfl ((if0 _ _).trans (feq hcomp).1) ?_
    refine XS.aloadN X3.here hx rfl (hb hby d31_6) rfl rfl ?_
    show Steps p.tables e below (T3.setTop (mkF m 7 #[.val (.ref tz)] [(.ref tz)])) _
    refine st4 _ ?_
    show Steps p.tables e below (T4.setTop (mkF m 10 #[.val (.ref tz)] [(.int (0 : Int32))])) _
    refine XS.ifNo X4.here hx rfl (hb hby d31_10) rfl ((if0 _ _).trans (teq (by decide : (0 : Int32) = (0 : Int32))).2) ?_
    refine XS.iconst X4.here hx rfl (hb hby d31_13) ?_
    refine XS.goto X4.here hx rfl (pc0 := 14) (pc' := 18) rfl (hb hby d31_14) (by decide) (by decide) ?_
    show Steps p.tables e below (T4.setTop (mkF m 18 #[.val (.ref tz)] [(.int (1 : Int32))])) _
    exact retN X4 hx (t := .boolean) Bd.returns (by simp) (hb hby d31_18) hr
  · show Q31 Z tz st_COMPACT_STRINGS h0 n0 _ T4.heap _
    rw [e4]
    exact ⟨rfl, N0, rfl⟩
theorem d28_0 : decode jdk_68_method_64_code 0 = .ok (.aload_n 0, 1) := by decide +kernel
theorem d28_1 : decode jdk_68_method_64_code 1 = .ok (.getfield 15, 3) := by decide +kernel
theorem d28_4 : decode jdk_68_method_64_code 4 = .ok (.areturn, 1) := by decide +kernel
theorem ef28 (m : MethodId) (tz : Addr) : entryFrame m #[(.ref tz)] 1 = mkF m 0 #[.val (.ref tz)] [] := by first | (simp [entryFrame, mkF, argsToLocals, Value.category]; done) | rfl
def Q28 (Z : State) (tz : Addr) (tz_value : Addr) (h0 : Heap) (n0 : Nat) (v : Option Value) (h : Heap) (L : List Loc) : Prop := v = some (.ref tz_value) ∧ Fr n0 L ∧ h = h0
set_option maxRecDepth 65536 in
set_option maxHeartbeats 40000000 in
theorem rm28 (l : Launch) (Z : State) (a0 : Array Value) (hw : ∀ d ∈ tables_1, d.before a0 Z = true) (ws : List Jvm.Cond) (tz : Addr) (tz_value : Addr) (h0 : Heap) (n0 : Nat) (Z0 : n0 ≤ h0.size) (O0 : Old Z n0 h0) (F_tz_value : Fld Z h0 tz "java/lang/AbstractStringBuilder" "value" "[B" (.ref tz_value)) :
    MetFree l (⟨"java/lang/AbstractStringBuilder", "getValue", "()[B"⟩ : MethodName) (head1 (Jvm.Cond.code (⟨"java/lang/AbstractStringBuilder", "getValue", "()[B"⟩ : MethodName) jdk_68_method_64_code 1 (some (.array .byte)) :: ws) ({ frames := 0, cells := 0, slots := 0, locals := 0 } : Room)) (fun a U => a = #[(.ref tz)] ∧ Z.Warmed39 U.vm ∧ U.heap = h0) (fun _ _ _ _ _ => True) (fun _ U o U' => ∃ v L, o = .returned v ∧ Q28 Z tz tz_value h0 n0 v U'.heap L ∧ FrameEnd U o U' L ({ frames := 0, cells := 0, slots := 0, locals := 0 } : Room).cells ({ frames := 0, cells := 0, slots := 0, locals := 0 } : Room).slots) := by
  refine MetFree.of_bodySF (plainFor_of_name pn_java_lang_AbstractStringBuilder) hisR ?_
  intro p e s m args below meth c s₁ Bd hml0 hP hK
  obtain ⟨rfl, hZ, hh⟩ := hP
  have hx := Bd.exec
  have hby := Bd.bytes
  have hml : c.maxLocals = 1 := hml0
  have hown : s.vm.findClass "java/lang/AbstractStringBuilder" = some m.cls := findClass_of_methodNamed Bd.named
  have hnm := (name_of_methodNamed Bd.named Bd.method).1
  have X0 : Stand p l e ({ frames := 0, cells := 0, slots := 0, locals := 0 } : Room) s m #[(.ref tz)] below meth c s₁ [] 0 0 := Stand.of_body Bd
  have e0 : s₁.heap = h0 := by rw [← hh, Bd.state]; rfl
  have N0 := Fr.nil n0
  have K0 : Keep h0 h0 [] := Keep.refl _ _
  have pre0 : ∀ t, Steps p.tables e below (s₁.setTop (mkF m 0 #[.val (.ref tz)] [])) t → Steps p.tables e below (s₁.setTop (entryFrame m #[(.ref tz)] 1)) t := fun t k => castTop (ef28 m tz) k
  obtain ⟨T5, X5, e5, st5⟩ := getF X0 hx hZ hown (host := "") (Or.inl (own_wd hw 98 rfl)) Via.refl e0 F_tz_value (g := (mkF m 1 #[.val (.ref tz)] [(.ref tz)])) rfl rfl (hb hby d28_1)
  obtain ⟨fs, hr, hrun, hended, hW, hsame⟩ := X5.leave (v := some (.ref tz_value)) (fun h => by rw [Bd.returns] at h; cases h)
  refine ⟨_, _, pre0 _ ?_, hrun, hended, _, _, rfl, ?_, ⟨_, rfl⟩, hW, hsame.mono (by decide) (by decide)⟩
  · show Steps p.tables e below (s₁.setTop (mkF m 0 #[.val (.ref tz)] [])) _
    refine XS.aloadN X0.here hx rfl (hb hby d28_0) rfl rfl ?_
    show Steps p.tables e below (s₁.setTop (mkF m 1 #[.val (.ref tz)] [(.ref tz)])) _
    refine st5 _ ?_
    show Steps p.tables e below (T5.setTop (mkF m 4 #[.val (.ref tz)] [(.ref tz_value)])) _
    jvm_step X5.here [X5.here.top, hx, (hb hby d28_4), X5.method', Bd.returns, Value.isRef, FieldType.isReference]
    first | (intro acts; rw [hr _ acts rfl rfl rfl]) | rw [hr _ _ rfl rfl rfl]
    exact Steps.refl _
  · show Q28 Z tz tz_value h0 n0 _ T5.heap _
    rw [e5]
    exact ⟨rfl, N0, rfl⟩
theorem d30_0 : decode jdk_68_method_6_code 0 = .ok (.aload_n 0, 1) := by decide +kernel
theorem d30_1 : decode jdk_68_method_6_code 1 = .ok (.getfield 79, 3) := by decide +kernel
theorem d30_4 : decode jdk_68_method_6_code 4 = .ok (.ireturn, 1) := by decide +kernel
theorem ef30 (m : MethodId) (tz : Addr) : entryFrame m #[(.ref tz)] 1 = mkF m 0 #[.val (.ref tz)] [] := by first | (simp [entryFrame, mkF, argsToLocals, Value.category]; done) | rfl
def Q30 (Z : State) (tz : Addr) (tz_count : Int32) (h0 : Heap) (n0 : Nat) (v : Option Value) (h : Heap) (L : List Loc) : Prop := v = some (.int tz_count) ∧ Fr n0 L ∧ h = h0
set_option maxRecDepth 65536 in
set_option maxHeartbeats 40000000 in
theorem rm30 (l : Launch) (Z : State) (a0 : Array Value) (hw : ∀ d ∈ tables_1, d.before a0 Z = true) (ws : List Jvm.Cond) (tz : Addr) (tz_count : Int32) (h0 : Heap) (n0 : Nat) (Z0 : n0 ≤ h0.size) (O0 : Old Z n0 h0) (F_tz_count : Fld Z h0 tz "java/lang/AbstractStringBuilder" "count" "I" (.int tz_count)) :
    MetFree l (⟨"java/lang/AbstractStringBuilder", "length", "()I"⟩ : MethodName) (head1 (Jvm.Cond.code (⟨"java/lang/AbstractStringBuilder", "length", "()I"⟩ : MethodName) jdk_68_method_6_code 1 (some .int) :: ws) ({ frames := 0, cells := 0, slots := 0, locals := 0 } : Room)) (fun a U => a = #[(.ref tz)] ∧ Z.Warmed39 U.vm ∧ U.heap = h0) (fun _ _ _ _ _ => True) (fun _ U o U' => ∃ v L, o = .returned v ∧ Q30 Z tz tz_count h0 n0 v U'.heap L ∧ FrameEnd U o U' L ({ frames := 0, cells := 0, slots := 0, locals := 0 } : Room).cells ({ frames := 0, cells := 0, slots := 0, locals := 0 } : Room).slots) := by
  refine MetFree.of_bodySF (plainFor_of_name pn_java_lang_AbstractStringBuilder) hisR ?_
  intro p e s m args below meth c s₁ Bd hml0 hP hK
  obtain ⟨rfl, hZ, hh⟩ := hP
  have hx := Bd.exec
  have hby := Bd.bytes
  have hml : c.maxLocals = 1 := hml0
  have hown : s.vm.findClass "java/lang/AbstractStringBuilder" = some m.cls := findClass_of_methodNamed Bd.named
  have hnm := (name_of_methodNamed Bd.named Bd.method).1
  have X0 : Stand p l e ({ frames := 0, cells := 0, slots := 0, locals := 0 } : Room) s m #[(.ref tz)] below meth c s₁ [] 0 0 := Stand.of_body Bd
  have e0 : s₁.heap = h0 := by rw [← hh, Bd.state]; rfl
  have N0 := Fr.nil n0
  have K0 : Keep h0 h0 [] := Keep.refl _ _
  have pre0 : ∀ t, Steps p.tables e below (s₁.setTop (mkF m 0 #[.val (.ref tz)] [])) t → Steps p.tables e below (s₁.setTop (entryFrame m #[(.ref tz)] 1)) t := fun t k => castTop (ef30 m tz) k
  obtain ⟨T6, X6, e6, st6⟩ := getF X0 hx hZ hown (host := "") (Or.inl (own_wd hw 113 rfl)) Via.refl e0 F_tz_count (g := (mkF m 1 #[.val (.ref tz)] [(.ref tz)])) rfl rfl (hb hby d30_1)
  obtain ⟨fs, hr, hrun, hended, hW, hsame⟩ := X6.leave (v := some (.int tz_count)) (fun h => by rw [Bd.returns] at h; cases h)
  refine ⟨_, _, pre0 _ ?_, hrun, hended, _, _, rfl, ?_, ⟨_, rfl⟩, hW, hsame.mono (by decide) (by decide)⟩
  · show Steps p.tables e below (s₁.setTop (mkF m 0 #[.val (.ref tz)] [])) _
    refine XS.aloadN X0.here hx rfl (hb hby d30_0) rfl rfl ?_
    show Steps p.tables e below (s₁.setTop (mkF m 1 #[.val (.ref tz)] [(.ref tz)])) _
    refine st6 _ ?_
    show Steps p.tables e below (T6.setTop (mkF m 4 #[.val (.ref tz)] [(.int tz_count)])) _
    exact retI X6 hx Bd.returns (hb hby d30_4) hr
  · show Q30 Z tz tz_count h0 n0 _ T6.heap _
    rw [e6]
    exact ⟨rfl, N0, rfl⟩
theorem d29_0 : decode jdk_67_method_93_code 0 = .ok (.aload_n 0, 1) := by decide +kernel
theorem pd_0 : parseMethodDescriptor "()I" = some ⟨[], some .int⟩ := by decide +kernel
theorem d29_1 : decode jdk_67_method_93_code 1 = .ok (.invokespecial 343, 3) := by decide +kernel
theorem d29_4 : decode jdk_67_method_93_code 4 = .ok (.ireturn, 1) := by decide +kernel
theorem pn_java_lang_StringBuilder : plainName "java/lang/StringBuilder" = true := by first | (simp [plainName, overriddenIn]; done) | decide +kernel
theorem ef29 (m : MethodId) (tz : Addr) : entryFrame m #[(.ref tz)] 1 = mkF m 0 #[.val (.ref tz)] [] := by first | (simp [entryFrame, mkF, argsToLocals, Value.category]; done) | rfl
def Q29 (Z : State) (tz : Addr) (tz_count : Int32) (h0 : Heap) (n0 : Nat) (v : Option Value) (h : Heap) (L : List Loc) : Prop := v = some (.int tz_count) ∧ Fr n0 L ∧ h = h0
set_option maxRecDepth 65536 in
set_option maxHeartbeats 40000000 in
theorem rm29 (l : Launch) (Z : State) (a0 : Array Value) (hw : ∀ d ∈ tables_1, d.before a0 Z = true) (ws : List Jvm.Cond) (tz : Addr) (tz_count : Int32) (h0 : Heap) (n0 : Nat) (Z0 : n0 ≤ h0.size) (O0 : Old Z n0 h0) (E_tz : Exa Z h0 tz "java/lang/StringBuilder") (F_tz_count : Fld Z h0 tz "java/lang/AbstractStringBuilder" "count" "I" (.int tz_count)) :
    MetFree l (⟨"java/lang/StringBuilder", "length", "()I"⟩ : MethodName) (head1 (Jvm.Cond.code (⟨"java/lang/StringBuilder", "length", "()I"⟩ : MethodName) jdk_67_method_93_code 1 (some .int) :: ws) ({ frames := 1, cells := 0, slots := 0, locals := 12 } : Room)) (fun a U => a = #[(.ref tz)] ∧ Z.Warmed39 U.vm ∧ U.heap = h0) (fun _ _ _ _ _ => True) (fun _ U o U' => ∃ v L, o = .returned v ∧ Q29 Z tz tz_count h0 n0 v U'.heap L ∧ FrameEnd U o U' L ({ frames := 1, cells := 0, slots := 0, locals := 12 } : Room).cells ({ frames := 1, cells := 0, slots := 0, locals := 12 } : Room).slots) := by
  refine MetFree.of_bodySF (plainFor_of_name pn_java_lang_StringBuilder) hisR ?_
  intro p e s m args below meth c s₁ Bd hml0 hP hK
  obtain ⟨rfl, hZ, hh⟩ := hP
  have hx := Bd.exec
  have hby := Bd.bytes
  have hml : c.maxLocals = 1 := hml0
  have hown : s.vm.findClass "java/lang/StringBuilder" = some m.cls := findClass_of_methodNamed Bd.named
  have hnm := (name_of_methodNamed Bd.named Bd.method).1
  have X0 : Stand p l e ({ frames := 1, cells := 0, slots := 0, locals := 12 } : Room) s m #[(.ref tz)] below meth c s₁ [] 0 0 := Stand.of_body Bd
  have e0 : s₁.heap = h0 := by rw [← hh, Bd.state]; rfl
  have N0 := Fr.nil n0
  have K0 : Keep h0 h0 [] := Keep.refl _ _
  have pre0 : ∀ t, Steps p.tables e below (s₁.setTop (mkF m 0 #[.val (.ref tz)] [])) t → Steps p.tables e below (s₁.setTop (entryFrame m #[(.ref tz)] 1)) t := fun t k => castTop (ef29 m tz) k
  obtain ⟨_, _, ⟨T7, L7, k7, n7⟩, -, X7, ⟨Lc7, hQ7, l7, y7, z7⟩, st7⟩ := superBack X0 hx hZ (y := (⟨"java/lang/AbstractStringBuilder", "length", "()I"⟩ : MethodName)) hown (own_wd hw 166 rfl) (own_same (y := (⟨"java/lang/AbstractStringBuilder", "length", "()I"⟩ : MethodName)) (own_nf (notFace_of_selects (own_wd hw 158 rfl)) (own_wd hw 156 rfl) rfl) (own_wd hw 161 rfl) (by decide)) (own_wd hw 162 rfl) (own_wd hw 109 rfl) (by decide) (backOf (W := 0) (rm30 l Z a0 hw [] tz tz_count h0 n0 Z0 O0 F_tz_count) hZ (own_wd hw 167 rfl) (own_wd hw 94 rfl) (by decide) (by decide)) e0 (Ins.self E_tz) (g := (mkF m 1 #[.val (.ref tz)] [(.ref tz)])) rfl (by rw [hml]; rfl) (own_wd hw 167 rfl) (argsL := []) (rest := []) (lenOf pd_0 rfl) rfl (by show 2 * 0 + _ ≤ _; exact Nat.le_of_eq rfl) (hb hby d29_1) (fun _ _ => ⟨rfl, e0, (by decide : 0 + 0 ≤ _), (by decide : 0 + 0 ≤ _)⟩)
  dsimp only [Pt.U, Pt.locs, Pt.cells, Pt.slots] at X7 l7 y7 z7 st7 hQ7
  subst l7 y7 z7
  obtain ⟨rfl, N7q, eh7⟩ := hQ7
  have N7 := Fr.app N0 N7q
  obtain ⟨fs, hr, hrun, hended, hW, hsame⟩ := X7.leave (v := some (.int tz_count)) (fun h => by rw [Bd.returns] at h; cases h)
  refine ⟨_, _, pre0 _ ?_, hrun, hended, _, _, rfl, ?_, ⟨_, rfl⟩, hW, hsame.mono (by decide) (by decide)⟩
  · show Steps p.tables e below (s₁.setTop (mkF m 0 #[.val (.ref tz)] [])) _
    refine XS.aloadN X0.here hx rfl (hb hby d29_0) rfl rfl ?_
    show Steps p.tables e below (s₁.setTop (mkF m 1 #[.val (.ref tz)] [(.ref tz)])) _
    refine st7.trans ?_
    show Steps p.tables e below (T7.setTop (mkF m 4 #[.val (.ref tz)] [(.int tz_count)])) _
    exact retI X7 hx Bd.returns (hb hby d29_4) hr
  · show Q29 Z tz tz_count h0 n0 _ T7.heap _
    rw [eh7]
    exact ⟨rfl, N7, rfl⟩
theorem d18_0 : decode jdk_68_method_2_code 0 = .ok (.aload_n 0, 1) := by decide +kernel
theorem d18_1 : decode jdk_68_method_2_code 1 = .ok (.invokespecial 3, 3) := by decide +kernel
theorem d18_4 : decode jdk_68_method_2_code 4 = .ok (.getstatic 18, 3) := by decide +kernel
theorem d18_7 : decode jdk_68_method_2_code 7 = .ok (.ifCond .eq 18, 3) := by decide +kernel
theorem d18_10 : decode jdk_68_method_2_code 10 = .ok (.aload_n 0, 1) := by decide +kernel
theorem d18_11 : decode jdk_68_method_2_code 11 = .ok (.iload_n 1, 1) := by decide +kernel
theorem d18_12 : decode jdk_68_method_2_code 12 = .ok (.newarray .byte, 2) := by decide +kernel
theorem d18_14 : decode jdk_68_method_2_code 14 = .ok (.putfield 15, 3) := by decide +kernel
theorem d18_17 : decode jdk_68_method_2_code 17 = .ok (.aload_n 0, 1) := by decide +kernel
theorem d18_18 : decode jdk_68_method_2_code 18 = .ok (.iconst 0, 1) := by decide +kernel
theorem d18_19 : decode jdk_68_method_2_code 19 = .ok (.putfield 22, 3) := by decide +kernel
theorem d18_22 : decode jdk_68_method_2_code 22 = .ok (.goto 16, 3) := by decide +kernel
theorem d18_38 : decode jdk_68_method_2_code 38 = .ok (.return_, 1) := by decide +kernel
theorem ef18 (m : MethodId) (tz : Addr) : entryFrame m #[(.ref tz), (.int (16 : Int32))] 2 = mkF m 0 #[.val (.ref tz), .val (.int (16 : Int32))] [] := by first | (simp [entryFrame, mkF, argsToLocals, Value.category]; done) | rfl
def Q18 (Z : State) (tz : Addr) (st_COMPACT_STRINGS : Int32) (u_tz_value : Value) (u_tz_coder : Value) (h0 : Heap) (n0 : Nat) (v : Option Value) (h : Heap) (L : List Loc) : Prop := ∃ (b : Addr), ∃ (kb : ClassId), v = none ∧ Fr n0 L ∧ Keep h0 h [tz] ∧ h0.size ≤ b ∧ Exa Z h tz "java/lang/StringBuilder" ∧ Fld Z h tz "java/lang/AbstractStringBuilder" "value" "[B" (.ref b) ∧ Fld Z h tz "java/lang/AbstractStringBuilder" "coder" "B" (.int (0 : Int32)) ∧ Fld Z h tz "java/lang/AbstractStringBuilder" "count" "I" (.int (0 : Int32)) ∧ Arv Z h b kb .byte (16 : Int32) [(.int (0 : Int32)), (.int (0 : Int32)), (.int (0 : Int32)), (.int (0 : Int32)), (.int (0 : Int32)), (.int (0 : Int32)), (.int (0 : Int32)), (.int (0 : Int32)), (.int (0 : Int32)), (.int (0 : Int32)), (.int (0 : Int32)), (.int (0 : Int32)), (.int (0 : Int32)), (.int (0 : Int32)), (.int (0 : Int32)), (.int (0 : Int32))] (.int (0 : Int32))
set_option maxRecDepth 65536 in
set_option maxHeartbeats 40000000 in
theorem rm18 (l : Launch) (Z : State) (a0 : Array Value) (hw : ∀ d ∈ tables_1, d.before a0 Z = true) (ws : List Jvm.Cond) (tz : Addr) (st_COMPACT_STRINGS : Int32) (u_tz_value : Value) (u_tz_coder : Value) (h0 : Heap) (n0 : Nat) (Z0 : n0 ≤ h0.size) (O0 : Old Z n0 h0) (E_tz : Exa Z h0 tz "java/lang/StringBuilder") (F_tz_count : Fld Z h0 tz "java/lang/AbstractStringBuilder" "count" "I" (.int (0 : Int32))) (S_COMPACT_STRINGS : Sta Z Z.heap "java/lang/String" "COMPACT_STRINGS" "Z" (.int st_COMPACT_STRINGS)) (hcomp : ¬ (st_COMPACT_STRINGS = (0 : Int32))) (F_u_tz_value : Fld Z h0 tz "java/lang/AbstractStringBuilder" "value" "[B" u_tz_value) (g_tz : n0 ≤ tz) (F_u_tz_coder : Fld Z h0 tz "java/lang/AbstractStringBuilder" "coder" "B" u_tz_coder) :
    MetFree l (⟨"java/lang/AbstractStringBuilder", "<init>", "(I)V"⟩ : MethodName) (head1 (Jvm.Cond.code (⟨"java/lang/AbstractStringBuilder", "<init>", "(I)V"⟩ : MethodName) jdk_68_method_2_code 2 none :: ws) ({ frames := 1, cells := 1, slots := 16, locals := 12 } : Room)) (fun a U => a = #[(.ref tz), (.int (16 : Int32))] ∧ Z.Warmed39 U.vm ∧ U.heap = h0) (fun _ _ _ _ _ => True) (fun _ U o U' => ∃ v L, o = .returned v ∧ Q18 Z tz st_COMPACT_STRINGS u_tz_value u_tz_coder h0 n0 v U'.heap L ∧ FrameEnd U o U' L ({ frames := 1, cells := 1, slots := 16, locals := 12 } : Room).cells ({ frames := 1, cells := 1, slots := 16, locals := 12 } : Room).slots) := by
  refine MetFree.of_bodySF (plainFor_of_name pn_java_lang_AbstractStringBuilder) hisR ?_
  intro p e s m args below meth c s₁ Bd hml0 hP hK
  obtain ⟨rfl, hZ, hh⟩ := hP
  have hx := Bd.exec
  have hby := Bd.bytes
  have hml : c.maxLocals = 2 := hml0
  have hown : s.vm.findClass "java/lang/AbstractStringBuilder" = some m.cls := findClass_of_methodNamed Bd.named
  have hnm := (name_of_methodNamed Bd.named Bd.method).1
  have X0 : Stand p l e ({ frames := 1, cells := 1, slots := 16, locals := 12 } : Room) s m #[(.ref tz), (.int (16 : Int32))] below meth c s₁ [] 0 0 := Stand.of_body Bd
  have e0 : s₁.heap = h0 := by rw [← hh, Bd.state]; rfl
  have N0 := Fr.nil n0
  have K0 : Keep h0 h0 [tz] := Keep.refl _ _
  have pre0 : ∀ t, Steps p.tables e below (s₁.setTop (mkF m 0 #[.val (.ref tz), .val (.int (16 : Int32))] [])) t → Steps p.tables e below (s₁.setTop (entryFrame m #[(.ref tz), (.int (16 : Int32))] 2)) t := fun t k => castTop (ef18 m tz) k
  obtain ⟨T8, X8, e8, st8⟩ := initO X0 hx hZ hown (own_wd hw 96 rfl) (own_wd hw 12 rfl) (own_wd hw 13 rfl) e0 (g := (mkF m 1 #[.val (.ref tz), .val (.int (16 : Int32))] [(.ref tz)])) rfl (by rw [hml]; rfl) rfl (hb hby d18_1) (by decide) (W := 0) (by show 2 * 0 + _ ≤ _; exact Nat.le_of_eq rfl) (by decide)
  obtain ⟨T9, X9, e9, st9⟩ := getS2 X8 hx hZ hown (host := "") (Or.inl (own_wd hw 97 rfl)) Via.refl e8 (S_COMPACT_STRINGS.ext O0.2) (g := (mkF m 4 #[.val (.ref tz), .val (.int (16 : Int32))] [])) rfl (hb hby d18_4)
  obtain ⟨T10, h10, k10, X10, e10, E10, A10, st10⟩ := newP X9 hx hZ (own_wd hw 19 rfl) e9 (g := (mkF m 12 #[.val (.ref tz), .val (.int (16 : Int32))] [(.int (16 : Int32)), (.ref tz)])) rfl (hb hby d18_12) rfl (by decide) (cap := 16) (by decide) (by decide) (by decide) (by decide)
  obtain ⟨b10, g10⟩ : ∃ z, z = h0.size := ⟨_, rfl⟩
  rw [← g10] at A10 st10
  have O10 : Old Z n0 h10 := O0.ext E10
  have Z10 : n0 ≤ h10.size := Nat.le_trans Z0 E10.1
  have K10 : Keep h0 h10 [tz] := K0.ext E10
  have g_b10 : n0 ≤ b10 := Nat.le_trans Z0 (Nat.le_of_eq g10.symm)
  have sz_b10 : h0.size ≤ b10 := Nat.le_trans K0.1 (Nat.le_of_eq g10.symm)
  have V10 : Arv Z h10 b10 k10 .byte (16 : Int32) [(.int (0 : Int32)), (.int (0 : Int32)), (.int (0 : Int32)), (.int (0 : Int32)), (.int (0 : Int32)), (.int (0 : Int32)), (.int (0 : Int32)), (.int (0 : Int32)), (.int (0 : Int32)), (.int (0 : Int32)), (.int (0 : Int32)), (.int (0 : Int32)), (.int (0 : Int32)), (.int (0 : Int32)), (.int (0 : Int32)), (.int (0 : Int32))] (.int (0 : Int32)) := (Arv.new A10 (by decide)).pad (pad_rep [] (.int (0 : Int32)) 16)
  have C11 : Exa Z h10 tz "java/lang/StringBuilder" := (E_tz.ext E10)
  have F12 : Fld Z h10 tz "java/lang/AbstractStringBuilder" "value" "[B" u_tz_value := (F_u_tz_value.ext E10)
  obtain ⟨T13, h13, X13, e13, W13, st13⟩ := putF X10 hx hZ hown (host := "") (Or.inl (own_wd hw 98 rfl)) Via.refl e10 F12 C11 (Or.inl (own_wd hw 99 rfl)) (own_wd hw 85 rfl) (ty := (.array .byte)) (by decide) rfl rfl (g := (mkF m 14 #[.val (.ref tz), .val (.int (16 : Int32))] [(.ref b10), (.ref tz)])) rfl rfl (hb hby d18_14)
  have O13 : Old Z n0 h13 := O10.wr W13 g_tz
  have Z13 : n0 ≤ h13.size := Nat.le_trans Z10 (Keep.of_wr W13).1
  have K13 : Keep h0 h13 [tz] := K10.wr W13 (Or.inl (List.mem_of_getElem? (i := 0) rfl))
  have N13 := Fr.snoc X13 N0 g_tz
  have Fw13 : Fld Z h13 tz "java/lang/AbstractStringBuilder" "value" "[B" (.ref b10) := F12.same W13
  have C14 : Exa Z h13 tz "java/lang/StringBuilder" := (C11.wr W13)
  have F15 : Fld Z h13 tz "java/lang/AbstractStringBuilder" "coder" "B" u_tz_coder := ((F_u_tz_coder.ext E10).other W13 (Or.inr (slot_ne (Or.inl (own_wd hw 101 rfl)) (Or.inl (own_wd hw 99 rfl)) (by decide) (t := .byte) (t' := (.array .byte)) (by decide) (by decide))))
  obtain ⟨T16, h16, X16, e16, W16, st16⟩ := putFN X13 hx hZ hown (own_wd hw 100 rfl) Via.refl e13 F15 C14 (Or.inl (own_wd hw 101 rfl)) (own_wd hw 85 rfl) (ty := .byte) (v' := (.int (0 : Int32))) (by decide) rfl rfl (g := (mkF m 19 #[.val (.ref tz), .val (.int (16 : Int32))] [(.int (0 : Int32)), (.ref tz)])) rfl rfl (hb hby d18_19)
  have O16 : Old Z n0 h16 := O13.wr W16 g_tz
  have Z16 : n0 ≤ h16.size := Nat.le_trans Z13 (Keep.of_wr W16).1
  have K16 : Keep h0 h16 [tz] := K13.wr W16 (Or.inl (List.mem_of_getElem? (i := 0) rfl))
  have N16 := Fr.snoc X16 N13 g_tz
  have Fw16 : Fld Z h16 tz "java/lang/AbstractStringBuilder" "coder" "B" (.int (0 : Int32)) := F15.same W16
  have C17 : Exa Z h16 tz "java/lang/StringBuilder" := (C14.wr W16)
  have F18 : Fld Z h16 tz "java/lang/AbstractStringBuilder" "value" "[B" (.ref b10) := (Fw13.other W16 (Or.inr (slot_ne (Or.inl (own_wd hw 99 rfl)) (Or.inl (own_wd hw 101 rfl)) (by decide) (t := (.array .byte)) (t' := .byte) (by decide) (by decide))))
  have F19 : Fld Z h16 tz "java/lang/AbstractStringBuilder" "count" "I" (.int (0 : Int32)) := (((F_tz_count.ext E10).other W13 (Or.inr (slot_ne (Or.inl (own_wd hw 114 rfl)) (Or.inl (own_wd hw 99 rfl)) (by decide) (t := .int) (t' := (.array .byte)) (by decide) (by decide)))).other W16 (Or.inr (slot_ne (Or.inl (own_wd hw 114 rfl)) (Or.inl (own_wd hw 101 rfl)) (by decide) (t := .int) (t' := .byte) (by decide) (by decide))))
  have V20 : Arv Z h16 b10 k10 .byte (16 : Int32) [(.int (0 : Int32)), (.int (0 : Int32)), (.int (0 : Int32)), (.int (0 : Int32)), (.int (0 : Int32)), (.int (0 : Int32)), (.int (0 : Int32)), (.int (0 : Int32)), (.int (0 : Int32)), (.int (0 : Int32)), (.int (0 : Int32)), (.int (0 : Int32)), (.int (0 : Int32)), (.int (0 : Int32)), (.int (0 : Int32)), (.int (0 : Int32))] (.int (0 : Int32)) := ((V10.other W13 (Ne.symm (Nat.ne_of_lt (Nat.lt_of_lt_of_le E_tz.lt (Nat.le_of_eq g10.symm))))).other W16 (Ne.symm (Nat.ne_of_lt (Nat.lt_of_lt_of_le E_tz.lt (Nat.le_of_eq g10.symm)))))
  obtain ⟨fs, hr, hrun, hended, hW, hsame⟩ := X16.leave (v := none) (fun _ => rfl)
  refine ⟨_, _, pre0 _ ?_, hrun, hended, _, _, rfl, ?_, ⟨_, rfl⟩, hW, hsame.mono (by decide) (by decide)⟩
  · show Steps p.tables e below (s₁.setTop (mkF m 0 #[.val (.ref tz), .val (.int (16 : Int32))] [])) _
    refine XS.aloadN X0.here hx rfl (hb hby d18_0) rfl rfl ?_
    show Steps p.tables e below (s₁.setTop (mkF m 1 #[.val (.ref tz), .val (.int (16 : Int32))] [(.ref tz)])) _
    refine st8 _ ?_
    show Steps p.tables e below (T8.setTop (mkF m 4 #[.val (.ref tz), .val (.int (16 : Int32))] [])) _
    refine st9 _ ?_
    show Steps p.tables e below (T9.setTop (mkF m 7 #[.val (.ref tz), .val (.int (16 : Int32))] [(.int st_COMPACT_STRINGS)])) _
    refine XS.ifNo X9.here hx rfl (hb hby d18_7) rfl ((if0 _ _).trans (feq hcomp).1) ?_
    refine XS.aloadN X9.here hx rfl (hb hby d18_10) rfl rfl ?_
    refine XS.iloadN X9.here hx rfl (hb hby d18_11) rfl ?_
    show Steps p.tables e below (T9.setTop (mkF m 12 #[.val (.ref tz), .val (.int (16 : Int32))] [(.int (16 : Int32)), (.ref tz)])) _
    refine st10 _ ?_
    show Steps p.tables e below (T10.setTop (mkF m 14 #[.val (.ref tz), .val (.int (16 : Int32))] [(.ref b10), (.ref tz)])) _
    refine st13 _ ?_
    show Steps p.tables e below (T13.setTop (mkF m 17 #[.val (.ref tz), .val (.int (16 : Int32))] [])) _
    refine XS.aloadN X13.here hx rfl (hb hby d18_17) rfl rfl ?_
    refine XS.iconst X13.here hx rfl (hb hby d18_18) ?_
    show Steps p.tables e below (T13.setTop (mkF m 19 #[.val (.ref tz), .val (.int (16 : Int32))] [(.int (0 : Int32)), (.ref tz)])) _
    refine st16 _ ?_
    show Steps p.tables e below (T16.setTop (mkF m 22 #[.val (.ref tz), .val (.int (16 : Int32))] [])) _
    refine XS.goto X16.here hx rfl (pc0 := 22) (pc' := 38) rfl (hb hby d18_22) (by decide) (by decide) ?_
    show Steps p.tables e below (T16.setTop (mkF m 38 #[.val (.ref tz), .val (.int (16 : Int32))] [])) _
    exact X16.returnOut hx Bd.returns (hb hby d18_38) hr
  · show Q18 Z tz st_COMPACT_STRINGS u_tz_value u_tz_coder h0 n0 _ T16.heap _
    rw [e16]
    exact ⟨b10, k10, rfl, N16, K16, sz_b10, C17, F18, Fw16, F19, V20⟩
theorem d17_0 : decode jdk_67_method_1_code 0 = .ok (.aload_n 0, 1) := by decide +kernel
theorem d17_1 : decode jdk_67_method_1_code 1 = .ok (.bipush 16, 2) := by decide +kernel
theorem pd_1 : parseMethodDescriptor "(I)V" = some ⟨[.int], none⟩ := by decide +kernel
theorem d17_3 : decode jdk_67_method_1_code 3 = .ok (.invokespecial 1, 3) := by decide +kernel
theorem d17_6 : decode jdk_67_method_1_code 6 = .ok (.return_, 1) := by decide +kernel
theorem ef17 (m : MethodId) (tz : Addr) : entryFrame m #[(.ref tz)] 1 = mkF m 0 #[.val (.ref tz)] [] := by first | (simp [entryFrame, mkF, argsToLocals, Value.category]; done) | rfl
def Q17 (Z : State) (tz : Addr) (st_COMPACT_STRINGS : Int32) (u_tz_value : Value) (u_tz_coder : Value) (h0 : Heap) (n0 : Nat) (v : Option Value) (h : Heap) (L : List Loc) : Prop := ∃ (b : Addr), ∃ (kb : ClassId), v = none ∧ Fr n0 L ∧ Keep h0 h [tz] ∧ h0.size ≤ b ∧ Exa Z h tz "java/lang/StringBuilder" ∧ Fld Z h tz "java/lang/AbstractStringBuilder" "value" "[B" (.ref b) ∧ Fld Z h tz "java/lang/AbstractStringBuilder" "coder" "B" (.int (0 : Int32)) ∧ Fld Z h tz "java/lang/AbstractStringBuilder" "count" "I" (.int (0 : Int32)) ∧ Arv Z h b kb .byte (16 : Int32) [(.int (0 : Int32)), (.int (0 : Int32)), (.int (0 : Int32)), (.int (0 : Int32)), (.int (0 : Int32)), (.int (0 : Int32)), (.int (0 : Int32)), (.int (0 : Int32)), (.int (0 : Int32)), (.int (0 : Int32)), (.int (0 : Int32)), (.int (0 : Int32)), (.int (0 : Int32)), (.int (0 : Int32)), (.int (0 : Int32)), (.int (0 : Int32))] (.int (0 : Int32))
set_option maxRecDepth 65536 in
set_option maxHeartbeats 40000000 in
theorem rm17 (l : Launch) (Z : State) (a0 : Array Value) (hw : ∀ d ∈ tables_1, d.before a0 Z = true) (ws : List Jvm.Cond) (tz : Addr) (st_COMPACT_STRINGS : Int32) (u_tz_value : Value) (u_tz_coder : Value) (h0 : Heap) (n0 : Nat) (Z0 : n0 ≤ h0.size) (O0 : Old Z n0 h0) (E_tz : Exa Z h0 tz "java/lang/StringBuilder") (F_tz_count : Fld Z h0 tz "java/lang/AbstractStringBuilder" "count" "I" (.int (0 : Int32))) (S_COMPACT_STRINGS : Sta Z Z.heap "java/lang/String" "COMPACT_STRINGS" "Z" (.int st_COMPACT_STRINGS)) (F_u_tz_value : Fld Z h0 tz "java/lang/AbstractStringBuilder" "value" "[B" u_tz_value) (F_u_tz_coder : Fld Z h0 tz "java/lang/AbstractStringBuilder" "coder" "B" u_tz_coder) (hcomp : ¬ (st_COMPACT_STRINGS = (0 : Int32))) (g_tz : n0 ≤ tz) :
    MetFree l (⟨"java/lang/StringBuilder", "<init>", "()V"⟩ : MethodName) (head1 (Jvm.Cond.code (⟨"java/lang/StringBuilder", "<init>", "()V"⟩ : MethodName) jdk_67_method_1_code 1 none :: ws) ({ frames := 2, cells := 1, slots := 16, locals := 25 } : Room)) (fun a U => a = #[(.ref tz)] ∧ Z.Warmed39 U.vm ∧ U.heap = h0) (fun _ _ _ _ _ => True) (fun _ U o U' => ∃ v L, o = .returned v ∧ Q17 Z tz st_COMPACT_STRINGS u_tz_value u_tz_coder h0 n0 v U'.heap L ∧ FrameEnd U o U' L ({ frames := 2, cells := 1, slots := 16, locals := 25 } : Room).cells ({ frames := 2, cells := 1, slots := 16, locals := 25 } : Room).slots) := by
  refine MetFree.of_bodySF (plainFor_of_name pn_java_lang_StringBuilder) hisR ?_
  intro p e s m args below meth c s₁ Bd hml0 hP hK
  obtain ⟨rfl, hZ, hh⟩ := hP
  have hx := Bd.exec
  have hby := Bd.bytes
  have hml : c.maxLocals = 1 := hml0
  have hown : s.vm.findClass "java/lang/StringBuilder" = some m.cls := findClass_of_methodNamed Bd.named
  have hnm := (name_of_methodNamed Bd.named Bd.method).1
  have X0 : Stand p l e ({ frames := 2, cells := 1, slots := 16, locals := 25 } : Room) s m #[(.ref tz)] below meth c s₁ [] 0 0 := Stand.of_body Bd
  have e0 : s₁.heap = h0 := by rw [← hh, Bd.state]; rfl
  have N0 := Fr.nil n0
  have K0 : Keep h0 h0 [tz] := Keep.refl _ _
  have pre0 : ∀ t, Steps p.tables e below (s₁.setTop (mkF m 0 #[.val (.ref tz)] [])) t → Steps p.tables e below (s₁.setTop (entryFrame m #[(.ref tz)] 1)) t := fun t k => castTop (ef17 m tz) k
  obtain ⟨_, _, ⟨T21, L21, k21, n21⟩, -, X21, ⟨Lc21, hQ21, l21, y21, z21⟩, st21⟩ := X0.specialBack hx (y := (⟨"java/lang/AbstractStringBuilder", "<init>", "(I)V"⟩ : MethodName)) rfl hown (mvT hZ (own_wd hw 90 rfl)) (mvT hZ (own_wd hw 91 rfl)) (mvT hZ (own_wd hw 95 rfl)) (by decide) (backOf (W := 0) (rm18 l Z a0 hw [] tz st_COMPACT_STRINGS u_tz_value u_tz_coder h0 n0 Z0 O0 E_tz F_tz_count S_COMPACT_STRINGS hcomp F_u_tz_value g_tz F_u_tz_coder) hZ (own_wd hw 95 rfl) (own_wd hw 94 rfl) (by decide) (by decide)) (g := (mkF m 3 #[.val (.ref tz)] [(.int (16 : Int32)), (.ref tz)])) rfl (by rw [hml]; rfl) (Steps.refl _) (a := tz) (argsL := [(.int (16 : Int32))]) (rest := []) (lenOf pd_1 rfl) rfl (by show 2 * 0 + _ ≤ _; exact Nat.le_of_eq rfl) (hb hby d17_3) (fun _ _ => ⟨rfl, e0, (by decide : 0 + 1 ≤ _), (by decide : 0 + 16 ≤ _)⟩)
  dsimp only [Pt.U, Pt.locs, Pt.cells, Pt.slots] at X21 l21 y21 z21 st21 hQ21
  subst l21 y21 z21
  obtain ⟨b_21, kb_21, rfl, N21q, KK21, Q21_0, Q21_1, Q21_2, Q21_3, Q21_4, Q21_5⟩ := hQ21
  have N21 := Fr.app N0 N21q
  have O21 : Old Z n0 T21.heap := O0.keep KK21 (allS g_tz all0)
  have Z21 : n0 ≤ T21.heap.size := Nat.le_trans Z0 KK21.1
  have K21 : Keep h0 T21.heap [tz] := K0.trans KK21 (allS (Or.inl (List.mem_of_getElem? (i := 0) rfl)) all0)
  have g_b_21 : n0 ≤ b_21 := Nat.le_trans Z0 Q21_0
  have sz_b_21 : h0.size ≤ b_21 := Nat.le_trans K0.1 Q21_0
  obtain ⟨fs, hr, hrun, hended, hW, hsame⟩ := X21.leave (v := none) (fun _ => rfl)
  refine ⟨_, _, pre0 _ ?_, hrun, hended, _, _, rfl, ?_, ⟨_, rfl⟩, hW, hsame.mono (by decide) (by decide)⟩
  · show Steps p.tables e below (s₁.setTop (mkF m 0 #[.val (.ref tz)] [])) _
    refine XS.aloadN X0.here hx rfl (hb hby d17_0) rfl rfl ?_
    refine XS.bipush X0.here hx rfl (hb hby d17_1) ?_
    show Steps p.tables e below (s₁.setTop (mkF m 3 #[.val (.ref tz)] [(.int (16 : Int32)), (.ref tz)])) _
    refine st21.trans ?_
    show Steps p.tables e below (T21.setTop (mkF m 6 #[.val (.ref tz)] [])) _
    exact X21.returnOut hx Bd.returns (hb hby d17_6) hr
  · show Q17 Z tz st_COMPACT_STRINGS u_tz_value u_tz_coder h0 n0 _ T21.heap _
    exact ⟨b_21, kb_21, rfl, N21, K21, sz_b_21, Q21_1, Q21_2, Q21_3, Q21_4, Q21_5⟩
theorem d21_0 : decode jdk_68_method_9_code 0 = .ok (.aload_n 0, 1) := by decide +kernel
theorem d21_1 : decode jdk_68_method_9_code 1 = .ok (.getfield 15, 3) := by decide +kernel
theorem d21_4 : decode jdk_68_method_9_code 4 = .ok (.arraylength, 1) := by decide +kernel
theorem d21_5 : decode jdk_68_method_9_code 5 = .ok (.aload_n 0, 1) := by decide +kernel
theorem d21_6 : decode jdk_68_method_9_code 6 = .ok (.getfield 22, 3) := by decide +kernel
theorem d21_9 : decode jdk_68_method_9_code 9 = .ok (.ishr, 1) := by decide +kernel
theorem d21_10 : decode jdk_68_method_9_code 10 = .ok (.istore_n 2, 1) := by decide +kernel
theorem d21_11 : decode jdk_68_method_9_code 11 = .ok (.iload_n 1, 1) := by decide +kernel
theorem d21_12 : decode jdk_68_method_9_code 12 = .ok (.iload_n 2, 1) := by decide +kernel
theorem d21_13 : decode jdk_68_method_9_code 13 = .ok (.isub, 1) := by decide +kernel
theorem d21_14 : decode jdk_68_method_9_code 14 = .ok (.ifCond .le 24, 3) := by decide +kernel
theorem d21_38 : decode jdk_68_method_9_code 38 = .ok (.return_, 1) := by decide +kernel
theorem ef21 (m : MethodId) (tz : Addr) (x1 : Int32) : entryFrame m #[(.ref tz), (.int x1)] 3 = mkF m 0 #[.val (.ref tz), .val (.int x1), .unset] [] := by first | (simp [entryFrame, mkF, argsToLocals, Value.category]; done) | rfl
def Q21 (Z : State) (tz : Addr) (x1 : Int32) (tz_value : Addr) (kb : ClassId) (bs : List Value) (h0 : Heap) (n0 : Nat) (v : Option Value) (h : Heap) (L : List Loc) : Prop := v = none ∧ Fr n0 L ∧ h = h0
set_option maxRecDepth 65536 in
set_option maxHeartbeats 40000000 in
theorem rm21 (l : Launch) (Z : State) (a0 : Array Value) (hw : ∀ d ∈ tables_1, d.before a0 Z = true) (ws : List Jvm.Cond) (tz : Addr) (x1 : Int32) (tz_value : Addr) (kb : ClassId) (bs : List Value) (h0 : Heap) (n0 : Nat) (Z0 : n0 ≤ h0.size) (O0 : Old Z n0 h0) (E_tz : Exa Z h0 tz "java/lang/StringBuilder") (F_tz_value : Fld Z h0 tz "java/lang/AbstractStringBuilder" "value" "[B" (.ref tz_value)) (F_tz_coder : Fld Z h0 tz "java/lang/AbstractStringBuilder" "coder" "B" (.int (0 : Int32))) (V_tz_value : Arv Z h0 tz_value kb .byte (16 : Int32) bs (.int (0 : Int32))) (hcap : ¬ ((0 : Int32) < (x1 - ((16 : Int32) >>> ((0 : Int32) &&& 31))))) :
    MetFree l (⟨"java/lang/AbstractStringBuilder", "ensureCapacityInternal", "(I)V"⟩ : MethodName) (head1 (Jvm.Cond.code (⟨"java/lang/AbstractStringBuilder", "ensureCapacityInternal", "(I)V"⟩ : MethodName) jdk_68_method_9_code 3 none :: ws) ({ frames := 0, cells := 0, slots := 0, locals := 0 } : Room)) (fun a U => a = #[(.ref tz), (.int x1)] ∧ Z.Warmed39 U.vm ∧ U.heap = h0) (fun _ _ _ _ _ => True) (fun _ U o U' => ∃ v L, o = .returned v ∧ Q21 Z tz x1 tz_value kb bs h0 n0 v U'.heap L ∧ FrameEnd U o U' L ({ frames := 0, cells := 0, slots := 0, locals := 0 } : Room).cells ({ frames := 0, cells := 0, slots := 0, locals := 0 } : Room).slots) := by
  refine MetFree.of_bodySF (plainFor_of_name pn_java_lang_AbstractStringBuilder) hisR ?_
  intro p e s m args below meth c s₁ Bd hml0 hP hK
  obtain ⟨rfl, hZ, hh⟩ := hP
  have hx := Bd.exec
  have hby := Bd.bytes
  have hml : c.maxLocals = 3 := hml0
  have hown : s.vm.findClass "java/lang/AbstractStringBuilder" = some m.cls := findClass_of_methodNamed Bd.named
  have hnm := (name_of_methodNamed Bd.named Bd.method).1
  have X0 : Stand p l e ({ frames := 0, cells := 0, slots := 0, locals := 0 } : Room) s m #[(.ref tz), (.int x1)] below meth c s₁ [] 0 0 := Stand.of_body Bd
  have e0 : s₁.heap = h0 := by rw [← hh, Bd.state]; rfl
  have N0 := Fr.nil n0
  have K0 : Keep h0 h0 [] := Keep.refl _ _
  have pre0 : ∀ t, Steps p.tables e below (s₁.setTop (mkF m 0 #[.val (.ref tz), .val (.int x1), .unset] [])) t → Steps p.tables e below (s₁.setTop (entryFrame m #[(.ref tz), (.int x1)] 3)) t := fun t k => castTop (ef21 m tz x1) k
  obtain ⟨T22, X22, e22, st22⟩ := getF X0 hx hZ hown (host := "") (Or.inl (own_wd hw 98 rfl)) Via.refl e0 F_tz_value (g := (mkF m 1 #[.val (.ref tz), .val (.int x1), .unset] [(.ref tz)])) rfl rfl (hb hby d21_1)
  obtain ⟨cl_a23, Ar_a23, -, S_a23, N_a23, -, -⟩ := id V_tz_value
  obtain ⟨T24, X24, e24, st24⟩ := getF X22 hx hZ hown (host := "") (Or.inl (own_wd hw 100 rfl)) Via.refl e22 F_tz_coder (g := (mkF m 6 #[.val (.ref tz), .val (.int x1), .unset] [(.ref tz), (.int (16 : Int32))])) rfl rfl (hb hby d21_6)
  obtain ⟨fs, hr, hrun, hended, hW, hsame⟩ := X24.leave (v := none) (fun _ => rfl)
  refine ⟨_, _, pre0 _ ?_, hrun, hended, _, _, rfl, ?_, ⟨_, rfl⟩, hW, hsame.mono (by decide) (by decide)⟩
  · show Steps p.tables e below (s₁.setTop (mkF m 0 #[.val (.ref tz), .val (.int x1), .unset] [])) _
    refine XS.aloadN X0.here hx rfl (hb hby d21_0) rfl rfl ?_
    show Steps p.tables e below (s₁.setTop (mkF m 1 #[.val (.ref tz), .val (.int x1), .unset] [(.ref tz)])) _
    refine st22 _ ?_
    show Steps p.tables e below (T22.setTop (mkF m 4 #[.val (.ref tz), .val (.int x1), .unset] [(.ref tz_value)])) _
    refine X22.arraylength hx (by rw [e22]; exact Ar_a23.1) (State.isArrayOf_alike hZ.alike Ar_a23.2.1) (g := (mkF m 4 #[.val (.ref tz), .val (.int x1), .unset] [(.ref tz_value)])) rfl rfl (hb hby d21_4) _ ?_
    rw [len_of S_a23 N_a23]
    refine XS.aloadN X22.here hx rfl (hb hby d21_5) rfl rfl ?_
    show Steps p.tables e below (T22.setTop (mkF m 6 #[.val (.ref tz), .val (.int x1), .unset] [(.ref tz), (.int (16 : Int32))])) _
    refine st24 _ ?_
    show Steps p.tables e below (T24.setTop (mkF m 9 #[.val (.ref tz), .val (.int x1), .unset] [(.int (0 : Int32)), (.int (16 : Int32))])) _
    refine XS.ishr X24.here hx rfl (hb hby d21_9) rfl ?_
    refine XS.istoreN X24.here hx rfl (hb hby d21_10) rfl (l' := #[.val (.ref tz), .val (.int x1), .val (.int ((16 : Int32) >>> ((0 : Int32) &&& 31)))]) rfl ?_
    refine XS.iloadN X24.here hx rfl (hb hby d21_11) rfl ?_
    refine XS.iloadN X24.here hx rfl (hb hby d21_12) rfl ?_
    refine XS.isub X24.here hx rfl (hb hby d21_13) rfl ?_
    refine XS.ifYes X24.here hx rfl (pc0 := 14) (pc' := 38) rfl (hb hby d21_14) rfl ((if0 _ _).trans (flt hcap).2.2.2) (by decide) (by decide) ?_
    show Steps p.tables e below (T24.setTop (mkF m 38 #[.val (.ref tz), .val (.int x1), .val (.int ((16 : Int32) >>> ((0 : Int32) &&& 31)))] [])) _
    exact X24.returnOut hx Bd.returns (hb hby d21_38) hr
  · show Q21 Z tz x1 tz_value kb bs h0 n0 _ T24.heap _
    rw [e24]
    exact ⟨rfl, N0, rfl⟩
theorem d23_0 : decode jdk_68_method_71_code 0 = .ok (.getstatic 18, 3) := by decide +kernel
theorem d23_3 : decode jdk_68_method_71_code 3 = .ok (.ifCond .eq 18, 3) := by decide +kernel
theorem d23_6 : decode jdk_68_method_71_code 6 = .ok (.aload_n 0, 1) := by decide +kernel
theorem d23_7 : decode jdk_68_method_71_code 7 = .ok (.getfield 22, 3) := by decide +kernel
theorem d23_10 : decode jdk_68_method_71_code 10 = .ok (.aload_n 1, 1) := by decide +kernel
theorem pd_2 : parseMethodDescriptor "()B" = some ⟨[], some .byte⟩ := by decide +kernel
theorem d23_11 : decode jdk_68_method_71_code 11 = .ok (.invokevirtual 40, 3) := by decide +kernel
theorem d23_14 : decode jdk_68_method_71_code 14 = .ok (.if_icmp .eq 7, 3) := by decide +kernel
theorem d23_21 : decode jdk_68_method_71_code 21 = .ok (.return_, 1) := by decide +kernel
theorem ef23 (m : MethodId) (tz : Addr) (x1 : Addr) : entryFrame m #[(.ref tz), (.ref x1)] 2 = mkF m 0 #[.val (.ref tz), .val (.ref x1)] [] := by first | (simp [entryFrame, mkF, argsToLocals, Value.category]; done) | rfl
def Q23 (Z : State) (tz : Addr) (x1 : Addr) (st_COMPACT_STRINGS : Int32) (h0 : Heap) (n0 : Nat) (v : Option Value) (h : Heap) (L : List Loc) : Prop := v = none ∧ Fr n0 L ∧ h = h0
set_option maxRecDepth 65536 in
set_option maxHeartbeats 40000000 in
theorem rm23 (l : Launch) (Z : State) (a0 : Array Value) (hw : ∀ d ∈ tables_1, d.before a0 Z = true) (ws : List Jvm.Cond) (tz : Addr) (x1 : Addr) (st_COMPACT_STRINGS : Int32) (h0 : Heap) (n0 : Nat) (Z0 : n0 ≤ h0.size) (O0 : Old Z n0 h0) (E_tz : Exa Z h0 tz "java/lang/StringBuilder") (F_tz_coder : Fld Z h0 tz "java/lang/AbstractStringBuilder" "coder" "B" (.int (0 : Int32))) (E_x1 : Exa Z h0 x1 "java/lang/String") (F_x1_coder : Fld Z h0 x1 "java/lang/String" "coder" "B" (.int (0 : Int32))) (S_COMPACT_STRINGS : Sta Z Z.heap "java/lang/String" "COMPACT_STRINGS" "Z" (.int st_COMPACT_STRINGS)) (hcomp : ¬ (st_COMPACT_STRINGS = (0 : Int32))) :
    MetFree l (⟨"java/lang/AbstractStringBuilder", "inflateIfNeededFor", "(Ljava/lang/String;)V"⟩ : MethodName) (head1 (Jvm.Cond.code (⟨"java/lang/AbstractStringBuilder", "inflateIfNeededFor", "(Ljava/lang/String;)V"⟩ : MethodName) jdk_68_method_71_code 2 none :: ws) ({ frames := 1, cells := 0, slots := 0, locals := 13 } : Room)) (fun a U => a = #[(.ref tz), (.ref x1)] ∧ Z.Warmed39 U.vm ∧ U.heap = h0) (fun _ _ _ _ _ => True) (fun _ U o U' => ∃ v L, o = .returned v ∧ Q23 Z tz x1 st_COMPACT_STRINGS h0 n0 v U'.heap L ∧ FrameEnd U o U' L ({ frames := 1, cells := 0, slots := 0, locals := 13 } : Room).cells ({ frames := 1, cells := 0, slots := 0, locals := 13 } : Room).slots) := by
  refine MetFree.of_bodySF (plainFor_of_name pn_java_lang_AbstractStringBuilder) hisR ?_
  intro p e s m args below meth c s₁ Bd hml0 hP hK
  obtain ⟨rfl, hZ, hh⟩ := hP
  have hx := Bd.exec
  have hby := Bd.bytes
  have hml : c.maxLocals = 2 := hml0
  have hown : s.vm.findClass "java/lang/AbstractStringBuilder" = some m.cls := findClass_of_methodNamed Bd.named
  have hnm := (name_of_methodNamed Bd.named Bd.method).1
  have X0 : Stand p l e ({ frames := 1, cells := 0, slots := 0, locals := 13 } : Room) s m #[(.ref tz), (.ref x1)] below meth c s₁ [] 0 0 := Stand.of_body Bd
  have e0 : s₁.heap = h0 := by rw [← hh, Bd.state]; rfl
  have N0 := Fr.nil n0
  have K0 : Keep h0 h0 [] := Keep.refl _ _
  have pre0 : ∀ t, Steps p.tables e below (s₁.setTop (mkF m 0 #[.val (.ref tz), .val (.ref x1)] [])) t → Steps p.tables e below (s₁.setTop (entryFrame m #[(.ref tz), (.ref x1)] 2)) t := fun t k => castTop (ef23 m tz x1) k
  obtain ⟨T25, X25, e25, st25⟩ := getS2 X0 hx hZ hown (host := "") (Or.inl (own_wd hw 97 rfl)) Via.refl e0 (S_COMPACT_STRINGS.ext O0.2) (g := (mkF m 0 #[.val (.ref tz), .val (.ref x1)] [])) rfl (hb hby d23_0)
  obtain ⟨T26, X26, e26, st26⟩ := getF X25 hx hZ hown (host := "") (Or.inl (own_wd hw 100 rfl)) Via.refl e25 F_tz_coder (g := (mkF m 7 #[.val (.ref tz), .val (.ref x1)] [(.ref tz)])) rfl rfl (hb hby d23_7)
  obtain ⟨cq27, kq27, q27a, q27b, q27c⟩ := isOf hZ e26 E_x1
  obtain ⟨_, _, ⟨T27, L27, k27, n27⟩, -, X27, ⟨Lc27, hQ27, l27, y27, z27⟩, st27⟩ := X26.virtualBack hx (y := (⟨"java/lang/String", "coder", "()B"⟩ : MethodName)) (z := (⟨"java/lang/String", "coder", "()B"⟩ : MethodName)) hown (mvT hZ (own_wd hw 130 rfl)) (mvT hZ (own_wd hw 56 rfl)) (notFace_of_selects (args := #[]) (mvT hZ (own_wd hw 58 rfl))) (mvT hZ (own_wd hw 58 rfl)) (mvT hZ (own_wd hw 57 rfl)) (by decide) (backOf (W := 1) (rm11 l Z a0 hw [] x1 st_COMPACT_STRINGS h0 n0 Z0 O0 F_x1_coder S_COMPACT_STRINGS hcomp) hZ (own_wd hw 59 rfl) (own_wd hw 3 rfl) (by decide) (by decide)) q27a q27c (g := (mkF m 11 #[.val (.ref tz), .val (.ref x1)] [(.ref x1), (.int (0 : Int32))])) rfl (by rw [hml]; rfl) (Steps.refl _) (argsL := []) (rest := [(.int (0 : Int32))]) (lenOf pd_2 rfl) rfl (by show 2 * 0 + _ ≤ _; exact Nat.le_of_eq rfl) (hb hby d23_11) (fun _ _ => ⟨rfl, e26, (by decide : 0 + 0 ≤ _), (by decide : 0 + 0 ≤ _)⟩)
  dsimp only [Pt.U, Pt.locs, Pt.cells, Pt.slots] at X27 l27 y27 z27 st27 hQ27
  subst l27 y27 z27
  obtain ⟨rfl, N27q, eh27⟩ := hQ27
  have N27 := Fr.app N0 N27q
  obtain ⟨fs, hr, hrun, hended, hW, hsame⟩ := X27.leave (v := none) (fun _ => rfl)
  refine ⟨_, _, pre0 _ ?_, hrun, hended, _, _, rfl, ?_, ⟨_, rfl⟩, hW, hsame.mono (by decide) (by decide)⟩
  · show Steps p.tables e below (s₁.setTop (mkF m 0 #[.val (.ref tz), .val (.ref x1)] [])) _
    refine st25 _ ?_
    show Steps p.tables e below (T25.setTop (mkF m 3 #[.val (.ref tz), .val (.ref x1)] [(.int st_COMPACT_STRINGS)])) _
    refine XS.ifNo X25.here hx rfl (hb hby d23_3) rfl ((if0 _ _).trans (feq hcomp).1) ?_
    refine XS.aloadN X25.here hx rfl (hb hby d23_6) rfl rfl ?_
    show Steps p.tables e below (T25.setTop (mkF m 7 #[.val (.ref tz), .val (.ref x1)] [(.ref tz)])) _
    refine st26 _ ?_
    show Steps p.tables e below (T26.setTop (mkF m 10 #[.val (.ref tz), .val (.ref x1)] [(.int (0 : Int32))])) _
    refine XS.aloadN X26.here hx rfl (hb hby d23_10) rfl rfl ?_
    show Steps p.tables e below (T26.setTop (mkF m 11 #[.val (.ref tz), .val (.ref x1)] [(.ref x1), (.int (0 : Int32))])) _
    refine st27.trans ?_
    show Steps p.tables e below (T27.setTop (mkF m 14 #[.val (.ref tz), .val (.ref x1)] [(.int (0 : Int32)), (.int (0 : Int32))])) _
    refine XS.icmpYes X27.here hx rfl (pc0 := 14) (pc' := 21) rfl (hb hby d23_14) rfl (teq (by decide : (0 : Int32) = (0 : Int32))).1 (by decide) (by decide) ?_
    show Steps p.tables e below (T27.setTop (mkF m 21 #[.val (.ref tz), .val (.ref x1)] [])) _
    exact X27.returnOut hx Bd.returns (hb hby d23_21) hr
  · show Q23 Z tz x1 st_COMPACT_STRINGS h0 n0 _ T27.heap _
    rw [eh27]
    exact ⟨rfl, N27, rfl⟩
theorem d24_0 : decode jdk_42_method_147_code 0 = .ok (.aload_n 0, 1) := by decide +kernel
theorem d24_1 : decode jdk_42_method_147_code 1 = .ok (.invokevirtual 335, 3) := by decide +kernel
theorem d24_4 : decode jdk_42_method_147_code 4 = .ok (.iload_n 3, 1) := by decide +kernel
theorem d24_5 : decode jdk_42_method_147_code 5 = .ok (.if_icmp .ne 23, 3) := by decide +kernel
theorem d24_8 : decode jdk_42_method_147_code 8 = .ok (.aload_n 0, 1) := by decide +kernel
theorem d24_9 : decode jdk_42_method_147_code 9 = .ok (.getfield 9, 3) := by decide +kernel
theorem d24_12 : decode jdk_42_method_147_code 12 = .ok (.iconst 0, 1) := by decide +kernel
theorem d24_13 : decode jdk_42_method_147_code 13 = .ok (.aload_n 1, 1) := by decide +kernel
theorem d24_14 : decode jdk_42_method_147_code 14 = .ok (.iload_n 2, 1) := by decide +kernel
theorem d24_15 : decode jdk_42_method_147_code 15 = .ok (.iload_n 3, 1) := by decide +kernel
theorem d24_16 : decode jdk_42_method_147_code 16 = .ok (.ishl, 1) := by decide +kernel
theorem d24_17 : decode jdk_42_method_147_code 17 = .ok (.aload_n 0, 1) := by decide +kernel
theorem d24_18 : decode jdk_42_method_147_code 18 = .ok (.getfield 9, 3) := by decide +kernel
theorem d24_21 : decode jdk_42_method_147_code 21 = .ok (.arraylength, 1) := by decide +kernel
theorem d24_22 : decode jdk_42_method_147_code 22 = .ok (.invokestatic 212, 3) := by decide +kernel
theorem d24_25 : decode jdk_42_method_147_code 25 = .ok (.goto 18, 3) := by decide +kernel
theorem d24_43 : decode jdk_42_method_147_code 43 = .ok (.return_, 1) := by decide +kernel
theorem ef24_0 (m : MethodId) (tz : Addr) (x1 : Addr) : entryFrame m #[(.ref tz), (.ref x1), (.int (0 : Int32)), (.int (0 : Int32))] 4 = mkF m 0 #[.val (.ref tz), .val (.ref x1), .val (.int (0 : Int32)), .val (.int (0 : Int32))] [] := by first | (simp [entryFrame, mkF, argsToLocals, Value.category]; done) | rfl
def Q24_0 (Z : State) (tz : Addr) (x1 : Addr) (tz_value : Addr) (z0 : Int32) (kb : ClassId) (ks : ClassId) (st_COMPACT_STRINGS : Int32) (h0 : Heap) (n0 : Nat) (v : Option Value) (h : Heap) (L : List Loc) : Prop := v = none ∧ Fr n0 L ∧ Keep h0 h [x1] ∧ Arv Z h x1 kb .byte (16 : Int32) [(.int z0), (.int (0 : Int32)), (.int (0 : Int32)), (.int (0 : Int32)), (.int (0 : Int32)), (.int (0 : Int32)), (.int (0 : Int32)), (.int (0 : Int32)), (.int (0 : Int32)), (.int (0 : Int32)), (.int (0 : Int32)), (.int (0 : Int32)), (.int (0 : Int32)), (.int (0 : Int32)), (.int (0 : Int32)), (.int (0 : Int32))] (.int (0 : Int32))
set_option maxRecDepth 65536 in
set_option maxHeartbeats 40000000 in
theorem rm24_0 (l : Launch) (Z : State) (a0 : Array Value) (hw : ∀ d ∈ tables_1, d.before a0 Z = true) (ws : List Jvm.Cond) (tz : Addr) (x1 : Addr) (tz_value : Addr) (z0 : Int32) (kb : ClassId) (ks : ClassId) (st_COMPACT_STRINGS : Int32) (h0 : Heap) (n0 : Nat) (Z0 : n0 ≤ h0.size) (O0 : Old Z n0 h0) (E_tz : Exa Z h0 tz "java/lang/String") (F_tz_value : Fld Z h0 tz "java/lang/String" "value" "[B" (.ref tz_value)) (F_tz_coder : Fld Z h0 tz "java/lang/String" "coder" "B" (.int (0 : Int32))) (V_tz_value : Arv Z h0 tz_value ks .byte (1 : Int32) [(.int z0)] (.int 0)) (V_x1 : Arv Z h0 x1 kb .byte (16 : Int32) [(.int (0 : Int32)), (.int (0 : Int32)), (.int (0 : Int32)), (.int (0 : Int32)), (.int (0 : Int32)), (.int (0 : Int32)), (.int (0 : Int32)), (.int (0 : Int32)), (.int (0 : Int32)), (.int (0 : Int32)), (.int (0 : Int32)), (.int (0 : Int32)), (.int (0 : Int32)), (.int (0 : Int32)), (.int (0 : Int32)), (.int (0 : Int32))] (.int (0 : Int32))) (S_COMPACT_STRINGS : Sta Z Z.heap "java/lang/String" "COMPACT_STRINGS" "Z" (.int st_COMPACT_STRINGS)) (hcomp : ¬ (st_COMPACT_STRINGS = (0 : Int32))) (g_x1 : n0 ≤ x1) :
    MetFree l (⟨"java/lang/String", "getBytes", "([BIB)V"⟩ : MethodName) (head1 (Jvm.Cond.code (⟨"java/lang/String", "getBytes", "([BIB)V"⟩ : MethodName) jdk_42_method_147_code 4 none :: ws) ({ frames := 1, cells := 0, slots := 0, locals := 18 } : Room)) (fun a U => a = #[(.ref tz), (.ref x1), (.int (0 : Int32)), (.int (0 : Int32))] ∧ Z.Warmed39 U.vm ∧ U.heap = h0) (fun _ _ _ _ _ => True) (fun _ U o U' => ∃ v L, o = .returned v ∧ Q24_0 Z tz x1 tz_value z0 kb ks st_COMPACT_STRINGS h0 n0 v U'.heap L ∧ FrameEnd U o U' L ({ frames := 1, cells := 0, slots := 0, locals := 18 } : Room).cells ({ frames := 1, cells := 0, slots := 0, locals := 18 } : Room).slots) := by
  refine MetFree.of_bodySF (plainFor_of_name pn_java_lang_String) hisR ?_
  intro p e s m args below meth c s₁ Bd hml0 hP hK
  obtain ⟨rfl, hZ, hh⟩ := hP
  have hx := Bd.exec
  have hby := Bd.bytes
  have hml : c.maxLocals = 4 := hml0
  have hown : s.vm.findClass "java/lang/String" = some m.cls := findClass_of_methodNamed Bd.named
  have hnm := (name_of_methodNamed Bd.named Bd.method).1
  have X0 : Stand p l e ({ frames := 1, cells := 0, slots := 0, locals := 18 } : Room) s m #[(.ref tz), (.ref x1), (.int (0 : Int32)), (.int (0 : Int32))] below meth c s₁ [] 0 0 := Stand.of_body Bd
  have e0 : s₁.heap = h0 := by rw [← hh, Bd.state]; rfl
  have N0 := Fr.nil n0
  have K0 : Keep h0 h0 [x1] := Keep.refl _ _
  have pre0 : ∀ t, Steps p.tables e below (s₁.setTop (mkF m 0 #[.val (.ref tz), .val (.ref x1), .val (.int (0 : Int32)), .val (.int (0 : Int32))] [])) t → Steps p.tables e below (s₁.setTop (entryFrame m #[(.ref tz), (.ref x1), (.int (0 : Int32)), (.int (0 : Int32))] 4)) t := fun t k => castTop (ef24_0 m tz x1) k
  obtain ⟨cq28, kq28, q28a, q28b, q28c⟩ := isOf hZ e0 E_tz
  obtain ⟨_, _, ⟨T28, L28, k28, n28⟩, -, X28, ⟨Lc28, hQ28, l28, y28, z28⟩, st28⟩ := X0.virtualBack hx (y := (⟨"java/lang/String", "coder", "()B"⟩ : MethodName)) (z := (⟨"java/lang/String", "coder", "()B"⟩ : MethodName)) hown (mvT hZ (own_wd hw 55 rfl)) (mvT hZ (own_wd hw 56 rfl)) (notFace_of_selects (args := #[]) (mvT hZ (own_wd hw 58 rfl))) (mvT hZ (own_wd hw 58 rfl)) (mvT hZ (own_wd hw 57 rfl)) (by decide) (backOf (W := 0) (rm11 l Z a0 hw [] tz st_COMPACT_STRINGS h0 n0 Z0 O0 F_tz_coder S_COMPACT_STRINGS hcomp) hZ (own_wd hw 59 rfl) (own_wd hw 3 rfl) (by decide) (by decide)) q28a q28c (g := (mkF m 1 #[.val (.ref tz), .val (.ref x1), .val (.int (0 : Int32)), .val (.int (0 : Int32))] [(.ref tz)])) rfl (by rw [hml]; rfl) (Steps.refl _) (argsL := []) (rest := []) (lenOf pd_2 rfl) rfl (by show 2 * 0 + _ ≤ _; exact Nat.le_of_eq rfl) (hb hby d24_1) (fun _ _ => ⟨rfl, e0, (by decide : 0 + 0 ≤ _), (by decide : 0 + 0 ≤ _)⟩)
  dsimp only [Pt.U, Pt.locs, Pt.cells, Pt.slots] at X28 l28 y28 z28 st28 hQ28
  subst l28 y28 z28
  obtain ⟨rfl, N28q, eh28⟩ := hQ28
  have N28 := Fr.app N0 N28q
  obtain ⟨T29, X29, e29, st29⟩ := getF X28 hx hZ hown (host := "") (Or.inl (own_wd hw 28 rfl)) Via.refl eh28 F_tz_value (g := (mkF m 9 #[.val (.ref tz), .val (.ref x1), .val (.int (0 : Int32)), .val (.int (0 : Int32))] [(.ref tz)])) rfl rfl (hb hby d24_9)
  obtain ⟨T30, X30, e30, st30⟩ := getF X29 hx hZ hown (host := "") (Or.inl (own_wd hw 28 rfl)) Via.refl e29 F_tz_value (g := (mkF m 18 #[.val (.ref tz), .val (.ref x1), .val (.int (0 : Int32)), .val (.int (0 : Int32))] [(.ref tz), (.int ((0 : Int32) <<< ((0 : Int32) &&& 31))), (.ref x1), (.int (0 : Int32)), (.ref tz_value)])) rfl rfl (hb hby d24_18)
  obtain ⟨cl_a31, Ar_a31, -, S_a31, N_a31, -, -⟩ := id V_tz_value
  obtain ⟨T32, h32, L32, X32, e32, N32, KK32, A32, st32⟩ := cpA X30 hx hZ hown (own_wd hw 136 rfl) (own_wd hw 139 rfl) (own_wd hw 137 rfl) (own_wd hw 138 rfl) e30 (us := [(.int z0)]) V_tz_value V_x1 (Or.inl ⟨rfl, rfl⟩) (by first | decide | exact Nat.le_of_ble_eq_true rfl) (by first | decide | exact Nat.le_of_ble_eq_true rfl) (by first | decide | exact Nat.le_of_ble_eq_true rfl) (by first | decide | exact Nat.le_of_ble_eq_true rfl) (by first | decide | exact Nat.le_of_ble_eq_true rfl) rfl (by first | decide | exact Nat.le_of_ble_eq_true rfl) N28 g_x1 (g := (mkF m 22 #[.val (.ref tz), .val (.ref x1), .val (.int (0 : Int32)), .val (.int (0 : Int32))] [(.int (1 : Int32)), (.int ((0 : Int32) <<< ((0 : Int32) &&& 31))), (.ref x1), (.int (0 : Int32)), (.ref tz_value)])) rfl (by rw [hml]; rfl) rfl (hb hby d24_22) (by decide) (W := 0) (by show 2 * 0 + _ ≤ _; exact Nat.le_of_eq rfl) (by decide)
  have O32 : Old Z n0 h32 := O0.keep KK32 (allS g_x1 all0)
  have Z32 : n0 ≤ h32.size := Nat.le_trans Z0 KK32.1
  have K32 : Keep h0 h32 [x1] := K0.trans KK32 (allS (Or.inl (List.mem_of_getElem? (i := 0) rfl)) all0)
  have V32 : Arv Z h32 x1 kb .byte (16 : Int32) [(.int z0), (.int (0 : Int32)), (.int (0 : Int32)), (.int (0 : Int32)), (.int (0 : Int32)), (.int (0 : Int32)), (.int (0 : Int32)), (.int (0 : Int32)), (.int (0 : Int32)), (.int (0 : Int32)), (.int (0 : Int32)), (.int (0 : Int32)), (.int (0 : Int32)), (.int (0 : Int32)), (.int (0 : Int32)), (.int (0 : Int32))] (.int (0 : Int32)) := A32
  obtain ⟨fs, hr, hrun, hended, hW, hsame⟩ := X32.leave (v := none) (fun _ => rfl)
  refine ⟨_, _, pre0 _ ?_, hrun, hended, _, _, rfl, ?_, ⟨_, rfl⟩, hW, hsame.mono (by decide) (by decide)⟩
  · show Steps p.tables e below (s₁.setTop (mkF m 0 #[.val (.ref tz), .val (.ref x1), .val (.int (0 : Int32)), .val (.int (0 : Int32))] [])) _
    refine XS.aloadN X0.here hx rfl (hb hby d24_0) rfl rfl ?_
    show Steps p.tables e below (s₁.setTop (mkF m 1 #[.val (.ref tz), .val (.ref x1), .val (.int (0 : Int32)), .val (.int (0 : Int32))] [(.ref tz)])) _
    refine st28.trans ?_
    show Steps p.tables e below (T28.setTop (mkF m 4 #[.val (.ref tz), .val (.ref x1), .val (.int (0 : Int32)), .val (.int (0 : Int32))] [(.int (0 : Int32))])) _
    refine XS.iloadN X28.here hx rfl (hb hby d24_4) rfl ?_
    refine XS.icmpNo X28.here hx rfl (hb hby d24_5) rfl (teq (by decide : (0 : Int32) = (0 : Int32))).2 ?_
    refine XS.aloadN X28.here hx rfl (hb hby d24_8) rfl rfl ?_
    show Steps p.tables e below (T28.setTop (mkF m 9 #[.val (.ref tz), .val (.ref x1), .val (.int (0 : Int32)), .val (.int (0 : Int32))] [(.ref tz)])) _
    refine st29 _ ?_
    show Steps p.tables e below (T29.setTop (mkF m 12 #[.val (.ref tz), .val (.ref x1), .val (.int (0 : Int32)), .val (.int (0 : Int32))] [(.ref tz_value)])) _
    refine XS.iconst X29.here hx rfl (hb hby d24_12) ?_
    refine XS.aloadN X29.here hx rfl (hb hby d24_13) rfl rfl ?_
    refine XS.iloadN X29.here hx rfl (hb hby d24_14) rfl ?_
    refine XS.iloadN X29.here hx rfl (hb hby d24_15) rfl ?_
    show Steps p.tables e below (T29.setTop (mkF m 16 #[.val (.ref tz), .val (.ref x1), .val (.int (0 : Int32)), .val (.int (0 : Int32))] [(.int (0 : Int32)), (.int (0 : Int32)), (.ref x1), (.int (0 : Int32)), (.ref tz_value)])) _
    refine XS.ishl X29.here hx rfl (hb hby d24_16) rfl ?_
    refine XS.aloadN X29.here hx rfl (hb hby d24_17) rfl rfl ?_
    show Steps p.tables e below (T29.setTop (mkF m 18 #[.val (.ref tz), .val (.ref x1), .val (.int (0 : Int32)), .val (.int (0 : Int32))] [(.ref tz), (.int ((0 : Int32) <<< ((0 : Int32) &&& 31))), (.ref x1), (.int (0 : Int32)), (.ref tz_value)])) _
    refine st30 _ ?_
    show Steps p.tables e below (T30.setTop (mkF m 21 #[.val (.ref tz), .val (.ref x1), .val (.int (0 : Int32)), .val (.int (0 : Int32))] [(.ref tz_value), (.int ((0 : Int32) <<< ((0 : Int32) &&& 31))), (.ref x1), (.int (0 : Int32)), (.ref tz_value)])) _
    refine X30.arraylength hx (by rw [e30]; exact Ar_a31.1) (State.isArrayOf_alike hZ.alike Ar_a31.2.1) (g := (mkF m 21 #[.val (.ref tz), .val (.ref x1), .val (.int (0 : Int32)), .val (.int (0 : Int32))] [(.ref tz_value), (.int ((0 : Int32) <<< ((0 : Int32) &&& 31))), (.ref x1), (.int (0 : Int32)), (.ref tz_value)])) rfl rfl (hb hby d24_21) _ ?_
    rw [len_of S_a31 N_a31]
    show Steps p.tables e below (T30.setTop (mkF m 22 #[.val (.ref tz), .val (.ref x1), .val (.int (0 : Int32)), .val (.int (0 : Int32))] [(.int (1 : Int32)), (.int ((0 : Int32) <<< ((0 : Int32) &&& 31))), (.ref x1), (.int (0 : Int32)), (.ref tz_value)])) _
    refine st32 _ ?_
    show Steps p.tables e below (T32.setTop (mkF m 25 #[.val (.ref tz), .val (.ref x1), .val (.int (0 : Int32)), .val (.int (0 : Int32))] [])) _
    refine XS.goto X32.here hx rfl (pc0 := 25) (pc' := 43) rfl (hb hby d24_25) (by decide) (by decide) ?_
    show Steps p.tables e below (T32.setTop (mkF m 43 #[.val (.ref tz), .val (.ref x1), .val (.int (0 : Int32)), .val (.int (0 : Int32))] [])) _
    exact X32.returnOut hx Bd.returns (hb hby d24_43) hr
  · show Q24_0 Z tz x1 tz_value z0 kb ks st_COMPACT_STRINGS h0 n0 _ T32.heap _
    rw [e32]
    exact ⟨rfl, N32, K32, V32⟩
theorem d22_0 : decode jdk_68_method_73_code 0 = .ok (.aload_n 0, 1) := by decide +kernel
theorem d22_1 : decode jdk_68_method_73_code 1 = .ok (.aload_n 2, 1) := by decide +kernel
theorem pd_3 : parseMethodDescriptor "(Ljava/lang/String;)V" = some ⟨[(.object "java/lang/String")], none⟩ := by decide +kernel
theorem d22_2 : decode jdk_68_method_73_code 2 = .ok (.invokevirtual 397, 3) := by decide +kernel
theorem d22_5 : decode jdk_68_method_73_code 5 = .ok (.aload_n 2, 1) := by decide +kernel
theorem d22_6 : decode jdk_68_method_73_code 6 = .ok (.aload_n 0, 1) := by decide +kernel
theorem d22_7 : decode jdk_68_method_73_code 7 = .ok (.getfield 15, 3) := by decide +kernel
theorem d22_10 : decode jdk_68_method_73_code 10 = .ok (.iload_n 1, 1) := by decide +kernel
theorem d22_11 : decode jdk_68_method_73_code 11 = .ok (.aload_n 0, 1) := by decide +kernel
theorem d22_12 : decode jdk_68_method_73_code 12 = .ok (.getfield 22, 3) := by decide +kernel
theorem pd_4 : parseMethodDescriptor "([BIB)V" = some ⟨[(.array .byte), .int, .byte], none⟩ := by decide +kernel
theorem d22_15 : decode jdk_68_method_73_code 15 = .ok (.invokevirtual 399, 3) := by decide +kernel
theorem d22_18 : decode jdk_68_method_73_code 18 = .ok (.return_, 1) := by decide +kernel
theorem ef22_0 (m : MethodId) (tz : Addr) (x2 : Addr) : entryFrame m #[(.ref tz), (.int (0 : Int32)), (.ref x2)] 3 = mkF m 0 #[.val (.ref tz), .val (.int (0 : Int32)), .val (.ref x2)] [] := by first | (simp [entryFrame, mkF, argsToLocals, Value.category]; done) | rfl
def Q22_0 (Z : State) (tz : Addr) (x2 : Addr) (tz_value : Addr) (x2_value : Addr) (z0 : Int32) (kb : ClassId) (ks : ClassId) (st_COMPACT_STRINGS : Int32) (h0 : Heap) (n0 : Nat) (v : Option Value) (h : Heap) (L : List Loc) : Prop := v = none ∧ Fr n0 L ∧ Keep h0 h [tz_value] ∧ Arv Z h tz_value kb .byte (16 : Int32) [(.int z0), (.int (0 : Int32)), (.int (0 : Int32)), (.int (0 : Int32)), (.int (0 : Int32)), (.int (0 : Int32)), (.int (0 : Int32)), (.int (0 : Int32)), (.int (0 : Int32)), (.int (0 : Int32)), (.int (0 : Int32)), (.int (0 : Int32)), (.int (0 : Int32)), (.int (0 : Int32)), (.int (0 : Int32)), (.int (0 : Int32))] (.int (0 : Int32))
set_option maxRecDepth 65536 in
set_option maxHeartbeats 40000000 in
theorem rm22_0 (l : Launch) (Z : State) (a0 : Array Value) (hw : ∀ d ∈ tables_1, d.before a0 Z = true) (ws : List Jvm.Cond) (tz : Addr) (x2 : Addr) (tz_value : Addr) (x2_value : Addr) (z0 : Int32) (kb : ClassId) (ks : ClassId) (st_COMPACT_STRINGS : Int32) (h0 : Heap) (n0 : Nat) (Z0 : n0 ≤ h0.size) (O0 : Old Z n0 h0) (E_tz : Exa Z h0 tz "java/lang/StringBuilder") (F_tz_value : Fld Z h0 tz "java/lang/AbstractStringBuilder" "value" "[B" (.ref tz_value)) (F_tz_coder : Fld Z h0 tz "java/lang/AbstractStringBuilder" "coder" "B" (.int (0 : Int32))) (V_tz_value : Arv Z h0 tz_value kb .byte (16 : Int32) [(.int (0 : Int32)), (.int (0 : Int32)), (.int (0 : Int32)), (.int (0 : Int32)), (.int (0 : Int32)), (.int (0 : Int32)), (.int (0 : Int32)), (.int (0 : Int32)), (.int (0 : Int32)), (.int (0 : Int32)), (.int (0 : Int32)), (.int (0 : Int32)), (.int (0 : Int32)), (.int (0 : Int32)), (.int (0 : Int32)), (.int (0 : Int32))] (.int (0 : Int32))) (E_x2 : Exa Z h0 x2 "java/lang/String") (F_x2_value : Fld Z h0 x2 "java/lang/String" "value" "[B" (.ref x2_value)) (F_x2_coder : Fld Z h0 x2 "java/lang/String" "coder" "B" (.int (0 : Int32))) (V_x2_value : Arv Z h0 x2_value ks .byte (1 : Int32) [(.int z0)] (.int 0)) (N_xv : x2_value ≠ tz_value) (S_COMPACT_STRINGS : Sta Z Z.heap "java/lang/String" "COMPACT_STRINGS" "Z" (.int st_COMPACT_STRINGS)) (hcomp : ¬ (st_COMPACT_STRINGS = (0 : Int32))) (g_tz_value : n0 ≤ tz_value) :
    MetFree l (⟨"java/lang/AbstractStringBuilder", "putStringAt", "(ILjava/lang/String;)V"⟩ : MethodName) (head1 (Jvm.Cond.code (⟨"java/lang/AbstractStringBuilder", "putStringAt", "(ILjava/lang/String;)V"⟩ : MethodName) jdk_68_method_73_code 3 none :: ws) ({ frames := 2, cells := 0, slots := 0, locals := 33 } : Room)) (fun a U => a = #[(.ref tz), (.int (0 : Int32)), (.ref x2)] ∧ Z.Warmed39 U.vm ∧ U.heap = h0) (fun _ _ _ _ _ => True) (fun _ U o U' => ∃ v L, o = .returned v ∧ Q22_0 Z tz x2 tz_value x2_value z0 kb ks st_COMPACT_STRINGS h0 n0 v U'.heap L ∧ FrameEnd U o U' L ({ frames := 2, cells := 0, slots := 0, locals := 33 } : Room).cells ({ frames := 2, cells := 0, slots := 0, locals := 33 } : Room).slots) := by
  refine MetFree.of_bodySF (plainFor_of_name pn_java_lang_AbstractStringBuilder) hisR ?_
  intro p e s m args below meth c s₁ Bd hml0 hP hK
  obtain ⟨rfl, hZ, hh⟩ := hP
  have hx := Bd.exec
  have hby := Bd.bytes
  have hml : c.maxLocals = 3 := hml0
  have hown : s.vm.findClass "java/lang/AbstractStringBuilder" = some m.cls := findClass_of_methodNamed Bd.named
  have hnm := (name_of_methodNamed Bd.named Bd.method).1
  have X0 : Stand p l e ({ frames := 2, cells := 0, slots := 0, locals := 33 } : Room) s m #[(.ref tz), (.int (0 : Int32)), (.ref x2)] below meth c s₁ [] 0 0 := Stand.of_body Bd
  have e0 : s₁.heap = h0 := by rw [← hh, Bd.state]; rfl
  have N0 := Fr.nil n0
  have K0 : Keep h0 h0 [tz_value] := Keep.refl _ _
  have pre0 : ∀ t, Steps p.tables e below (s₁.setTop (mkF m 0 #[.val (.ref tz), .val (.int (0 : Int32)), .val (.ref x2)] [])) t → Steps p.tables e below (s₁.setTop (entryFrame m #[(.ref tz), (.int (0 : Int32)), (.ref x2)] 3)) t := fun t k => castTop (ef22_0 m tz x2) k
  obtain ⟨cq33, q33, q33'⟩ := E_tz.cell
  obtain ⟨_, _, ⟨T33, L33, k33, n33⟩, -, X33, ⟨Lc33, hQ33, l33, y33, z33⟩, st33⟩ := X0.privateBack hx (y := (⟨"java/lang/AbstractStringBuilder", "inflateIfNeededFor", "(Ljava/lang/String;)V"⟩ : MethodName)) hown (mvT hZ (own_wd hw 125 rfl)) (mvT hZ (own_wd hw 126 rfl)) (mvT hZ (own_selp (own_wd hw 128 rfl) (Cond.privateMethod_at (own_wd hw 127 rfl)) (own_wd hw 126 rfl) (by decide))) (Cond.privateMethod_at (mvP hZ (own_wd hw 127 rfl) (args := #[]))) (mvT hZ (own_wd hw 129 rfl)) (by decide) (backOf (W := 0) (rm23 l Z a0 hw [] tz x2 st_COMPACT_STRINGS h0 n0 Z0 O0 E_tz F_tz_coder E_x2 F_x2_coder S_COMPACT_STRINGS hcomp) hZ (own_wd hw 129 rfl) (own_wd hw 94 rfl) (by decide) (by decide)) (g := (mkF m 2 #[.val (.ref tz), .val (.int (0 : Int32)), .val (.ref x2)] [(.ref x2), (.ref tz)])) rfl (by rw [hml]; rfl) (Steps.refl _) (a := tz) (by rw [e0]; exact q33) q33' (argsL := [(.ref x2)]) (rest := []) (lenOf pd_3 rfl) rfl (by show 2 * 0 + _ ≤ _; exact Nat.le_of_eq rfl) (hb hby d22_2) (fun _ _ => ⟨rfl, e0, (by decide : 0 + 0 ≤ _), (by decide : 0 + 0 ≤ _)⟩)
  dsimp only [Pt.U, Pt.locs, Pt.cells, Pt.slots] at X33 l33 y33 z33 st33 hQ33
  subst l33 y33 z33
  obtain ⟨rfl, N33q, eh33⟩ := hQ33
  have N33 := Fr.app N0 N33q
  obtain ⟨T34, X34, e34, st34⟩ := getF X33 hx hZ hown (host := "") (Or.inl (own_wd hw 98 rfl)) Via.refl eh33 F_tz_value (g := (mkF m 7 #[.val (.ref tz), .val (.int (0 : Int32)), .val (.ref x2)] [(.ref tz), (.ref x2)])) rfl rfl (hb hby d22_7)
  obtain ⟨T35, X35, e35, st35⟩ := getF X34 hx hZ hown (host := "") (Or.inl (own_wd hw 100 rfl)) Via.refl e34 F_tz_coder (g := (mkF m 12 #[.val (.ref tz), .val (.int (0 : Int32)), .val (.ref x2)] [(.ref tz), (.int (0 : Int32)), (.ref tz_value), (.ref x2)])) rfl rfl (hb hby d22_12)
  obtain ⟨cq36, kq36, q36a, q36b, q36c⟩ := isOf hZ e35 E_x2
  obtain ⟨_, _, ⟨T36, L36, k36, n36⟩, -, X36, ⟨Lc36, hQ36, l36, y36, z36⟩, st36⟩ := X35.virtualBack hx (y := (⟨"java/lang/String", "getBytes", "([BIB)V"⟩ : MethodName)) (z := (⟨"java/lang/String", "getBytes", "([BIB)V"⟩ : MethodName)) hown (mvT hZ (own_wd hw 131 rfl)) (mvT hZ (own_wd hw 132 rfl)) (notFace_of_selects (args := #[]) (mvT hZ (own_wd hw 134 rfl))) (mvT hZ (own_wd hw 134 rfl)) (mvT hZ (own_wd hw 133 rfl)) (by decide) (backOf (W := 0) (rm24_0 l Z a0 hw [] x2 tz_value x2_value z0 kb ks st_COMPACT_STRINGS h0 n0 Z0 O0 E_x2 F_x2_value F_x2_coder V_x2_value V_tz_value S_COMPACT_STRINGS hcomp g_tz_value) hZ (own_wd hw 135 rfl) (own_wd hw 3 rfl) (by decide) (by decide)) q36a q36c (g := (mkF m 15 #[.val (.ref tz), .val (.int (0 : Int32)), .val (.ref x2)] [(.int (0 : Int32)), (.int (0 : Int32)), (.ref tz_value), (.ref x2)])) rfl (by rw [hml]; rfl) (Steps.refl _) (argsL := [(.ref tz_value), (.int (0 : Int32)), (.int (0 : Int32))]) (rest := []) (lenOf pd_4 rfl) rfl (by show 2 * 0 + _ ≤ _; exact Nat.le_of_eq rfl) (hb hby d22_15) (fun _ _ => ⟨rfl, e35, (by decide : 0 + 0 ≤ _), (by decide : 0 + 0 ≤ _)⟩)
  dsimp only [Pt.U, Pt.locs, Pt.cells, Pt.slots] at X36 l36 y36 z36 st36 hQ36
  subst l36 y36 z36
  obtain ⟨rfl, N36q, KK36, Q36_0⟩ := hQ36
  have N36 := Fr.app N33 N36q
  have O36 : Old Z n0 T36.heap := O0.keep KK36 (allS g_tz_value all0)
  have Z36 : n0 ≤ T36.heap.size := Nat.le_trans Z0 KK36.1
  have K36 : Keep h0 T36.heap [tz_value] := K0.trans KK36 (allS (Or.inl (List.mem_of_getElem? (i := 0) rfl)) all0)
  obtain ⟨fs, hr, hrun, hended, hW, hsame⟩ := X36.leave (v := none) (fun _ => rfl)
  refine ⟨_, _, pre0 _ ?_, hrun, hended, _, _, rfl, ?_, ⟨_, rfl⟩, hW, hsame.mono (by decide) (by decide)⟩
  · show Steps p.tables e below (s₁.setTop (mkF m 0 #[.val (.ref tz), .val (.int (0 : Int32)), .val (.ref x2)] [])) _
    refine XS.aloadN X0.here hx rfl (hb hby d22_0) rfl rfl ?_
    refine XS.aloadN X0.here hx rfl (hb hby d22_1) rfl rfl ?_
    show Steps p.tables e below (s₁.setTop (mkF m 2 #[.val (.ref tz), .val (.int (0 : Int32)), .val (.ref x2)] [(.ref x2), (.ref tz)])) _
    refine st33.trans ?_
    show Steps p.tables e below (T33.setTop (mkF m 5 #[.val (.ref tz), .val (.int (0 : Int32)), .val (.ref x2)] [])) _
    refine XS.aloadN X33.here hx rfl (hb hby d22_5) rfl rfl ?_
    refine XS.aloadN X33.here hx rfl (hb hby d22_6) rfl rfl ?_
    show Steps p.tables e below (T33.setTop (mkF m 7 #[.val (.ref tz), .val (.int (0 : Int32)), .val (.ref x2)] [(.ref tz), (.ref x2)])) _
    refine st34 _ ?_
    show Steps p.tables e below (T34.setTop (mkF m 10 #[.val (.ref tz), .val (.int (0 : Int32)), .val (.ref x2)] [(.ref tz_value), (.ref x2)])) _
    refine XS.iloadN X34.here hx rfl (hb hby d22_10) rfl ?_
    refine XS.aloadN X34.here hx rfl (hb hby d22_11) rfl rfl ?_
    show Steps p.tables e below (T34.setTop (mkF m 12 #[.val (.ref tz), .val (.int (0 : Int32)), .val (.ref x2)] [(.ref tz), (.int (0 : Int32)), (.ref tz_value), (.ref x2)])) _
    refine st35 _ ?_
    show Steps p.tables e below (T35.setTop (mkF m 15 #[.val (.ref tz), .val (.int (0 : Int32)), .val (.ref x2)] [(.int (0 : Int32)), (.int (0 : Int32)), (.ref tz_value), (.ref x2)])) _
    refine st36.trans ?_
    show Steps p.tables e below (T36.setTop (mkF m 18 #[.val (.ref tz), .val (.int (0 : Int32)), .val (.ref x2)] [])) _
    exact X36.returnOut hx Bd.returns (hb hby d22_18) hr
  · show Q22_0 Z tz x2 tz_value x2_value z0 kb ks st_COMPACT_STRINGS h0 n0 _ T36.heap _
    exact ⟨rfl, N36, K36, Q36_0⟩
theorem d20_0 : decode jdk_68_method_22_code 0 = .ok (.aload_n 1, 1) := by decide +kernel
theorem d20_1 : decode jdk_68_method_22_code 1 = .ok (.ifnonnull 8, 3) := by decide +kernel
theorem d20_9 : decode jdk_68_method_22_code 9 = .ok (.aload_n 1, 1) := by decide +kernel
theorem d20_10 : decode jdk_68_method_22_code 10 = .ok (.invokevirtual 32, 3) := by decide +kernel
theorem d20_13 : decode jdk_68_method_22_code 13 = .ok (.istore_n 2, 1) := by decide +kernel
theorem d20_14 : decode jdk_68_method_22_code 14 = .ok (.aload_n 0, 1) := by decide +kernel
theorem d20_15 : decode jdk_68_method_22_code 15 = .ok (.aload_n 0, 1) := by decide +kernel
theorem d20_16 : decode jdk_68_method_22_code 16 = .ok (.getfield 79, 3) := by decide +kernel
theorem d20_19 : decode jdk_68_method_22_code 19 = .ok (.iload_n 2, 1) := by decide +kernel
theorem d20_20 : decode jdk_68_method_22_code 20 = .ok (.iadd, 1) := by decide +kernel
theorem d20_21 : decode jdk_68_method_22_code 21 = .ok (.invokevirtual 100, 3) := by decide +kernel
theorem d20_24 : decode jdk_68_method_22_code 24 = .ok (.aload_n 0, 1) := by decide +kernel
theorem d20_25 : decode jdk_68_method_22_code 25 = .ok (.aload_n 0, 1) := by decide +kernel
theorem d20_26 : decode jdk_68_method_22_code 26 = .ok (.getfield 79, 3) := by decide +kernel
theorem d20_29 : decode jdk_68_method_22_code 29 = .ok (.aload_n 1, 1) := by decide +kernel
theorem pd_5 : parseMethodDescriptor "(ILjava/lang/String;)V" = some ⟨[.int, (.object "java/lang/String")], none⟩ := by decide +kernel
theorem d20_30 : decode jdk_68_method_22_code 30 = .ok (.invokevirtual 208, 3) := by decide +kernel
theorem d20_33 : decode jdk_68_method_22_code 33 = .ok (.aload_n 0, 1) := by decide +kernel
theorem d20_34 : decode jdk_68_method_22_code 34 = .ok (.dup, 1) := by decide +kernel
theorem d20_35 : decode jdk_68_method_22_code 35 = .ok (.getfield 79, 3) := by decide +kernel
theorem d20_38 : decode jdk_68_method_22_code 38 = .ok (.iload_n 2, 1) := by decide +kernel
theorem d20_39 : decode jdk_68_method_22_code 39 = .ok (.iadd, 1) := by decide +kernel
theorem d20_40 : decode jdk_68_method_22_code 40 = .ok (.putfield 79, 3) := by decide +kernel
theorem d20_43 : decode jdk_68_method_22_code 43 = .ok (.aload_n 0, 1) := by decide +kernel
theorem d20_44 : decode jdk_68_method_22_code 44 = .ok (.areturn, 1) := by decide +kernel
theorem ef20_0 (m : MethodId) (tz : Addr) (x1 : Addr) : entryFrame m #[(.ref tz), (.ref x1)] 3 = mkF m 0 #[.val (.ref tz), .val (.ref x1), .unset] [] := by first | (simp [entryFrame, mkF, argsToLocals, Value.category]; done) | rfl
def Q20_0 (Z : State) (tz : Addr) (x1 : Addr) (tz_value : Addr) (x1_value : Addr) (y0 : Int32) (kb : ClassId) (ks : ClassId) (st_COMPACT_STRINGS : Int32) (h0 : Heap) (n0 : Nat) (v : Option Value) (h : Heap) (L : List Loc) : Prop := v = some (.ref tz) ∧ Fr n0 L ∧ Keep h0 h [tz_value, tz] ∧ Exa Z h tz "java/lang/StringBuilder" ∧ Fld Z h tz "java/lang/AbstractStringBuilder" "value" "[B" (.ref tz_value) ∧ Fld Z h tz "java/lang/AbstractStringBuilder" "coder" "B" (.int (0 : Int32)) ∧ Fld Z h tz "java/lang/AbstractStringBuilder" "count" "I" (.int (1 : Int32)) ∧ Arv Z h tz_value kb .byte (16 : Int32) [(.int (y0.toInt8.toInt32)), (.int (0 : Int32)), (.int (0 : Int32)), (.int (0 : Int32)), (.int (0 : Int32)), (.int (0 : Int32)), (.int (0 : Int32)), (.int (0 : Int32)), (.int (0 : Int32)), (.int (0 : Int32)), (.int (0 : Int32)), (.int (0 : Int32)), (.int (0 : Int32)), (.int (0 : Int32)), (.int (0 : Int32)), (.int (0 : Int32))] (.int (0 : Int32))
set_option maxRecDepth 65536 in
set_option maxHeartbeats 40000000 in
theorem rm20_0 (l : Launch) (Z : State) (a0 : Array Value) (hw : ∀ d ∈ tables_1, d.before a0 Z = true) (ws : List Jvm.Cond) (tz : Addr) (x1 : Addr) (tz_value : Addr) (x1_value : Addr) (y0 : Int32) (kb : ClassId) (ks : ClassId) (st_COMPACT_STRINGS : Int32) (h0 : Heap) (n0 : Nat) (Z0 : n0 ≤ h0.size) (O0 : Old Z n0 h0) (E_tz : Exa Z h0 tz "java/lang/StringBuilder") (F_tz_value : Fld Z h0 tz "java/lang/AbstractStringBuilder" "value" "[B" (.ref tz_value)) (F_tz_coder : Fld Z h0 tz "java/lang/AbstractStringBuilder" "coder" "B" (.int (0 : Int32))) (V_tz_value : Arv Z h0 tz_value kb .byte (16 : Int32) [(.int (0 : Int32)), (.int (0 : Int32)), (.int (0 : Int32)), (.int (0 : Int32)), (.int (0 : Int32)), (.int (0 : Int32)), (.int (0 : Int32)), (.int (0 : Int32)), (.int (0 : Int32)), (.int (0 : Int32)), (.int (0 : Int32)), (.int (0 : Int32)), (.int (0 : Int32)), (.int (0 : Int32)), (.int (0 : Int32)), (.int (0 : Int32))] (.int (0 : Int32))) (F_tz_count : Fld Z h0 tz "java/lang/AbstractStringBuilder" "count" "I" (.int (0 : Int32))) (E_x1 : Exa Z h0 x1 "java/lang/String") (F_x1_value : Fld Z h0 x1 "java/lang/String" "value" "[B" (.ref x1_value)) (F_x1_coder : Fld Z h0 x1 "java/lang/String" "coder" "B" (.int (0 : Int32))) (V_x1_value : Arv Z h0 x1_value ks .byte (1 : Int32) [(.int (y0.toInt8.toInt32))] (.int 0)) (N_xv : x1_value ≠ tz_value) (hp : ∀ c ∈ ([y0] : List Int32), ¬ c < 0 ∧ ¬ (255 : Int32) < c) (S_COMPACT_STRINGS : Sta Z Z.heap "java/lang/String" "COMPACT_STRINGS" "Z" (.int st_COMPACT_STRINGS)) (hcomp : ¬ (st_COMPACT_STRINGS = (0 : Int32))) (g_tz_value : n0 ≤ tz_value) (g_tz : n0 ≤ tz) :
    MetFree l (⟨"java/lang/AbstractStringBuilder", "append", "(Ljava/lang/String;)Ljava/lang/AbstractStringBuilder;"⟩ : MethodName) (head1 (Jvm.Cond.code (⟨"java/lang/AbstractStringBuilder", "append", "(Ljava/lang/String;)Ljava/lang/AbstractStringBuilder;"⟩ : MethodName) jdk_68_method_22_code 3 (some (.object "java/lang/AbstractStringBuilder")) :: ws) ({ frames := 3, cells := 0, slots := 0, locals := 47 } : Room)) (fun a U => a = #[(.ref tz), (.ref x1)] ∧ Z.Warmed39 U.vm ∧ U.heap = h0) (fun _ _ _ _ _ => True) (fun _ U o U' => ∃ v L, o = .returned v ∧ Q20_0 Z tz x1 tz_value x1_value y0 kb ks st_COMPACT_STRINGS h0 n0 v U'.heap L ∧ FrameEnd U o U' L ({ frames := 3, cells := 0, slots := 0, locals := 47 } : Room).cells ({ frames := 3, cells := 0, slots := 0, locals := 47 } : Room).slots) := by
  refine MetFree.of_bodySF (plainFor_of_name pn_java_lang_AbstractStringBuilder) hisR ?_
  intro p e s m args below meth c s₁ Bd hml0 hP hK
  obtain ⟨rfl, hZ, hh⟩ := hP
  have hx := Bd.exec
  have hby := Bd.bytes
  have hml : c.maxLocals = 3 := hml0
  have hown : s.vm.findClass "java/lang/AbstractStringBuilder" = some m.cls := findClass_of_methodNamed Bd.named
  have hnm := (name_of_methodNamed Bd.named Bd.method).1
  have X0 : Stand p l e ({ frames := 3, cells := 0, slots := 0, locals := 47 } : Room) s m #[(.ref tz), (.ref x1)] below meth c s₁ [] 0 0 := Stand.of_body Bd
  have e0 : s₁.heap = h0 := by rw [← hh, Bd.state]; rfl
  have N0 := Fr.nil n0
  have K0 : Keep h0 h0 [tz_value, tz] := Keep.refl _ _
  have pre0 : ∀ t, Steps p.tables e below (s₁.setTop (mkF m 0 #[.val (.ref tz), .val (.ref x1), .unset] [])) t → Steps p.tables e below (s₁.setTop (entryFrame m #[(.ref tz), (.ref x1)] 3)) t := fun t k => castTop (ef20_0 m tz x1) k
  have cd37 : StrChars.Road.CodA ([y0] : List Int32) 0 (1 : Int32) [(.int (y0.toInt8.toInt32))] := StrChars.Road.codOf (n := 1) rfl (fun c hc => (hp c hc).2)
  have hb38 : ∀ c ∈ ([y0] : List Int32), ¬ c < 0 ∧ ¬ (65535 : Int32) < c := own_up _ hp
  obtain ⟨cq39, kq39, q39a, q39b, q39c⟩ := isOf hZ e0 E_x1
  obtain ⟨_, _, ⟨T39, L39, k39, n39⟩, -, X39, ⟨Lc39, hQ39, l39, y39, z39⟩, st39⟩ := X0.virtualBack hx (y := (⟨"java/lang/String", "length", "()I"⟩ : MethodName)) (z := (⟨"java/lang/String", "length", "()I"⟩ : MethodName)) hown (mvT hZ (own_wd hw 112 rfl)) (mvT hZ (own_wd hw 51 rfl)) (notFace_of_selects (args := #[]) (mvT hZ (own_wd hw 53 rfl))) (mvT hZ (own_wd hw 53 rfl)) (mvT hZ (own_wd hw 52 rfl)) (by decide) (StrChars.Road.lenW (W := 0) hZ (own_hln hw) (kI := 4) (own_wd hw 2 rfl) E_x1 F_x1_value F_x1_coder V_x1_value cd37 hb38 (S_COMPACT_STRINGS.ext O0.2) hcomp (Nat.le_of_ble_eq_true rfl) (by decide) (by decide)) q39a q39c (g := (mkF m 10 #[.val (.ref tz), .val (.ref x1), .unset] [(.ref x1)])) rfl (by rw [hml]; rfl) (Steps.refl _) (argsL := []) (rest := []) (lenOf pd_0 rfl) rfl (by show 2 * 0 + _ ≤ _; exact Nat.le_of_eq rfl) (hb hby d20_10) (fun _ _ => ⟨rfl, e0, (by decide : 0 + 0 ≤ _), (by decide : 0 + 0 ≤ _)⟩)
  dsimp only [Pt.U, Pt.locs, Pt.cells, Pt.slots] at X39 l39 y39 z39 st39 hQ39
  subst l39 y39 z39
  obtain ⟨hv39, rfl, eh39⟩ := hQ39
  obtain rfl : _ = some (Value.int (1 : Int32)) := hv39
  have N39 := Fr.app N0 (Fr.nil n0)
  obtain ⟨T40, X40, e40, st40⟩ := getF X39 hx hZ hown (host := "") (Or.inl (own_wd hw 113 rfl)) Via.refl eh39 F_tz_count (g := (mkF m 16 #[.val (.ref tz), .val (.ref x1), .val (.int (1 : Int32))] [(.ref tz), (.ref tz)])) rfl rfl (hb hby d20_16)
  have pp41 : ¬ ((0 : Int32) < (((0 : Int32) + (1 : Int32)) - ((16 : Int32) >>> ((0 : Int32) &&& 31)))) := by decide
  obtain ⟨cq42, q42, q42'⟩ := E_tz.cell
  obtain ⟨_, _, ⟨T42, L42, k42, n42⟩, -, X42, ⟨Lc42, hQ42, l42, y42, z42⟩, st42⟩ := X40.privateBack hx (y := (⟨"java/lang/AbstractStringBuilder", "ensureCapacityInternal", "(I)V"⟩ : MethodName)) hown (mvT hZ (own_wd hw 115 rfl)) (mvT hZ (own_wd hw 116 rfl)) (mvT hZ (own_selp (own_wd hw 118 rfl) (Cond.privateMethod_at (own_wd hw 117 rfl)) (own_wd hw 116 rfl) (by decide))) (Cond.privateMethod_at (mvP hZ (own_wd hw 117 rfl) (args := #[]))) (mvT hZ (own_wd hw 119 rfl)) (by decide) (backOf (W := 0) (rm21 l Z a0 hw [] tz ((0 : Int32) + (1 : Int32)) tz_value kb [(.int (0 : Int32)), (.int (0 : Int32)), (.int (0 : Int32)), (.int (0 : Int32)), (.int (0 : Int32)), (.int (0 : Int32)), (.int (0 : Int32)), (.int (0 : Int32)), (.int (0 : Int32)), (.int (0 : Int32)), (.int (0 : Int32)), (.int (0 : Int32)), (.int (0 : Int32)), (.int (0 : Int32)), (.int (0 : Int32)), (.int (0 : Int32))] h0 n0 Z0 O0 E_tz F_tz_value F_tz_coder V_tz_value pp41) hZ (own_wd hw 119 rfl) (own_wd hw 94 rfl) (by decide) (by decide)) (g := (mkF m 21 #[.val (.ref tz), .val (.ref x1), .val (.int (1 : Int32))] [(.int ((0 : Int32) + (1 : Int32))), (.ref tz)])) rfl (by rw [hml]; rfl) (Steps.refl _) (a := tz) (by rw [e40]; exact q42) q42' (argsL := [(.int ((0 : Int32) + (1 : Int32)))]) (rest := []) (lenOf pd_1 rfl) rfl (by show 2 * 0 + _ ≤ _; exact Nat.le_of_eq rfl) (hb hby d20_21) (fun _ _ => ⟨rfl, e40, (by decide : 0 + 0 ≤ _), (by decide : 0 + 0 ≤ _)⟩)
  dsimp only [Pt.U, Pt.locs, Pt.cells, Pt.slots] at X42 l42 y42 z42 st42 hQ42
  subst l42 y42 z42
  obtain ⟨rfl, N42q, eh42⟩ := hQ42
  have N42 := Fr.app N39 N42q
  obtain ⟨T43, X43, e43, st43⟩ := getF X42 hx hZ hown (host := "") (Or.inl (own_wd hw 113 rfl)) Via.refl eh42 F_tz_count (g := (mkF m 26 #[.val (.ref tz), .val (.ref x1), .val (.int (1 : Int32))] [(.ref tz), (.ref tz)])) rfl rfl (hb hby d20_26)
  obtain ⟨cq44, q44, q44'⟩ := E_tz.cell
  obtain ⟨_, _, ⟨T44, L44, k44, n44⟩, -, X44, ⟨Lc44, hQ44, l44, y44, z44⟩, st44⟩ := X43.privateBack hx (y := (⟨"java/lang/AbstractStringBuilder", "putStringAt", "(ILjava/lang/String;)V"⟩ : MethodName)) hown (mvT hZ (own_wd hw 120 rfl)) (mvT hZ (own_wd hw 121 rfl)) (mvT hZ (own_selp (own_wd hw 123 rfl) (Cond.privateMethod_at (own_wd hw 122 rfl)) (own_wd hw 121 rfl) (by decide))) (Cond.privateMethod_at (mvP hZ (own_wd hw 122 rfl) (args := #[]))) (mvT hZ (own_wd hw 124 rfl)) (by decide) (backOf (W := 0) (rm22_0 l Z a0 hw [] tz x1 tz_value x1_value (y0.toInt8.toInt32) kb ks st_COMPACT_STRINGS h0 n0 Z0 O0 E_tz F_tz_value F_tz_coder V_tz_value E_x1 F_x1_value F_x1_coder V_x1_value N_xv S_COMPACT_STRINGS hcomp g_tz_value) hZ (own_wd hw 124 rfl) (own_wd hw 94 rfl) (by decide) (by decide)) (g := (mkF m 30 #[.val (.ref tz), .val (.ref x1), .val (.int (1 : Int32))] [(.ref x1), (.int (0 : Int32)), (.ref tz)])) rfl (by rw [hml]; rfl) (Steps.refl _) (a := tz) (by rw [e43]; exact q44) q44' (argsL := [(.int (0 : Int32)), (.ref x1)]) (rest := []) (lenOf pd_5 rfl) rfl (by show 2 * 0 + _ ≤ _; exact Nat.le_of_eq rfl) (hb hby d20_30) (fun _ _ => ⟨rfl, e43, (by decide : 0 + 0 ≤ _), (by decide : 0 + 0 ≤ _)⟩)
  dsimp only [Pt.U, Pt.locs, Pt.cells, Pt.slots] at X44 l44 y44 z44 st44 hQ44
  subst l44 y44 z44
  obtain ⟨rfl, N44q, KK44, Q44_0⟩ := hQ44
  have N44 := Fr.app N42 N44q
  have O44 : Old Z n0 T44.heap := O0.keep KK44 (allS g_tz_value all0)
  have Z44 : n0 ≤ T44.heap.size := Nat.le_trans Z0 KK44.1
  have K44 : Keep h0 T44.heap [tz_value, tz] := K0.trans KK44 (allS (Or.inl (List.mem_of_getElem? (i := 0) rfl)) all0)
  have F45 : Fld Z T44.heap tz "java/lang/AbstractStringBuilder" "count" "I" (.int (0 : Int32)) := (F_tz_count.keep KK44 (ninS (Exa.neArv (E_tz.keep KK44) Q44_0 (own_wd hw 85 rfl)) nin0))
  obtain ⟨T46, X46, e46, st46⟩ := getF X44 hx hZ hown (host := "") (Or.inl (own_wd hw 113 rfl)) Via.refl rfl F45 (g := (mkF m 35 #[.val (.ref tz), .val (.ref x1), .val (.int (1 : Int32))] [(.ref tz), (.ref tz)])) rfl rfl (hb hby d20_35)
  have C47 : Exa Z T44.heap tz "java/lang/StringBuilder" := (E_tz.keep KK44)
  obtain ⟨T48, h48, X48, e48, W48, st48⟩ := putF X46 hx hZ hown (host := "") (Or.inl (own_wd hw 113 rfl)) Via.refl e46 F45 C47 (Or.inl (own_wd hw 114 rfl)) (own_wd hw 85 rfl) (ty := .int) (by decide) rfl rfl (g := (mkF m 40 #[.val (.ref tz), .val (.ref x1), .val (.int (1 : Int32))] [(.int ((0 : Int32) + (1 : Int32))), (.ref tz)])) rfl rfl (hb hby d20_40)
  have O48 : Old Z n0 h48 := O44.wr W48 g_tz
  have Z48 : n0 ≤ h48.size := Nat.le_trans Z44 (Keep.of_wr W48).1
  have K48 : Keep h0 h48 [tz_value, tz] := K44.wr W48 (Or.inl (List.mem_of_getElem? (i := 1) rfl))
  have N48 := Fr.snoc X48 N44 g_tz
  have Fw48 : Fld Z h48 tz "java/lang/AbstractStringBuilder" "count" "I" (.int ((0 : Int32) + (1 : Int32))) := F45.same W48
  have C49 : Exa Z h48 tz "java/lang/StringBuilder" := (C47.wr W48)
  have F50 : Fld Z h48 tz "java/lang/AbstractStringBuilder" "value" "[B" (.ref tz_value) := ((F_tz_value.keep KK44 (ninS (Exa.neArv C47 Q44_0 (own_wd hw 85 rfl)) nin0)).other W48 (Or.inr (slot_ne (Or.inl (own_wd hw 99 rfl)) (Or.inl (own_wd hw 114 rfl)) (by decide) (t := (.array .byte)) (t' := .int) (by decide) (by decide))))
  have F51 : Fld Z h48 tz "java/lang/AbstractStringBuilder" "coder" "B" (.int (0 : Int32)) := ((F_tz_coder.keep KK44 (ninS (Exa.neArv C47 Q44_0 (own_wd hw 85 rfl)) nin0)).other W48 (Or.inr (slot_ne (Or.inl (own_wd hw 101 rfl)) (Or.inl (own_wd hw 114 rfl)) (by decide) (t := .byte) (t' := .int) (by decide) (by decide))))
  have V52 : Arv Z h48 tz_value kb .byte (16 : Int32) [(.int (y0.toInt8.toInt32)), (.int (0 : Int32)), (.int (0 : Int32)), (.int (0 : Int32)), (.int (0 : Int32)), (.int (0 : Int32)), (.int (0 : Int32)), (.int (0 : Int32)), (.int (0 : Int32)), (.int (0 : Int32)), (.int (0 : Int32)), (.int (0 : Int32)), (.int (0 : Int32)), (.int (0 : Int32)), (.int (0 : Int32)), (.int (0 : Int32))] (.int (0 : Int32)) := (Q44_0.other W48 (Ne.symm (Exa.neArv C47 Q44_0 (own_wd hw 85 rfl))))
  obtain ⟨fs, hr, hrun, hended, hW, hsame⟩ := X48.leave (v := some (.ref tz)) (fun h => by rw [Bd.returns] at h; cases h)
  refine ⟨_, _, pre0 _ ?_, hrun, hended, _, _, rfl, ?_, ⟨_, rfl⟩, hW, hsame.mono (by decide) (by decide)⟩
  · show Steps p.tables e below (s₁.setTop (mkF m 0 #[.val (.ref tz), .val (.ref x1), .unset] [])) _
    refine XS.aloadN X0.here hx rfl (hb hby d20_0) rfl rfl ?_
    show Steps p.tables e below (s₁.setTop (mkF m 1 #[.val (.ref tz), .val (.ref x1), .unset] [(.ref x1)])) _
    refine XS.ifnonnullYes X0.here hx rfl (pc0 := 1) (pc' := 9) rfl (hb hby d20_1) rfl (by decide) (by decide) ?_
    refine XS.aloadN X0.here hx rfl (hb hby d20_9) rfl rfl ?_
    show Steps p.tables e below (s₁.setTop (mkF m 10 #[.val (.ref tz), .val (.ref x1), .unset] [(.ref x1)])) _
    refine st39.trans ?_
    show Steps p.tables e below (T39.setTop (mkF m 13 #[.val (.ref tz), .val (.ref x1), .unset] [(.int (1 : Int32))])) _
    refine XS.istoreN X39.here hx rfl (hb hby d20_13) rfl (l' := #[.val (.ref tz), .val (.ref x1), .val (.int (1 : Int32))]) rfl ?_
    refine XS.aloadN X39.here hx rfl (hb hby d20_14) rfl rfl ?_
    refine XS.aloadN X39.here hx rfl (hb hby d20_15) rfl rfl ?_
    show Steps p.tables e below (T39.setTop (mkF m 16 #[.val (.ref tz), .val (.ref x1), .val (.int (1 : Int32))] [(.ref tz), (.ref tz)])) _
    refine st40 _ ?_
    show Steps p.tables e below (T40.setTop (mkF m 19 #[.val (.ref tz), .val (.ref x1), .val (.int (1 : Int32))] [(.int (0 : Int32)), (.ref tz)])) _
    refine XS.iloadN X40.here hx rfl (hb hby d20_19) rfl ?_
    refine XS.iadd X40.here hx rfl (hb hby d20_20) rfl ?_
    show Steps p.tables e below (T40.setTop (mkF m 21 #[.val (.ref tz), .val (.ref x1), .val (.int (1 : Int32))] [(.int ((0 : Int32) + (1 : Int32))), (.ref tz)])) _
    refine st42.trans ?_
    show Steps p.tables e below (T42.setTop (mkF m 24 #[.val (.ref tz), .val (.ref x1), .val (.int (1 : Int32))] [])) _
    refine XS.aloadN X42.here hx rfl (hb hby d20_24) rfl rfl ?_
    refine XS.aloadN X42.here hx rfl (hb hby d20_25) rfl rfl ?_
    show Steps p.tables e below (T42.setTop (mkF m 26 #[.val (.ref tz), .val (.ref x1), .val (.int (1 : Int32))] [(.ref tz), (.ref tz)])) _
    refine st43 _ ?_
    show Steps p.tables e below (T43.setTop (mkF m 29 #[.val (.ref tz), .val (.ref x1), .val (.int (1 : Int32))] [(.int (0 : Int32)), (.ref tz)])) _
    refine XS.aloadN X43.here hx rfl (hb hby d20_29) rfl rfl ?_
    show Steps p.tables e below (T43.setTop (mkF m 30 #[.val (.ref tz), .val (.ref x1), .val (.int (1 : Int32))] [(.ref x1), (.int (0 : Int32)), (.ref tz)])) _
    refine st44.trans ?_
    show Steps p.tables e below (T44.setTop (mkF m 33 #[.val (.ref tz), .val (.ref x1), .val (.int (1 : Int32))] [])) _
    refine XS.aloadN X44.here hx rfl (hb hby d20_33) rfl rfl ?_
    refine XS.dup X44.here hx rfl (hb hby d20_34) rfl rfl ?_
    show Steps p.tables e below (T44.setTop (mkF m 35 #[.val (.ref tz), .val (.ref x1), .val (.int (1 : Int32))] [(.ref tz), (.ref tz)])) _
    refine st46 _ ?_
    show Steps p.tables e below (T46.setTop (mkF m 38 #[.val (.ref tz), .val (.ref x1), .val (.int (1 : Int32))] [(.int (0 : Int32)), (.ref tz)])) _
    refine XS.iloadN X46.here hx rfl (hb hby d20_38) rfl ?_
    refine XS.iadd X46.here hx rfl (hb hby d20_39) rfl ?_
    show Steps p.tables e below (T46.setTop (mkF m 40 #[.val (.ref tz), .val (.ref x1), .val (.int (1 : Int32))] [(.int ((0 : Int32) + (1 : Int32))), (.ref tz)])) _
    refine st48 _ ?_
    show Steps p.tables e below (T48.setTop (mkF m 43 #[.val (.ref tz), .val (.ref x1), .val (.int (1 : Int32))] [])) _
    refine XS.aloadN X48.here hx rfl (hb hby d20_43) rfl rfl ?_
    show Steps p.tables e below (T48.setTop (mkF m 44 #[.val (.ref tz), .val (.ref x1), .val (.int (1 : Int32))] [(.ref tz)])) _
    jvm_step X48.here [X48.here.top, hx, (hb hby d20_44), X48.method', Bd.returns, Value.isRef, FieldType.isReference]
    first | (intro acts; rw [hr _ acts rfl rfl rfl]) | rw [hr _ _ rfl rfl rfl]
    exact Steps.refl _
  · show Q20_0 Z tz x1 tz_value x1_value y0 kb ks st_COMPACT_STRINGS h0 n0 _ T48.heap _
    rw [e48]
    exact ⟨rfl, N48, K48, C49, F50, F51, Fw48, V52⟩
theorem d19_0 : decode jdk_67_method_7_code 0 = .ok (.aload_n 0, 1) := by decide +kernel
theorem d19_1 : decode jdk_67_method_7_code 1 = .ok (.aload_n 1, 1) := by decide +kernel
theorem pd_6 : parseMethodDescriptor "(Ljava/lang/String;)Ljava/lang/AbstractStringBuilder;" = some ⟨[(.object "java/lang/String")], some (.object "java/lang/AbstractStringBuilder")⟩ := by decide +kernel
theorem d19_2 : decode jdk_67_method_7_code 2 = .ok (.invokespecial 29, 3) := by decide +kernel
theorem d19_5 : decode jdk_67_method_7_code 5 = .ok (.pop, 1) := by decide +kernel
theorem d19_6 : decode jdk_67_method_7_code 6 = .ok (.aload_n 0, 1) := by decide +kernel
theorem d19_7 : decode jdk_67_method_7_code 7 = .ok (.areturn, 1) := by decide +kernel
theorem ef19_0 (m : MethodId) (tz : Addr) (x1 : Addr) : entryFrame m #[(.ref tz), (.ref x1)] 2 = mkF m 0 #[.val (.ref tz), .val (.ref x1)] [] := by first | (simp [entryFrame, mkF, argsToLocals, Value.category]; done) | rfl
def Q19_0 (Z : State) (tz : Addr) (x1 : Addr) (tz_value : Addr) (x1_value : Addr) (y0 : Int32) (kb : ClassId) (ks : ClassId) (st_COMPACT_STRINGS : Int32) (h0 : Heap) (n0 : Nat) (v : Option Value) (h : Heap) (L : List Loc) : Prop := v = some (.ref tz) ∧ Fr n0 L ∧ Keep h0 h [tz, tz_value] ∧ Exa Z h tz "java/lang/StringBuilder" ∧ Fld Z h tz "java/lang/AbstractStringBuilder" "value" "[B" (.ref tz_value) ∧ Fld Z h tz "java/lang/AbstractStringBuilder" "coder" "B" (.int (0 : Int32)) ∧ Fld Z h tz "java/lang/AbstractStringBuilder" "count" "I" (.int (1 : Int32)) ∧ Arv Z h tz_value kb .byte (16 : Int32) [(.int (y0.toInt8.toInt32)), (.int (0 : Int32)), (.int (0 : Int32)), (.int (0 : Int32)), (.int (0 : Int32)), (.int (0 : Int32)), (.int (0 : Int32)), (.int (0 : Int32)), (.int (0 : Int32)), (.int (0 : Int32)), (.int (0 : Int32)), (.int (0 : Int32)), (.int (0 : Int32)), (.int (0 : Int32)), (.int (0 : Int32)), (.int (0 : Int32))] (.int (0 : Int32))
set_option maxRecDepth 65536 in
set_option maxHeartbeats 40000000 in
theorem rm19_0 (l : Launch) (Z : State) (a0 : Array Value) (hw : ∀ d ∈ tables_1, d.before a0 Z = true) (ws : List Jvm.Cond) (tz : Addr) (x1 : Addr) (tz_value : Addr) (x1_value : Addr) (y0 : Int32) (kb : ClassId) (ks : ClassId) (st_COMPACT_STRINGS : Int32) (h0 : Heap) (n0 : Nat) (Z0 : n0 ≤ h0.size) (O0 : Old Z n0 h0) (E_tz : Exa Z h0 tz "java/lang/StringBuilder") (F_tz_value : Fld Z h0 tz "java/lang/AbstractStringBuilder" "value" "[B" (.ref tz_value)) (F_tz_coder : Fld Z h0 tz "java/lang/AbstractStringBuilder" "coder" "B" (.int (0 : Int32))) (V_tz_value : Arv Z h0 tz_value kb .byte (16 : Int32) [(.int (0 : Int32)), (.int (0 : Int32)), (.int (0 : Int32)), (.int (0 : Int32)), (.int (0 : Int32)), (.int (0 : Int32)), (.int (0 : Int32)), (.int (0 : Int32)), (.int (0 : Int32)), (.int (0 : Int32)), (.int (0 : Int32)), (.int (0 : Int32)), (.int (0 : Int32)), (.int (0 : Int32)), (.int (0 : Int32)), (.int (0 : Int32))] (.int (0 : Int32))) (F_tz_count : Fld Z h0 tz "java/lang/AbstractStringBuilder" "count" "I" (.int (0 : Int32))) (E_x1 : Exa Z h0 x1 "java/lang/String") (F_x1_value : Fld Z h0 x1 "java/lang/String" "value" "[B" (.ref x1_value)) (F_x1_coder : Fld Z h0 x1 "java/lang/String" "coder" "B" (.int (0 : Int32))) (V_x1_value : Arv Z h0 x1_value ks .byte (1 : Int32) [(.int (y0.toInt8.toInt32))] (.int 0)) (N_xv : x1_value ≠ tz_value) (hp : ∀ c ∈ ([y0] : List Int32), ¬ c < 0 ∧ ¬ (255 : Int32) < c) (S_COMPACT_STRINGS : Sta Z Z.heap "java/lang/String" "COMPACT_STRINGS" "Z" (.int st_COMPACT_STRINGS)) (hcomp : ¬ (st_COMPACT_STRINGS = (0 : Int32))) (g_tz_value : n0 ≤ tz_value) (g_tz : n0 ≤ tz) :
    MetFree l (⟨"java/lang/StringBuilder", "append", "(Ljava/lang/String;)Ljava/lang/StringBuilder;"⟩ : MethodName) (head1 (Jvm.Cond.code (⟨"java/lang/StringBuilder", "append", "(Ljava/lang/String;)Ljava/lang/StringBuilder;"⟩ : MethodName) jdk_67_method_7_code 2 (some (.object "java/lang/StringBuilder")) :: ws) ({ frames := 4, cells := 0, slots := 0, locals := 61 } : Room)) (fun a U => a = #[(.ref tz), (.ref x1)] ∧ Z.Warmed39 U.vm ∧ U.heap = h0) (fun _ _ _ _ _ => True) (fun _ U o U' => ∃ v L, o = .returned v ∧ Q19_0 Z tz x1 tz_value x1_value y0 kb ks st_COMPACT_STRINGS h0 n0 v U'.heap L ∧ FrameEnd U o U' L ({ frames := 4, cells := 0, slots := 0, locals := 61 } : Room).cells ({ frames := 4, cells := 0, slots := 0, locals := 61 } : Room).slots) := by
  refine MetFree.of_bodySF (plainFor_of_name pn_java_lang_StringBuilder) hisR ?_
  intro p e s m args below meth c s₁ Bd hml0 hP hK
  obtain ⟨rfl, hZ, hh⟩ := hP
  have hx := Bd.exec
  have hby := Bd.bytes
  have hml : c.maxLocals = 2 := hml0
  have hown : s.vm.findClass "java/lang/StringBuilder" = some m.cls := findClass_of_methodNamed Bd.named
  have hnm := (name_of_methodNamed Bd.named Bd.method).1
  have X0 : Stand p l e ({ frames := 4, cells := 0, slots := 0, locals := 61 } : Room) s m #[(.ref tz), (.ref x1)] below meth c s₁ [] 0 0 := Stand.of_body Bd
  have e0 : s₁.heap = h0 := by rw [← hh, Bd.state]; rfl
  have N0 := Fr.nil n0
  have K0 : Keep h0 h0 [tz, tz_value] := Keep.refl _ _
  have pre0 : ∀ t, Steps p.tables e below (s₁.setTop (mkF m 0 #[.val (.ref tz), .val (.ref x1)] [])) t → Steps p.tables e below (s₁.setTop (entryFrame m #[(.ref tz), (.ref x1)] 2)) t := fun t k => castTop (ef19_0 m tz x1) k
  obtain ⟨_, _, ⟨T53, L53, k53, n53⟩, -, X53, ⟨Lc53, hQ53, l53, y53, z53⟩, st53⟩ := superBack X0 hx hZ (y := (⟨"java/lang/AbstractStringBuilder", "append", "(Ljava/lang/String;)Ljava/lang/AbstractStringBuilder;"⟩ : MethodName)) hown (own_wd hw 107 rfl) (own_same (y := (⟨"java/lang/AbstractStringBuilder", "append", "(Ljava/lang/String;)Ljava/lang/AbstractStringBuilder;"⟩ : MethodName)) (own_nf (notFace_of_selects (own_wd hw 158 rfl)) (own_wd hw 156 rfl) rfl) (own_wd hw 110 rfl) (by decide)) (own_wd hw 108 rfl) (own_wd hw 109 rfl) (by decide) (backOf (W := 0) (rm20_0 l Z a0 hw [] tz x1 tz_value x1_value y0 kb ks st_COMPACT_STRINGS h0 n0 Z0 O0 E_tz F_tz_value F_tz_coder V_tz_value F_tz_count E_x1 F_x1_value F_x1_coder V_x1_value N_xv hp S_COMPACT_STRINGS hcomp g_tz_value g_tz) hZ (own_wd hw 111 rfl) (own_wd hw 94 rfl) (by decide) (by decide)) e0 (Ins.self E_tz) (g := (mkF m 2 #[.val (.ref tz), .val (.ref x1)] [(.ref x1), (.ref tz)])) rfl (by rw [hml]; rfl) (own_wd hw 111 rfl) (argsL := [(.ref x1)]) (rest := []) (lenOf pd_6 rfl) rfl (by show 2 * 0 + _ ≤ _; exact Nat.le_of_eq rfl) (hb hby d19_2) (fun _ _ => ⟨rfl, e0, (by decide : 0 + 0 ≤ _), (by decide : 0 + 0 ≤ _)⟩)
  dsimp only [Pt.U, Pt.locs, Pt.cells, Pt.slots] at X53 l53 y53 z53 st53 hQ53
  subst l53 y53 z53
  obtain ⟨rfl, N53q, KK53, Q53_0, Q53_1, Q53_2, Q53_3, Q53_4⟩ := hQ53
  have N53 := Fr.app N0 N53q
  have O53 : Old Z n0 T53.heap := O0.keep KK53 (allS g_tz_value (allS g_tz all0))
  have Z53 : n0 ≤ T53.heap.size := Nat.le_trans Z0 KK53.1
  have K53 : Keep h0 T53.heap [tz, tz_value] := K0.trans KK53 (allS (Or.inl (List.mem_of_getElem? (i := 1) rfl)) (allS (Or.inl (List.mem_of_getElem? (i := 0) rfl)) all0))
  obtain ⟨fs, hr, hrun, hended, hW, hsame⟩ := X53.leave (v := some (.ref tz)) (fun h => by rw [Bd.returns] at h; cases h)
  refine ⟨_, _, pre0 _ ?_, hrun, hended, _, _, rfl, ?_, ⟨_, rfl⟩, hW, hsame.mono (by decide) (by decide)⟩
  · show Steps p.tables e below (s₁.setTop (mkF m 0 #[.val (.ref tz), .val (.ref x1)] [])) _
    refine XS.aloadN X0.here hx rfl (hb hby d19_0) rfl rfl ?_
    refine XS.aloadN X0.here hx rfl (hb hby d19_1) rfl rfl ?_
    show Steps p.tables e below (s₁.setTop (mkF m 2 #[.val (.ref tz), .val (.ref x1)] [(.ref x1), (.ref tz)])) _
    refine st53.trans ?_
    show Steps p.tables e below (T53.setTop (mkF m 5 #[.val (.ref tz), .val (.ref x1)] [(.ref tz)])) _
    refine XS.pop X53.here hx rfl (hb hby d19_5) rfl rfl ?_
    refine XS.aloadN X53.here hx rfl (hb hby d19_6) rfl rfl ?_
    show Steps p.tables e below (T53.setTop (mkF m 7 #[.val (.ref tz), .val (.ref x1)] [(.ref tz)])) _
    jvm_step X53.here [X53.here.top, hx, (hb hby d19_7), X53.method', Bd.returns, Value.isRef, FieldType.isReference]
    first | (intro acts; rw [hr _ acts rfl rfl rfl]) | rw [hr _ _ rfl rfl rfl]
    exact Steps.refl _
  · show Q19_0 Z tz x1 tz_value x1_value y0 kb ks st_COMPACT_STRINGS h0 n0 _ T53.heap _
    exact ⟨rfl, N53, K53, Q53_0, Q53_1, Q53_2, Q53_3, Q53_4⟩
theorem ef24_1 (m : MethodId) (tz : Addr) (x1 : Addr) : entryFrame m #[(.ref tz), (.ref x1), (.int (1 : Int32)), (.int (0 : Int32))] 4 = mkF m 0 #[.val (.ref tz), .val (.ref x1), .val (.int (1 : Int32)), .val (.int (0 : Int32))] [] := by first | (simp [entryFrame, mkF, argsToLocals, Value.category]; done) | rfl
def Q24_1 (Z : State) (tz : Addr) (x1 : Addr) (tz_value : Addr) (b0 : Int32) (z0 : Int32) (kb : ClassId) (ks : ClassId) (st_COMPACT_STRINGS : Int32) (h0 : Heap) (n0 : Nat) (v : Option Value) (h : Heap) (L : List Loc) : Prop := v = none ∧ Fr n0 L ∧ Keep h0 h [x1] ∧ Arv Z h x1 kb .byte (16 : Int32) [(.int b0), (.int z0), (.int (0 : Int32)), (.int (0 : Int32)), (.int (0 : Int32)), (.int (0 : Int32)), (.int (0 : Int32)), (.int (0 : Int32)), (.int (0 : Int32)), (.int (0 : Int32)), (.int (0 : Int32)), (.int (0 : Int32)), (.int (0 : Int32)), (.int (0 : Int32)), (.int (0 : Int32)), (.int (0 : Int32))] (.int (0 : Int32))
set_option maxRecDepth 65536 in
set_option maxHeartbeats 40000000 in
theorem rm24_1 (l : Launch) (Z : State) (a0 : Array Value) (hw : ∀ d ∈ tables_1, d.before a0 Z = true) (ws : List Jvm.Cond) (tz : Addr) (x1 : Addr) (tz_value : Addr) (b0 : Int32) (z0 : Int32) (kb : ClassId) (ks : ClassId) (st_COMPACT_STRINGS : Int32) (h0 : Heap) (n0 : Nat) (Z0 : n0 ≤ h0.size) (O0 : Old Z n0 h0) (E_tz : Exa Z h0 tz "java/lang/String") (F_tz_value : Fld Z h0 tz "java/lang/String" "value" "[B" (.ref tz_value)) (F_tz_coder : Fld Z h0 tz "java/lang/String" "coder" "B" (.int (0 : Int32))) (V_tz_value : Arv Z h0 tz_value ks .byte (1 : Int32) [(.int z0)] (.int 0)) (V_x1 : Arv Z h0 x1 kb .byte (16 : Int32) [(.int b0), (.int (0 : Int32)), (.int (0 : Int32)), (.int (0 : Int32)), (.int (0 : Int32)), (.int (0 : Int32)), (.int (0 : Int32)), (.int (0 : Int32)), (.int (0 : Int32)), (.int (0 : Int32)), (.int (0 : Int32)), (.int (0 : Int32)), (.int (0 : Int32)), (.int (0 : Int32)), (.int (0 : Int32)), (.int (0 : Int32))] (.int (0 : Int32))) (S_COMPACT_STRINGS : Sta Z Z.heap "java/lang/String" "COMPACT_STRINGS" "Z" (.int st_COMPACT_STRINGS)) (hcomp : ¬ (st_COMPACT_STRINGS = (0 : Int32))) (g_x1 : n0 ≤ x1) :
    MetFree l (⟨"java/lang/String", "getBytes", "([BIB)V"⟩ : MethodName) (head1 (Jvm.Cond.code (⟨"java/lang/String", "getBytes", "([BIB)V"⟩ : MethodName) jdk_42_method_147_code 4 none :: ws) ({ frames := 1, cells := 0, slots := 0, locals := 18 } : Room)) (fun a U => a = #[(.ref tz), (.ref x1), (.int (1 : Int32)), (.int (0 : Int32))] ∧ Z.Warmed39 U.vm ∧ U.heap = h0) (fun _ _ _ _ _ => True) (fun _ U o U' => ∃ v L, o = .returned v ∧ Q24_1 Z tz x1 tz_value b0 z0 kb ks st_COMPACT_STRINGS h0 n0 v U'.heap L ∧ FrameEnd U o U' L ({ frames := 1, cells := 0, slots := 0, locals := 18 } : Room).cells ({ frames := 1, cells := 0, slots := 0, locals := 18 } : Room).slots) := by
  refine MetFree.of_bodySF (plainFor_of_name pn_java_lang_String) hisR ?_
  intro p e s m args below meth c s₁ Bd hml0 hP hK
  obtain ⟨rfl, hZ, hh⟩ := hP
  have hx := Bd.exec
  have hby := Bd.bytes
  have hml : c.maxLocals = 4 := hml0
  have hown : s.vm.findClass "java/lang/String" = some m.cls := findClass_of_methodNamed Bd.named
  have hnm := (name_of_methodNamed Bd.named Bd.method).1
  have X0 : Stand p l e ({ frames := 1, cells := 0, slots := 0, locals := 18 } : Room) s m #[(.ref tz), (.ref x1), (.int (1 : Int32)), (.int (0 : Int32))] below meth c s₁ [] 0 0 := Stand.of_body Bd
  have e0 : s₁.heap = h0 := by rw [← hh, Bd.state]; rfl
  have N0 := Fr.nil n0
  have K0 : Keep h0 h0 [x1] := Keep.refl _ _
  have pre0 : ∀ t, Steps p.tables e below (s₁.setTop (mkF m 0 #[.val (.ref tz), .val (.ref x1), .val (.int (1 : Int32)), .val (.int (0 : Int32))] [])) t → Steps p.tables e below (s₁.setTop (entryFrame m #[(.ref tz), (.ref x1), (.int (1 : Int32)), (.int (0 : Int32))] 4)) t := fun t k => castTop (ef24_1 m tz x1) k
  obtain ⟨cq54, kq54, q54a, q54b, q54c⟩ := isOf hZ e0 E_tz
  obtain ⟨_, _, ⟨T54, L54, k54, n54⟩, -, X54, ⟨Lc54, hQ54, l54, y54, z54⟩, st54⟩ := X0.virtualBack hx (y := (⟨"java/lang/String", "coder", "()B"⟩ : MethodName)) (z := (⟨"java/lang/String", "coder", "()B"⟩ : MethodName)) hown (mvT hZ (own_wd hw 55 rfl)) (mvT hZ (own_wd hw 56 rfl)) (notFace_of_selects (args := #[]) (mvT hZ (own_wd hw 58 rfl))) (mvT hZ (own_wd hw 58 rfl)) (mvT hZ (own_wd hw 57 rfl)) (by decide) (backOf (W := 0) (rm11 l Z a0 hw [] tz st_COMPACT_STRINGS h0 n0 Z0 O0 F_tz_coder S_COMPACT_STRINGS hcomp) hZ (own_wd hw 59 rfl) (own_wd hw 3 rfl) (by decide) (by decide)) q54a q54c (g := (mkF m 1 #[.val (.ref tz), .val (.ref x1), .val (.int (1 : Int32)), .val (.int (0 : Int32))] [(.ref tz)])) rfl (by rw [hml]; rfl) (Steps.refl _) (argsL := []) (rest := []) (lenOf pd_2 rfl) rfl (by show 2 * 0 + _ ≤ _; exact Nat.le_of_eq rfl) (hb hby d24_1) (fun _ _ => ⟨rfl, e0, (by decide : 0 + 0 ≤ _), (by decide : 0 + 0 ≤ _)⟩)
  dsimp only [Pt.U, Pt.locs, Pt.cells, Pt.slots] at X54 l54 y54 z54 st54 hQ54
  subst l54 y54 z54
  obtain ⟨rfl, N54q, eh54⟩ := hQ54
  have N54 := Fr.app N0 N54q
  obtain ⟨T55, X55, e55, st55⟩ := getF X54 hx hZ hown (host := "") (Or.inl (own_wd hw 28 rfl)) Via.refl eh54 F_tz_value (g := (mkF m 9 #[.val (.ref tz), .val (.ref x1), .val (.int (1 : Int32)), .val (.int (0 : Int32))] [(.ref tz)])) rfl rfl (hb hby d24_9)
  obtain ⟨T56, X56, e56, st56⟩ := getF X55 hx hZ hown (host := "") (Or.inl (own_wd hw 28 rfl)) Via.refl e55 F_tz_value (g := (mkF m 18 #[.val (.ref tz), .val (.ref x1), .val (.int (1 : Int32)), .val (.int (0 : Int32))] [(.ref tz), (.int ((1 : Int32) <<< ((0 : Int32) &&& 31))), (.ref x1), (.int (0 : Int32)), (.ref tz_value)])) rfl rfl (hb hby d24_18)
  obtain ⟨cl_a57, Ar_a57, -, S_a57, N_a57, -, -⟩ := id V_tz_value
  obtain ⟨T58, h58, L58, X58, e58, N58, KK58, A58, st58⟩ := cpA X56 hx hZ hown (own_wd hw 136 rfl) (own_wd hw 139 rfl) (own_wd hw 137 rfl) (own_wd hw 138 rfl) e56 (us := [(.int z0)]) V_tz_value V_x1 (Or.inl ⟨rfl, rfl⟩) (by first | decide | exact Nat.le_of_ble_eq_true rfl) (by first | decide | exact Nat.le_of_ble_eq_true rfl) (by first | decide | exact Nat.le_of_ble_eq_true rfl) (by first | decide | exact Nat.le_of_ble_eq_true rfl) (by first | decide | exact Nat.le_of_ble_eq_true rfl) rfl (by first | decide | exact Nat.le_of_ble_eq_true rfl) N54 g_x1 (g := (mkF m 22 #[.val (.ref tz), .val (.ref x1), .val (.int (1 : Int32)), .val (.int (0 : Int32))] [(.int (1 : Int32)), (.int ((1 : Int32) <<< ((0 : Int32) &&& 31))), (.ref x1), (.int (0 : Int32)), (.ref tz_value)])) rfl (by rw [hml]; rfl) rfl (hb hby d24_22) (by decide) (W := 0) (by show 2 * 0 + _ ≤ _; exact Nat.le_of_eq rfl) (by decide)
  have O58 : Old Z n0 h58 := O0.keep KK58 (allS g_x1 all0)
  have Z58 : n0 ≤ h58.size := Nat.le_trans Z0 KK58.1
  have K58 : Keep h0 h58 [x1] := K0.trans KK58 (allS (Or.inl (List.mem_of_getElem? (i := 0) rfl)) all0)
  have V58 : Arv Z h58 x1 kb .byte (16 : Int32) [(.int b0), (.int z0), (.int (0 : Int32)), (.int (0 : Int32)), (.int (0 : Int32)), (.int (0 : Int32)), (.int (0 : Int32)), (.int (0 : Int32)), (.int (0 : Int32)), (.int (0 : Int32)), (.int (0 : Int32)), (.int (0 : Int32)), (.int (0 : Int32)), (.int (0 : Int32)), (.int (0 : Int32)), (.int (0 : Int32))] (.int (0 : Int32)) := A58
  obtain ⟨fs, hr, hrun, hended, hW, hsame⟩ := X58.leave (v := none) (fun _ => rfl)
  refine ⟨_, _, pre0 _ ?_, hrun, hended, _, _, rfl, ?_, ⟨_, rfl⟩, hW, hsame.mono (by decide) (by decide)⟩
  · show Steps p.tables e below (s₁.setTop (mkF m 0 #[.val (.ref tz), .val (.ref x1), .val (.int (1 : Int32)), .val (.int (0 : Int32))] [])) _
    refine XS.aloadN X0.here hx rfl (hb hby d24_0) rfl rfl ?_
    show Steps p.tables e below (s₁.setTop (mkF m 1 #[.val (.ref tz), .val (.ref x1), .val (.int (1 : Int32)), .val (.int (0 : Int32))] [(.ref tz)])) _
    refine st54.trans ?_
    show Steps p.tables e below (T54.setTop (mkF m 4 #[.val (.ref tz), .val (.ref x1), .val (.int (1 : Int32)), .val (.int (0 : Int32))] [(.int (0 : Int32))])) _
    refine XS.iloadN X54.here hx rfl (hb hby d24_4) rfl ?_
    refine XS.icmpNo X54.here hx rfl (hb hby d24_5) rfl (teq (by decide : (0 : Int32) = (0 : Int32))).2 ?_
    refine XS.aloadN X54.here hx rfl (hb hby d24_8) rfl rfl ?_
    show Steps p.tables e below (T54.setTop (mkF m 9 #[.val (.ref tz), .val (.ref x1), .val (.int (1 : Int32)), .val (.int (0 : Int32))] [(.ref tz)])) _
    refine st55 _ ?_
    show Steps p.tables e below (T55.setTop (mkF m 12 #[.val (.ref tz), .val (.ref x1), .val (.int (1 : Int32)), .val (.int (0 : Int32))] [(.ref tz_value)])) _
    refine XS.iconst X55.here hx rfl (hb hby d24_12) ?_
    refine XS.aloadN X55.here hx rfl (hb hby d24_13) rfl rfl ?_
    refine XS.iloadN X55.here hx rfl (hb hby d24_14) rfl ?_
    refine XS.iloadN X55.here hx rfl (hb hby d24_15) rfl ?_
    show Steps p.tables e below (T55.setTop (mkF m 16 #[.val (.ref tz), .val (.ref x1), .val (.int (1 : Int32)), .val (.int (0 : Int32))] [(.int (0 : Int32)), (.int (1 : Int32)), (.ref x1), (.int (0 : Int32)), (.ref tz_value)])) _
    refine XS.ishl X55.here hx rfl (hb hby d24_16) rfl ?_
    refine XS.aloadN X55.here hx rfl (hb hby d24_17) rfl rfl ?_
    show Steps p.tables e below (T55.setTop (mkF m 18 #[.val (.ref tz), .val (.ref x1), .val (.int (1 : Int32)), .val (.int (0 : Int32))] [(.ref tz), (.int ((1 : Int32) <<< ((0 : Int32) &&& 31))), (.ref x1), (.int (0 : Int32)), (.ref tz_value)])) _
    refine st56 _ ?_
    show Steps p.tables e below (T56.setTop (mkF m 21 #[.val (.ref tz), .val (.ref x1), .val (.int (1 : Int32)), .val (.int (0 : Int32))] [(.ref tz_value), (.int ((1 : Int32) <<< ((0 : Int32) &&& 31))), (.ref x1), (.int (0 : Int32)), (.ref tz_value)])) _
    refine X56.arraylength hx (by rw [e56]; exact Ar_a57.1) (State.isArrayOf_alike hZ.alike Ar_a57.2.1) (g := (mkF m 21 #[.val (.ref tz), .val (.ref x1), .val (.int (1 : Int32)), .val (.int (0 : Int32))] [(.ref tz_value), (.int ((1 : Int32) <<< ((0 : Int32) &&& 31))), (.ref x1), (.int (0 : Int32)), (.ref tz_value)])) rfl rfl (hb hby d24_21) _ ?_
    rw [len_of S_a57 N_a57]
    show Steps p.tables e below (T56.setTop (mkF m 22 #[.val (.ref tz), .val (.ref x1), .val (.int (1 : Int32)), .val (.int (0 : Int32))] [(.int (1 : Int32)), (.int ((1 : Int32) <<< ((0 : Int32) &&& 31))), (.ref x1), (.int (0 : Int32)), (.ref tz_value)])) _
    refine st58 _ ?_
    show Steps p.tables e below (T58.setTop (mkF m 25 #[.val (.ref tz), .val (.ref x1), .val (.int (1 : Int32)), .val (.int (0 : Int32))] [])) _
    refine XS.goto X58.here hx rfl (pc0 := 25) (pc' := 43) rfl (hb hby d24_25) (by decide) (by decide) ?_
    show Steps p.tables e below (T58.setTop (mkF m 43 #[.val (.ref tz), .val (.ref x1), .val (.int (1 : Int32)), .val (.int (0 : Int32))] [])) _
    exact X58.returnOut hx Bd.returns (hb hby d24_43) hr
  · show Q24_1 Z tz x1 tz_value b0 z0 kb ks st_COMPACT_STRINGS h0 n0 _ T58.heap _
    rw [e58]
    exact ⟨rfl, N58, K58, V58⟩
theorem ef22_1 (m : MethodId) (tz : Addr) (x2 : Addr) : entryFrame m #[(.ref tz), (.int (1 : Int32)), (.ref x2)] 3 = mkF m 0 #[.val (.ref tz), .val (.int (1 : Int32)), .val (.ref x2)] [] := by first | (simp [entryFrame, mkF, argsToLocals, Value.category]; done) | rfl
def Q22_1 (Z : State) (tz : Addr) (x2 : Addr) (tz_value : Addr) (x2_value : Addr) (b0 : Int32) (z0 : Int32) (kb : ClassId) (ks : ClassId) (st_COMPACT_STRINGS : Int32) (h0 : Heap) (n0 : Nat) (v : Option Value) (h : Heap) (L : List Loc) : Prop := v = none ∧ Fr n0 L ∧ Keep h0 h [tz_value] ∧ Arv Z h tz_value kb .byte (16 : Int32) [(.int b0), (.int z0), (.int (0 : Int32)), (.int (0 : Int32)), (.int (0 : Int32)), (.int (0 : Int32)), (.int (0 : Int32)), (.int (0 : Int32)), (.int (0 : Int32)), (.int (0 : Int32)), (.int (0 : Int32)), (.int (0 : Int32)), (.int (0 : Int32)), (.int (0 : Int32)), (.int (0 : Int32)), (.int (0 : Int32))] (.int (0 : Int32))
set_option maxRecDepth 65536 in
set_option maxHeartbeats 40000000 in
theorem rm22_1 (l : Launch) (Z : State) (a0 : Array Value) (hw : ∀ d ∈ tables_1, d.before a0 Z = true) (ws : List Jvm.Cond) (tz : Addr) (x2 : Addr) (tz_value : Addr) (x2_value : Addr) (b0 : Int32) (z0 : Int32) (kb : ClassId) (ks : ClassId) (st_COMPACT_STRINGS : Int32) (h0 : Heap) (n0 : Nat) (Z0 : n0 ≤ h0.size) (O0 : Old Z n0 h0) (E_tz : Exa Z h0 tz "java/lang/StringBuilder") (F_tz_value : Fld Z h0 tz "java/lang/AbstractStringBuilder" "value" "[B" (.ref tz_value)) (F_tz_coder : Fld Z h0 tz "java/lang/AbstractStringBuilder" "coder" "B" (.int (0 : Int32))) (V_tz_value : Arv Z h0 tz_value kb .byte (16 : Int32) [(.int b0), (.int (0 : Int32)), (.int (0 : Int32)), (.int (0 : Int32)), (.int (0 : Int32)), (.int (0 : Int32)), (.int (0 : Int32)), (.int (0 : Int32)), (.int (0 : Int32)), (.int (0 : Int32)), (.int (0 : Int32)), (.int (0 : Int32)), (.int (0 : Int32)), (.int (0 : Int32)), (.int (0 : Int32)), (.int (0 : Int32))] (.int (0 : Int32))) (E_x2 : Exa Z h0 x2 "java/lang/String") (F_x2_value : Fld Z h0 x2 "java/lang/String" "value" "[B" (.ref x2_value)) (F_x2_coder : Fld Z h0 x2 "java/lang/String" "coder" "B" (.int (0 : Int32))) (V_x2_value : Arv Z h0 x2_value ks .byte (1 : Int32) [(.int z0)] (.int 0)) (N_xv : x2_value ≠ tz_value) (S_COMPACT_STRINGS : Sta Z Z.heap "java/lang/String" "COMPACT_STRINGS" "Z" (.int st_COMPACT_STRINGS)) (hcomp : ¬ (st_COMPACT_STRINGS = (0 : Int32))) (g_tz_value : n0 ≤ tz_value) :
    MetFree l (⟨"java/lang/AbstractStringBuilder", "putStringAt", "(ILjava/lang/String;)V"⟩ : MethodName) (head1 (Jvm.Cond.code (⟨"java/lang/AbstractStringBuilder", "putStringAt", "(ILjava/lang/String;)V"⟩ : MethodName) jdk_68_method_73_code 3 none :: ws) ({ frames := 2, cells := 0, slots := 0, locals := 33 } : Room)) (fun a U => a = #[(.ref tz), (.int (1 : Int32)), (.ref x2)] ∧ Z.Warmed39 U.vm ∧ U.heap = h0) (fun _ _ _ _ _ => True) (fun _ U o U' => ∃ v L, o = .returned v ∧ Q22_1 Z tz x2 tz_value x2_value b0 z0 kb ks st_COMPACT_STRINGS h0 n0 v U'.heap L ∧ FrameEnd U o U' L ({ frames := 2, cells := 0, slots := 0, locals := 33 } : Room).cells ({ frames := 2, cells := 0, slots := 0, locals := 33 } : Room).slots) := by
  refine MetFree.of_bodySF (plainFor_of_name pn_java_lang_AbstractStringBuilder) hisR ?_
  intro p e s m args below meth c s₁ Bd hml0 hP hK
  obtain ⟨rfl, hZ, hh⟩ := hP
  have hx := Bd.exec
  have hby := Bd.bytes
  have hml : c.maxLocals = 3 := hml0
  have hown : s.vm.findClass "java/lang/AbstractStringBuilder" = some m.cls := findClass_of_methodNamed Bd.named
  have hnm := (name_of_methodNamed Bd.named Bd.method).1
  have X0 : Stand p l e ({ frames := 2, cells := 0, slots := 0, locals := 33 } : Room) s m #[(.ref tz), (.int (1 : Int32)), (.ref x2)] below meth c s₁ [] 0 0 := Stand.of_body Bd
  have e0 : s₁.heap = h0 := by rw [← hh, Bd.state]; rfl
  have N0 := Fr.nil n0
  have K0 : Keep h0 h0 [tz_value] := Keep.refl _ _
  have pre0 : ∀ t, Steps p.tables e below (s₁.setTop (mkF m 0 #[.val (.ref tz), .val (.int (1 : Int32)), .val (.ref x2)] [])) t → Steps p.tables e below (s₁.setTop (entryFrame m #[(.ref tz), (.int (1 : Int32)), (.ref x2)] 3)) t := fun t k => castTop (ef22_1 m tz x2) k
  obtain ⟨cq59, q59, q59'⟩ := E_tz.cell
  obtain ⟨_, _, ⟨T59, L59, k59, n59⟩, -, X59, ⟨Lc59, hQ59, l59, y59, z59⟩, st59⟩ := X0.privateBack hx (y := (⟨"java/lang/AbstractStringBuilder", "inflateIfNeededFor", "(Ljava/lang/String;)V"⟩ : MethodName)) hown (mvT hZ (own_wd hw 125 rfl)) (mvT hZ (own_wd hw 126 rfl)) (mvT hZ (own_selp (own_wd hw 128 rfl) (Cond.privateMethod_at (own_wd hw 127 rfl)) (own_wd hw 126 rfl) (by decide))) (Cond.privateMethod_at (mvP hZ (own_wd hw 127 rfl) (args := #[]))) (mvT hZ (own_wd hw 129 rfl)) (by decide) (backOf (W := 0) (rm23 l Z a0 hw [] tz x2 st_COMPACT_STRINGS h0 n0 Z0 O0 E_tz F_tz_coder E_x2 F_x2_coder S_COMPACT_STRINGS hcomp) hZ (own_wd hw 129 rfl) (own_wd hw 94 rfl) (by decide) (by decide)) (g := (mkF m 2 #[.val (.ref tz), .val (.int (1 : Int32)), .val (.ref x2)] [(.ref x2), (.ref tz)])) rfl (by rw [hml]; rfl) (Steps.refl _) (a := tz) (by rw [e0]; exact q59) q59' (argsL := [(.ref x2)]) (rest := []) (lenOf pd_3 rfl) rfl (by show 2 * 0 + _ ≤ _; exact Nat.le_of_eq rfl) (hb hby d22_2) (fun _ _ => ⟨rfl, e0, (by decide : 0 + 0 ≤ _), (by decide : 0 + 0 ≤ _)⟩)
  dsimp only [Pt.U, Pt.locs, Pt.cells, Pt.slots] at X59 l59 y59 z59 st59 hQ59
  subst l59 y59 z59
  obtain ⟨rfl, N59q, eh59⟩ := hQ59
  have N59 := Fr.app N0 N59q
  obtain ⟨T60, X60, e60, st60⟩ := getF X59 hx hZ hown (host := "") (Or.inl (own_wd hw 98 rfl)) Via.refl eh59 F_tz_value (g := (mkF m 7 #[.val (.ref tz), .val (.int (1 : Int32)), .val (.ref x2)] [(.ref tz), (.ref x2)])) rfl rfl (hb hby d22_7)
  obtain ⟨T61, X61, e61, st61⟩ := getF X60 hx hZ hown (host := "") (Or.inl (own_wd hw 100 rfl)) Via.refl e60 F_tz_coder (g := (mkF m 12 #[.val (.ref tz), .val (.int (1 : Int32)), .val (.ref x2)] [(.ref tz), (.int (1 : Int32)), (.ref tz_value), (.ref x2)])) rfl rfl (hb hby d22_12)
  obtain ⟨cq62, kq62, q62a, q62b, q62c⟩ := isOf hZ e61 E_x2
  obtain ⟨_, _, ⟨T62, L62, k62, n62⟩, -, X62, ⟨Lc62, hQ62, l62, y62, z62⟩, st62⟩ := X61.virtualBack hx (y := (⟨"java/lang/String", "getBytes", "([BIB)V"⟩ : MethodName)) (z := (⟨"java/lang/String", "getBytes", "([BIB)V"⟩ : MethodName)) hown (mvT hZ (own_wd hw 131 rfl)) (mvT hZ (own_wd hw 132 rfl)) (notFace_of_selects (args := #[]) (mvT hZ (own_wd hw 134 rfl))) (mvT hZ (own_wd hw 134 rfl)) (mvT hZ (own_wd hw 133 rfl)) (by decide) (backOf (W := 0) (rm24_1 l Z a0 hw [] x2 tz_value x2_value b0 z0 kb ks st_COMPACT_STRINGS h0 n0 Z0 O0 E_x2 F_x2_value F_x2_coder V_x2_value V_tz_value S_COMPACT_STRINGS hcomp g_tz_value) hZ (own_wd hw 135 rfl) (own_wd hw 3 rfl) (by decide) (by decide)) q62a q62c (g := (mkF m 15 #[.val (.ref tz), .val (.int (1 : Int32)), .val (.ref x2)] [(.int (0 : Int32)), (.int (1 : Int32)), (.ref tz_value), (.ref x2)])) rfl (by rw [hml]; rfl) (Steps.refl _) (argsL := [(.ref tz_value), (.int (1 : Int32)), (.int (0 : Int32))]) (rest := []) (lenOf pd_4 rfl) rfl (by show 2 * 0 + _ ≤ _; exact Nat.le_of_eq rfl) (hb hby d22_15) (fun _ _ => ⟨rfl, e61, (by decide : 0 + 0 ≤ _), (by decide : 0 + 0 ≤ _)⟩)
  dsimp only [Pt.U, Pt.locs, Pt.cells, Pt.slots] at X62 l62 y62 z62 st62 hQ62
  subst l62 y62 z62
  obtain ⟨rfl, N62q, KK62, Q62_0⟩ := hQ62
  have N62 := Fr.app N59 N62q
  have O62 : Old Z n0 T62.heap := O0.keep KK62 (allS g_tz_value all0)
  have Z62 : n0 ≤ T62.heap.size := Nat.le_trans Z0 KK62.1
  have K62 : Keep h0 T62.heap [tz_value] := K0.trans KK62 (allS (Or.inl (List.mem_of_getElem? (i := 0) rfl)) all0)
  obtain ⟨fs, hr, hrun, hended, hW, hsame⟩ := X62.leave (v := none) (fun _ => rfl)
  refine ⟨_, _, pre0 _ ?_, hrun, hended, _, _, rfl, ?_, ⟨_, rfl⟩, hW, hsame.mono (by decide) (by decide)⟩
  · show Steps p.tables e below (s₁.setTop (mkF m 0 #[.val (.ref tz), .val (.int (1 : Int32)), .val (.ref x2)] [])) _
    refine XS.aloadN X0.here hx rfl (hb hby d22_0) rfl rfl ?_
    refine XS.aloadN X0.here hx rfl (hb hby d22_1) rfl rfl ?_
    show Steps p.tables e below (s₁.setTop (mkF m 2 #[.val (.ref tz), .val (.int (1 : Int32)), .val (.ref x2)] [(.ref x2), (.ref tz)])) _
    refine st59.trans ?_
    show Steps p.tables e below (T59.setTop (mkF m 5 #[.val (.ref tz), .val (.int (1 : Int32)), .val (.ref x2)] [])) _
    refine XS.aloadN X59.here hx rfl (hb hby d22_5) rfl rfl ?_
    refine XS.aloadN X59.here hx rfl (hb hby d22_6) rfl rfl ?_
    show Steps p.tables e below (T59.setTop (mkF m 7 #[.val (.ref tz), .val (.int (1 : Int32)), .val (.ref x2)] [(.ref tz), (.ref x2)])) _
    refine st60 _ ?_
    show Steps p.tables e below (T60.setTop (mkF m 10 #[.val (.ref tz), .val (.int (1 : Int32)), .val (.ref x2)] [(.ref tz_value), (.ref x2)])) _
    refine XS.iloadN X60.here hx rfl (hb hby d22_10) rfl ?_
    refine XS.aloadN X60.here hx rfl (hb hby d22_11) rfl rfl ?_
    show Steps p.tables e below (T60.setTop (mkF m 12 #[.val (.ref tz), .val (.int (1 : Int32)), .val (.ref x2)] [(.ref tz), (.int (1 : Int32)), (.ref tz_value), (.ref x2)])) _
    refine st61 _ ?_
    show Steps p.tables e below (T61.setTop (mkF m 15 #[.val (.ref tz), .val (.int (1 : Int32)), .val (.ref x2)] [(.int (0 : Int32)), (.int (1 : Int32)), (.ref tz_value), (.ref x2)])) _
    refine st62.trans ?_
    show Steps p.tables e below (T62.setTop (mkF m 18 #[.val (.ref tz), .val (.int (1 : Int32)), .val (.ref x2)] [])) _
    exact X62.returnOut hx Bd.returns (hb hby d22_18) hr
  · show Q22_1 Z tz x2 tz_value x2_value b0 z0 kb ks st_COMPACT_STRINGS h0 n0 _ T62.heap _
    exact ⟨rfl, N62, K62, Q62_0⟩
theorem ef20_1 (m : MethodId) (tz : Addr) (x1 : Addr) : entryFrame m #[(.ref tz), (.ref x1)] 3 = mkF m 0 #[.val (.ref tz), .val (.ref x1), .unset] [] := by first | (simp [entryFrame, mkF, argsToLocals, Value.category]; done) | rfl
def Q20_1 (Z : State) (tz : Addr) (x1 : Addr) (tz_value : Addr) (x1_value : Addr) (b0 : Int32) (y0 : Int32) (kb : ClassId) (ks : ClassId) (st_COMPACT_STRINGS : Int32) (h0 : Heap) (n0 : Nat) (v : Option Value) (h : Heap) (L : List Loc) : Prop := v = some (.ref tz) ∧ Fr n0 L ∧ Keep h0 h [tz_value, tz] ∧ Exa Z h tz "java/lang/StringBuilder" ∧ Fld Z h tz "java/lang/AbstractStringBuilder" "value" "[B" (.ref tz_value) ∧ Fld Z h tz "java/lang/AbstractStringBuilder" "coder" "B" (.int (0 : Int32)) ∧ Fld Z h tz "java/lang/AbstractStringBuilder" "count" "I" (.int (2 : Int32)) ∧ Arv Z h tz_value kb .byte (16 : Int32) [(.int b0), (.int (y0.toInt8.toInt32)), (.int (0 : Int32)), (.int (0 : Int32)), (.int (0 : Int32)), (.int (0 : Int32)), (.int (0 : Int32)), (.int (0 : Int32)), (.int (0 : Int32)), (.int (0 : Int32)), (.int (0 : Int32)), (.int (0 : Int32)), (.int (0 : Int32)), (.int (0 : Int32)), (.int (0 : Int32)), (.int (0 : Int32))] (.int (0 : Int32))
set_option maxRecDepth 65536 in
set_option maxHeartbeats 40000000 in
theorem rm20_1 (l : Launch) (Z : State) (a0 : Array Value) (hw : ∀ d ∈ tables_1, d.before a0 Z = true) (ws : List Jvm.Cond) (tz : Addr) (x1 : Addr) (tz_value : Addr) (x1_value : Addr) (b0 : Int32) (y0 : Int32) (kb : ClassId) (ks : ClassId) (st_COMPACT_STRINGS : Int32) (h0 : Heap) (n0 : Nat) (Z0 : n0 ≤ h0.size) (O0 : Old Z n0 h0) (E_tz : Exa Z h0 tz "java/lang/StringBuilder") (F_tz_value : Fld Z h0 tz "java/lang/AbstractStringBuilder" "value" "[B" (.ref tz_value)) (F_tz_coder : Fld Z h0 tz "java/lang/AbstractStringBuilder" "coder" "B" (.int (0 : Int32))) (V_tz_value : Arv Z h0 tz_value kb .byte (16 : Int32) [(.int b0), (.int (0 : Int32)), (.int (0 : Int32)), (.int (0 : Int32)), (.int (0 : Int32)), (.int (0 : Int32)), (.int (0 : Int32)), (.int (0 : Int32)), (.int (0 : Int32)), (.int (0 : Int32)), (.int (0 : Int32)), (.int (0 : Int32)), (.int (0 : Int32)), (.int (0 : Int32)), (.int (0 : Int32)), (.int (0 : Int32))] (.int (0 : Int32))) (F_tz_count : Fld Z h0 tz "java/lang/AbstractStringBuilder" "count" "I" (.int (1 : Int32))) (E_x1 : Exa Z h0 x1 "java/lang/String") (F_x1_value : Fld Z h0 x1 "java/lang/String" "value" "[B" (.ref x1_value)) (F_x1_coder : Fld Z h0 x1 "java/lang/String" "coder" "B" (.int (0 : Int32))) (V_x1_value : Arv Z h0 x1_value ks .byte (1 : Int32) [(.int (y0.toInt8.toInt32))] (.int 0)) (N_xv : x1_value ≠ tz_value) (hp : ∀ c ∈ ([y0] : List Int32), ¬ c < 0 ∧ ¬ (255 : Int32) < c) (S_COMPACT_STRINGS : Sta Z Z.heap "java/lang/String" "COMPACT_STRINGS" "Z" (.int st_COMPACT_STRINGS)) (hcomp : ¬ (st_COMPACT_STRINGS = (0 : Int32))) (g_tz_value : n0 ≤ tz_value) (g_tz : n0 ≤ tz) :
    MetFree l (⟨"java/lang/AbstractStringBuilder", "append", "(Ljava/lang/String;)Ljava/lang/AbstractStringBuilder;"⟩ : MethodName) (head1 (Jvm.Cond.code (⟨"java/lang/AbstractStringBuilder", "append", "(Ljava/lang/String;)Ljava/lang/AbstractStringBuilder;"⟩ : MethodName) jdk_68_method_22_code 3 (some (.object "java/lang/AbstractStringBuilder")) :: ws) ({ frames := 3, cells := 0, slots := 0, locals := 47 } : Room)) (fun a U => a = #[(.ref tz), (.ref x1)] ∧ Z.Warmed39 U.vm ∧ U.heap = h0) (fun _ _ _ _ _ => True) (fun _ U o U' => ∃ v L, o = .returned v ∧ Q20_1 Z tz x1 tz_value x1_value b0 y0 kb ks st_COMPACT_STRINGS h0 n0 v U'.heap L ∧ FrameEnd U o U' L ({ frames := 3, cells := 0, slots := 0, locals := 47 } : Room).cells ({ frames := 3, cells := 0, slots := 0, locals := 47 } : Room).slots) := by
  refine MetFree.of_bodySF (plainFor_of_name pn_java_lang_AbstractStringBuilder) hisR ?_
  intro p e s m args below meth c s₁ Bd hml0 hP hK
  obtain ⟨rfl, hZ, hh⟩ := hP
  have hx := Bd.exec
  have hby := Bd.bytes
  have hml : c.maxLocals = 3 := hml0
  have hown : s.vm.findClass "java/lang/AbstractStringBuilder" = some m.cls := findClass_of_methodNamed Bd.named
  have hnm := (name_of_methodNamed Bd.named Bd.method).1
  have X0 : Stand p l e ({ frames := 3, cells := 0, slots := 0, locals := 47 } : Room) s m #[(.ref tz), (.ref x1)] below meth c s₁ [] 0 0 := Stand.of_body Bd
  have e0 : s₁.heap = h0 := by rw [← hh, Bd.state]; rfl
  have N0 := Fr.nil n0
  have K0 : Keep h0 h0 [tz_value, tz] := Keep.refl _ _
  have pre0 : ∀ t, Steps p.tables e below (s₁.setTop (mkF m 0 #[.val (.ref tz), .val (.ref x1), .unset] [])) t → Steps p.tables e below (s₁.setTop (entryFrame m #[(.ref tz), (.ref x1)] 3)) t := fun t k => castTop (ef20_1 m tz x1) k
  have cd63 : StrChars.Road.CodA ([y0] : List Int32) 0 (1 : Int32) [(.int (y0.toInt8.toInt32))] := StrChars.Road.codOf (n := 1) rfl (fun c hc => (hp c hc).2)
  have hb64 : ∀ c ∈ ([y0] : List Int32), ¬ c < 0 ∧ ¬ (65535 : Int32) < c := own_up _ hp
  obtain ⟨cq65, kq65, q65a, q65b, q65c⟩ := isOf hZ e0 E_x1
  obtain ⟨_, _, ⟨T65, L65, k65, n65⟩, -, X65, ⟨Lc65, hQ65, l65, y65, z65⟩, st65⟩ := X0.virtualBack hx (y := (⟨"java/lang/String", "length", "()I"⟩ : MethodName)) (z := (⟨"java/lang/String", "length", "()I"⟩ : MethodName)) hown (mvT hZ (own_wd hw 112 rfl)) (mvT hZ (own_wd hw 51 rfl)) (notFace_of_selects (args := #[]) (mvT hZ (own_wd hw 53 rfl))) (mvT hZ (own_wd hw 53 rfl)) (mvT hZ (own_wd hw 52 rfl)) (by decide) (StrChars.Road.lenW (W := 0) hZ (own_hln hw) (kI := 4) (own_wd hw 2 rfl) E_x1 F_x1_value F_x1_coder V_x1_value cd63 hb64 (S_COMPACT_STRINGS.ext O0.2) hcomp (Nat.le_of_ble_eq_true rfl) (by decide) (by decide)) q65a q65c (g := (mkF m 10 #[.val (.ref tz), .val (.ref x1), .unset] [(.ref x1)])) rfl (by rw [hml]; rfl) (Steps.refl _) (argsL := []) (rest := []) (lenOf pd_0 rfl) rfl (by show 2 * 0 + _ ≤ _; exact Nat.le_of_eq rfl) (hb hby d20_10) (fun _ _ => ⟨rfl, e0, (by decide : 0 + 0 ≤ _), (by decide : 0 + 0 ≤ _)⟩)
  dsimp only [Pt.U, Pt.locs, Pt.cells, Pt.slots] at X65 l65 y65 z65 st65 hQ65
  subst l65 y65 z65
  obtain ⟨hv65, rfl, eh65⟩ := hQ65
  obtain rfl : _ = some (Value.int (1 : Int32)) := hv65
  have N65 := Fr.app N0 (Fr.nil n0)
  obtain ⟨T66, X66, e66, st66⟩ := getF X65 hx hZ hown (host := "") (Or.inl (own_wd hw 113 rfl)) Via.refl eh65 F_tz_count (g := (mkF m 16 #[.val (.ref tz), .val (.ref x1), .val (.int (1 : Int32))] [(.ref tz), (.ref tz)])) rfl rfl (hb hby d20_16)
  have pp67 : ¬ ((0 : Int32) < (((1 : Int32) + (1 : Int32)) - ((16 : Int32) >>> ((0 : Int32) &&& 31)))) := by decide
  obtain ⟨cq68, q68, q68'⟩ := E_tz.cell
  obtain ⟨_, _, ⟨T68, L68, k68, n68⟩, -, X68, ⟨Lc68, hQ68, l68, y68, z68⟩, st68⟩ := X66.privateBack hx (y := (⟨"java/lang/AbstractStringBuilder", "ensureCapacityInternal", "(I)V"⟩ : MethodName)) hown (mvT hZ (own_wd hw 115 rfl)) (mvT hZ (own_wd hw 116 rfl)) (mvT hZ (own_selp (own_wd hw 118 rfl) (Cond.privateMethod_at (own_wd hw 117 rfl)) (own_wd hw 116 rfl) (by decide))) (Cond.privateMethod_at (mvP hZ (own_wd hw 117 rfl) (args := #[]))) (mvT hZ (own_wd hw 119 rfl)) (by decide) (backOf (W := 0) (rm21 l Z a0 hw [] tz ((1 : Int32) + (1 : Int32)) tz_value kb [(.int b0), (.int (0 : Int32)), (.int (0 : Int32)), (.int (0 : Int32)), (.int (0 : Int32)), (.int (0 : Int32)), (.int (0 : Int32)), (.int (0 : Int32)), (.int (0 : Int32)), (.int (0 : Int32)), (.int (0 : Int32)), (.int (0 : Int32)), (.int (0 : Int32)), (.int (0 : Int32)), (.int (0 : Int32)), (.int (0 : Int32))] h0 n0 Z0 O0 E_tz F_tz_value F_tz_coder V_tz_value pp67) hZ (own_wd hw 119 rfl) (own_wd hw 94 rfl) (by decide) (by decide)) (g := (mkF m 21 #[.val (.ref tz), .val (.ref x1), .val (.int (1 : Int32))] [(.int ((1 : Int32) + (1 : Int32))), (.ref tz)])) rfl (by rw [hml]; rfl) (Steps.refl _) (a := tz) (by rw [e66]; exact q68) q68' (argsL := [(.int ((1 : Int32) + (1 : Int32)))]) (rest := []) (lenOf pd_1 rfl) rfl (by show 2 * 0 + _ ≤ _; exact Nat.le_of_eq rfl) (hb hby d20_21) (fun _ _ => ⟨rfl, e66, (by decide : 0 + 0 ≤ _), (by decide : 0 + 0 ≤ _)⟩)
  dsimp only [Pt.U, Pt.locs, Pt.cells, Pt.slots] at X68 l68 y68 z68 st68 hQ68
  subst l68 y68 z68
  obtain ⟨rfl, N68q, eh68⟩ := hQ68
  have N68 := Fr.app N65 N68q
  obtain ⟨T69, X69, e69, st69⟩ := getF X68 hx hZ hown (host := "") (Or.inl (own_wd hw 113 rfl)) Via.refl eh68 F_tz_count (g := (mkF m 26 #[.val (.ref tz), .val (.ref x1), .val (.int (1 : Int32))] [(.ref tz), (.ref tz)])) rfl rfl (hb hby d20_26)
  obtain ⟨cq70, q70, q70'⟩ := E_tz.cell
  obtain ⟨_, _, ⟨T70, L70, k70, n70⟩, -, X70, ⟨Lc70, hQ70, l70, y70, z70⟩, st70⟩ := X69.privateBack hx (y := (⟨"java/lang/AbstractStringBuilder", "putStringAt", "(ILjava/lang/String;)V"⟩ : MethodName)) hown (mvT hZ (own_wd hw 120 rfl)) (mvT hZ (own_wd hw 121 rfl)) (mvT hZ (own_selp (own_wd hw 123 rfl) (Cond.privateMethod_at (own_wd hw 122 rfl)) (own_wd hw 121 rfl) (by decide))) (Cond.privateMethod_at (mvP hZ (own_wd hw 122 rfl) (args := #[]))) (mvT hZ (own_wd hw 124 rfl)) (by decide) (backOf (W := 0) (rm22_1 l Z a0 hw [] tz x1 tz_value x1_value b0 (y0.toInt8.toInt32) kb ks st_COMPACT_STRINGS h0 n0 Z0 O0 E_tz F_tz_value F_tz_coder V_tz_value E_x1 F_x1_value F_x1_coder V_x1_value N_xv S_COMPACT_STRINGS hcomp g_tz_value) hZ (own_wd hw 124 rfl) (own_wd hw 94 rfl) (by decide) (by decide)) (g := (mkF m 30 #[.val (.ref tz), .val (.ref x1), .val (.int (1 : Int32))] [(.ref x1), (.int (1 : Int32)), (.ref tz)])) rfl (by rw [hml]; rfl) (Steps.refl _) (a := tz) (by rw [e69]; exact q70) q70' (argsL := [(.int (1 : Int32)), (.ref x1)]) (rest := []) (lenOf pd_5 rfl) rfl (by show 2 * 0 + _ ≤ _; exact Nat.le_of_eq rfl) (hb hby d20_30) (fun _ _ => ⟨rfl, e69, (by decide : 0 + 0 ≤ _), (by decide : 0 + 0 ≤ _)⟩)
  dsimp only [Pt.U, Pt.locs, Pt.cells, Pt.slots] at X70 l70 y70 z70 st70 hQ70
  subst l70 y70 z70
  obtain ⟨rfl, N70q, KK70, Q70_0⟩ := hQ70
  have N70 := Fr.app N68 N70q
  have O70 : Old Z n0 T70.heap := O0.keep KK70 (allS g_tz_value all0)
  have Z70 : n0 ≤ T70.heap.size := Nat.le_trans Z0 KK70.1
  have K70 : Keep h0 T70.heap [tz_value, tz] := K0.trans KK70 (allS (Or.inl (List.mem_of_getElem? (i := 0) rfl)) all0)
  have F71 : Fld Z T70.heap tz "java/lang/AbstractStringBuilder" "count" "I" (.int (1 : Int32)) := (F_tz_count.keep KK70 (ninS (Exa.neArv (E_tz.keep KK70) Q70_0 (own_wd hw 85 rfl)) nin0))
  obtain ⟨T72, X72, e72, st72⟩ := getF X70 hx hZ hown (host := "") (Or.inl (own_wd hw 113 rfl)) Via.refl rfl F71 (g := (mkF m 35 #[.val (.ref tz), .val (.ref x1), .val (.int (1 : Int32))] [(.ref tz), (.ref tz)])) rfl rfl (hb hby d20_35)
  have C73 : Exa Z T70.heap tz "java/lang/StringBuilder" := (E_tz.keep KK70)
  obtain ⟨T74, h74, X74, e74, W74, st74⟩ := putF X72 hx hZ hown (host := "") (Or.inl (own_wd hw 113 rfl)) Via.refl e72 F71 C73 (Or.inl (own_wd hw 114 rfl)) (own_wd hw 85 rfl) (ty := .int) (by decide) rfl rfl (g := (mkF m 40 #[.val (.ref tz), .val (.ref x1), .val (.int (1 : Int32))] [(.int ((1 : Int32) + (1 : Int32))), (.ref tz)])) rfl rfl (hb hby d20_40)
  have O74 : Old Z n0 h74 := O70.wr W74 g_tz
  have Z74 : n0 ≤ h74.size := Nat.le_trans Z70 (Keep.of_wr W74).1
  have K74 : Keep h0 h74 [tz_value, tz] := K70.wr W74 (Or.inl (List.mem_of_getElem? (i := 1) rfl))
  have N74 := Fr.snoc X74 N70 g_tz
  have Fw74 : Fld Z h74 tz "java/lang/AbstractStringBuilder" "count" "I" (.int ((1 : Int32) + (1 : Int32))) := F71.same W74
  have C75 : Exa Z h74 tz "java/lang/StringBuilder" := (C73.wr W74)
  have F76 : Fld Z h74 tz "java/lang/AbstractStringBuilder" "value" "[B" (.ref tz_value) := ((F_tz_value.keep KK70 (ninS (Exa.neArv C73 Q70_0 (own_wd hw 85 rfl)) nin0)).other W74 (Or.inr (slot_ne (Or.inl (own_wd hw 99 rfl)) (Or.inl (own_wd hw 114 rfl)) (by decide) (t := (.array .byte)) (t' := .int) (by decide) (by decide))))
  have F77 : Fld Z h74 tz "java/lang/AbstractStringBuilder" "coder" "B" (.int (0 : Int32)) := ((F_tz_coder.keep KK70 (ninS (Exa.neArv C73 Q70_0 (own_wd hw 85 rfl)) nin0)).other W74 (Or.inr (slot_ne (Or.inl (own_wd hw 101 rfl)) (Or.inl (own_wd hw 114 rfl)) (by decide) (t := .byte) (t' := .int) (by decide) (by decide))))
  have V78 : Arv Z h74 tz_value kb .byte (16 : Int32) [(.int b0), (.int (y0.toInt8.toInt32)), (.int (0 : Int32)), (.int (0 : Int32)), (.int (0 : Int32)), (.int (0 : Int32)), (.int (0 : Int32)), (.int (0 : Int32)), (.int (0 : Int32)), (.int (0 : Int32)), (.int (0 : Int32)), (.int (0 : Int32)), (.int (0 : Int32)), (.int (0 : Int32)), (.int (0 : Int32)), (.int (0 : Int32))] (.int (0 : Int32)) := (Q70_0.other W74 (Ne.symm (Exa.neArv C73 Q70_0 (own_wd hw 85 rfl))))
  obtain ⟨fs, hr, hrun, hended, hW, hsame⟩ := X74.leave (v := some (.ref tz)) (fun h => by rw [Bd.returns] at h; cases h)
  refine ⟨_, _, pre0 _ ?_, hrun, hended, _, _, rfl, ?_, ⟨_, rfl⟩, hW, hsame.mono (by decide) (by decide)⟩
  · show Steps p.tables e below (s₁.setTop (mkF m 0 #[.val (.ref tz), .val (.ref x1), .unset] [])) _
    refine XS.aloadN X0.here hx rfl (hb hby d20_0) rfl rfl ?_
    show Steps p.tables e below (s₁.setTop (mkF m 1 #[.val (.ref tz), .val (.ref x1), .unset] [(.ref x1)])) _
    refine XS.ifnonnullYes X0.here hx rfl (pc0 := 1) (pc' := 9) rfl (hb hby d20_1) rfl (by decide) (by decide) ?_
    refine XS.aloadN X0.here hx rfl (hb hby d20_9) rfl rfl ?_
    show Steps p.tables e below (s₁.setTop (mkF m 10 #[.val (.ref tz), .val (.ref x1), .unset] [(.ref x1)])) _
    refine st65.trans ?_
    show Steps p.tables e below (T65.setTop (mkF m 13 #[.val (.ref tz), .val (.ref x1), .unset] [(.int (1 : Int32))])) _
    refine XS.istoreN X65.here hx rfl (hb hby d20_13) rfl (l' := #[.val (.ref tz), .val (.ref x1), .val (.int (1 : Int32))]) rfl ?_
    refine XS.aloadN X65.here hx rfl (hb hby d20_14) rfl rfl ?_
    refine XS.aloadN X65.here hx rfl (hb hby d20_15) rfl rfl ?_
    show Steps p.tables e below (T65.setTop (mkF m 16 #[.val (.ref tz), .val (.ref x1), .val (.int (1 : Int32))] [(.ref tz), (.ref tz)])) _
    refine st66 _ ?_
    show Steps p.tables e below (T66.setTop (mkF m 19 #[.val (.ref tz), .val (.ref x1), .val (.int (1 : Int32))] [(.int (1 : Int32)), (.ref tz)])) _
    refine XS.iloadN X66.here hx rfl (hb hby d20_19) rfl ?_
    refine XS.iadd X66.here hx rfl (hb hby d20_20) rfl ?_
    show Steps p.tables e below (T66.setTop (mkF m 21 #[.val (.ref tz), .val (.ref x1), .val (.int (1 : Int32))] [(.int ((1 : Int32) + (1 : Int32))), (.ref tz)])) _
    refine st68.trans ?_
    show Steps p.tables e below (T68.setTop (mkF m 24 #[.val (.ref tz), .val (.ref x1), .val (.int (1 : Int32))] [])) _
    refine XS.aloadN X68.here hx rfl (hb hby d20_24) rfl rfl ?_
    refine XS.aloadN X68.here hx rfl (hb hby d20_25) rfl rfl ?_
    show Steps p.tables e below (T68.setTop (mkF m 26 #[.val (.ref tz), .val (.ref x1), .val (.int (1 : Int32))] [(.ref tz), (.ref tz)])) _
    refine st69 _ ?_
    show Steps p.tables e below (T69.setTop (mkF m 29 #[.val (.ref tz), .val (.ref x1), .val (.int (1 : Int32))] [(.int (1 : Int32)), (.ref tz)])) _
    refine XS.aloadN X69.here hx rfl (hb hby d20_29) rfl rfl ?_
    show Steps p.tables e below (T69.setTop (mkF m 30 #[.val (.ref tz), .val (.ref x1), .val (.int (1 : Int32))] [(.ref x1), (.int (1 : Int32)), (.ref tz)])) _
    refine st70.trans ?_
    show Steps p.tables e below (T70.setTop (mkF m 33 #[.val (.ref tz), .val (.ref x1), .val (.int (1 : Int32))] [])) _
    refine XS.aloadN X70.here hx rfl (hb hby d20_33) rfl rfl ?_
    refine XS.dup X70.here hx rfl (hb hby d20_34) rfl rfl ?_
    show Steps p.tables e below (T70.setTop (mkF m 35 #[.val (.ref tz), .val (.ref x1), .val (.int (1 : Int32))] [(.ref tz), (.ref tz)])) _
    refine st72 _ ?_
    show Steps p.tables e below (T72.setTop (mkF m 38 #[.val (.ref tz), .val (.ref x1), .val (.int (1 : Int32))] [(.int (1 : Int32)), (.ref tz)])) _
    refine XS.iloadN X72.here hx rfl (hb hby d20_38) rfl ?_
    refine XS.iadd X72.here hx rfl (hb hby d20_39) rfl ?_
    show Steps p.tables e below (T72.setTop (mkF m 40 #[.val (.ref tz), .val (.ref x1), .val (.int (1 : Int32))] [(.int ((1 : Int32) + (1 : Int32))), (.ref tz)])) _
    refine st74 _ ?_
    show Steps p.tables e below (T74.setTop (mkF m 43 #[.val (.ref tz), .val (.ref x1), .val (.int (1 : Int32))] [])) _
    refine XS.aloadN X74.here hx rfl (hb hby d20_43) rfl rfl ?_
    show Steps p.tables e below (T74.setTop (mkF m 44 #[.val (.ref tz), .val (.ref x1), .val (.int (1 : Int32))] [(.ref tz)])) _
    jvm_step X74.here [X74.here.top, hx, (hb hby d20_44), X74.method', Bd.returns, Value.isRef, FieldType.isReference]
    first | (intro acts; rw [hr _ acts rfl rfl rfl]) | rw [hr _ _ rfl rfl rfl]
    exact Steps.refl _
  · show Q20_1 Z tz x1 tz_value x1_value b0 y0 kb ks st_COMPACT_STRINGS h0 n0 _ T74.heap _
    rw [e74]
    exact ⟨rfl, N74, K74, C75, F76, F77, Fw74, V78⟩
theorem ef19_1 (m : MethodId) (tz : Addr) (x1 : Addr) : entryFrame m #[(.ref tz), (.ref x1)] 2 = mkF m 0 #[.val (.ref tz), .val (.ref x1)] [] := by first | (simp [entryFrame, mkF, argsToLocals, Value.category]; done) | rfl
def Q19_1 (Z : State) (tz : Addr) (x1 : Addr) (tz_value : Addr) (x1_value : Addr) (b0 : Int32) (y0 : Int32) (kb : ClassId) (ks : ClassId) (st_COMPACT_STRINGS : Int32) (h0 : Heap) (n0 : Nat) (v : Option Value) (h : Heap) (L : List Loc) : Prop := v = some (.ref tz) ∧ Fr n0 L ∧ Keep h0 h [tz, tz_value] ∧ Exa Z h tz "java/lang/StringBuilder" ∧ Fld Z h tz "java/lang/AbstractStringBuilder" "value" "[B" (.ref tz_value) ∧ Fld Z h tz "java/lang/AbstractStringBuilder" "coder" "B" (.int (0 : Int32)) ∧ Fld Z h tz "java/lang/AbstractStringBuilder" "count" "I" (.int (2 : Int32)) ∧ Arv Z h tz_value kb .byte (16 : Int32) [(.int b0), (.int (y0.toInt8.toInt32)), (.int (0 : Int32)), (.int (0 : Int32)), (.int (0 : Int32)), (.int (0 : Int32)), (.int (0 : Int32)), (.int (0 : Int32)), (.int (0 : Int32)), (.int (0 : Int32)), (.int (0 : Int32)), (.int (0 : Int32)), (.int (0 : Int32)), (.int (0 : Int32)), (.int (0 : Int32)), (.int (0 : Int32))] (.int (0 : Int32))
set_option maxRecDepth 65536 in
set_option maxHeartbeats 40000000 in
theorem rm19_1 (l : Launch) (Z : State) (a0 : Array Value) (hw : ∀ d ∈ tables_1, d.before a0 Z = true) (ws : List Jvm.Cond) (tz : Addr) (x1 : Addr) (tz_value : Addr) (x1_value : Addr) (b0 : Int32) (y0 : Int32) (kb : ClassId) (ks : ClassId) (st_COMPACT_STRINGS : Int32) (h0 : Heap) (n0 : Nat) (Z0 : n0 ≤ h0.size) (O0 : Old Z n0 h0) (E_tz : Exa Z h0 tz "java/lang/StringBuilder") (F_tz_value : Fld Z h0 tz "java/lang/AbstractStringBuilder" "value" "[B" (.ref tz_value)) (F_tz_coder : Fld Z h0 tz "java/lang/AbstractStringBuilder" "coder" "B" (.int (0 : Int32))) (V_tz_value : Arv Z h0 tz_value kb .byte (16 : Int32) [(.int b0), (.int (0 : Int32)), (.int (0 : Int32)), (.int (0 : Int32)), (.int (0 : Int32)), (.int (0 : Int32)), (.int (0 : Int32)), (.int (0 : Int32)), (.int (0 : Int32)), (.int (0 : Int32)), (.int (0 : Int32)), (.int (0 : Int32)), (.int (0 : Int32)), (.int (0 : Int32)), (.int (0 : Int32)), (.int (0 : Int32))] (.int (0 : Int32))) (F_tz_count : Fld Z h0 tz "java/lang/AbstractStringBuilder" "count" "I" (.int (1 : Int32))) (E_x1 : Exa Z h0 x1 "java/lang/String") (F_x1_value : Fld Z h0 x1 "java/lang/String" "value" "[B" (.ref x1_value)) (F_x1_coder : Fld Z h0 x1 "java/lang/String" "coder" "B" (.int (0 : Int32))) (V_x1_value : Arv Z h0 x1_value ks .byte (1 : Int32) [(.int (y0.toInt8.toInt32))] (.int 0)) (N_xv : x1_value ≠ tz_value) (hp : ∀ c ∈ ([y0] : List Int32), ¬ c < 0 ∧ ¬ (255 : Int32) < c) (S_COMPACT_STRINGS : Sta Z Z.heap "java/lang/String" "COMPACT_STRINGS" "Z" (.int st_COMPACT_STRINGS)) (hcomp : ¬ (st_COMPACT_STRINGS = (0 : Int32))) (g_tz_value : n0 ≤ tz_value) (g_tz : n0 ≤ tz) :
    MetFree l (⟨"java/lang/StringBuilder", "append", "(Ljava/lang/String;)Ljava/lang/StringBuilder;"⟩ : MethodName) (head1 (Jvm.Cond.code (⟨"java/lang/StringBuilder", "append", "(Ljava/lang/String;)Ljava/lang/StringBuilder;"⟩ : MethodName) jdk_67_method_7_code 2 (some (.object "java/lang/StringBuilder")) :: ws) ({ frames := 4, cells := 0, slots := 0, locals := 61 } : Room)) (fun a U => a = #[(.ref tz), (.ref x1)] ∧ Z.Warmed39 U.vm ∧ U.heap = h0) (fun _ _ _ _ _ => True) (fun _ U o U' => ∃ v L, o = .returned v ∧ Q19_1 Z tz x1 tz_value x1_value b0 y0 kb ks st_COMPACT_STRINGS h0 n0 v U'.heap L ∧ FrameEnd U o U' L ({ frames := 4, cells := 0, slots := 0, locals := 61 } : Room).cells ({ frames := 4, cells := 0, slots := 0, locals := 61 } : Room).slots) := by
  refine MetFree.of_bodySF (plainFor_of_name pn_java_lang_StringBuilder) hisR ?_
  intro p e s m args below meth c s₁ Bd hml0 hP hK
  obtain ⟨rfl, hZ, hh⟩ := hP
  have hx := Bd.exec
  have hby := Bd.bytes
  have hml : c.maxLocals = 2 := hml0
  have hown : s.vm.findClass "java/lang/StringBuilder" = some m.cls := findClass_of_methodNamed Bd.named
  have hnm := (name_of_methodNamed Bd.named Bd.method).1
  have X0 : Stand p l e ({ frames := 4, cells := 0, slots := 0, locals := 61 } : Room) s m #[(.ref tz), (.ref x1)] below meth c s₁ [] 0 0 := Stand.of_body Bd
  have e0 : s₁.heap = h0 := by rw [← hh, Bd.state]; rfl
  have N0 := Fr.nil n0
  have K0 : Keep h0 h0 [tz, tz_value] := Keep.refl _ _
  have pre0 : ∀ t, Steps p.tables e below (s₁.setTop (mkF m 0 #[.val (.ref tz), .val (.ref x1)] [])) t → Steps p.tables e below (s₁.setTop (entryFrame m #[(.ref tz), (.ref x1)] 2)) t := fun t k => castTop (ef19_1 m tz x1) k
  obtain ⟨_, _, ⟨T79, L79, k79, n79⟩, -, X79, ⟨Lc79, hQ79, l79, y79, z79⟩, st79⟩ := superBack X0 hx hZ (y := (⟨"java/lang/AbstractStringBuilder", "append", "(Ljava/lang/String;)Ljava/lang/AbstractStringBuilder;"⟩ : MethodName)) hown (own_wd hw 107 rfl) (own_same (y := (⟨"java/lang/AbstractStringBuilder", "append", "(Ljava/lang/String;)Ljava/lang/AbstractStringBuilder;"⟩ : MethodName)) (own_nf (notFace_of_selects (own_wd hw 158 rfl)) (own_wd hw 156 rfl) rfl) (own_wd hw 110 rfl) (by decide)) (own_wd hw 108 rfl) (own_wd hw 109 rfl) (by decide) (backOf (W := 0) (rm20_1 l Z a0 hw [] tz x1 tz_value x1_value b0 y0 kb ks st_COMPACT_STRINGS h0 n0 Z0 O0 E_tz F_tz_value F_tz_coder V_tz_value F_tz_count E_x1 F_x1_value F_x1_coder V_x1_value N_xv hp S_COMPACT_STRINGS hcomp g_tz_value g_tz) hZ (own_wd hw 111 rfl) (own_wd hw 94 rfl) (by decide) (by decide)) e0 (Ins.self E_tz) (g := (mkF m 2 #[.val (.ref tz), .val (.ref x1)] [(.ref x1), (.ref tz)])) rfl (by rw [hml]; rfl) (own_wd hw 111 rfl) (argsL := [(.ref x1)]) (rest := []) (lenOf pd_6 rfl) rfl (by show 2 * 0 + _ ≤ _; exact Nat.le_of_eq rfl) (hb hby d19_2) (fun _ _ => ⟨rfl, e0, (by decide : 0 + 0 ≤ _), (by decide : 0 + 0 ≤ _)⟩)
  dsimp only [Pt.U, Pt.locs, Pt.cells, Pt.slots] at X79 l79 y79 z79 st79 hQ79
  subst l79 y79 z79
  obtain ⟨rfl, N79q, KK79, Q79_0, Q79_1, Q79_2, Q79_3, Q79_4⟩ := hQ79
  have N79 := Fr.app N0 N79q
  have O79 : Old Z n0 T79.heap := O0.keep KK79 (allS g_tz_value (allS g_tz all0))
  have Z79 : n0 ≤ T79.heap.size := Nat.le_trans Z0 KK79.1
  have K79 : Keep h0 T79.heap [tz, tz_value] := K0.trans KK79 (allS (Or.inl (List.mem_of_getElem? (i := 1) rfl)) (allS (Or.inl (List.mem_of_getElem? (i := 0) rfl)) all0))
  obtain ⟨fs, hr, hrun, hended, hW, hsame⟩ := X79.leave (v := some (.ref tz)) (fun h => by rw [Bd.returns] at h; cases h)
  refine ⟨_, _, pre0 _ ?_, hrun, hended, _, _, rfl, ?_, ⟨_, rfl⟩, hW, hsame.mono (by decide) (by decide)⟩
  · show Steps p.tables e below (s₁.setTop (mkF m 0 #[.val (.ref tz), .val (.ref x1)] [])) _
    refine XS.aloadN X0.here hx rfl (hb hby d19_0) rfl rfl ?_
    refine XS.aloadN X0.here hx rfl (hb hby d19_1) rfl rfl ?_
    show Steps p.tables e below (s₁.setTop (mkF m 2 #[.val (.ref tz), .val (.ref x1)] [(.ref x1), (.ref tz)])) _
    refine st79.trans ?_
    show Steps p.tables e below (T79.setTop (mkF m 5 #[.val (.ref tz), .val (.ref x1)] [(.ref tz)])) _
    refine XS.pop X79.here hx rfl (hb hby d19_5) rfl rfl ?_
    refine XS.aloadN X79.here hx rfl (hb hby d19_6) rfl rfl ?_
    show Steps p.tables e below (T79.setTop (mkF m 7 #[.val (.ref tz), .val (.ref x1)] [(.ref tz)])) _
    jvm_step X79.here [X79.here.top, hx, (hb hby d19_7), X79.method', Bd.returns, Value.isRef, FieldType.isReference]
    first | (intro acts; rw [hr _ acts rfl rfl rfl]) | rw [hr _ _ rfl rfl rfl]
    exact Steps.refl _
  · show Q19_1 Z tz x1 tz_value x1_value b0 y0 kb ks st_COMPACT_STRINGS h0 n0 _ T79.heap _
    exact ⟨rfl, N79, K79, Q79_0, Q79_1, Q79_2, Q79_3, Q79_4⟩
theorem ef24_2 (m : MethodId) (tz : Addr) (x1 : Addr) : entryFrame m #[(.ref tz), (.ref x1), (.int (2 : Int32)), (.int (0 : Int32))] 4 = mkF m 0 #[.val (.ref tz), .val (.ref x1), .val (.int (2 : Int32)), .val (.int (0 : Int32))] [] := by first | (simp [entryFrame, mkF, argsToLocals, Value.category]; done) | rfl
def Q24_2 (Z : State) (tz : Addr) (x1 : Addr) (tz_value : Addr) (b0 : Int32) (b1 : Int32) (z0 : Int32) (kb : ClassId) (ks : ClassId) (st_COMPACT_STRINGS : Int32) (h0 : Heap) (n0 : Nat) (v : Option Value) (h : Heap) (L : List Loc) : Prop := v = none ∧ Fr n0 L ∧ Keep h0 h [x1] ∧ Arv Z h x1 kb .byte (16 : Int32) [(.int b0), (.int b1), (.int z0), (.int (0 : Int32)), (.int (0 : Int32)), (.int (0 : Int32)), (.int (0 : Int32)), (.int (0 : Int32)), (.int (0 : Int32)), (.int (0 : Int32)), (.int (0 : Int32)), (.int (0 : Int32)), (.int (0 : Int32)), (.int (0 : Int32)), (.int (0 : Int32)), (.int (0 : Int32))] (.int (0 : Int32))
set_option maxRecDepth 65536 in
set_option maxHeartbeats 40000000 in
theorem rm24_2 (l : Launch) (Z : State) (a0 : Array Value) (hw : ∀ d ∈ tables_1, d.before a0 Z = true) (ws : List Jvm.Cond) (tz : Addr) (x1 : Addr) (tz_value : Addr) (b0 : Int32) (b1 : Int32) (z0 : Int32) (kb : ClassId) (ks : ClassId) (st_COMPACT_STRINGS : Int32) (h0 : Heap) (n0 : Nat) (Z0 : n0 ≤ h0.size) (O0 : Old Z n0 h0) (E_tz : Exa Z h0 tz "java/lang/String") (F_tz_value : Fld Z h0 tz "java/lang/String" "value" "[B" (.ref tz_value)) (F_tz_coder : Fld Z h0 tz "java/lang/String" "coder" "B" (.int (0 : Int32))) (V_tz_value : Arv Z h0 tz_value ks .byte (1 : Int32) [(.int z0)] (.int 0)) (V_x1 : Arv Z h0 x1 kb .byte (16 : Int32) [(.int b0), (.int b1), (.int (0 : Int32)), (.int (0 : Int32)), (.int (0 : Int32)), (.int (0 : Int32)), (.int (0 : Int32)), (.int (0 : Int32)), (.int (0 : Int32)), (.int (0 : Int32)), (.int (0 : Int32)), (.int (0 : Int32)), (.int (0 : Int32)), (.int (0 : Int32)), (.int (0 : Int32)), (.int (0 : Int32))] (.int (0 : Int32))) (S_COMPACT_STRINGS : Sta Z Z.heap "java/lang/String" "COMPACT_STRINGS" "Z" (.int st_COMPACT_STRINGS)) (hcomp : ¬ (st_COMPACT_STRINGS = (0 : Int32))) (g_x1 : n0 ≤ x1) :
    MetFree l (⟨"java/lang/String", "getBytes", "([BIB)V"⟩ : MethodName) (head1 (Jvm.Cond.code (⟨"java/lang/String", "getBytes", "([BIB)V"⟩ : MethodName) jdk_42_method_147_code 4 none :: ws) ({ frames := 1, cells := 0, slots := 0, locals := 18 } : Room)) (fun a U => a = #[(.ref tz), (.ref x1), (.int (2 : Int32)), (.int (0 : Int32))] ∧ Z.Warmed39 U.vm ∧ U.heap = h0) (fun _ _ _ _ _ => True) (fun _ U o U' => ∃ v L, o = .returned v ∧ Q24_2 Z tz x1 tz_value b0 b1 z0 kb ks st_COMPACT_STRINGS h0 n0 v U'.heap L ∧ FrameEnd U o U' L ({ frames := 1, cells := 0, slots := 0, locals := 18 } : Room).cells ({ frames := 1, cells := 0, slots := 0, locals := 18 } : Room).slots) := by
  refine MetFree.of_bodySF (plainFor_of_name pn_java_lang_String) hisR ?_
  intro p e s m args below meth c s₁ Bd hml0 hP hK
  obtain ⟨rfl, hZ, hh⟩ := hP
  have hx := Bd.exec
  have hby := Bd.bytes
  have hml : c.maxLocals = 4 := hml0
  have hown : s.vm.findClass "java/lang/String" = some m.cls := findClass_of_methodNamed Bd.named
  have hnm := (name_of_methodNamed Bd.named Bd.method).1
  have X0 : Stand p l e ({ frames := 1, cells := 0, slots := 0, locals := 18 } : Room) s m #[(.ref tz), (.ref x1), (.int (2 : Int32)), (.int (0 : Int32))] below meth c s₁ [] 0 0 := Stand.of_body Bd
  have e0 : s₁.heap = h0 := by rw [← hh, Bd.state]; rfl
  have N0 := Fr.nil n0
  have K0 : Keep h0 h0 [x1] := Keep.refl _ _
  have pre0 : ∀ t, Steps p.tables e below (s₁.setTop (mkF m 0 #[.val (.ref tz), .val (.ref x1), .val (.int (2 : Int32)), .val (.int (0 : Int32))] [])) t → Steps p.tables e below (s₁.setTop (entryFrame m #[(.ref tz), (.ref x1), (.int (2 : Int32)), (.int (0 : Int32))] 4)) t := fun t k => castTop (ef24_2 m tz x1) k
  obtain ⟨cq80, kq80, q80a, q80b, q80c⟩ := isOf hZ e0 E_tz
  obtain ⟨_, _, ⟨T80, L80, k80, n80⟩, -, X80, ⟨Lc80, hQ80, l80, y80, z80⟩, st80⟩ := X0.virtualBack hx (y := (⟨"java/lang/String", "coder", "()B"⟩ : MethodName)) (z := (⟨"java/lang/String", "coder", "()B"⟩ : MethodName)) hown (mvT hZ (own_wd hw 55 rfl)) (mvT hZ (own_wd hw 56 rfl)) (notFace_of_selects (args := #[]) (mvT hZ (own_wd hw 58 rfl))) (mvT hZ (own_wd hw 58 rfl)) (mvT hZ (own_wd hw 57 rfl)) (by decide) (backOf (W := 0) (rm11 l Z a0 hw [] tz st_COMPACT_STRINGS h0 n0 Z0 O0 F_tz_coder S_COMPACT_STRINGS hcomp) hZ (own_wd hw 59 rfl) (own_wd hw 3 rfl) (by decide) (by decide)) q80a q80c (g := (mkF m 1 #[.val (.ref tz), .val (.ref x1), .val (.int (2 : Int32)), .val (.int (0 : Int32))] [(.ref tz)])) rfl (by rw [hml]; rfl) (Steps.refl _) (argsL := []) (rest := []) (lenOf pd_2 rfl) rfl (by show 2 * 0 + _ ≤ _; exact Nat.le_of_eq rfl) (hb hby d24_1) (fun _ _ => ⟨rfl, e0, (by decide : 0 + 0 ≤ _), (by decide : 0 + 0 ≤ _)⟩)
  dsimp only [Pt.U, Pt.locs, Pt.cells, Pt.slots] at X80 l80 y80 z80 st80 hQ80
  subst l80 y80 z80
  obtain ⟨rfl, N80q, eh80⟩ := hQ80
  have N80 := Fr.app N0 N80q
  obtain ⟨T81, X81, e81, st81⟩ := getF X80 hx hZ hown (host := "") (Or.inl (own_wd hw 28 rfl)) Via.refl eh80 F_tz_value (g := (mkF m 9 #[.val (.ref tz), .val (.ref x1), .val (.int (2 : Int32)), .val (.int (0 : Int32))] [(.ref tz)])) rfl rfl (hb hby d24_9)
  obtain ⟨T82, X82, e82, st82⟩ := getF X81 hx hZ hown (host := "") (Or.inl (own_wd hw 28 rfl)) Via.refl e81 F_tz_value (g := (mkF m 18 #[.val (.ref tz), .val (.ref x1), .val (.int (2 : Int32)), .val (.int (0 : Int32))] [(.ref tz), (.int ((2 : Int32) <<< ((0 : Int32) &&& 31))), (.ref x1), (.int (0 : Int32)), (.ref tz_value)])) rfl rfl (hb hby d24_18)
  obtain ⟨cl_a83, Ar_a83, -, S_a83, N_a83, -, -⟩ := id V_tz_value
  obtain ⟨T84, h84, L84, X84, e84, N84, KK84, A84, st84⟩ := cpA X82 hx hZ hown (own_wd hw 136 rfl) (own_wd hw 139 rfl) (own_wd hw 137 rfl) (own_wd hw 138 rfl) e82 (us := [(.int z0)]) V_tz_value V_x1 (Or.inl ⟨rfl, rfl⟩) (by first | decide | exact Nat.le_of_ble_eq_true rfl) (by first | decide | exact Nat.le_of_ble_eq_true rfl) (by first | decide | exact Nat.le_of_ble_eq_true rfl) (by first | decide | exact Nat.le_of_ble_eq_true rfl) (by first | decide | exact Nat.le_of_ble_eq_true rfl) rfl (by first | decide | exact Nat.le_of_ble_eq_true rfl) N80 g_x1 (g := (mkF m 22 #[.val (.ref tz), .val (.ref x1), .val (.int (2 : Int32)), .val (.int (0 : Int32))] [(.int (1 : Int32)), (.int ((2 : Int32) <<< ((0 : Int32) &&& 31))), (.ref x1), (.int (0 : Int32)), (.ref tz_value)])) rfl (by rw [hml]; rfl) rfl (hb hby d24_22) (by decide) (W := 0) (by show 2 * 0 + _ ≤ _; exact Nat.le_of_eq rfl) (by decide)
  have O84 : Old Z n0 h84 := O0.keep KK84 (allS g_x1 all0)
  have Z84 : n0 ≤ h84.size := Nat.le_trans Z0 KK84.1
  have K84 : Keep h0 h84 [x1] := K0.trans KK84 (allS (Or.inl (List.mem_of_getElem? (i := 0) rfl)) all0)
  have V84 : Arv Z h84 x1 kb .byte (16 : Int32) [(.int b0), (.int b1), (.int z0), (.int (0 : Int32)), (.int (0 : Int32)), (.int (0 : Int32)), (.int (0 : Int32)), (.int (0 : Int32)), (.int (0 : Int32)), (.int (0 : Int32)), (.int (0 : Int32)), (.int (0 : Int32)), (.int (0 : Int32)), (.int (0 : Int32)), (.int (0 : Int32)), (.int (0 : Int32))] (.int (0 : Int32)) := A84
  obtain ⟨fs, hr, hrun, hended, hW, hsame⟩ := X84.leave (v := none) (fun _ => rfl)
  refine ⟨_, _, pre0 _ ?_, hrun, hended, _, _, rfl, ?_, ⟨_, rfl⟩, hW, hsame.mono (by decide) (by decide)⟩
  · show Steps p.tables e below (s₁.setTop (mkF m 0 #[.val (.ref tz), .val (.ref x1), .val (.int (2 : Int32)), .val (.int (0 : Int32))] [])) _
    refine XS.aloadN X0.here hx rfl (hb hby d24_0) rfl rfl ?_
    show Steps p.tables e below (s₁.setTop (mkF m 1 #[.val (.ref tz), .val (.ref x1), .val (.int (2 : Int32)), .val (.int (0 : Int32))] [(.ref tz)])) _
    refine st80.trans ?_
    show Steps p.tables e below (T80.setTop (mkF m 4 #[.val (.ref tz), .val (.ref x1), .val (.int (2 : Int32)), .val (.int (0 : Int32))] [(.int (0 : Int32))])) _
    refine XS.iloadN X80.here hx rfl (hb hby d24_4) rfl ?_
    refine XS.icmpNo X80.here hx rfl (hb hby d24_5) rfl (teq (by decide : (0 : Int32) = (0 : Int32))).2 ?_
    refine XS.aloadN X80.here hx rfl (hb hby d24_8) rfl rfl ?_
    show Steps p.tables e below (T80.setTop (mkF m 9 #[.val (.ref tz), .val (.ref x1), .val (.int (2 : Int32)), .val (.int (0 : Int32))] [(.ref tz)])) _
    refine st81 _ ?_
    show Steps p.tables e below (T81.setTop (mkF m 12 #[.val (.ref tz), .val (.ref x1), .val (.int (2 : Int32)), .val (.int (0 : Int32))] [(.ref tz_value)])) _
    refine XS.iconst X81.here hx rfl (hb hby d24_12) ?_
    refine XS.aloadN X81.here hx rfl (hb hby d24_13) rfl rfl ?_
    refine XS.iloadN X81.here hx rfl (hb hby d24_14) rfl ?_
    refine XS.iloadN X81.here hx rfl (hb hby d24_15) rfl ?_
    show Steps p.tables e below (T81.setTop (mkF m 16 #[.val (.ref tz), .val (.ref x1), .val (.int (2 : Int32)), .val (.int (0 : Int32))] [(.int (0 : Int32)), (.int (2 : Int32)), (.ref x1), (.int (0 : Int32)), (.ref tz_value)])) _
    refine XS.ishl X81.here hx rfl (hb hby d24_16) rfl ?_
    refine XS.aloadN X81.here hx rfl (hb hby d24_17) rfl rfl ?_
    show Steps p.tables e below (T81.setTop (mkF m 18 #[.val (.ref tz), .val (.ref x1), .val (.int (2 : Int32)), .val (.int (0 : Int32))] [(.ref tz), (.int ((2 : Int32) <<< ((0 : Int32) &&& 31))), (.ref x1), (.int (0 : Int32)), (.ref tz_value)])) _
    refine st82 _ ?_
    show Steps p.tables e below (T82.setTop (mkF m 21 #[.val (.ref tz), .val (.ref x1), .val (.int (2 : Int32)), .val (.int (0 : Int32))] [(.ref tz_value), (.int ((2 : Int32) <<< ((0 : Int32) &&& 31))), (.ref x1), (.int (0 : Int32)), (.ref tz_value)])) _
    refine X82.arraylength hx (by rw [e82]; exact Ar_a83.1) (State.isArrayOf_alike hZ.alike Ar_a83.2.1) (g := (mkF m 21 #[.val (.ref tz), .val (.ref x1), .val (.int (2 : Int32)), .val (.int (0 : Int32))] [(.ref tz_value), (.int ((2 : Int32) <<< ((0 : Int32) &&& 31))), (.ref x1), (.int (0 : Int32)), (.ref tz_value)])) rfl rfl (hb hby d24_21) _ ?_
    rw [len_of S_a83 N_a83]
    show Steps p.tables e below (T82.setTop (mkF m 22 #[.val (.ref tz), .val (.ref x1), .val (.int (2 : Int32)), .val (.int (0 : Int32))] [(.int (1 : Int32)), (.int ((2 : Int32) <<< ((0 : Int32) &&& 31))), (.ref x1), (.int (0 : Int32)), (.ref tz_value)])) _
    refine st84 _ ?_
    show Steps p.tables e below (T84.setTop (mkF m 25 #[.val (.ref tz), .val (.ref x1), .val (.int (2 : Int32)), .val (.int (0 : Int32))] [])) _
    refine XS.goto X84.here hx rfl (pc0 := 25) (pc' := 43) rfl (hb hby d24_25) (by decide) (by decide) ?_
    show Steps p.tables e below (T84.setTop (mkF m 43 #[.val (.ref tz), .val (.ref x1), .val (.int (2 : Int32)), .val (.int (0 : Int32))] [])) _
    exact X84.returnOut hx Bd.returns (hb hby d24_43) hr
  · show Q24_2 Z tz x1 tz_value b0 b1 z0 kb ks st_COMPACT_STRINGS h0 n0 _ T84.heap _
    rw [e84]
    exact ⟨rfl, N84, K84, V84⟩
theorem ef22_2 (m : MethodId) (tz : Addr) (x2 : Addr) : entryFrame m #[(.ref tz), (.int (2 : Int32)), (.ref x2)] 3 = mkF m 0 #[.val (.ref tz), .val (.int (2 : Int32)), .val (.ref x2)] [] := by first | (simp [entryFrame, mkF, argsToLocals, Value.category]; done) | rfl
def Q22_2 (Z : State) (tz : Addr) (x2 : Addr) (tz_value : Addr) (x2_value : Addr) (b0 : Int32) (b1 : Int32) (z0 : Int32) (kb : ClassId) (ks : ClassId) (st_COMPACT_STRINGS : Int32) (h0 : Heap) (n0 : Nat) (v : Option Value) (h : Heap) (L : List Loc) : Prop := v = none ∧ Fr n0 L ∧ Keep h0 h [tz_value] ∧ Arv Z h tz_value kb .byte (16 : Int32) [(.int b0), (.int b1), (.int z0), (.int (0 : Int32)), (.int (0 : Int32)), (.int (0 : Int32)), (.int (0 : Int32)), (.int (0 : Int32)), (.int (0 : Int32)), (.int (0 : Int32)), (.int (0 : Int32)), (.int (0 : Int32)), (.int (0 : Int32)), (.int (0 : Int32)), (.int (0 : Int32)), (.int (0 : Int32))] (.int (0 : Int32))
set_option maxRecDepth 65536 in
set_option maxHeartbeats 40000000 in
theorem rm22_2 (l : Launch) (Z : State) (a0 : Array Value) (hw : ∀ d ∈ tables_1, d.before a0 Z = true) (ws : List Jvm.Cond) (tz : Addr) (x2 : Addr) (tz_value : Addr) (x2_value : Addr) (b0 : Int32) (b1 : Int32) (z0 : Int32) (kb : ClassId) (ks : ClassId) (st_COMPACT_STRINGS : Int32) (h0 : Heap) (n0 : Nat) (Z0 : n0 ≤ h0.size) (O0 : Old Z n0 h0) (E_tz : Exa Z h0 tz "java/lang/StringBuilder") (F_tz_value : Fld Z h0 tz "java/lang/AbstractStringBuilder" "value" "[B" (.ref tz_value)) (F_tz_coder : Fld Z h0 tz "java/lang/AbstractStringBuilder" "coder" "B" (.int (0 : Int32))) (V_tz_value : Arv Z h0 tz_value kb .byte (16 : Int32) [(.int b0), (.int b1), (.int (0 : Int32)), (.int (0 : Int32)), (.int (0 : Int32)), (.int (0 : Int32)), (.int (0 : Int32)), (.int (0 : Int32)), (.int (0 : Int32)), (.int (0 : Int32)), (.int (0 : Int32)), (.int (0 : Int32)), (.int (0 : Int32)), (.int (0 : Int32)), (.int (0 : Int32)), (.int (0 : Int32))] (.int (0 : Int32))) (E_x2 : Exa Z h0 x2 "java/lang/String") (F_x2_value : Fld Z h0 x2 "java/lang/String" "value" "[B" (.ref x2_value)) (F_x2_coder : Fld Z h0 x2 "java/lang/String" "coder" "B" (.int (0 : Int32))) (V_x2_value : Arv Z h0 x2_value ks .byte (1 : Int32) [(.int z0)] (.int 0)) (N_xv : x2_value ≠ tz_value) (S_COMPACT_STRINGS : Sta Z Z.heap "java/lang/String" "COMPACT_STRINGS" "Z" (.int st_COMPACT_STRINGS)) (hcomp : ¬ (st_COMPACT_STRINGS = (0 : Int32))) (g_tz_value : n0 ≤ tz_value) :
    MetFree l (⟨"java/lang/AbstractStringBuilder", "putStringAt", "(ILjava/lang/String;)V"⟩ : MethodName) (head1 (Jvm.Cond.code (⟨"java/lang/AbstractStringBuilder", "putStringAt", "(ILjava/lang/String;)V"⟩ : MethodName) jdk_68_method_73_code 3 none :: ws) ({ frames := 2, cells := 0, slots := 0, locals := 33 } : Room)) (fun a U => a = #[(.ref tz), (.int (2 : Int32)), (.ref x2)] ∧ Z.Warmed39 U.vm ∧ U.heap = h0) (fun _ _ _ _ _ => True) (fun _ U o U' => ∃ v L, o = .returned v ∧ Q22_2 Z tz x2 tz_value x2_value b0 b1 z0 kb ks st_COMPACT_STRINGS h0 n0 v U'.heap L ∧ FrameEnd U o U' L ({ frames := 2, cells := 0, slots := 0, locals := 33 } : Room).cells ({ frames := 2, cells := 0, slots := 0, locals := 33 } : Room).slots) := by
  refine MetFree.of_bodySF (plainFor_of_name pn_java_lang_AbstractStringBuilder) hisR ?_
  intro p e s m args below meth c s₁ Bd hml0 hP hK
  obtain ⟨rfl, hZ, hh⟩ := hP
  have hx := Bd.exec
  have hby := Bd.bytes
  have hml : c.maxLocals = 3 := hml0
  have hown : s.vm.findClass "java/lang/AbstractStringBuilder" = some m.cls := findClass_of_methodNamed Bd.named
  have hnm := (name_of_methodNamed Bd.named Bd.method).1
  have X0 : Stand p l e ({ frames := 2, cells := 0, slots := 0, locals := 33 } : Room) s m #[(.ref tz), (.int (2 : Int32)), (.ref x2)] below meth c s₁ [] 0 0 := Stand.of_body Bd
  have e0 : s₁.heap = h0 := by rw [← hh, Bd.state]; rfl
  have N0 := Fr.nil n0
  have K0 : Keep h0 h0 [tz_value] := Keep.refl _ _
  have pre0 : ∀ t, Steps p.tables e below (s₁.setTop (mkF m 0 #[.val (.ref tz), .val (.int (2 : Int32)), .val (.ref x2)] [])) t → Steps p.tables e below (s₁.setTop (entryFrame m #[(.ref tz), (.int (2 : Int32)), (.ref x2)] 3)) t := fun t k => castTop (ef22_2 m tz x2) k
  obtain ⟨cq85, q85, q85'⟩ := E_tz.cell
  obtain ⟨_, _, ⟨T85, L85, k85, n85⟩, -, X85, ⟨Lc85, hQ85, l85, y85, z85⟩, st85⟩ := X0.privateBack hx (y := (⟨"java/lang/AbstractStringBuilder", "inflateIfNeededFor", "(Ljava/lang/String;)V"⟩ : MethodName)) hown (mvT hZ (own_wd hw 125 rfl)) (mvT hZ (own_wd hw 126 rfl)) (mvT hZ (own_selp (own_wd hw 128 rfl) (Cond.privateMethod_at (own_wd hw 127 rfl)) (own_wd hw 126 rfl) (by decide))) (Cond.privateMethod_at (mvP hZ (own_wd hw 127 rfl) (args := #[]))) (mvT hZ (own_wd hw 129 rfl)) (by decide) (backOf (W := 0) (rm23 l Z a0 hw [] tz x2 st_COMPACT_STRINGS h0 n0 Z0 O0 E_tz F_tz_coder E_x2 F_x2_coder S_COMPACT_STRINGS hcomp) hZ (own_wd hw 129 rfl) (own_wd hw 94 rfl) (by decide) (by decide)) (g := (mkF m 2 #[.val (.ref tz), .val (.int (2 : Int32)), .val (.ref x2)] [(.ref x2), (.ref tz)])) rfl (by rw [hml]; rfl) (Steps.refl _) (a := tz) (by rw [e0]; exact q85) q85' (argsL := [(.ref x2)]) (rest := []) (lenOf pd_3 rfl) rfl (by show 2 * 0 + _ ≤ _; exact Nat.le_of_eq rfl) (hb hby d22_2) (fun _ _ => ⟨rfl, e0, (by decide : 0 + 0 ≤ _), (by decide : 0 + 0 ≤ _)⟩)
  dsimp only [Pt.U, Pt.locs, Pt.cells, Pt.slots] at X85 l85 y85 z85 st85 hQ85
  subst l85 y85 z85
  obtain ⟨rfl, N85q, eh85⟩ := hQ85
  have N85 := Fr.app N0 N85q
  obtain ⟨T86, X86, e86, st86⟩ := getF X85 hx hZ hown (host := "") (Or.inl (own_wd hw 98 rfl)) Via.refl eh85 F_tz_value (g := (mkF m 7 #[.val (.ref tz), .val (.int (2 : Int32)), .val (.ref x2)] [(.ref tz), (.ref x2)])) rfl rfl (hb hby d22_7)
  obtain ⟨T87, X87, e87, st87⟩ := getF X86 hx hZ hown (host := "") (Or.inl (own_wd hw 100 rfl)) Via.refl e86 F_tz_coder (g := (mkF m 12 #[.val (.ref tz), .val (.int (2 : Int32)), .val (.ref x2)] [(.ref tz), (.int (2 : Int32)), (.ref tz_value), (.ref x2)])) rfl rfl (hb hby d22_12)
  obtain ⟨cq88, kq88, q88a, q88b, q88c⟩ := isOf hZ e87 E_x2
  obtain ⟨_, _, ⟨T88, L88, k88, n88⟩, -, X88, ⟨Lc88, hQ88, l88, y88, z88⟩, st88⟩ := X87.virtualBack hx (y := (⟨"java/lang/String", "getBytes", "([BIB)V"⟩ : MethodName)) (z := (⟨"java/lang/String", "getBytes", "([BIB)V"⟩ : MethodName)) hown (mvT hZ (own_wd hw 131 rfl)) (mvT hZ (own_wd hw 132 rfl)) (notFace_of_selects (args := #[]) (mvT hZ (own_wd hw 134 rfl))) (mvT hZ (own_wd hw 134 rfl)) (mvT hZ (own_wd hw 133 rfl)) (by decide) (backOf (W := 0) (rm24_2 l Z a0 hw [] x2 tz_value x2_value b0 b1 z0 kb ks st_COMPACT_STRINGS h0 n0 Z0 O0 E_x2 F_x2_value F_x2_coder V_x2_value V_tz_value S_COMPACT_STRINGS hcomp g_tz_value) hZ (own_wd hw 135 rfl) (own_wd hw 3 rfl) (by decide) (by decide)) q88a q88c (g := (mkF m 15 #[.val (.ref tz), .val (.int (2 : Int32)), .val (.ref x2)] [(.int (0 : Int32)), (.int (2 : Int32)), (.ref tz_value), (.ref x2)])) rfl (by rw [hml]; rfl) (Steps.refl _) (argsL := [(.ref tz_value), (.int (2 : Int32)), (.int (0 : Int32))]) (rest := []) (lenOf pd_4 rfl) rfl (by show 2 * 0 + _ ≤ _; exact Nat.le_of_eq rfl) (hb hby d22_15) (fun _ _ => ⟨rfl, e87, (by decide : 0 + 0 ≤ _), (by decide : 0 + 0 ≤ _)⟩)
  dsimp only [Pt.U, Pt.locs, Pt.cells, Pt.slots] at X88 l88 y88 z88 st88 hQ88
  subst l88 y88 z88
  obtain ⟨rfl, N88q, KK88, Q88_0⟩ := hQ88
  have N88 := Fr.app N85 N88q
  have O88 : Old Z n0 T88.heap := O0.keep KK88 (allS g_tz_value all0)
  have Z88 : n0 ≤ T88.heap.size := Nat.le_trans Z0 KK88.1
  have K88 : Keep h0 T88.heap [tz_value] := K0.trans KK88 (allS (Or.inl (List.mem_of_getElem? (i := 0) rfl)) all0)
  obtain ⟨fs, hr, hrun, hended, hW, hsame⟩ := X88.leave (v := none) (fun _ => rfl)
  refine ⟨_, _, pre0 _ ?_, hrun, hended, _, _, rfl, ?_, ⟨_, rfl⟩, hW, hsame.mono (by decide) (by decide)⟩
  · show Steps p.tables e below (s₁.setTop (mkF m 0 #[.val (.ref tz), .val (.int (2 : Int32)), .val (.ref x2)] [])) _
    refine XS.aloadN X0.here hx rfl (hb hby d22_0) rfl rfl ?_
    refine XS.aloadN X0.here hx rfl (hb hby d22_1) rfl rfl ?_
    show Steps p.tables e below (s₁.setTop (mkF m 2 #[.val (.ref tz), .val (.int (2 : Int32)), .val (.ref x2)] [(.ref x2), (.ref tz)])) _
    refine st85.trans ?_
    show Steps p.tables e below (T85.setTop (mkF m 5 #[.val (.ref tz), .val (.int (2 : Int32)), .val (.ref x2)] [])) _
    refine XS.aloadN X85.here hx rfl (hb hby d22_5) rfl rfl ?_
    refine XS.aloadN X85.here hx rfl (hb hby d22_6) rfl rfl ?_
    show Steps p.tables e below (T85.setTop (mkF m 7 #[.val (.ref tz), .val (.int (2 : Int32)), .val (.ref x2)] [(.ref tz), (.ref x2)])) _
    refine st86 _ ?_
    show Steps p.tables e below (T86.setTop (mkF m 10 #[.val (.ref tz), .val (.int (2 : Int32)), .val (.ref x2)] [(.ref tz_value), (.ref x2)])) _
    refine XS.iloadN X86.here hx rfl (hb hby d22_10) rfl ?_
    refine XS.aloadN X86.here hx rfl (hb hby d22_11) rfl rfl ?_
    show Steps p.tables e below (T86.setTop (mkF m 12 #[.val (.ref tz), .val (.int (2 : Int32)), .val (.ref x2)] [(.ref tz), (.int (2 : Int32)), (.ref tz_value), (.ref x2)])) _
    refine st87 _ ?_
    show Steps p.tables e below (T87.setTop (mkF m 15 #[.val (.ref tz), .val (.int (2 : Int32)), .val (.ref x2)] [(.int (0 : Int32)), (.int (2 : Int32)), (.ref tz_value), (.ref x2)])) _
    refine st88.trans ?_
    show Steps p.tables e below (T88.setTop (mkF m 18 #[.val (.ref tz), .val (.int (2 : Int32)), .val (.ref x2)] [])) _
    exact X88.returnOut hx Bd.returns (hb hby d22_18) hr
  · show Q22_2 Z tz x2 tz_value x2_value b0 b1 z0 kb ks st_COMPACT_STRINGS h0 n0 _ T88.heap _
    exact ⟨rfl, N88, K88, Q88_0⟩
theorem ef20_2 (m : MethodId) (tz : Addr) (x1 : Addr) : entryFrame m #[(.ref tz), (.ref x1)] 3 = mkF m 0 #[.val (.ref tz), .val (.ref x1), .unset] [] := by first | (simp [entryFrame, mkF, argsToLocals, Value.category]; done) | rfl
def Q20_2 (Z : State) (tz : Addr) (x1 : Addr) (tz_value : Addr) (x1_value : Addr) (b0 : Int32) (b1 : Int32) (y0 : Int32) (kb : ClassId) (ks : ClassId) (st_COMPACT_STRINGS : Int32) (h0 : Heap) (n0 : Nat) (v : Option Value) (h : Heap) (L : List Loc) : Prop := v = some (.ref tz) ∧ Fr n0 L ∧ Keep h0 h [tz_value, tz] ∧ Exa Z h tz "java/lang/StringBuilder" ∧ Fld Z h tz "java/lang/AbstractStringBuilder" "value" "[B" (.ref tz_value) ∧ Fld Z h tz "java/lang/AbstractStringBuilder" "coder" "B" (.int (0 : Int32)) ∧ Fld Z h tz "java/lang/AbstractStringBuilder" "count" "I" (.int (3 : Int32)) ∧ Arv Z h tz_value kb .byte (16 : Int32) [(.int b0), (.int b1), (.int (y0.toInt8.toInt32)), (.int (0 : Int32)), (.int (0 : Int32)), (.int (0 : Int32)), (.int (0 : Int32)), (.int (0 : Int32)), (.int (0 : Int32)), (.int (0 : Int32)), (.int (0 : Int32)), (.int (0 : Int32)), (.int (0 : Int32)), (.int (0 : Int32)), (.int (0 : Int32)), (.int (0 : Int32))] (.int (0 : Int32))
set_option maxRecDepth 65536 in
set_option maxHeartbeats 40000000 in
theorem rm20_2 (l : Launch) (Z : State) (a0 : Array Value) (hw : ∀ d ∈ tables_1, d.before a0 Z = true) (ws : List Jvm.Cond) (tz : Addr) (x1 : Addr) (tz_value : Addr) (x1_value : Addr) (b0 : Int32) (b1 : Int32) (y0 : Int32) (kb : ClassId) (ks : ClassId) (st_COMPACT_STRINGS : Int32) (h0 : Heap) (n0 : Nat) (Z0 : n0 ≤ h0.size) (O0 : Old Z n0 h0) (E_tz : Exa Z h0 tz "java/lang/StringBuilder") (F_tz_value : Fld Z h0 tz "java/lang/AbstractStringBuilder" "value" "[B" (.ref tz_value)) (F_tz_coder : Fld Z h0 tz "java/lang/AbstractStringBuilder" "coder" "B" (.int (0 : Int32))) (V_tz_value : Arv Z h0 tz_value kb .byte (16 : Int32) [(.int b0), (.int b1), (.int (0 : Int32)), (.int (0 : Int32)), (.int (0 : Int32)), (.int (0 : Int32)), (.int (0 : Int32)), (.int (0 : Int32)), (.int (0 : Int32)), (.int (0 : Int32)), (.int (0 : Int32)), (.int (0 : Int32)), (.int (0 : Int32)), (.int (0 : Int32)), (.int (0 : Int32)), (.int (0 : Int32))] (.int (0 : Int32))) (F_tz_count : Fld Z h0 tz "java/lang/AbstractStringBuilder" "count" "I" (.int (2 : Int32))) (E_x1 : Exa Z h0 x1 "java/lang/String") (F_x1_value : Fld Z h0 x1 "java/lang/String" "value" "[B" (.ref x1_value)) (F_x1_coder : Fld Z h0 x1 "java/lang/String" "coder" "B" (.int (0 : Int32))) (V_x1_value : Arv Z h0 x1_value ks .byte (1 : Int32) [(.int (y0.toInt8.toInt32))] (.int 0)) (N_xv : x1_value ≠ tz_value) (hp : ∀ c ∈ ([y0] : List Int32), ¬ c < 0 ∧ ¬ (255 : Int32) < c) (S_COMPACT_STRINGS : Sta Z Z.heap "java/lang/String" "COMPACT_STRINGS" "Z" (.int st_COMPACT_STRINGS)) (hcomp : ¬ (st_COMPACT_STRINGS = (0 : Int32))) (g_tz_value : n0 ≤ tz_value) (g_tz : n0 ≤ tz) :
    MetFree l (⟨"java/lang/AbstractStringBuilder", "append", "(Ljava/lang/String;)Ljava/lang/AbstractStringBuilder;"⟩ : MethodName) (head1 (Jvm.Cond.code (⟨"java/lang/AbstractStringBuilder", "append", "(Ljava/lang/String;)Ljava/lang/AbstractStringBuilder;"⟩ : MethodName) jdk_68_method_22_code 3 (some (.object "java/lang/AbstractStringBuilder")) :: ws) ({ frames := 3, cells := 0, slots := 0, locals := 47 } : Room)) (fun a U => a = #[(.ref tz), (.ref x1)] ∧ Z.Warmed39 U.vm ∧ U.heap = h0) (fun _ _ _ _ _ => True) (fun _ U o U' => ∃ v L, o = .returned v ∧ Q20_2 Z tz x1 tz_value x1_value b0 b1 y0 kb ks st_COMPACT_STRINGS h0 n0 v U'.heap L ∧ FrameEnd U o U' L ({ frames := 3, cells := 0, slots := 0, locals := 47 } : Room).cells ({ frames := 3, cells := 0, slots := 0, locals := 47 } : Room).slots) := by
  refine MetFree.of_bodySF (plainFor_of_name pn_java_lang_AbstractStringBuilder) hisR ?_
  intro p e s m args below meth c s₁ Bd hml0 hP hK
  obtain ⟨rfl, hZ, hh⟩ := hP
  have hx := Bd.exec
  have hby := Bd.bytes
  have hml : c.maxLocals = 3 := hml0
  have hown : s.vm.findClass "java/lang/AbstractStringBuilder" = some m.cls := findClass_of_methodNamed Bd.named
  have hnm := (name_of_methodNamed Bd.named Bd.method).1
  have X0 : Stand p l e ({ frames := 3, cells := 0, slots := 0, locals := 47 } : Room) s m #[(.ref tz), (.ref x1)] below meth c s₁ [] 0 0 := Stand.of_body Bd
  have e0 : s₁.heap = h0 := by rw [← hh, Bd.state]; rfl
  have N0 := Fr.nil n0
  have K0 : Keep h0 h0 [tz_value, tz] := Keep.refl _ _
  have pre0 : ∀ t, Steps p.tables e below (s₁.setTop (mkF m 0 #[.val (.ref tz), .val (.ref x1), .unset] [])) t → Steps p.tables e below (s₁.setTop (entryFrame m #[(.ref tz), (.ref x1)] 3)) t := fun t k => castTop (ef20_2 m tz x1) k
  have cd89 : StrChars.Road.CodA ([y0] : List Int32) 0 (1 : Int32) [(.int (y0.toInt8.toInt32))] := StrChars.Road.codOf (n := 1) rfl (fun c hc => (hp c hc).2)
  have hb90 : ∀ c ∈ ([y0] : List Int32), ¬ c < 0 ∧ ¬ (65535 : Int32) < c := own_up _ hp
  obtain ⟨cq91, kq91, q91a, q91b, q91c⟩ := isOf hZ e0 E_x1
  obtain ⟨_, _, ⟨T91, L91, k91, n91⟩, -, X91, ⟨Lc91, hQ91, l91, y91, z91⟩, st91⟩ := X0.virtualBack hx (y := (⟨"java/lang/String", "length", "()I"⟩ : MethodName)) (z := (⟨"java/lang/String", "length", "()I"⟩ : MethodName)) hown (mvT hZ (own_wd hw 112 rfl)) (mvT hZ (own_wd hw 51 rfl)) (notFace_of_selects (args := #[]) (mvT hZ (own_wd hw 53 rfl))) (mvT hZ (own_wd hw 53 rfl)) (mvT hZ (own_wd hw 52 rfl)) (by decide) (StrChars.Road.lenW (W := 0) hZ (own_hln hw) (kI := 4) (own_wd hw 2 rfl) E_x1 F_x1_value F_x1_coder V_x1_value cd89 hb90 (S_COMPACT_STRINGS.ext O0.2) hcomp (Nat.le_of_ble_eq_true rfl) (by decide) (by decide)) q91a q91c (g := (mkF m 10 #[.val (.ref tz), .val (.ref x1), .unset] [(.ref x1)])) rfl (by rw [hml]; rfl) (Steps.refl _) (argsL := []) (rest := []) (lenOf pd_0 rfl) rfl (by show 2 * 0 + _ ≤ _; exact Nat.le_of_eq rfl) (hb hby d20_10) (fun _ _ => ⟨rfl, e0, (by decide : 0 + 0 ≤ _), (by decide : 0 + 0 ≤ _)⟩)
  dsimp only [Pt.U, Pt.locs, Pt.cells, Pt.slots] at X91 l91 y91 z91 st91 hQ91
  subst l91 y91 z91
  obtain ⟨hv91, rfl, eh91⟩ := hQ91
  obtain rfl : _ = some (Value.int (1 : Int32)) := hv91
  have N91 := Fr.app N0 (Fr.nil n0)
  obtain ⟨T92, X92, e92, st92⟩ := getF X91 hx hZ hown (host := "") (Or.inl (own_wd hw 113 rfl)) Via.refl eh91 F_tz_count (g := (mkF m 16 #[.val (.ref tz), .val (.ref x1), .val (.int (1 : Int32))] [(.ref tz), (.ref tz)])) rfl rfl (hb hby d20_16)
  have pp93 : ¬ ((0 : Int32) < (((2 : Int32) + (1 : Int32)) - ((16 : Int32) >>> ((0 : Int32) &&& 31)))) := by decide
  obtain ⟨cq94, q94, q94'⟩ := E_tz.cell
  obtain ⟨_, _, ⟨T94, L94, k94, n94⟩, -, X94, ⟨Lc94, hQ94, l94, y94, z94⟩, st94⟩ := X92.privateBack hx (y := (⟨"java/lang/AbstractStringBuilder", "ensureCapacityInternal", "(I)V"⟩ : MethodName)) hown (mvT hZ (own_wd hw 115 rfl)) (mvT hZ (own_wd hw 116 rfl)) (mvT hZ (own_selp (own_wd hw 118 rfl) (Cond.privateMethod_at (own_wd hw 117 rfl)) (own_wd hw 116 rfl) (by decide))) (Cond.privateMethod_at (mvP hZ (own_wd hw 117 rfl) (args := #[]))) (mvT hZ (own_wd hw 119 rfl)) (by decide) (backOf (W := 0) (rm21 l Z a0 hw [] tz ((2 : Int32) + (1 : Int32)) tz_value kb [(.int b0), (.int b1), (.int (0 : Int32)), (.int (0 : Int32)), (.int (0 : Int32)), (.int (0 : Int32)), (.int (0 : Int32)), (.int (0 : Int32)), (.int (0 : Int32)), (.int (0 : Int32)), (.int (0 : Int32)), (.int (0 : Int32)), (.int (0 : Int32)), (.int (0 : Int32)), (.int (0 : Int32)), (.int (0 : Int32))] h0 n0 Z0 O0 E_tz F_tz_value F_tz_coder V_tz_value pp93) hZ (own_wd hw 119 rfl) (own_wd hw 94 rfl) (by decide) (by decide)) (g := (mkF m 21 #[.val (.ref tz), .val (.ref x1), .val (.int (1 : Int32))] [(.int ((2 : Int32) + (1 : Int32))), (.ref tz)])) rfl (by rw [hml]; rfl) (Steps.refl _) (a := tz) (by rw [e92]; exact q94) q94' (argsL := [(.int ((2 : Int32) + (1 : Int32)))]) (rest := []) (lenOf pd_1 rfl) rfl (by show 2 * 0 + _ ≤ _; exact Nat.le_of_eq rfl) (hb hby d20_21) (fun _ _ => ⟨rfl, e92, (by decide : 0 + 0 ≤ _), (by decide : 0 + 0 ≤ _)⟩)
  dsimp only [Pt.U, Pt.locs, Pt.cells, Pt.slots] at X94 l94 y94 z94 st94 hQ94
  subst l94 y94 z94
  obtain ⟨rfl, N94q, eh94⟩ := hQ94
  have N94 := Fr.app N91 N94q
  obtain ⟨T95, X95, e95, st95⟩ := getF X94 hx hZ hown (host := "") (Or.inl (own_wd hw 113 rfl)) Via.refl eh94 F_tz_count (g := (mkF m 26 #[.val (.ref tz), .val (.ref x1), .val (.int (1 : Int32))] [(.ref tz), (.ref tz)])) rfl rfl (hb hby d20_26)
  obtain ⟨cq96, q96, q96'⟩ := E_tz.cell
  obtain ⟨_, _, ⟨T96, L96, k96, n96⟩, -, X96, ⟨Lc96, hQ96, l96, y96, z96⟩, st96⟩ := X95.privateBack hx (y := (⟨"java/lang/AbstractStringBuilder", "putStringAt", "(ILjava/lang/String;)V"⟩ : MethodName)) hown (mvT hZ (own_wd hw 120 rfl)) (mvT hZ (own_wd hw 121 rfl)) (mvT hZ (own_selp (own_wd hw 123 rfl) (Cond.privateMethod_at (own_wd hw 122 rfl)) (own_wd hw 121 rfl) (by decide))) (Cond.privateMethod_at (mvP hZ (own_wd hw 122 rfl) (args := #[]))) (mvT hZ (own_wd hw 124 rfl)) (by decide) (backOf (W := 0) (rm22_2 l Z a0 hw [] tz x1 tz_value x1_value b0 b1 (y0.toInt8.toInt32) kb ks st_COMPACT_STRINGS h0 n0 Z0 O0 E_tz F_tz_value F_tz_coder V_tz_value E_x1 F_x1_value F_x1_coder V_x1_value N_xv S_COMPACT_STRINGS hcomp g_tz_value) hZ (own_wd hw 124 rfl) (own_wd hw 94 rfl) (by decide) (by decide)) (g := (mkF m 30 #[.val (.ref tz), .val (.ref x1), .val (.int (1 : Int32))] [(.ref x1), (.int (2 : Int32)), (.ref tz)])) rfl (by rw [hml]; rfl) (Steps.refl _) (a := tz) (by rw [e95]; exact q96) q96' (argsL := [(.int (2 : Int32)), (.ref x1)]) (rest := []) (lenOf pd_5 rfl) rfl (by show 2 * 0 + _ ≤ _; exact Nat.le_of_eq rfl) (hb hby d20_30) (fun _ _ => ⟨rfl, e95, (by decide : 0 + 0 ≤ _), (by decide : 0 + 0 ≤ _)⟩)
  dsimp only [Pt.U, Pt.locs, Pt.cells, Pt.slots] at X96 l96 y96 z96 st96 hQ96
  subst l96 y96 z96
  obtain ⟨rfl, N96q, KK96, Q96_0⟩ := hQ96
  have N96 := Fr.app N94 N96q
  have O96 : Old Z n0 T96.heap := O0.keep KK96 (allS g_tz_value all0)
  have Z96 : n0 ≤ T96.heap.size := Nat.le_trans Z0 KK96.1
  have K96 : Keep h0 T96.heap [tz_value, tz] := K0.trans KK96 (allS (Or.inl (List.mem_of_getElem? (i := 0) rfl)) all0)
  have F97 : Fld Z T96.heap tz "java/lang/AbstractStringBuilder" "count" "I" (.int (2 : Int32)) := (F_tz_count.keep KK96 (ninS (Exa.neArv (E_tz.keep KK96) Q96_0 (own_wd hw 85 rfl)) nin0))
  obtain ⟨T98, X98, e98, st98⟩ := getF X96 hx hZ hown (host := "") (Or.inl (own_wd hw 113 rfl)) Via.refl rfl F97 (g := (mkF m 35 #[.val (.ref tz), .val (.ref x1), .val (.int (1 : Int32))] [(.ref tz), (.ref tz)])) rfl rfl (hb hby d20_35)
  have C99 : Exa Z T96.heap tz "java/lang/StringBuilder" := (E_tz.keep KK96)
  obtain ⟨T100, h100, X100, e100, W100, st100⟩ := putF X98 hx hZ hown (host := "") (Or.inl (own_wd hw 113 rfl)) Via.refl e98 F97 C99 (Or.inl (own_wd hw 114 rfl)) (own_wd hw 85 rfl) (ty := .int) (by decide) rfl rfl (g := (mkF m 40 #[.val (.ref tz), .val (.ref x1), .val (.int (1 : Int32))] [(.int ((2 : Int32) + (1 : Int32))), (.ref tz)])) rfl rfl (hb hby d20_40)
  have O100 : Old Z n0 h100 := O96.wr W100 g_tz
  have Z100 : n0 ≤ h100.size := Nat.le_trans Z96 (Keep.of_wr W100).1
  have K100 : Keep h0 h100 [tz_value, tz] := K96.wr W100 (Or.inl (List.mem_of_getElem? (i := 1) rfl))
  have N100 := Fr.snoc X100 N96 g_tz
  have Fw100 : Fld Z h100 tz "java/lang/AbstractStringBuilder" "count" "I" (.int ((2 : Int32) + (1 : Int32))) := F97.same W100
  have C101 : Exa Z h100 tz "java/lang/StringBuilder" := (C99.wr W100)
  have F102 : Fld Z h100 tz "java/lang/AbstractStringBuilder" "value" "[B" (.ref tz_value) := ((F_tz_value.keep KK96 (ninS (Exa.neArv C99 Q96_0 (own_wd hw 85 rfl)) nin0)).other W100 (Or.inr (slot_ne (Or.inl (own_wd hw 99 rfl)) (Or.inl (own_wd hw 114 rfl)) (by decide) (t := (.array .byte)) (t' := .int) (by decide) (by decide))))
  have F103 : Fld Z h100 tz "java/lang/AbstractStringBuilder" "coder" "B" (.int (0 : Int32)) := ((F_tz_coder.keep KK96 (ninS (Exa.neArv C99 Q96_0 (own_wd hw 85 rfl)) nin0)).other W100 (Or.inr (slot_ne (Or.inl (own_wd hw 101 rfl)) (Or.inl (own_wd hw 114 rfl)) (by decide) (t := .byte) (t' := .int) (by decide) (by decide))))
  have V104 : Arv Z h100 tz_value kb .byte (16 : Int32) [(.int b0), (.int b1), (.int (y0.toInt8.toInt32)), (.int (0 : Int32)), (.int (0 : Int32)), (.int (0 : Int32)), (.int (0 : Int32)), (.int (0 : Int32)), (.int (0 : Int32)), (.int (0 : Int32)), (.int (0 : Int32)), (.int (0 : Int32)), (.int (0 : Int32)), (.int (0 : Int32)), (.int (0 : Int32)), (.int (0 : Int32))] (.int (0 : Int32)) := (Q96_0.other W100 (Ne.symm (Exa.neArv C99 Q96_0 (own_wd hw 85 rfl))))
  obtain ⟨fs, hr, hrun, hended, hW, hsame⟩ := X100.leave (v := some (.ref tz)) (fun h => by rw [Bd.returns] at h; cases h)
  refine ⟨_, _, pre0 _ ?_, hrun, hended, _, _, rfl, ?_, ⟨_, rfl⟩, hW, hsame.mono (by decide) (by decide)⟩
  · show Steps p.tables e below (s₁.setTop (mkF m 0 #[.val (.ref tz), .val (.ref x1), .unset] [])) _
    refine XS.aloadN X0.here hx rfl (hb hby d20_0) rfl rfl ?_
    show Steps p.tables e below (s₁.setTop (mkF m 1 #[.val (.ref tz), .val (.ref x1), .unset] [(.ref x1)])) _
    refine XS.ifnonnullYes X0.here hx rfl (pc0 := 1) (pc' := 9) rfl (hb hby d20_1) rfl (by decide) (by decide) ?_
    refine XS.aloadN X0.here hx rfl (hb hby d20_9) rfl rfl ?_
    show Steps p.tables e below (s₁.setTop (mkF m 10 #[.val (.ref tz), .val (.ref x1), .unset] [(.ref x1)])) _
    refine st91.trans ?_
    show Steps p.tables e below (T91.setTop (mkF m 13 #[.val (.ref tz), .val (.ref x1), .unset] [(.int (1 : Int32))])) _
    refine XS.istoreN X91.here hx rfl (hb hby d20_13) rfl (l' := #[.val (.ref tz), .val (.ref x1), .val (.int (1 : Int32))]) rfl ?_
    refine XS.aloadN X91.here hx rfl (hb hby d20_14) rfl rfl ?_
    refine XS.aloadN X91.here hx rfl (hb hby d20_15) rfl rfl ?_
    show Steps p.tables e below (T91.setTop (mkF m 16 #[.val (.ref tz), .val (.ref x1), .val (.int (1 : Int32))] [(.ref tz), (.ref tz)])) _
    refine st92 _ ?_
    show Steps p.tables e below (T92.setTop (mkF m 19 #[.val (.ref tz), .val (.ref x1), .val (.int (1 : Int32))] [(.int (2 : Int32)), (.ref tz)])) _
    refine XS.iloadN X92.here hx rfl (hb hby d20_19) rfl ?_
    refine XS.iadd X92.here hx rfl (hb hby d20_20) rfl ?_
    show Steps p.tables e below (T92.setTop (mkF m 21 #[.val (.ref tz), .val (.ref x1), .val (.int (1 : Int32))] [(.int ((2 : Int32) + (1 : Int32))), (.ref tz)])) _
    refine st94.trans ?_
    show Steps p.tables e below (T94.setTop (mkF m 24 #[.val (.ref tz), .val (.ref x1), .val (.int (1 : Int32))] [])) _
    refine XS.aloadN X94.here hx rfl (hb hby d20_24) rfl rfl ?_
    refine XS.aloadN X94.here hx rfl (hb hby d20_25) rfl rfl ?_
    show Steps p.tables e below (T94.setTop (mkF m 26 #[.val (.ref tz), .val (.ref x1), .val (.int (1 : Int32))] [(.ref tz), (.ref tz)])) _
    refine st95 _ ?_
    show Steps p.tables e below (T95.setTop (mkF m 29 #[.val (.ref tz), .val (.ref x1), .val (.int (1 : Int32))] [(.int (2 : Int32)), (.ref tz)])) _
    refine XS.aloadN X95.here hx rfl (hb hby d20_29) rfl rfl ?_
    show Steps p.tables e below (T95.setTop (mkF m 30 #[.val (.ref tz), .val (.ref x1), .val (.int (1 : Int32))] [(.ref x1), (.int (2 : Int32)), (.ref tz)])) _
    refine st96.trans ?_
    show Steps p.tables e below (T96.setTop (mkF m 33 #[.val (.ref tz), .val (.ref x1), .val (.int (1 : Int32))] [])) _
    refine XS.aloadN X96.here hx rfl (hb hby d20_33) rfl rfl ?_
    refine XS.dup X96.here hx rfl (hb hby d20_34) rfl rfl ?_
    show Steps p.tables e below (T96.setTop (mkF m 35 #[.val (.ref tz), .val (.ref x1), .val (.int (1 : Int32))] [(.ref tz), (.ref tz)])) _
    refine st98 _ ?_
    show Steps p.tables e below (T98.setTop (mkF m 38 #[.val (.ref tz), .val (.ref x1), .val (.int (1 : Int32))] [(.int (2 : Int32)), (.ref tz)])) _
    refine XS.iloadN X98.here hx rfl (hb hby d20_38) rfl ?_
    refine XS.iadd X98.here hx rfl (hb hby d20_39) rfl ?_
    show Steps p.tables e below (T98.setTop (mkF m 40 #[.val (.ref tz), .val (.ref x1), .val (.int (1 : Int32))] [(.int ((2 : Int32) + (1 : Int32))), (.ref tz)])) _
    refine st100 _ ?_
    show Steps p.tables e below (T100.setTop (mkF m 43 #[.val (.ref tz), .val (.ref x1), .val (.int (1 : Int32))] [])) _
    refine XS.aloadN X100.here hx rfl (hb hby d20_43) rfl rfl ?_
    show Steps p.tables e below (T100.setTop (mkF m 44 #[.val (.ref tz), .val (.ref x1), .val (.int (1 : Int32))] [(.ref tz)])) _
    jvm_step X100.here [X100.here.top, hx, (hb hby d20_44), X100.method', Bd.returns, Value.isRef, FieldType.isReference]
    first | (intro acts; rw [hr _ acts rfl rfl rfl]) | rw [hr _ _ rfl rfl rfl]
    exact Steps.refl _
  · show Q20_2 Z tz x1 tz_value x1_value b0 b1 y0 kb ks st_COMPACT_STRINGS h0 n0 _ T100.heap _
    rw [e100]
    exact ⟨rfl, N100, K100, C101, F102, F103, Fw100, V104⟩
theorem ef19_2 (m : MethodId) (tz : Addr) (x1 : Addr) : entryFrame m #[(.ref tz), (.ref x1)] 2 = mkF m 0 #[.val (.ref tz), .val (.ref x1)] [] := by first | (simp [entryFrame, mkF, argsToLocals, Value.category]; done) | rfl
def Q19_2 (Z : State) (tz : Addr) (x1 : Addr) (tz_value : Addr) (x1_value : Addr) (b0 : Int32) (b1 : Int32) (y0 : Int32) (kb : ClassId) (ks : ClassId) (st_COMPACT_STRINGS : Int32) (h0 : Heap) (n0 : Nat) (v : Option Value) (h : Heap) (L : List Loc) : Prop := v = some (.ref tz) ∧ Fr n0 L ∧ Keep h0 h [tz, tz_value] ∧ Exa Z h tz "java/lang/StringBuilder" ∧ Fld Z h tz "java/lang/AbstractStringBuilder" "value" "[B" (.ref tz_value) ∧ Fld Z h tz "java/lang/AbstractStringBuilder" "coder" "B" (.int (0 : Int32)) ∧ Fld Z h tz "java/lang/AbstractStringBuilder" "count" "I" (.int (3 : Int32)) ∧ Arv Z h tz_value kb .byte (16 : Int32) [(.int b0), (.int b1), (.int (y0.toInt8.toInt32)), (.int (0 : Int32)), (.int (0 : Int32)), (.int (0 : Int32)), (.int (0 : Int32)), (.int (0 : Int32)), (.int (0 : Int32)), (.int (0 : Int32)), (.int (0 : Int32)), (.int (0 : Int32)), (.int (0 : Int32)), (.int (0 : Int32)), (.int (0 : Int32)), (.int (0 : Int32))] (.int (0 : Int32))
set_option maxRecDepth 65536 in
set_option maxHeartbeats 40000000 in
theorem rm19_2 (l : Launch) (Z : State) (a0 : Array Value) (hw : ∀ d ∈ tables_1, d.before a0 Z = true) (ws : List Jvm.Cond) (tz : Addr) (x1 : Addr) (tz_value : Addr) (x1_value : Addr) (b0 : Int32) (b1 : Int32) (y0 : Int32) (kb : ClassId) (ks : ClassId) (st_COMPACT_STRINGS : Int32) (h0 : Heap) (n0 : Nat) (Z0 : n0 ≤ h0.size) (O0 : Old Z n0 h0) (E_tz : Exa Z h0 tz "java/lang/StringBuilder") (F_tz_value : Fld Z h0 tz "java/lang/AbstractStringBuilder" "value" "[B" (.ref tz_value)) (F_tz_coder : Fld Z h0 tz "java/lang/AbstractStringBuilder" "coder" "B" (.int (0 : Int32))) (V_tz_value : Arv Z h0 tz_value kb .byte (16 : Int32) [(.int b0), (.int b1), (.int (0 : Int32)), (.int (0 : Int32)), (.int (0 : Int32)), (.int (0 : Int32)), (.int (0 : Int32)), (.int (0 : Int32)), (.int (0 : Int32)), (.int (0 : Int32)), (.int (0 : Int32)), (.int (0 : Int32)), (.int (0 : Int32)), (.int (0 : Int32)), (.int (0 : Int32)), (.int (0 : Int32))] (.int (0 : Int32))) (F_tz_count : Fld Z h0 tz "java/lang/AbstractStringBuilder" "count" "I" (.int (2 : Int32))) (E_x1 : Exa Z h0 x1 "java/lang/String") (F_x1_value : Fld Z h0 x1 "java/lang/String" "value" "[B" (.ref x1_value)) (F_x1_coder : Fld Z h0 x1 "java/lang/String" "coder" "B" (.int (0 : Int32))) (V_x1_value : Arv Z h0 x1_value ks .byte (1 : Int32) [(.int (y0.toInt8.toInt32))] (.int 0)) (N_xv : x1_value ≠ tz_value) (hp : ∀ c ∈ ([y0] : List Int32), ¬ c < 0 ∧ ¬ (255 : Int32) < c) (S_COMPACT_STRINGS : Sta Z Z.heap "java/lang/String" "COMPACT_STRINGS" "Z" (.int st_COMPACT_STRINGS)) (hcomp : ¬ (st_COMPACT_STRINGS = (0 : Int32))) (g_tz_value : n0 ≤ tz_value) (g_tz : n0 ≤ tz) :
    MetFree l (⟨"java/lang/StringBuilder", "append", "(Ljava/lang/String;)Ljava/lang/StringBuilder;"⟩ : MethodName) (head1 (Jvm.Cond.code (⟨"java/lang/StringBuilder", "append", "(Ljava/lang/String;)Ljava/lang/StringBuilder;"⟩ : MethodName) jdk_67_method_7_code 2 (some (.object "java/lang/StringBuilder")) :: ws) ({ frames := 4, cells := 0, slots := 0, locals := 61 } : Room)) (fun a U => a = #[(.ref tz), (.ref x1)] ∧ Z.Warmed39 U.vm ∧ U.heap = h0) (fun _ _ _ _ _ => True) (fun _ U o U' => ∃ v L, o = .returned v ∧ Q19_2 Z tz x1 tz_value x1_value b0 b1 y0 kb ks st_COMPACT_STRINGS h0 n0 v U'.heap L ∧ FrameEnd U o U' L ({ frames := 4, cells := 0, slots := 0, locals := 61 } : Room).cells ({ frames := 4, cells := 0, slots := 0, locals := 61 } : Room).slots) := by
  refine MetFree.of_bodySF (plainFor_of_name pn_java_lang_StringBuilder) hisR ?_
  intro p e s m args below meth c s₁ Bd hml0 hP hK
  obtain ⟨rfl, hZ, hh⟩ := hP
  have hx := Bd.exec
  have hby := Bd.bytes
  have hml : c.maxLocals = 2 := hml0
  have hown : s.vm.findClass "java/lang/StringBuilder" = some m.cls := findClass_of_methodNamed Bd.named
  have hnm := (name_of_methodNamed Bd.named Bd.method).1
  have X0 : Stand p l e ({ frames := 4, cells := 0, slots := 0, locals := 61 } : Room) s m #[(.ref tz), (.ref x1)] below meth c s₁ [] 0 0 := Stand.of_body Bd
  have e0 : s₁.heap = h0 := by rw [← hh, Bd.state]; rfl
  have N0 := Fr.nil n0
  have K0 : Keep h0 h0 [tz, tz_value] := Keep.refl _ _
  have pre0 : ∀ t, Steps p.tables e below (s₁.setTop (mkF m 0 #[.val (.ref tz), .val (.ref x1)] [])) t → Steps p.tables e below (s₁.setTop (entryFrame m #[(.ref tz), (.ref x1)] 2)) t := fun t k => castTop (ef19_2 m tz x1) k
  obtain ⟨_, _, ⟨T105, L105, k105, n105⟩, -, X105, ⟨Lc105, hQ105, l105, y105, z105⟩, st105⟩ := superBack X0 hx hZ (y := (⟨"java/lang/AbstractStringBuilder", "append", "(Ljava/lang/String;)Ljava/lang/AbstractStringBuilder;"⟩ : MethodName)) hown (own_wd hw 107 rfl) (own_same (y := (⟨"java/lang/AbstractStringBuilder", "append", "(Ljava/lang/String;)Ljava/lang/AbstractStringBuilder;"⟩ : MethodName)) (own_nf (notFace_of_selects (own_wd hw 158 rfl)) (own_wd hw 156 rfl) rfl) (own_wd hw 110 rfl) (by decide)) (own_wd hw 108 rfl) (own_wd hw 109 rfl) (by decide) (backOf (W := 0) (rm20_2 l Z a0 hw [] tz x1 tz_value x1_value b0 b1 y0 kb ks st_COMPACT_STRINGS h0 n0 Z0 O0 E_tz F_tz_value F_tz_coder V_tz_value F_tz_count E_x1 F_x1_value F_x1_coder V_x1_value N_xv hp S_COMPACT_STRINGS hcomp g_tz_value g_tz) hZ (own_wd hw 111 rfl) (own_wd hw 94 rfl) (by decide) (by decide)) e0 (Ins.self E_tz) (g := (mkF m 2 #[.val (.ref tz), .val (.ref x1)] [(.ref x1), (.ref tz)])) rfl (by rw [hml]; rfl) (own_wd hw 111 rfl) (argsL := [(.ref x1)]) (rest := []) (lenOf pd_6 rfl) rfl (by show 2 * 0 + _ ≤ _; exact Nat.le_of_eq rfl) (hb hby d19_2) (fun _ _ => ⟨rfl, e0, (by decide : 0 + 0 ≤ _), (by decide : 0 + 0 ≤ _)⟩)
  dsimp only [Pt.U, Pt.locs, Pt.cells, Pt.slots] at X105 l105 y105 z105 st105 hQ105
  subst l105 y105 z105
  obtain ⟨rfl, N105q, KK105, Q105_0, Q105_1, Q105_2, Q105_3, Q105_4⟩ := hQ105
  have N105 := Fr.app N0 N105q
  have O105 : Old Z n0 T105.heap := O0.keep KK105 (allS g_tz_value (allS g_tz all0))
  have Z105 : n0 ≤ T105.heap.size := Nat.le_trans Z0 KK105.1
  have K105 : Keep h0 T105.heap [tz, tz_value] := K0.trans KK105 (allS (Or.inl (List.mem_of_getElem? (i := 1) rfl)) (allS (Or.inl (List.mem_of_getElem? (i := 0) rfl)) all0))
  obtain ⟨fs, hr, hrun, hended, hW, hsame⟩ := X105.leave (v := some (.ref tz)) (fun h => by rw [Bd.returns] at h; cases h)
  refine ⟨_, _, pre0 _ ?_, hrun, hended, _, _, rfl, ?_, ⟨_, rfl⟩, hW, hsame.mono (by decide) (by decide)⟩
  · show Steps p.tables e below (s₁.setTop (mkF m 0 #[.val (.ref tz), .val (.ref x1)] [])) _
    refine XS.aloadN X0.here hx rfl (hb hby d19_0) rfl rfl ?_
    refine XS.aloadN X0.here hx rfl (hb hby d19_1) rfl rfl ?_
    show Steps p.tables e below (s₁.setTop (mkF m 2 #[.val (.ref tz), .val (.ref x1)] [(.ref x1), (.ref tz)])) _
    refine st105.trans ?_
    show Steps p.tables e below (T105.setTop (mkF m 5 #[.val (.ref tz), .val (.ref x1)] [(.ref tz)])) _
    refine XS.pop X105.here hx rfl (hb hby d19_5) rfl rfl ?_
    refine XS.aloadN X105.here hx rfl (hb hby d19_6) rfl rfl ?_
    show Steps p.tables e below (T105.setTop (mkF m 7 #[.val (.ref tz), .val (.ref x1)] [(.ref tz)])) _
    jvm_step X105.here [X105.here.top, hx, (hb hby d19_7), X105.method', Bd.returns, Value.isRef, FieldType.isReference]
    first | (intro acts; rw [hr _ acts rfl rfl rfl]) | rw [hr _ _ rfl rfl rfl]
    exact Steps.refl _
  · show Q19_2 Z tz x1 tz_value x1_value b0 b1 y0 kb ks st_COMPACT_STRINGS h0 n0 _ T105.heap _
    exact ⟨rfl, N105, K105, Q105_0, Q105_1, Q105_2, Q105_3, Q105_4⟩
theorem d34_0 : decode jdk_65_method_131_code 0 = .ok (.iload_n 1, 1) := by decide +kernel
theorem d34_1 : decode jdk_65_method_131_code 1 = .ok (.iload_n 0, 1) := by decide +kernel
theorem d34_2 : decode jdk_65_method_131_code 2 = .ok (.if_icmp .ge 35, 3) := by decide +kernel
theorem d34_37 : decode jdk_65_method_131_code 37 = .ok (.return_, 1) := by decide +kernel
theorem pn_java_util_Arrays : plainName "java/util/Arrays" = true := by first | (simp [plainName, overriddenIn]; done) | decide +kernel
theorem ef34 (m : MethodId) (x1 : Int32) (x2 : Int32) : entryFrame m #[(.int x1), (.int x2)] 2 = mkF m 0 #[.val (.int x1), .val (.int x2)] [] := by first | (simp [entryFrame, mkF, argsToLocals, Value.category]; done) | rfl
def Q34 (Z : State) (x1 : Int32) (x2 : Int32) (h0 : Heap) (n0 : Nat) (v : Option Value) (h : Heap) (L : List Loc) : Prop := v = none ∧ Fr n0 L ∧ h = h0
set_option maxRecDepth 65536 in
set_option maxHeartbeats 40000000 in
theorem rm34 (l : Launch) (Z : State) (a0 : Array Value) (hw : ∀ d ∈ tables_1, d.before a0 Z = true) (ws : List Jvm.Cond) (x1 : Int32) (x2 : Int32) (h0 : Heap) (n0 : Nat) (Z0 : n0 ≤ h0.size) (O0 : Old Z n0 h0) (hge : ¬ (x2 < x1)) :
    MetFree l (⟨"java/util/Arrays", "checkLength", "(II)V"⟩ : MethodName) (head1 (Jvm.Cond.code (⟨"java/util/Arrays", "checkLength", "(II)V"⟩ : MethodName) jdk_65_method_131_code 2 none :: ws) ({ frames := 0, cells := 0, slots := 0, locals := 0 } : Room)) (fun a U => a = #[(.int x1), (.int x2)] ∧ Z.Warmed39 U.vm ∧ U.heap = h0) (fun _ _ _ _ _ => True) (fun _ U o U' => ∃ v L, o = .returned v ∧ Q34 Z x1 x2 h0 n0 v U'.heap L ∧ FrameEnd U o U' L ({ frames := 0, cells := 0, slots := 0, locals := 0 } : Room).cells ({ frames := 0, cells := 0, slots := 0, locals := 0 } : Room).slots) := by
  refine MetFree.of_bodySF (plainFor_of_name pn_java_util_Arrays) hisR ?_
  intro p e s m args below meth c s₁ Bd hml0 hP hK
  obtain ⟨rfl, hZ, hh⟩ := hP
  have hx := Bd.exec
  have hby := Bd.bytes
  have hml : c.maxLocals = 2 := hml0
  have hown : s.vm.findClass "java/util/Arrays" = some m.cls := findClass_of_methodNamed Bd.named
  have hnm := (name_of_methodNamed Bd.named Bd.method).1
  have X0 : Stand p l e ({ frames := 0, cells := 0, slots := 0, locals := 0 } : Room) s m #[(.int x1), (.int x2)] below meth c s₁ [] 0 0 := Stand.of_body Bd
  have e0 : s₁.heap = h0 := by rw [← hh, Bd.state]; rfl
  have N0 := Fr.nil n0
  have K0 : Keep h0 h0 [] := Keep.refl _ _
  have pre0 : ∀ t, Steps p.tables e below (s₁.setTop (mkF m 0 #[.val (.int x1), .val (.int x2)] [])) t → Steps p.tables e below (s₁.setTop (entryFrame m #[(.int x1), (.int x2)] 2)) t := fun t k => castTop (ef34 m x1 x2) k
  obtain ⟨fs, hr, hrun, hended, hW, hsame⟩ := X0.leave (v := none) (fun _ => rfl)
  refine ⟨_, _, pre0 _ ?_, hrun, hended, _, _, rfl, ?_, ⟨_, rfl⟩, hW, hsame.mono (by decide) (by decide)⟩
  · show Steps p.tables e below (s₁.setTop (mkF m 0 #[.val (.int x1), .val (.int x2)] [])) _
    refine XS.iloadN X0.here hx rfl (hb hby d34_0) rfl ?_
    refine XS.iloadN X0.here hx rfl (hb hby d34_1) rfl ?_
    refine XS.icmpYes X0.here hx rfl (pc0 := 2) (pc' := 37) rfl (hb hby d34_2) rfl (flt hge).2.1 (by decide) (by decide) ?_
    show Steps p.tables e below (s₁.setTop (mkF m 37 #[.val (.int x1), .val (.int x2)] [])) _
    exact X0.returnOut hx Bd.returns (hb hby d34_37) hr
  · show Q34 Z x1 x2 h0 n0 _ s₁.heap _
    rw [e0]
    exact ⟨rfl, N0, rfl⟩
theorem d35_0 : decode jdk_29_method_69_code 0 = .ok (.iload_n 0, 1) := by decide +kernel
theorem d35_1 : decode jdk_29_method_69_code 1 = .ok (.iload_n 1, 1) := by decide +kernel
theorem d35_2 : decode jdk_29_method_69_code 2 = .ok (.if_icmp .gt 7, 3) := by decide +kernel
theorem d35_9 : decode jdk_29_method_69_code 9 = .ok (.iload_n 1, 1) := by decide +kernel
theorem d35_10 : decode jdk_29_method_69_code 10 = .ok (.ireturn, 1) := by decide +kernel
-- java/lang/Math
theorem ef35 (m : MethodId) (x1 : Int32) (x2 : Int32) : entryFrame m #[(.int x1), (.int x2)] 2 = mkF m 0 #[.val (.int x1), .val (.int x2)] [] := by first | (simp [entryFrame, mkF, argsToLocals, Value.category]; done) | rfl
def Q35 (Z : State) (x1 : Int32) (x2 : Int32) (h0 : Heap) (n0 : Nat) (v : Option Value) (h : Heap) (L : List Loc) : Prop := v = some (.int x2) ∧ Fr n0 L ∧ h = h0
set_option maxRecDepth 65536 in
set_option maxHeartbeats 40000000 in
theorem rm35 (l : Launch) (Z : State) (a0 : Array Value) (hw : ∀ d ∈ tables_1, d.before a0 Z = true) (ws : List Jvm.Cond) (x1 : Int32) (x2 : Int32) (h0 : Heap) (n0 : Nat) (Z0 : n0 ≤ h0.size) (O0 : Old Z n0 h0) (hlt : x2 < x1) :
    MetFree l (⟨"java/lang/Math", "min", "(II)I"⟩ : MethodName) (head1 (Jvm.Cond.code (⟨"java/lang/Math", "min", "(II)I"⟩ : MethodName) jdk_29_method_69_code 2 (some .int) :: ws) ({ frames := 0, cells := 0, slots := 0, locals := 0 } : Room)) (fun a U => a = #[(.int x1), (.int x2)] ∧ Z.Warmed39 U.vm ∧ U.heap = h0) (fun _ _ _ _ _ => True) (fun _ U o U' => ∃ v L, o = .returned v ∧ Q35 Z x1 x2 h0 n0 v U'.heap L ∧ FrameEnd U o U' L ({ frames := 0, cells := 0, slots := 0, locals := 0 } : Room).cells ({ frames := 0, cells := 0, slots := 0, locals := 0 } : Room).slots) := by
  refine MetFree.of_bodySF (Jvm.Free.JP.mathPlain rfl (by decide +kernel)) hisR ?_
  intro p e s m args below meth c s₁ Bd hml0 hP hK
  obtain ⟨rfl, hZ, hh⟩ := hP
  have hx := Bd.exec
  have hby := Bd.bytes
  have hml : c.maxLocals = 2 := hml0
  have hown : s.vm.findClass "java/lang/Math" = some m.cls := findClass_of_methodNamed Bd.named
  have hnm := (name_of_methodNamed Bd.named Bd.method).1
  have X0 : Stand p l e ({ frames := 0, cells := 0, slots := 0, locals := 0 } : Room) s m #[(.int x1), (.int x2)] below meth c s₁ [] 0 0 := Stand.of_body Bd
  have e0 : s₁.heap = h0 := by rw [← hh, Bd.state]; rfl
  have N0 := Fr.nil n0
  have K0 : Keep h0 h0 [] := Keep.refl _ _
  have pre0 : ∀ t, Steps p.tables e below (s₁.setTop (mkF m 0 #[.val (.int x1), .val (.int x2)] [])) t → Steps p.tables e below (s₁.setTop (entryFrame m #[(.int x1), (.int x2)] 2)) t := fun t k => castTop (ef35 m x1 x2) k
  obtain ⟨fs, hr, hrun, hended, hW, hsame⟩ := X0.leave (v := some (.int x2)) (fun h => by rw [Bd.returns] at h; cases h)
  refine ⟨_, _, pre0 _ ?_, hrun, hended, _, _, rfl, ?_, ⟨_, rfl⟩, hW, hsame.mono (by decide) (by decide)⟩
  · show Steps p.tables e below (s₁.setTop (mkF m 0 #[.val (.int x1), .val (.int x2)] [])) _
    refine XS.iloadN X0.here hx rfl (hb hby d35_0) rfl ?_
    refine XS.iloadN X0.here hx rfl (hb hby d35_1) rfl ?_
    refine XS.icmpYes X0.here hx rfl (pc0 := 2) (pc' := 9) rfl (hb hby d35_2) rfl (tlt hlt).2.2.1 (by decide) (by decide) ?_
    refine XS.iloadN X0.here hx rfl (hb hby d35_9) rfl ?_
    show Steps p.tables e below (s₁.setTop (mkF m 10 #[.val (.int x1), .val (.int x2)] [(.int x2)])) _
    exact retI X0 hx Bd.returns (hb hby d35_10) hr
  · show Q35 Z x1 x2 h0 n0 _ s₁.heap _
    rw [e0]
    exact ⟨rfl, N0, rfl⟩
theorem d33_0 : decode jdk_65_method_133_code 0 = .ok (.iload_n 1, 1) := by decide +kernel
theorem d33_1 : decode jdk_65_method_133_code 1 = .ok (.iload_n 2, 1) := by decide +kernel
theorem pd_7 : parseMethodDescriptor "(II)V" = some ⟨[.int, .int], none⟩ := by decide +kernel
theorem d33_2 : decode jdk_65_method_133_code 2 = .ok (.invokestatic 343, 3) := by decide +kernel
theorem d33_5 : decode jdk_65_method_133_code 5 = .ok (.iload_n 2, 1) := by decide +kernel
theorem d33_6 : decode jdk_65_method_133_code 6 = .ok (.iload_n 1, 1) := by decide +kernel
theorem d33_7 : decode jdk_65_method_133_code 7 = .ok (.isub, 1) := by decide +kernel
theorem d33_8 : decode jdk_65_method_133_code 8 = .ok (.istore_n 3, 1) := by decide +kernel
theorem d33_9 : decode jdk_65_method_133_code 9 = .ok (.iload_n 3, 1) := by decide +kernel
theorem d33_10 : decode jdk_65_method_133_code 10 = .ok (.newarray .byte, 2) := by decide +kernel
theorem d33_12 : decode jdk_65_method_133_code 12 = .ok (.astore 4, 2) := by decide +kernel
theorem d33_14 : decode jdk_65_method_133_code 14 = .ok (.aload_n 0, 1) := by decide +kernel
theorem d33_15 : decode jdk_65_method_133_code 15 = .ok (.iload_n 1, 1) := by decide +kernel
theorem d33_16 : decode jdk_65_method_133_code 16 = .ok (.aload 4, 2) := by decide +kernel
theorem d33_18 : decode jdk_65_method_133_code 18 = .ok (.iconst 0, 1) := by decide +kernel
theorem d33_19 : decode jdk_65_method_133_code 19 = .ok (.aload_n 0, 1) := by decide +kernel
theorem d33_20 : decode jdk_65_method_133_code 20 = .ok (.arraylength, 1) := by decide +kernel
theorem d33_21 : decode jdk_65_method_133_code 21 = .ok (.iload_n 1, 1) := by decide +kernel
theorem d33_22 : decode jdk_65_method_133_code 22 = .ok (.isub, 1) := by decide +kernel
theorem d33_23 : decode jdk_65_method_133_code 23 = .ok (.iload_n 3, 1) := by decide +kernel
theorem pd_8 : parseMethodDescriptor "(II)I" = some ⟨[.int, .int], some .int⟩ := by decide +kernel
theorem d33_24 : decode jdk_65_method_133_code 24 = .ok (.invokestatic 304, 3) := by decide +kernel
theorem d33_27 : decode jdk_65_method_133_code 27 = .ok (.invokestatic 150, 3) := by decide +kernel
theorem d33_30 : decode jdk_65_method_133_code 30 = .ok (.aload 4, 2) := by decide +kernel
theorem d33_32 : decode jdk_65_method_133_code 32 = .ok (.areturn, 1) := by decide +kernel
theorem ef33_2 (m : MethodId) (x1 : Addr) : entryFrame m #[(.ref x1), (.int (0 : Int32)), (.int (2 : Int32))] 5 = mkF m 0 #[.val (.ref x1), .val (.int (0 : Int32)), .val (.int (2 : Int32)), .unset, .unset] [] := by first | (simp [entryFrame, mkF, argsToLocals, Value.category]; done) | rfl
def Q33_2 (Z : State) (x1 : Addr) (b0 : Int32) (b1 : Int32) (kb : ClassId) (h0 : Heap) (n0 : Nat) (v : Option Value) (h : Heap) (L : List Loc) : Prop := ∃ (b : Addr), ∃ (kk : ClassId), v = some (.ref b) ∧ Fr n0 L ∧ Keep h0 h [] ∧ h0.size ≤ b ∧ Arv Z h b kk .byte (2 : Int32) [(.int b0), (.int b1)] (.int (0 : Int32))
set_option maxRecDepth 65536 in
set_option maxHeartbeats 40000000 in
theorem rm33_2 (l : Launch) (Z : State) (a0 : Array Value) (hw : ∀ d ∈ tables_1, d.before a0 Z = true) (ws : List Jvm.Cond) (x1 : Addr) (b0 : Int32) (b1 : Int32) (kb : ClassId) (h0 : Heap) (n0 : Nat) (Z0 : n0 ≤ h0.size) (O0 : Old Z n0 h0) (V_x1 : Arv Z h0 x1 kb .byte (16 : Int32) [(.int b0), (.int b1), (.int (0 : Int32)), (.int (0 : Int32)), (.int (0 : Int32)), (.int (0 : Int32)), (.int (0 : Int32)), (.int (0 : Int32)), (.int (0 : Int32)), (.int (0 : Int32)), (.int (0 : Int32)), (.int (0 : Int32)), (.int (0 : Int32)), (.int (0 : Int32)), (.int (0 : Int32)), (.int (0 : Int32))] (.int (0 : Int32))) :
    MetFree l (⟨"java/util/Arrays", "copyOfRangeByte", "([BII)[B"⟩ : MethodName) (head1 (Jvm.Cond.code (⟨"java/util/Arrays", "copyOfRangeByte", "([BII)[B"⟩ : MethodName) jdk_65_method_133_code 5 (some (.array .byte)) :: ws) ({ frames := 1, cells := 1, slots := 2, locals := 18 } : Room)) (fun a U => a = #[(.ref x1), (.int (0 : Int32)), (.int (2 : Int32))] ∧ Z.Warmed39 U.vm ∧ U.heap = h0) (fun _ _ _ _ _ => True) (fun _ U o U' => ∃ v L, o = .returned v ∧ Q33_2 Z x1 b0 b1 kb h0 n0 v U'.heap L ∧ FrameEnd U o U' L ({ frames := 1, cells := 1, slots := 2, locals := 18 } : Room).cells ({ frames := 1, cells := 1, slots := 2, locals := 18 } : Room).slots) := by
  refine MetFree.of_bodySF (plainFor_of_name pn_java_util_Arrays) hisR ?_
  intro p e s m args below meth c s₁ Bd hml0 hP hK
  obtain ⟨rfl, hZ, hh⟩ := hP
  have hx := Bd.exec
  have hby := Bd.bytes
  have hml : c.maxLocals = 5 := hml0
  have hown : s.vm.findClass "java/util/Arrays" = some m.cls := findClass_of_methodNamed Bd.named
  have hnm := (name_of_methodNamed Bd.named Bd.method).1
  have X0 : Stand p l e ({ frames := 1, cells := 1, slots := 2, locals := 18 } : Room) s m #[(.ref x1), (.int (0 : Int32)), (.int (2 : Int32))] below meth c s₁ [] 0 0 := Stand.of_body Bd
  have e0 : s₁.heap = h0 := by rw [← hh, Bd.state]; rfl
  have N0 := Fr.nil n0
  have K0 : Keep h0 h0 [] := Keep.refl _ _
  have pre0 : ∀ t, Steps p.tables e below (s₁.setTop (mkF m 0 #[.val (.ref x1), .val (.int (0 : Int32)), .val (.int (2 : Int32)), .unset, .unset] [])) t → Steps p.tables e below (s₁.setTop (entryFrame m #[(.ref x1), (.int (0 : Int32)), (.int (2 : Int32))] 5)) t := fun t k => castTop (ef33_2 m x1) k
  have pp106 : ¬ ((2 : Int32) < (0 : Int32)) := by decide
  obtain ⟨_, _, ⟨T107, L107, k107, n107⟩, -, X107, ⟨Lc107, hQ107, l107, y107, z107⟩, st107⟩ := Jvm.LawKit.callS X0 hx (y := (⟨"java/util/Arrays", "checkLength", "(II)V"⟩ : MethodName)) hown (mvT hZ (own_wd hw 180 rfl)) (mvT hZ (own_wd hw 181 rfl)) (mvT hZ (own_wd hw 175 rfl)) (mvT hZ (own_wd hw 182 rfl)) (by decide) (backOf (W := 0) (rm34 l Z a0 hw [] (0 : Int32) (2 : Int32) h0 n0 Z0 O0 pp106) hZ (own_wd hw 182 rfl) (own_wd hw 175 rfl) (by decide) (by decide)) (g := (mkF m 2 #[.val (.ref x1), .val (.int (0 : Int32)), .val (.int (2 : Int32)), .unset, .unset] [(.int (2 : Int32)), (.int (0 : Int32))])) rfl (by rw [hml]; rfl) (argsL := [(.int (0 : Int32)), (.int (2 : Int32))]) (rest := []) (lenOf pd_7 rfl) rfl (by show 2 * 0 + _ ≤ _; exact Nat.le_of_eq rfl) (hb hby d33_2) (fun _ _ => ⟨rfl, e0, (by decide : 0 + 0 ≤ _), (by decide : 0 + 0 ≤ _)⟩)
  dsimp only [Pt.U, Pt.locs, Pt.cells, Pt.slots] at X107 l107 y107 z107 st107 hQ107
  subst l107 y107 z107
  obtain ⟨rfl, N107q, eh107⟩ := hQ107
  have N107 := Fr.app N0 N107q
  obtain ⟨T108, h108, k108, X108, e108, E108, A108, st108⟩ := newP X107 hx hZ (own_wd hw 19 rfl) eh107 (g := (mkF m 10 #[.val (.ref x1), .val (.int (0 : Int32)), .val (.int (2 : Int32)), .val (.int ((2 : Int32) - (0 : Int32))), .unset] [(.int ((2 : Int32) - (0 : Int32)))])) rfl (hb hby d33_10) rfl (by decide) (cap := 2) (by decide) (by decide) (by decide) (by decide)
  obtain ⟨b108, g108⟩ : ∃ z, z = h0.size := ⟨_, rfl⟩
  rw [← g108] at A108 st108
  have O108 : Old Z n0 h108 := O0.ext E108
  have Z108 : n0 ≤ h108.size := Nat.le_trans Z0 E108.1
  have K108 : Keep h0 h108 [] := K0.ext E108
  have g_b108 : n0 ≤ b108 := Nat.le_trans Z0 (Nat.le_of_eq g108.symm)
  have sz_b108 : h0.size ≤ b108 := Nat.le_trans K0.1 (Nat.le_of_eq g108.symm)
  have V108 : Arv Z h108 b108 k108 .byte ((2 : Int32) - (0 : Int32)) [(.int (0 : Int32)), (.int (0 : Int32))] (.int (0 : Int32)) := (Arv.new A108 (by decide)).pad (pad_rep [] (.int (0 : Int32)) 2)
  have V109 : Arv Z h108 x1 kb .byte (16 : Int32) [(.int b0), (.int b1), (.int (0 : Int32)), (.int (0 : Int32)), (.int (0 : Int32)), (.int (0 : Int32)), (.int (0 : Int32)), (.int (0 : Int32)), (.int (0 : Int32)), (.int (0 : Int32)), (.int (0 : Int32)), (.int (0 : Int32)), (.int (0 : Int32)), (.int (0 : Int32)), (.int (0 : Int32)), (.int (0 : Int32))] (.int (0 : Int32)) := (V_x1.ext E108)
  obtain ⟨cl_a110, Ar_a110, -, S_a110, N_a110, -, -⟩ := id V109
  have pp111 : ((2 : Int32) - (0 : Int32)) < ((16 : Int32) - (0 : Int32)) := by decide
  obtain ⟨_, _, ⟨T112, L112, k112, n112⟩, -, X112, ⟨Lc112, hQ112, l112, y112, z112⟩, st112⟩ := Jvm.LawKit.callS X108 hx (y := (⟨"java/lang/Math", "min", "(II)I"⟩ : MethodName)) hown (mvT hZ (own_wd hw 183 rfl)) (mvT hZ (own_wd hw 184 rfl)) (mvT hZ (own_wd hw 185 rfl)) (mvT hZ (own_wd hw 186 rfl)) (by decide) (backOf (W := 4) (rm35 l Z a0 hw [] ((16 : Int32) - (0 : Int32)) ((2 : Int32) - (0 : Int32)) h108 n0 Z108 O108 pp111) hZ (own_wd hw 186 rfl) (own_wd hw 185 rfl) (by decide) (by decide)) (g := (mkF m 24 #[.val (.ref x1), .val (.int (0 : Int32)), .val (.int (2 : Int32)), .val (.int ((2 : Int32) - (0 : Int32))), .val (.ref b108)] [(.int ((2 : Int32) - (0 : Int32))), (.int ((16 : Int32) - (0 : Int32))), (.int (0 : Int32)), (.ref b108), (.int (0 : Int32)), (.ref x1)])) rfl (by rw [hml]; rfl) (argsL := [(.int ((16 : Int32) - (0 : Int32))), (.int ((2 : Int32) - (0 : Int32)))]) (rest := [(.int (0 : Int32)), (.ref b108), (.int (0 : Int32)), (.ref x1)]) (lenOf pd_8 rfl) rfl (by show 2 * 0 + _ ≤ _; exact Nat.le_of_eq rfl) (hb hby d33_24) (fun _ _ => ⟨rfl, e108, (by decide : 1 + 0 ≤ _), (by decide : 2 + 0 ≤ _)⟩)
  dsimp only [Pt.U, Pt.locs, Pt.cells, Pt.slots] at X112 l112 y112 z112 st112 hQ112
  subst l112 y112 z112
  obtain ⟨rfl, N112q, eh112⟩ := hQ112
  have N112 := Fr.app N107 N112q
  obtain ⟨T113, h113, L113, X113, e113, N113, KK113, A113, st113⟩ := cpA X112 hx hZ hown (own_wd hw 187 rfl) (own_wd hw 139 rfl) (own_wd hw 137 rfl) (own_wd hw 138 rfl) eh112 (us := [(.int b0), (.int b1)]) V109 V108 (Or.inl ⟨rfl, rfl⟩) (by first | decide | exact Nat.le_of_ble_eq_true rfl) (by first | decide | exact Nat.le_of_ble_eq_true rfl) (by first | decide | exact Nat.le_of_ble_eq_true rfl) (by first | decide | exact Nat.le_of_ble_eq_true rfl) (by first | decide | exact Nat.le_of_ble_eq_true rfl) rfl (by first | decide | exact Nat.le_of_ble_eq_true rfl) N112 g_b108 (g := (mkF m 27 #[.val (.ref x1), .val (.int (0 : Int32)), .val (.int (2 : Int32)), .val (.int ((2 : Int32) - (0 : Int32))), .val (.ref b108)] [(.int ((2 : Int32) - (0 : Int32))), (.int (0 : Int32)), (.ref b108), (.int (0 : Int32)), (.ref x1)])) rfl (by rw [hml]; rfl) rfl (hb hby d33_27) (by decide) (W := 0) (by show 2 * 0 + _ ≤ _; exact Nat.le_of_eq rfl) (by decide)
  have O113 : Old Z n0 h113 := O108.keep KK113 (allS g_b108 all0)
  have Z113 : n0 ≤ h113.size := Nat.le_trans Z108 KK113.1
  have K113 : Keep h0 h113 [] := K108.trans KK113 (allS (Or.inr sz_b108) all0)
  have V113 : Arv Z h113 b108 k108 .byte ((2 : Int32) - (0 : Int32)) [(.int b0), (.int b1)] (.int (0 : Int32)) := A113
  obtain ⟨fs, hr, hrun, hended, hW, hsame⟩ := X113.leave (v := some (.ref b108)) (fun h => by rw [Bd.returns] at h; cases h)
  refine ⟨_, _, pre0 _ ?_, hrun, hended, _, _, rfl, ?_, ⟨_, rfl⟩, hW, hsame.mono (by decide) (by decide)⟩
  · show Steps p.tables e below (s₁.setTop (mkF m 0 #[.val (.ref x1), .val (.int (0 : Int32)), .val (.int (2 : Int32)), .unset, .unset] [])) _
    refine XS.iloadN X0.here hx rfl (hb hby d33_0) rfl ?_
    refine XS.iloadN X0.here hx rfl (hb hby d33_1) rfl ?_
    show Steps p.tables e below (s₁.setTop (mkF m 2 #[.val (.ref x1), .val (.int (0 : Int32)), .val (.int (2 : Int32)), .unset, .unset] [(.int (2 : Int32)), (.int (0 : Int32))])) _
    refine st107 _ ?_
    show Steps p.tables e below (T107.setTop (mkF m 5 #[.val (.ref x1), .val (.int (0 : Int32)), .val (.int (2 : Int32)), .unset, .unset] [])) _
    refine XS.iloadN X107.here hx rfl (hb hby d33_5) rfl ?_
    refine XS.iloadN X107.here hx rfl (hb hby d33_6) rfl ?_
    refine XS.isub X107.here hx rfl (hb hby d33_7) rfl ?_
    refine XS.istoreN X107.here hx rfl (hb hby d33_8) rfl (l' := #[.val (.ref x1), .val (.int (0 : Int32)), .val (.int (2 : Int32)), .val (.int ((2 : Int32) - (0 : Int32))), .unset]) rfl ?_
    refine XS.iloadN X107.here hx rfl (hb hby d33_9) rfl ?_
    show Steps p.tables e below (T107.setTop (mkF m 10 #[.val (.ref x1), .val (.int (0 : Int32)), .val (.int (2 : Int32)), .val (.int ((2 : Int32) - (0 : Int32))), .unset] [(.int ((2 : Int32) - (0 : Int32)))])) _
    refine st108 _ ?_
    show Steps p.tables e below (T108.setTop (mkF m 12 #[.val (.ref x1), .val (.int (0 : Int32)), .val (.int (2 : Int32)), .val (.int ((2 : Int32) - (0 : Int32))), .unset] [(.ref b108)])) _
    refine XS.astore X108.here hx rfl (hb hby d33_12) rfl rfl (l' := #[.val (.ref x1), .val (.int (0 : Int32)), .val (.int (2 : Int32)), .val (.int ((2 : Int32) - (0 : Int32))), .val (.ref b108)]) rfl ?_
    refine XS.aloadN X108.here hx rfl (hb hby d33_14) rfl rfl ?_
    refine XS.iloadN X108.here hx rfl (hb hby d33_15) rfl ?_
    refine XS.aload X108.here hx rfl (hb hby d33_16) rfl rfl ?_
    refine XS.iconst X108.here hx rfl (hb hby d33_18) ?_
    refine XS.aloadN X108.here hx rfl (hb hby d33_19) rfl rfl ?_
    show Steps p.tables e below (T108.setTop (mkF m 20 #[.val (.ref x1), .val (.int (0 : Int32)), .val (.int (2 : Int32)), .val (.int ((2 : Int32) - (0 : Int32))), .val (.ref b108)] [(.ref x1), (.int (0 : Int32)), (.ref b108), (.int (0 : Int32)), (.ref x1)])) _
    refine X108.arraylength hx (by rw [e108]; exact Ar_a110.1) (State.isArrayOf_alike hZ.alike Ar_a110.2.1) (g := (mkF m 20 #[.val (.ref x1), .val (.int (0 : Int32)), .val (.int (2 : Int32)), .val (.int ((2 : Int32) - (0 : Int32))), .val (.ref b108)] [(.ref x1), (.int (0 : Int32)), (.ref b108), (.int (0 : Int32)), (.ref x1)])) rfl rfl (hb hby d33_20) _ ?_
    rw [len_of S_a110 N_a110]
    refine XS.iloadN X108.here hx rfl (hb hby d33_21) rfl ?_
    refine XS.isub X108.here hx rfl (hb hby d33_22) rfl ?_
    refine XS.iloadN X108.here hx rfl (hb hby d33_23) rfl ?_
    show Steps p.tables e below (T108.setTop (mkF m 24 #[.val (.ref x1), .val (.int (0 : Int32)), .val (.int (2 : Int32)), .val (.int ((2 : Int32) - (0 : Int32))), .val (.ref b108)] [(.int ((2 : Int32) - (0 : Int32))), (.int ((16 : Int32) - (0 : Int32))), (.int (0 : Int32)), (.ref b108), (.int (0 : Int32)), (.ref x1)])) _
    refine st112 _ ?_
    show Steps p.tables e below (T112.setTop (mkF m 27 #[.val (.ref x1), .val (.int (0 : Int32)), .val (.int (2 : Int32)), .val (.int ((2 : Int32) - (0 : Int32))), .val (.ref b108)] [(.int ((2 : Int32) - (0 : Int32))), (.int (0 : Int32)), (.ref b108), (.int (0 : Int32)), (.ref x1)])) _
    refine st113 _ ?_
    show Steps p.tables e below (T113.setTop (mkF m 30 #[.val (.ref x1), .val (.int (0 : Int32)), .val (.int (2 : Int32)), .val (.int ((2 : Int32) - (0 : Int32))), .val (.ref b108)] [])) _
    refine XS.aload X113.here hx rfl (hb hby d33_30) rfl rfl ?_
    show Steps p.tables e below (T113.setTop (mkF m 32 #[.val (.ref x1), .val (.int (0 : Int32)), .val (.int (2 : Int32)), .val (.int ((2 : Int32) - (0 : Int32))), .val (.ref b108)] [(.ref b108)])) _
    jvm_step X113.here [X113.here.top, hx, (hb hby d33_32), X113.method', Bd.returns, Value.isRef, FieldType.isReference]
    first | (intro acts; rw [hr _ acts rfl rfl rfl]) | rw [hr _ _ rfl rfl rfl]
    exact Steps.refl _
  · show Q33_2 Z x1 b0 b1 kb h0 n0 _ T113.heap _
    rw [e113]
    exact ⟨b108, k108, rfl, N113, K113, sz_b108, V113⟩
theorem d32_0 : decode jdk_65_method_132_code 0 = .ok (.iload_n 1, 1) := by decide +kernel
theorem d32_1 : decode jdk_65_method_132_code 1 = .ok (.ifCond .ne 9, 3) := by decide +kernel
theorem d32_4 : decode jdk_65_method_132_code 4 = .ok (.iload_n 2, 1) := by decide +kernel
theorem d32_5 : decode jdk_65_method_132_code 5 = .ok (.aload_n 0, 1) := by decide +kernel
theorem d32_6 : decode jdk_65_method_132_code 6 = .ok (.arraylength, 1) := by decide +kernel
theorem d32_7 : decode jdk_65_method_132_code 7 = .ok (.if_icmp .eq 10, 3) := by decide +kernel
theorem d32_10 : decode jdk_65_method_132_code 10 = .ok (.aload_n 0, 1) := by decide +kernel
theorem d32_11 : decode jdk_65_method_132_code 11 = .ok (.iload_n 1, 1) := by decide +kernel
theorem d32_12 : decode jdk_65_method_132_code 12 = .ok (.iload_n 2, 1) := by decide +kernel
theorem pd_9 : parseMethodDescriptor "([BII)[B" = some ⟨[(.array .byte), .int, .int], some (.array .byte)⟩ := by decide +kernel
theorem d32_13 : decode jdk_65_method_132_code 13 = .ok (.invokestatic 339, 3) := by decide +kernel
theorem d32_16 : decode jdk_65_method_132_code 16 = .ok (.areturn, 1) := by decide +kernel
theorem ef32_2 (m : MethodId) (x1 : Addr) : entryFrame m #[(.ref x1), (.int (0 : Int32)), (.int (2 : Int32))] 3 = mkF m 0 #[.val (.ref x1), .val (.int (0 : Int32)), .val (.int (2 : Int32))] [] := by first | (simp [entryFrame, mkF, argsToLocals, Value.category]; done) | rfl
def Q32_2 (Z : State) (x1 : Addr) (b0 : Int32) (b1 : Int32) (kb : ClassId) (h0 : Heap) (n0 : Nat) (v : Option Value) (h : Heap) (L : List Loc) : Prop := ∃ (b : Addr), ∃ (kk : ClassId), v = some (.ref b) ∧ Fr n0 L ∧ Keep h0 h [] ∧ h0.size ≤ b ∧ Arv Z h b kk .byte (2 : Int32) [(.int b0), (.int b1)] (.int (0 : Int32))
set_option maxRecDepth 65536 in
set_option maxHeartbeats 40000000 in
theorem rm32_2 (l : Launch) (Z : State) (a0 : Array Value) (hw : ∀ d ∈ tables_1, d.before a0 Z = true) (ws : List Jvm.Cond) (x1 : Addr) (b0 : Int32) (b1 : Int32) (kb : ClassId) (h0 : Heap) (n0 : Nat) (Z0 : n0 ≤ h0.size) (O0 : Old Z n0 h0) (V_x1 : Arv Z h0 x1 kb .byte (16 : Int32) [(.int b0), (.int b1), (.int (0 : Int32)), (.int (0 : Int32)), (.int (0 : Int32)), (.int (0 : Int32)), (.int (0 : Int32)), (.int (0 : Int32)), (.int (0 : Int32)), (.int (0 : Int32)), (.int (0 : Int32)), (.int (0 : Int32)), (.int (0 : Int32)), (.int (0 : Int32)), (.int (0 : Int32)), (.int (0 : Int32))] (.int (0 : Int32))) :
    MetFree l (⟨"java/util/Arrays", "copyOfRange", "([BII)[B"⟩ : MethodName) (head1 (Jvm.Cond.code (⟨"java/util/Arrays", "copyOfRange", "([BII)[B"⟩ : MethodName) jdk_65_method_132_code 3 (some (.array .byte)) :: ws) ({ frames := 2, cells := 1, slots := 2, locals := 34 } : Room)) (fun a U => a = #[(.ref x1), (.int (0 : Int32)), (.int (2 : Int32))] ∧ Z.Warmed39 U.vm ∧ U.heap = h0) (fun _ _ _ _ _ => True) (fun _ U o U' => ∃ v L, o = .returned v ∧ Q32_2 Z x1 b0 b1 kb h0 n0 v U'.heap L ∧ FrameEnd U o U' L ({ frames := 2, cells := 1, slots := 2, locals := 34 } : Room).cells ({ frames := 2, cells := 1, slots := 2, locals := 34 } : Room).slots) := by
  refine MetFree.of_bodySF (plainFor_of_name pn_java_util_Arrays) hisR ?_
  intro p e s m args below meth c s₁ Bd hml0 hP hK
  obtain ⟨rfl, hZ, hh⟩ := hP
  have hx := Bd.exec
  have hby := Bd.bytes
  have hml : c.maxLocals = 3 := hml0
  have hown : s.vm.findClass "java/util/Arrays" = some m.cls := findClass_of_methodNamed Bd.named
  have hnm := (name_of_methodNamed Bd.named Bd.method).1
  have X0 : Stand p l e ({ frames := 2, cells := 1, slots := 2, locals := 34 } : Room) s m #[(.ref x1), (.int (0 : Int32)), (.int (2 : Int32))] below meth c s₁ [] 0 0 := Stand.of_body Bd
  have e0 : s₁.heap = h0 := by rw [← hh, Bd.state]; rfl
  have N0 := Fr.nil n0
  have K0 : Keep h0 h0 [] := Keep.refl _ _
  have pre0 : ∀ t, Steps p.tables e below (s₁.setTop (mkF m 0 #[.val (.ref x1), .val (.int (0 : Int32)), .val (.int (2 : Int32))] [])) t → Steps p.tables e below (s₁.setTop (entryFrame m #[(.ref x1), (.int (0 : Int32)), (.int (2 : Int32))] 3)) t := fun t k => castTop (ef32_2 m x1) k
  obtain ⟨cl_a114, Ar_a114, -, S_a114, N_a114, -, -⟩ := id V_x1
  obtain ⟨_, _, ⟨T115, L115, k115, n115⟩, -, X115, ⟨Lc115, hQ115, l115, y115, z115⟩, st115⟩ := Jvm.LawKit.callS X0 hx (y := (⟨"java/util/Arrays", "copyOfRangeByte", "([BII)[B"⟩ : MethodName)) hown (mvT hZ (own_wd hw 177 rfl)) (mvT hZ (own_wd hw 178 rfl)) (mvT hZ (own_wd hw 175 rfl)) (mvT hZ (own_wd hw 179 rfl)) (by decide) (backOf (W := 0) (rm33_2 l Z a0 hw [] x1 b0 b1 kb h0 n0 Z0 O0 V_x1) hZ (own_wd hw 179 rfl) (own_wd hw 175 rfl) (by decide) (by decide)) (g := (mkF m 13 #[.val (.ref x1), .val (.int (0 : Int32)), .val (.int (2 : Int32))] [(.int (2 : Int32)), (.int (0 : Int32)), (.ref x1)])) rfl (by rw [hml]; rfl) (argsL := [(.ref x1), (.int (0 : Int32)), (.int (2 : Int32))]) (rest := []) (lenOf pd_9 rfl) rfl (by show 2 * 0 + _ ≤ _; exact Nat.le_of_eq rfl) (hb hby d32_13) (fun _ _ => ⟨rfl, e0, (by decide : 0 + 1 ≤ _), (by decide : 0 + 2 ≤ _)⟩)
  dsimp only [Pt.U, Pt.locs, Pt.cells, Pt.slots] at X115 l115 y115 z115 st115 hQ115
  subst l115 y115 z115
  obtain ⟨b_115, kk_115, rfl, N115q, KK115, Q115_0, Q115_1⟩ := hQ115
  have N115 := Fr.app N0 N115q
  have O115 : Old Z n0 T115.heap := O0.keep KK115 all0
  have Z115 : n0 ≤ T115.heap.size := Nat.le_trans Z0 KK115.1
  have K115 : Keep h0 T115.heap [] := K0.trans KK115 all0
  have g_b_115 : n0 ≤ b_115 := Nat.le_trans Z0 Q115_0
  have sz_b_115 : h0.size ≤ b_115 := Nat.le_trans K0.1 Q115_0
  obtain ⟨fs, hr, hrun, hended, hW, hsame⟩ := X115.leave (v := some (.ref b_115)) (fun h => by rw [Bd.returns] at h; cases h)
  refine ⟨_, _, pre0 _ ?_, hrun, hended, _, _, rfl, ?_, ⟨_, rfl⟩, hW, hsame.mono (by decide) (by decide)⟩
  · show Steps p.tables e below (s₁.setTop (mkF m 0 #[.val (.ref x1), .val (.int (0 : Int32)), .val (.int (2 : Int32))] [])) _
    refine XS.iloadN X0.here hx rfl (hb hby d32_0) rfl ?_
    refine XS.ifNo X0.here hx rfl (hb hby d32_1) rfl ((if0 _ _).trans (teq (by decide : (0 : Int32) = (0 : Int32))).2) ?_
    refine XS.iloadN X0.here hx rfl (hb hby d32_4) rfl ?_
    refine XS.aloadN X0.here hx rfl (hb hby d32_5) rfl rfl ?_
    show Steps p.tables e below (s₁.setTop (mkF m 6 #[.val (.ref x1), .val (.int (0 : Int32)), .val (.int (2 : Int32))] [(.ref x1), (.int (2 : Int32))])) _
    refine X0.arraylength hx (by rw [e0]; exact Ar_a114.1) (State.isArrayOf_alike hZ.alike Ar_a114.2.1) (g := (mkF m 6 #[.val (.ref x1), .val (.int (0 : Int32)), .val (.int (2 : Int32))] [(.ref x1), (.int (2 : Int32))])) rfl rfl (hb hby d32_6) _ ?_
    rw [len_of S_a114 N_a114]
    refine XS.icmpNo X0.here hx rfl (hb hby d32_7) rfl (feq (by decide : ¬ ((2 : Int32) = (16 : Int32)))).1 ?_
    refine XS.aloadN X0.here hx rfl (hb hby d32_10) rfl rfl ?_
    refine XS.iloadN X0.here hx rfl (hb hby d32_11) rfl ?_
    refine XS.iloadN X0.here hx rfl (hb hby d32_12) rfl ?_
    show Steps p.tables e below (s₁.setTop (mkF m 13 #[.val (.ref x1), .val (.int (0 : Int32)), .val (.int (2 : Int32))] [(.int (2 : Int32)), (.int (0 : Int32)), (.ref x1)])) _
    refine st115 _ ?_
    show Steps p.tables e below (T115.setTop (mkF m 16 #[.val (.ref x1), .val (.int (0 : Int32)), .val (.int (2 : Int32))] [(.ref b_115)])) _
    jvm_step X115.here [X115.here.top, hx, (hb hby d32_16), X115.method', Bd.returns, Value.isRef, FieldType.isReference]
    first | (intro acts; rw [hr _ acts rfl rfl rfl]) | rw [hr _ _ rfl rfl rfl]
    exact Steps.refl _
  · show Q32_2 Z x1 b0 b1 kb h0 n0 _ T115.heap _
    exact ⟨b_115, kk_115, rfl, N115, K115, sz_b_115, Q115_1⟩
theorem d27_0 : decode jdk_42_method_150_code 0 = .ok (.aload_n 0, 1) := by decide +kernel
theorem d27_1 : decode jdk_42_method_150_code 1 = .ok (.invokespecial 1, 3) := by decide +kernel
theorem d27_4 : decode jdk_42_method_150_code 4 = .ok (.aload_n 1, 1) := by decide +kernel
theorem pd_10 : parseMethodDescriptor "()[B" = some ⟨[], some (.array .byte)⟩ := by decide +kernel
theorem d27_5 : decode jdk_42_method_150_code 5 = .ok (.invokevirtual 552, 3) := by decide +kernel
theorem d27_8 : decode jdk_42_method_150_code 8 = .ok (.astore_n 3, 1) := by decide +kernel
theorem d27_9 : decode jdk_42_method_150_code 9 = .ok (.aload_n 1, 1) := by decide +kernel
theorem d27_10 : decode jdk_42_method_150_code 10 = .ok (.invokevirtual 549, 3) := by decide +kernel
theorem d27_13 : decode jdk_42_method_150_code 13 = .ok (.istore 4, 2) := by decide +kernel
theorem d27_15 : decode jdk_42_method_150_code 15 = .ok (.aload_n 1, 1) := by decide +kernel
theorem pd_11 : parseMethodDescriptor "()Z" = some ⟨[], some .boolean⟩ := by decide +kernel
theorem d27_16 : decode jdk_42_method_150_code 16 = .ok (.invokevirtual 1047, 3) := by decide +kernel
theorem d27_19 : decode jdk_42_method_150_code 19 = .ok (.ifCond .eq 22, 3) := by decide +kernel
theorem d27_22 : decode jdk_42_method_150_code 22 = .ok (.aload_n 0, 1) := by decide +kernel
theorem d27_23 : decode jdk_42_method_150_code 23 = .ok (.iconst 0, 1) := by decide +kernel
theorem d27_24 : decode jdk_42_method_150_code 24 = .ok (.putfield 15, 3) := by decide +kernel
theorem d27_27 : decode jdk_42_method_150_code 27 = .ok (.aload_n 0, 1) := by decide +kernel
theorem d27_28 : decode jdk_42_method_150_code 28 = .ok (.aload_n 3, 1) := by decide +kernel
theorem d27_29 : decode jdk_42_method_150_code 29 = .ok (.iconst 0, 1) := by decide +kernel
theorem d27_30 : decode jdk_42_method_150_code 30 = .ok (.iload 4, 2) := by decide +kernel
theorem d27_32 : decode jdk_42_method_150_code 32 = .ok (.invokestatic 54, 3) := by decide +kernel
theorem d27_35 : decode jdk_42_method_150_code 35 = .ok (.putfield 9, 3) := by decide +kernel
theorem d27_38 : decode jdk_42_method_150_code 38 = .ok (.goto 59, 3) := by decide +kernel
theorem d27_97 : decode jdk_42_method_150_code 97 = .ok (.return_, 1) := by decide +kernel
theorem ef27_2 (m : MethodId) (tz : Addr) (x1 : Addr) : entryFrame m #[(.ref tz), (.ref x1), .null] 5 = mkF m 0 #[.val (.ref tz), .val (.ref x1), .val .null, .unset, .unset] [] := by first | (simp [entryFrame, mkF, argsToLocals, Value.category]; done) | rfl
def Q27_2 (Z : State) (tz : Addr) (x1 : Addr) (x1_value : Addr) (b0 : Int32) (b1 : Int32) (kb : ClassId) (st_COMPACT_STRINGS : Int32) (u_tz_coder : Value) (u_tz_value : Value) (h0 : Heap) (n0 : Nat) (v : Option Value) (h : Heap) (L : List Loc) : Prop := ∃ (b : Addr), ∃ (kk : ClassId), v = none ∧ Fr n0 L ∧ Keep h0 h [tz] ∧ h0.size ≤ b ∧ Exa Z h tz "java/lang/String" ∧ Fld Z h tz "java/lang/String" "value" "[B" (.ref b) ∧ Fld Z h tz "java/lang/String" "coder" "B" (.int (0 : Int32)) ∧ Arv Z h b kk .byte (2 : Int32) [(.int b0), (.int b1)] (.int (0 : Int32))
set_option maxRecDepth 65536 in
set_option maxHeartbeats 40000000 in
theorem rm27_2 (l : Launch) (Z : State) (a0 : Array Value) (hw : ∀ d ∈ tables_1, d.before a0 Z = true) (ws : List Jvm.Cond) (tz : Addr) (x1 : Addr) (x1_value : Addr) (b0 : Int32) (b1 : Int32) (kb : ClassId) (st_COMPACT_STRINGS : Int32) (u_tz_coder : Value) (u_tz_value : Value) (h0 : Heap) (n0 : Nat) (Z0 : n0 ≤ h0.size) (O0 : Old Z n0 h0) (E_tz : Exa Z h0 tz "java/lang/String") (E_x1 : Exa Z h0 x1 "java/lang/StringBuilder") (F_x1_value : Fld Z h0 x1 "java/lang/AbstractStringBuilder" "value" "[B" (.ref x1_value)) (F_x1_coder : Fld Z h0 x1 "java/lang/AbstractStringBuilder" "coder" "B" (.int (0 : Int32))) (F_x1_count : Fld Z h0 x1 "java/lang/AbstractStringBuilder" "count" "I" (.int (2 : Int32))) (V_x1_value : Arv Z h0 x1_value kb .byte (16 : Int32) [(.int b0), (.int b1), (.int (0 : Int32)), (.int (0 : Int32)), (.int (0 : Int32)), (.int (0 : Int32)), (.int (0 : Int32)), (.int (0 : Int32)), (.int (0 : Int32)), (.int (0 : Int32)), (.int (0 : Int32)), (.int (0 : Int32)), (.int (0 : Int32)), (.int (0 : Int32)), (.int (0 : Int32)), (.int (0 : Int32))] (.int (0 : Int32))) (S_COMPACT_STRINGS : Sta Z Z.heap "java/lang/String" "COMPACT_STRINGS" "Z" (.int st_COMPACT_STRINGS)) (hcomp : ¬ (st_COMPACT_STRINGS = (0 : Int32))) (F_u_tz_coder : Fld Z h0 tz "java/lang/String" "coder" "B" u_tz_coder) (g_tz : n0 ≤ tz) (F_u_tz_value : Fld Z h0 tz "java/lang/String" "value" "[B" u_tz_value) :
    MetFree l (⟨"java/lang/String", "<init>", "(Ljava/lang/AbstractStringBuilder;Ljava/lang/Void;)V"⟩ : MethodName) (head1 (Jvm.Cond.code (⟨"java/lang/String", "<init>", "(Ljava/lang/AbstractStringBuilder;Ljava/lang/Void;)V"⟩ : MethodName) jdk_42_method_150_code 5 none :: ws) ({ frames := 3, cells := 1, slots := 2, locals := 49 } : Room)) (fun a U => a = #[(.ref tz), (.ref x1), .null] ∧ Z.Warmed39 U.vm ∧ U.heap = h0) (fun _ _ _ _ _ => True) (fun _ U o U' => ∃ v L, o = .returned v ∧ Q27_2 Z tz x1 x1_value b0 b1 kb st_COMPACT_STRINGS u_tz_coder u_tz_value h0 n0 v U'.heap L ∧ FrameEnd U o U' L ({ frames := 3, cells := 1, slots := 2, locals := 49 } : Room).cells ({ frames := 3, cells := 1, slots := 2, locals := 49 } : Room).slots) := by
  refine MetFree.of_bodySF (plainFor_of_name pn_java_lang_String) hisR ?_
  intro p e s m args below meth c s₁ Bd hml0 hP hK
  obtain ⟨rfl, hZ, hh⟩ := hP
  have hx := Bd.exec
  have hby := Bd.bytes
  have hml : c.maxLocals = 5 := hml0
  have hown : s.vm.findClass "java/lang/String" = some m.cls := findClass_of_methodNamed Bd.named
  have hnm := (name_of_methodNamed Bd.named Bd.method).1
  have X0 : Stand p l e ({ frames := 3, cells := 1, slots := 2, locals := 49 } : Room) s m #[(.ref tz), (.ref x1), .null] below meth c s₁ [] 0 0 := Stand.of_body Bd
  have e0 : s₁.heap = h0 := by rw [← hh, Bd.state]; rfl
  have N0 := Fr.nil n0
  have K0 : Keep h0 h0 [tz] := Keep.refl _ _
  have pre0 : ∀ t, Steps p.tables e below (s₁.setTop (mkF m 0 #[.val (.ref tz), .val (.ref x1), .val .null, .unset, .unset] [])) t → Steps p.tables e below (s₁.setTop (entryFrame m #[(.ref tz), (.ref x1), .null] 5)) t := fun t k => castTop (ef27_2 m tz x1) k
  obtain ⟨T116, X116, e116, st116⟩ := initO X0 hx hZ hown (own_wd hw 11 rfl) (own_wd hw 12 rfl) (own_wd hw 13 rfl) e0 (g := (mkF m 1 #[.val (.ref tz), .val (.ref x1), .val .null, .unset, .unset] [(.ref tz)])) rfl (by rw [hml]; rfl) rfl (hb hby d27_1) (by decide) (W := 0) (by show 2 * 0 + _ ≤ _; exact Nat.le_of_eq rfl) (by decide)
  obtain ⟨cq117, kq117, q117a, q117b, q117c⟩ := isOf hZ e116 E_x1
  obtain ⟨_, _, ⟨T117, L117, k117, n117⟩, -, X117, ⟨Lc117, hQ117, l117, y117, z117⟩, st117⟩ := X116.virtualBack hx (y := (⟨"java/lang/AbstractStringBuilder", "getValue", "()[B"⟩ : MethodName)) (z := (⟨"java/lang/AbstractStringBuilder", "getValue", "()[B"⟩ : MethodName)) hown (mvT hZ (own_wd hw 155 rfl)) (mvT hZ (own_wd hw 156 rfl)) (notFace_of_selects (args := #[]) (mvT hZ (own_wd hw 158 rfl))) (mvT hZ (own_wd hw 158 rfl)) (mvT hZ (own_wd hw 157 rfl)) (by decide) (backOf (W := 0) (rm28 l Z a0 hw [] x1 x1_value h0 n0 Z0 O0 F_x1_value) hZ (own_wd hw 159 rfl) (own_wd hw 94 rfl) (by decide) (by decide)) q117a q117c (g := (mkF m 5 #[.val (.ref tz), .val (.ref x1), .val .null, .unset, .unset] [(.ref x1)])) rfl (by rw [hml]; rfl) (Steps.refl _) (argsL := []) (rest := []) (lenOf pd_10 rfl) rfl (by show 2 * 0 + _ ≤ _; exact Nat.le_of_eq rfl) (hb hby d27_5) (fun _ _ => ⟨rfl, e116, (by decide : 0 + 0 ≤ _), (by decide : 0 + 0 ≤ _)⟩)
  dsimp only [Pt.U, Pt.locs, Pt.cells, Pt.slots] at X117 l117 y117 z117 st117 hQ117
  subst l117 y117 z117
  obtain ⟨rfl, N117q, eh117⟩ := hQ117
  have N117 := Fr.app N0 N117q
  obtain ⟨cq118, kq118, q118a, q118b, q118c⟩ := isOf hZ eh117 E_x1
  obtain ⟨_, _, ⟨T118, L118, k118, n118⟩, -, X118, ⟨Lc118, hQ118, l118, y118, z118⟩, st118⟩ := X117.virtualBack hx (y := (⟨"java/lang/AbstractStringBuilder", "length", "()I"⟩ : MethodName)) (z := (⟨"java/lang/StringBuilder", "length", "()I"⟩ : MethodName)) hown (mvT hZ (own_wd hw 160 rfl)) (mvT hZ (own_wd hw 161 rfl)) (own_nf (notFace_of_selects (args := #[]) (mvT hZ (own_wd hw 158 rfl))) (a0 := #[]) (mvT hZ (own_wd hw 156 rfl)) rfl) (mvT hZ (own_wd hw 163 rfl)) (mvT hZ (own_wd hw 164 rfl)) (by decide) (backOf (W := 0) (rm29 l Z a0 hw [] x1 (2 : Int32) h0 n0 Z0 O0 E_x1 F_x1_count) hZ (own_wd hw 165 rfl) (own_wd hw 86 rfl) (by decide) (by decide)) q118a q118c (g := (mkF m 10 #[.val (.ref tz), .val (.ref x1), .val .null, .val (.ref x1_value), .unset] [(.ref x1)])) rfl (by rw [hml]; rfl) (Steps.refl _) (argsL := []) (rest := []) (lenOf pd_0 rfl) rfl (by show 2 * 0 + _ ≤ _; exact Nat.le_of_eq rfl) (hb hby d27_10) (fun _ _ => ⟨rfl, eh117, (by decide : 0 + 0 ≤ _), (by decide : 0 + 0 ≤ _)⟩)
  dsimp only [Pt.U, Pt.locs, Pt.cells, Pt.slots] at X118 l118 y118 z118 st118 hQ118
  subst l118 y118 z118
  obtain ⟨rfl, N118q, eh118⟩ := hQ118
  have N118 := Fr.app N117 N118q
  obtain ⟨cq119, kq119, q119a, q119b, q119c⟩ := isOf hZ eh118 E_x1
  obtain ⟨_, _, ⟨T119, L119, k119, n119⟩, -, X119, ⟨Lc119, hQ119, l119, y119, z119⟩, st119⟩ := X118.virtualBack hx (y := (⟨"java/lang/AbstractStringBuilder", "isLatin1", "()Z"⟩ : MethodName)) (z := (⟨"java/lang/AbstractStringBuilder", "isLatin1", "()Z"⟩ : MethodName)) hown (mvT hZ (own_wd hw 168 rfl)) (mvT hZ (own_wd hw 169 rfl)) (notFace_of_selects (args := #[]) (mvT hZ (own_wd hw 171 rfl))) (mvT hZ (own_wd hw 171 rfl)) (mvT hZ (own_wd hw 170 rfl)) (by decide) (backOf (W := 0) (rm31 l Z a0 hw [] x1 st_COMPACT_STRINGS h0 n0 Z0 O0 F_x1_coder S_COMPACT_STRINGS hcomp) hZ (own_wd hw 172 rfl) (own_wd hw 94 rfl) (by decide) (by decide)) q119a q119c (g := (mkF m 16 #[.val (.ref tz), .val (.ref x1), .val .null, .val (.ref x1_value), .val (.int (2 : Int32))] [(.ref x1)])) rfl (by rw [hml]; rfl) (Steps.refl _) (argsL := []) (rest := []) (lenOf pd_11 rfl) rfl (by show 2 * 0 + _ ≤ _; exact Nat.le_of_eq rfl) (hb hby d27_16) (fun _ _ => ⟨rfl, eh118, (by decide : 0 + 0 ≤ _), (by decide : 0 + 0 ≤ _)⟩)
  dsimp only [Pt.U, Pt.locs, Pt.cells, Pt.slots] at X119 l119 y119 z119 st119 hQ119
  subst l119 y119 z119
  obtain ⟨rfl, N119q, eh119⟩ := hQ119
  have N119 := Fr.app N118 N119q
  obtain ⟨T120, h120, X120, e120, W120, st120⟩ := putFN X119 hx hZ hown (own_wd hw 26 rfl) Via.refl eh119 F_u_tz_coder E_tz (Or.inr ⟨(own_wd hw 27 rfl), rfl, hnm⟩) (own_wd hw 2 rfl) (ty := .byte) (v' := (.int (0 : Int32))) (by decide) rfl rfl (g := (mkF m 24 #[.val (.ref tz), .val (.ref x1), .val .null, .val (.ref x1_value), .val (.int (2 : Int32))] [(.int (0 : Int32)), (.ref tz)])) rfl rfl (hb hby d27_24)
  have O120 : Old Z n0 h120 := O0.wr W120 g_tz
  have Z120 : n0 ≤ h120.size := Nat.le_trans Z0 (Keep.of_wr W120).1
  have K120 : Keep h0 h120 [tz] := K0.wr W120 (Or.inl (List.mem_of_getElem? (i := 0) rfl))
  have N120 := Fr.snoc X120 N119 g_tz
  have Fw120 : Fld Z h120 tz "java/lang/String" "coder" "B" (.int (0 : Int32)) := F_u_tz_coder.same W120
  have V121 : Arv Z h120 x1_value kb .byte (16 : Int32) [(.int b0), (.int b1), (.int (0 : Int32)), (.int (0 : Int32)), (.int (0 : Int32)), (.int (0 : Int32)), (.int (0 : Int32)), (.int (0 : Int32)), (.int (0 : Int32)), (.int (0 : Int32)), (.int (0 : Int32)), (.int (0 : Int32)), (.int (0 : Int32)), (.int (0 : Int32)), (.int (0 : Int32)), (.int (0 : Int32))] (.int (0 : Int32)) := (V_x1_value.other W120 (Ne.symm (Exa.neArv E_tz V_x1_value (own_wd hw 2 rfl))))
  obtain ⟨_, _, ⟨T122, L122, k122, n122⟩, -, X122, ⟨Lc122, hQ122, l122, y122, z122⟩, st122⟩ := Jvm.LawKit.callS X120 hx (y := (⟨"java/util/Arrays", "copyOfRange", "([BII)[B"⟩ : MethodName)) hown (mvT hZ (own_wd hw 173 rfl)) (mvT hZ (own_wd hw 174 rfl)) (mvT hZ (own_wd hw 175 rfl)) (mvT hZ (own_wd hw 176 rfl)) (by decide) (backOf (W := 1) (rm32_2 l Z a0 hw [] x1_value b0 b1 kb h120 n0 Z120 O120 V121) hZ (own_wd hw 176 rfl) (own_wd hw 175 rfl) (by decide) (by decide)) (g := (mkF m 32 #[.val (.ref tz), .val (.ref x1), .val .null, .val (.ref x1_value), .val (.int (2 : Int32))] [(.int (2 : Int32)), (.int (0 : Int32)), (.ref x1_value), (.ref tz)])) rfl (by rw [hml]; rfl) (argsL := [(.ref x1_value), (.int (0 : Int32)), (.int (2 : Int32))]) (rest := [(.ref tz)]) (lenOf pd_9 rfl) rfl (by show 2 * 0 + _ ≤ _; exact Nat.le_of_eq rfl) (hb hby d27_32) (fun _ _ => ⟨rfl, e120, (by decide : 0 + 1 ≤ _), (by decide : 0 + 2 ≤ _)⟩)
  dsimp only [Pt.U, Pt.locs, Pt.cells, Pt.slots] at X122 l122 y122 z122 st122 hQ122
  subst l122 y122 z122
  obtain ⟨b_122, kk_122, rfl, N122q, KK122, Q122_0, Q122_1⟩ := hQ122
  have N122 := Fr.app N120 N122q
  have O122 : Old Z n0 T122.heap := O120.keep KK122 all0
  have Z122 : n0 ≤ T122.heap.size := Nat.le_trans Z120 KK122.1
  have K122 : Keep h0 T122.heap [tz] := K120.trans KK122 all0
  have g_b_122 : n0 ≤ b_122 := Nat.le_trans (Nat.le_trans Z0 (Keep.of_wr W120).1) Q122_0
  have sz_b_122 : h0.size ≤ b_122 := Nat.le_trans K120.1 Q122_0
  have C123 : Exa Z T122.heap tz "java/lang/String" := ((E_tz.wr W120).keep KK122)
  have F124 : Fld Z T122.heap tz "java/lang/String" "value" "[B" u_tz_value := ((F_u_tz_value.other W120 (Or.inr (slot_ne (Or.inr (own_wd hw 29 rfl)) (Or.inr (own_wd hw 27 rfl)) (by decide) (t := (.array .byte)) (t' := .byte) (by decide) (by decide)))).keep KK122 nin0)
  obtain ⟨T125, h125, X125, e125, W125, st125⟩ := putF X122 hx hZ hown (host := "") (Or.inl (own_wd hw 28 rfl)) Via.refl rfl F124 C123 (Or.inr ⟨(own_wd hw 29 rfl), rfl, hnm⟩) (own_wd hw 2 rfl) (ty := (.array .byte)) (by decide) rfl rfl (g := (mkF m 35 #[.val (.ref tz), .val (.ref x1), .val .null, .val (.ref x1_value), .val (.int (2 : Int32))] [(.ref b_122), (.ref tz)])) rfl rfl (hb hby d27_35)
  have O125 : Old Z n0 h125 := O122.wr W125 g_tz
  have Z125 : n0 ≤ h125.size := Nat.le_trans Z122 (Keep.of_wr W125).1
  have K125 : Keep h0 h125 [tz] := K122.wr W125 (Or.inl (List.mem_of_getElem? (i := 0) rfl))
  have N125 := Fr.snoc X125 N122 g_tz
  have Fw125 : Fld Z h125 tz "java/lang/String" "value" "[B" (.ref b_122) := F124.same W125
  have C126 : Exa Z h125 tz "java/lang/String" := (C123.wr W125)
  have F127 : Fld Z h125 tz "java/lang/String" "coder" "B" (.int (0 : Int32)) := ((Fw120.keep KK122 nin0).other W125 (Or.inr (slot_ne (Or.inr (own_wd hw 27 rfl)) (Or.inr (own_wd hw 29 rfl)) (by decide) (t := .byte) (t' := (.array .byte)) (by decide) (by decide))))
  have V128 : Arv Z h125 b_122 kk_122 .byte (2 : Int32) [(.int b0), (.int b1)] (.int (0 : Int32)) := (Q122_1.other W125 (Ne.symm (Nat.ne_of_lt (Nat.lt_of_lt_of_le (E_tz.wr W120).lt Q122_0))))
  obtain ⟨fs, hr, hrun, hended, hW, hsame⟩ := X125.leave (v := none) (fun _ => rfl)
  refine ⟨_, _, pre0 _ ?_, hrun, hended, _, _, rfl, ?_, ⟨_, rfl⟩, hW, hsame.mono (by decide) (by decide)⟩
  · show Steps p.tables e below (s₁.setTop (mkF m 0 #[.val (.ref tz), .val (.ref x1), .val .null, .unset, .unset] [])) _
    refine XS.aloadN X0.here hx rfl (hb hby d27_0) rfl rfl ?_
    show Steps p.tables e below (s₁.setTop (mkF m 1 #[.val (.ref tz), .val (.ref x1), .val .null, .unset, .unset] [(.ref tz)])) _
    refine st116 _ ?_
    show Steps p.tables e below (T116.setTop (mkF m 4 #[.val (.ref tz), .val (.ref x1), .val .null, .unset, .unset] [])) _
    refine XS.aloadN X116.here hx rfl (hb hby d27_4) rfl rfl ?_
    show Steps p.tables e below (T116.setTop (mkF m 5 #[.val (.ref tz), .val (.ref x1), .val .null, .unset, .unset] [(.ref x1)])) _
    refine st117.trans ?_
    show Steps p.tables e below (T117.setTop (mkF m 8 #[.val (.ref tz), .val (.ref x1), .val .null, .unset, .unset] [(.ref x1_value)])) _
    refine XS.astoreN X117.here hx rfl (hb hby d27_8) rfl rfl (l' := #[.val (.ref tz), .val (.ref x1), .val .null, .val (.ref x1_value), .unset]) rfl ?_
    refine XS.aloadN X117.here hx rfl (hb hby d27_9) rfl rfl ?_
    show Steps p.tables e below (T117.setTop (mkF m 10 #[.val (.ref tz), .val (.ref x1), .val .null, .val (.ref x1_value), .unset] [(.ref x1)])) _
    refine st118.trans ?_
    show Steps p.tables e below (T118.setTop (mkF m 13 #[.val (.ref tz), .val (.ref x1), .val .null, .val (.ref x1_value), .unset] [(.int (2 : Int32))])) _
    refine XS.istore X118.here hx rfl (hb hby d27_13) rfl (l' := #[.val (.ref tz), .val (.ref x1), .val .null, .val (.ref x1_value), .val (.int (2 : Int32))]) rfl ?_
    refine XS.aloadN X118.here hx rfl (hb hby d27_15) rfl rfl ?_
    show Steps p.tables e below (T118.setTop (mkF m 16 #[.val (.ref tz), .val (.ref x1), .val .null, .val (.ref x1_value), .val (.int (2 : Int32))] [(.ref x1)])) _
    refine st119.trans ?_
    show Steps p.tables e below (T119.setTop (mkF m 19 #[.val (.ref tz), .val (.ref x1), .val .null, .val (.ref x1_value), .val (.int (2 : Int32))] [(.int (1 : Int32))])) _
    refine XS.ifNo X119.here hx rfl (hb hby d27_19) rfl ((if0 _ _).trans (feq (by decide : ¬ ((1 : Int32) = (0 : Int32)))).1) ?_
    refine XS.aloadN X119.here hx rfl (hb hby d27_22) rfl rfl ?_
    refine XS.iconst X119.here hx rfl (hb hby d27_23) ?_
    show Steps p.tables e below (T119.setTop (mkF m 24 #[.val (.ref tz), .val (.ref x1), .val .null, .val (.ref x1_value), .val (.int (2 : Int32))] [(.int (0 : Int32)), (.ref tz)])) _
    refine st120 _ ?_
    show Steps p.tables e below (T120.setTop (mkF m 27 #[.val (.ref tz), .val (.ref x1), .val .null, .val (.ref x1_value), .val (.int (2 : Int32))] [])) _
    refine XS.aloadN X120.here hx rfl (hb hby d27_27) rfl rfl ?_
    refine XS.aloadN X120.here hx rfl (hb hby d27_28) rfl rfl ?_
    refine XS.iconst X120.here hx rfl (hb hby d27_29) ?_
    refine XS.iload X120.here hx rfl (hb hby d27_30) rfl ?_
    show Steps p.tables e below (T120.setTop (mkF m 32 #[.val (.ref tz), .val (.ref x1), .val .null, .val (.ref x1_value), .val (.int (2 : Int32))] [(.int (2 : Int32)), (.int (0 : Int32)), (.ref x1_value), (.ref tz)])) _
    refine st122 _ ?_
    show Steps p.tables e below (T122.setTop (mkF m 35 #[.val (.ref tz), .val (.ref x1), .val .null, .val (.ref x1_value), .val (.int (2 : Int32))] [(.ref b_122), (.ref tz)])) _
    refine st125 _ ?_
    show Steps p.tables e below (T125.setTop (mkF m 38 #[.val (.ref tz), .val (.ref x1), .val .null, .val (.ref x1_value), .val (.int (2 : Int32))] [])) _
    refine XS.goto X125.here hx rfl (pc0 := 38) (pc' := 97) rfl (hb hby d27_38) (by decide) (by decide) ?_
    show Steps p.tables e below (T125.setTop (mkF m 97 #[.val (.ref tz), .val (.ref x1), .val .null, .val (.ref x1_value), .val (.int (2 : Int32))] [])) _
    exact X125.returnOut hx Bd.returns (hb hby d27_97) hr
  · show Q27_2 Z tz x1 x1_value b0 b1 kb st_COMPACT_STRINGS u_tz_coder u_tz_value h0 n0 _ T125.heap _
    rw [e125]
    exact ⟨b_122, kk_122, rfl, N125, K125, sz_b_122, C126, Fw125, F127, V128⟩
theorem d26_0 : decode jdk_42_method_53_code 0 = .ok (.aload_n 0, 1) := by decide +kernel
theorem d26_1 : decode jdk_42_method_53_code 1 = .ok (.aload_n 1, 1) := by decide +kernel
theorem d26_2 : decode jdk_42_method_53_code 2 = .ok (.aconst_null, 1) := by decide +kernel
theorem pd_12 : parseMethodDescriptor "(Ljava/lang/AbstractStringBuilder;Ljava/lang/Void;)V" = some ⟨[(.object "java/lang/AbstractStringBuilder"), (.object "java/lang/Void")], none⟩ := by decide +kernel
theorem d26_3 : decode jdk_42_method_53_code 3 = .ok (.invokespecial 489, 3) := by decide +kernel
theorem d26_6 : decode jdk_42_method_53_code 6 = .ok (.return_, 1) := by decide +kernel
theorem ef26_2 (m : MethodId) (tz : Addr) (x1 : Addr) : entryFrame m #[(.ref tz), (.ref x1)] 2 = mkF m 0 #[.val (.ref tz), .val (.ref x1)] [] := by first | (simp [entryFrame, mkF, argsToLocals, Value.category]; done) | rfl
def Q26_2 (Z : State) (tz : Addr) (x1 : Addr) (x1_value : Addr) (b0 : Int32) (b1 : Int32) (kb : ClassId) (st_COMPACT_STRINGS : Int32) (u_tz_coder : Value) (u_tz_value : Value) (h0 : Heap) (n0 : Nat) (v : Option Value) (h : Heap) (L : List Loc) : Prop := ∃ (b : Addr), ∃ (kk : ClassId), v = none ∧ Fr n0 L ∧ Keep h0 h [tz] ∧ h0.size ≤ b ∧ Exa Z h tz "java/lang/String" ∧ Fld Z h tz "java/lang/String" "value" "[B" (.ref b) ∧ Fld Z h tz "java/lang/String" "coder" "B" (.int (0 : Int32)) ∧ Arv Z h b kk .byte (2 : Int32) [(.int b0), (.int b1)] (.int (0 : Int32))
set_option maxRecDepth 65536 in
set_option maxHeartbeats 40000000 in
theorem rm26_2 (l : Launch) (Z : State) (a0 : Array Value) (hw : ∀ d ∈ tables_1, d.before a0 Z = true) (ws : List Jvm.Cond) (tz : Addr) (x1 : Addr) (x1_value : Addr) (b0 : Int32) (b1 : Int32) (kb : ClassId) (st_COMPACT_STRINGS : Int32) (u_tz_coder : Value) (u_tz_value : Value) (h0 : Heap) (n0 : Nat) (Z0 : n0 ≤ h0.size) (O0 : Old Z n0 h0) (E_tz : Exa Z h0 tz "java/lang/String") (E_x1 : Exa Z h0 x1 "java/lang/StringBuilder") (F_x1_value : Fld Z h0 x1 "java/lang/AbstractStringBuilder" "value" "[B" (.ref x1_value)) (F_x1_coder : Fld Z h0 x1 "java/lang/AbstractStringBuilder" "coder" "B" (.int (0 : Int32))) (F_x1_count : Fld Z h0 x1 "java/lang/AbstractStringBuilder" "count" "I" (.int (2 : Int32))) (V_x1_value : Arv Z h0 x1_value kb .byte (16 : Int32) [(.int b0), (.int b1), (.int (0 : Int32)), (.int (0 : Int32)), (.int (0 : Int32)), (.int (0 : Int32)), (.int (0 : Int32)), (.int (0 : Int32)), (.int (0 : Int32)), (.int (0 : Int32)), (.int (0 : Int32)), (.int (0 : Int32)), (.int (0 : Int32)), (.int (0 : Int32)), (.int (0 : Int32)), (.int (0 : Int32))] (.int (0 : Int32))) (S_COMPACT_STRINGS : Sta Z Z.heap "java/lang/String" "COMPACT_STRINGS" "Z" (.int st_COMPACT_STRINGS)) (hcomp : ¬ (st_COMPACT_STRINGS = (0 : Int32))) (F_u_tz_coder : Fld Z h0 tz "java/lang/String" "coder" "B" u_tz_coder) (F_u_tz_value : Fld Z h0 tz "java/lang/String" "value" "[B" u_tz_value) (g_tz : n0 ≤ tz) :
    MetFree l (⟨"java/lang/String", "<init>", "(Ljava/lang/StringBuilder;)V"⟩ : MethodName) (head1 (Jvm.Cond.code (⟨"java/lang/String", "<init>", "(Ljava/lang/StringBuilder;)V"⟩ : MethodName) jdk_42_method_53_code 2 none :: ws) ({ frames := 4, cells := 1, slots := 2, locals := 65 } : Room)) (fun a U => a = #[(.ref tz), (.ref x1)] ∧ Z.Warmed39 U.vm ∧ U.heap = h0) (fun _ _ _ _ _ => True) (fun _ U o U' => ∃ v L, o = .returned v ∧ Q26_2 Z tz x1 x1_value b0 b1 kb st_COMPACT_STRINGS u_tz_coder u_tz_value h0 n0 v U'.heap L ∧ FrameEnd U o U' L ({ frames := 4, cells := 1, slots := 2, locals := 65 } : Room).cells ({ frames := 4, cells := 1, slots := 2, locals := 65 } : Room).slots) := by
  refine MetFree.of_bodySF (plainFor_of_name pn_java_lang_String) hisR ?_
  intro p e s m args below meth c s₁ Bd hml0 hP hK
  obtain ⟨rfl, hZ, hh⟩ := hP
  have hx := Bd.exec
  have hby := Bd.bytes
  have hml : c.maxLocals = 2 := hml0
  have hown : s.vm.findClass "java/lang/String" = some m.cls := findClass_of_methodNamed Bd.named
  have hnm := (name_of_methodNamed Bd.named Bd.method).1
  have X0 : Stand p l e ({ frames := 4, cells := 1, slots := 2, locals := 65 } : Room) s m #[(.ref tz), (.ref x1)] below meth c s₁ [] 0 0 := Stand.of_body Bd
  have e0 : s₁.heap = h0 := by rw [← hh, Bd.state]; rfl
  have N0 := Fr.nil n0
  have K0 : Keep h0 h0 [tz] := Keep.refl _ _
  have pre0 : ∀ t, Steps p.tables e below (s₁.setTop (mkF m 0 #[.val (.ref tz), .val (.ref x1)] [])) t → Steps p.tables e below (s₁.setTop (entryFrame m #[(.ref tz), (.ref x1)] 2)) t := fun t k => castTop (ef26_2 m tz x1) k
  obtain ⟨_, _, ⟨T129, L129, k129, n129⟩, -, X129, ⟨Lc129, hQ129, l129, y129, z129⟩, st129⟩ := X0.specialBack hx (y := (⟨"java/lang/String", "<init>", "(Ljava/lang/AbstractStringBuilder;Ljava/lang/Void;)V"⟩ : MethodName)) rfl hown (mvT hZ (own_wd hw 152 rfl)) (mvT hZ (own_wd hw 153 rfl)) (mvT hZ (own_wd hw 154 rfl)) (by decide) (backOf (W := 0) (rm27_2 l Z a0 hw [] tz x1 x1_value b0 b1 kb st_COMPACT_STRINGS u_tz_coder u_tz_value h0 n0 Z0 O0 E_tz E_x1 F_x1_value F_x1_coder F_x1_count V_x1_value S_COMPACT_STRINGS hcomp F_u_tz_coder g_tz F_u_tz_value) hZ (own_wd hw 154 rfl) (own_wd hw 3 rfl) (by decide) (by decide)) (g := (mkF m 3 #[.val (.ref tz), .val (.ref x1)] [.null, (.ref x1), (.ref tz)])) rfl (by rw [hml]; rfl) (Steps.refl _) (a := tz) (argsL := [(.ref x1), .null]) (rest := []) (lenOf pd_12 rfl) rfl (by show 2 * 0 + _ ≤ _; exact Nat.le_of_eq rfl) (hb hby d26_3) (fun _ _ => ⟨rfl, e0, (by decide : 0 + 1 ≤ _), (by decide : 0 + 2 ≤ _)⟩)
  dsimp only [Pt.U, Pt.locs, Pt.cells, Pt.slots] at X129 l129 y129 z129 st129 hQ129
  subst l129 y129 z129
  obtain ⟨b_129, kk_129, rfl, N129q, KK129, Q129_0, Q129_1, Q129_2, Q129_3, Q129_4⟩ := hQ129
  have N129 := Fr.app N0 N129q
  have O129 : Old Z n0 T129.heap := O0.keep KK129 (allS g_tz all0)
  have Z129 : n0 ≤ T129.heap.size := Nat.le_trans Z0 KK129.1
  have K129 : Keep h0 T129.heap [tz] := K0.trans KK129 (allS (Or.inl (List.mem_of_getElem? (i := 0) rfl)) all0)
  have g_b_129 : n0 ≤ b_129 := Nat.le_trans Z0 Q129_0
  have sz_b_129 : h0.size ≤ b_129 := Nat.le_trans K0.1 Q129_0
  obtain ⟨fs, hr, hrun, hended, hW, hsame⟩ := X129.leave (v := none) (fun _ => rfl)
  refine ⟨_, _, pre0 _ ?_, hrun, hended, _, _, rfl, ?_, ⟨_, rfl⟩, hW, hsame.mono (by decide) (by decide)⟩
  · show Steps p.tables e below (s₁.setTop (mkF m 0 #[.val (.ref tz), .val (.ref x1)] [])) _
    refine XS.aloadN X0.here hx rfl (hb hby d26_0) rfl rfl ?_
    refine XS.aloadN X0.here hx rfl (hb hby d26_1) rfl rfl ?_
    refine XS.aconstNull X0.here hx rfl (hb hby d26_2) ?_
    show Steps p.tables e below (s₁.setTop (mkF m 3 #[.val (.ref tz), .val (.ref x1)] [.null, (.ref x1), (.ref tz)])) _
    refine st129.trans ?_
    show Steps p.tables e below (T129.setTop (mkF m 6 #[.val (.ref tz), .val (.ref x1)] [])) _
    exact X129.returnOut hx Bd.returns (hb hby d26_6) hr
  · show Q26_2 Z tz x1 x1_value b0 b1 kb st_COMPACT_STRINGS u_tz_coder u_tz_value h0 n0 _ T129.heap _
    exact ⟨b_129, kk_129, rfl, N129, K129, sz_b_129, Q129_1, Q129_2, Q129_3, Q129_4⟩
theorem d25_0 : decode jdk_67_method_42_code 0 = .ok (.new 18, 3) := by decide +kernel
theorem d25_3 : decode jdk_67_method_42_code 3 = .ok (.dup, 1) := by decide +kernel
theorem d25_4 : decode jdk_67_method_42_code 4 = .ok (.aload_n 0, 1) := by decide +kernel
theorem pd_13 : parseMethodDescriptor "(Ljava/lang/StringBuilder;)V" = some ⟨[(.object "java/lang/StringBuilder")], none⟩ := by decide +kernel
theorem d25_5 : decode jdk_67_method_42_code 5 = .ok (.invokespecial 137, 3) := by decide +kernel
theorem d25_8 : decode jdk_67_method_42_code 8 = .ok (.areturn, 1) := by decide +kernel
theorem ef25_2 (m : MethodId) (tz : Addr) : entryFrame m #[(.ref tz)] 1 = mkF m 0 #[.val (.ref tz)] [] := by first | (simp [entryFrame, mkF, argsToLocals, Value.category]; done) | rfl
def Q25_2 (Z : State) (tz : Addr) (tz_value : Addr) (b0 : Int32) (b1 : Int32) (kb : ClassId) (st_COMPACT_STRINGS : Int32) (h0 : Heap) (n0 : Nat) (v : Option Value) (h : Heap) (L : List Loc) : Prop := ∃ (b : Addr), ∃ (t : Addr), ∃ (kk : ClassId), v = some (.ref b) ∧ Fr n0 L ∧ Keep h0 h [] ∧ h0.size ≤ b ∧ h0.size ≤ t ∧ Exa Z h b "java/lang/String" ∧ Fld Z h b "java/lang/String" "value" "[B" (.ref t) ∧ Fld Z h b "java/lang/String" "coder" "B" (.int (0 : Int32)) ∧ Arv Z h t kk .byte (2 : Int32) [(.int b0), (.int b1)] (.int (0 : Int32))
set_option maxRecDepth 65536 in
set_option maxHeartbeats 40000000 in
theorem rm25_2 (l : Launch) (Z : State) (a0 : Array Value) (hw : ∀ d ∈ tables_1, d.before a0 Z = true) (ws : List Jvm.Cond) (tz : Addr) (tz_value : Addr) (b0 : Int32) (b1 : Int32) (kb : ClassId) (st_COMPACT_STRINGS : Int32) (h0 : Heap) (n0 : Nat) (Z0 : n0 ≤ h0.size) (O0 : Old Z n0 h0) (E_tz : Exa Z h0 tz "java/lang/StringBuilder") (F_tz_value : Fld Z h0 tz "java/lang/AbstractStringBuilder" "value" "[B" (.ref tz_value)) (F_tz_coder : Fld Z h0 tz "java/lang/AbstractStringBuilder" "coder" "B" (.int (0 : Int32))) (F_tz_count : Fld Z h0 tz "java/lang/AbstractStringBuilder" "count" "I" (.int (2 : Int32))) (V_tz_value : Arv Z h0 tz_value kb .byte (16 : Int32) [(.int b0), (.int b1), (.int (0 : Int32)), (.int (0 : Int32)), (.int (0 : Int32)), (.int (0 : Int32)), (.int (0 : Int32)), (.int (0 : Int32)), (.int (0 : Int32)), (.int (0 : Int32)), (.int (0 : Int32)), (.int (0 : Int32)), (.int (0 : Int32)), (.int (0 : Int32)), (.int (0 : Int32)), (.int (0 : Int32))] (.int (0 : Int32))) (S_COMPACT_STRINGS : Sta Z Z.heap "java/lang/String" "COMPACT_STRINGS" "Z" (.int st_COMPACT_STRINGS)) (hcomp : ¬ (st_COMPACT_STRINGS = (0 : Int32))) :
    MetFree l (⟨"java/lang/StringBuilder", "toString", "()Ljava/lang/String;"⟩ : MethodName) (head1 (Jvm.Cond.code (⟨"java/lang/StringBuilder", "toString", "()Ljava/lang/String;"⟩ : MethodName) jdk_67_method_42_code 1 (some (.object "java/lang/String")) :: ws) ({ frames := 5, cells := 2, slots := 6, locals := 79 } : Room)) (fun a U => a = #[(.ref tz)] ∧ Z.Warmed39 U.vm ∧ U.heap = h0) (fun _ _ _ _ _ => True) (fun _ U o U' => ∃ v L, o = .returned v ∧ Q25_2 Z tz tz_value b0 b1 kb st_COMPACT_STRINGS h0 n0 v U'.heap L ∧ FrameEnd U o U' L ({ frames := 5, cells := 2, slots := 6, locals := 79 } : Room).cells ({ frames := 5, cells := 2, slots := 6, locals := 79 } : Room).slots) := by
  refine MetFree.of_bodySF (plainFor_of_name pn_java_lang_StringBuilder) hisR ?_
  intro p e s m args below meth c s₁ Bd hml0 hP hK
  obtain ⟨rfl, hZ, hh⟩ := hP
  have hx := Bd.exec
  have hby := Bd.bytes
  have hml : c.maxLocals = 1 := hml0
  have hown : s.vm.findClass "java/lang/StringBuilder" = some m.cls := findClass_of_methodNamed Bd.named
  have hnm := (name_of_methodNamed Bd.named Bd.method).1
  have X0 : Stand p l e ({ frames := 5, cells := 2, slots := 6, locals := 79 } : Room) s m #[(.ref tz)] below meth c s₁ [] 0 0 := Stand.of_body Bd
  have e0 : s₁.heap = h0 := by rw [← hh, Bd.state]; rfl
  have N0 := Fr.nil n0
  have K0 : Keep h0 h0 [] := Keep.refl _ _
  have pre0 : ∀ t, Steps p.tables e below (s₁.setTop (mkF m 0 #[.val (.ref tz)] [])) t → Steps p.tables e below (s₁.setTop (entryFrame m #[(.ref tz)] 1)) t := fun t k => castTop (ef25_2 m tz) k
  obtain ⟨T130, h130, X130, e130, E130, A130, D130, U130, st130⟩ := newO X0 hx hZ hown (own_wd hw 148 rfl) (own_wd hw 2 rfl) (own_wd hw 3 rfl) e0 (g := (mkF m 0 #[.val (.ref tz)] [])) rfl (hb hby d25_0) (by decide) (by decide)
  obtain ⟨b130, g130⟩ : ∃ z, z = h0.size := ⟨_, rfl⟩
  rw [← g130] at A130 D130 st130
  have O130 : Old Z n0 h130 := O0.ext E130
  have Z130 : n0 ≤ h130.size := Nat.le_trans Z0 E130.1
  have K130 : Keep h0 h130 [] := K0.ext E130
  have g_b130 : n0 ≤ b130 := Nat.le_trans Z0 (Nat.le_of_eq g130.symm)
  have sz_b130 : h0.size ≤ b130 := Nat.le_trans K0.1 (Nat.le_of_eq g130.symm)
  have F_b130_coder : Fld Z h130 b130 "java/lang/String" "coder" "B" (.int (0 : Int32)) := D130 (Or.inr (own_wd hw 27 rfl)) (ty := .byte) (by decide)
  have F_b130_value : Fld Z h130 b130 "java/lang/String" "value" "[B" .null := D130 (Or.inr (own_wd hw 29 rfl)) (ty := (.array .byte)) (by decide)
  have F131 : Fld Z h130 tz "java/lang/AbstractStringBuilder" "value" "[B" (.ref tz_value) := (F_tz_value.ext E130)
  have F132 : Fld Z h130 tz "java/lang/AbstractStringBuilder" "coder" "B" (.int (0 : Int32)) := (F_tz_coder.ext E130)
  have F133 : Fld Z h130 tz "java/lang/AbstractStringBuilder" "count" "I" (.int (2 : Int32)) := (F_tz_count.ext E130)
  have C134 : Exa Z h130 tz "java/lang/StringBuilder" := (E_tz.ext E130)
  have V135 : Arv Z h130 tz_value kb .byte (16 : Int32) [(.int b0), (.int b1), (.int (0 : Int32)), (.int (0 : Int32)), (.int (0 : Int32)), (.int (0 : Int32)), (.int (0 : Int32)), (.int (0 : Int32)), (.int (0 : Int32)), (.int (0 : Int32)), (.int (0 : Int32)), (.int (0 : Int32)), (.int (0 : Int32)), (.int (0 : Int32)), (.int (0 : Int32)), (.int (0 : Int32))] (.int (0 : Int32)) := (V_tz_value.ext E130)
  obtain ⟨_, _, ⟨T136, L136, k136, n136⟩, -, X136, ⟨Lc136, hQ136, l136, y136, z136⟩, st136⟩ := X130.specialBack hx (y := (⟨"java/lang/String", "<init>", "(Ljava/lang/StringBuilder;)V"⟩ : MethodName)) rfl hown (mvT hZ (own_wd hw 149 rfl)) (mvT hZ (own_wd hw 150 rfl)) (mvT hZ (own_wd hw 151 rfl)) (by decide) (backOf (W := 1) (rm26_2 l Z a0 hw [] b130 tz tz_value b0 b1 kb st_COMPACT_STRINGS (.int (0 : Int32)) .null h130 n0 Z130 O130 A130 C134 F131 F132 F133 V135 S_COMPACT_STRINGS hcomp F_b130_coder F_b130_value g_b130) hZ (own_wd hw 151 rfl) (own_wd hw 3 rfl) (by decide) (by decide)) (g := (mkF m 5 #[.val (.ref tz)] [(.ref tz), (.ref b130), (.ref b130)])) rfl (by rw [hml]; rfl) (Steps.refl _) (a := b130) (argsL := [(.ref tz)]) (rest := [(.ref b130)]) (lenOf pd_13 rfl) rfl (by show 2 * 0 + _ ≤ _; exact Nat.le_of_eq rfl) (hb hby d25_5) (fun _ _ => ⟨rfl, e130, (by decide : 1 + 1 ≤ _), (by decide : 4 + 2 ≤ _)⟩)
  dsimp only [Pt.U, Pt.locs, Pt.cells, Pt.slots] at X136 l136 y136 z136 st136 hQ136
  subst l136 y136 z136
  obtain ⟨b_136, kk_136, rfl, N136q, KK136, Q136_0, Q136_1, Q136_2, Q136_3, Q136_4⟩ := hQ136
  have N136 := Fr.app N0 N136q
  have O136 : Old Z n0 T136.heap := O130.keep KK136 (allS g_b130 all0)
  have Z136 : n0 ≤ T136.heap.size := Nat.le_trans Z130 KK136.1
  have K136 : Keep h0 T136.heap [] := K130.trans KK136 (allS (Or.inr sz_b130) all0)
  have g_b_136 : n0 ≤ b_136 := Nat.le_trans (Nat.le_trans Z0 E130.1) Q136_0
  have sz_b_136 : h0.size ≤ b_136 := Nat.le_trans K130.1 Q136_0
  obtain ⟨fs, hr, hrun, hended, hW, hsame⟩ := X136.leave (v := some (.ref b130)) (fun h => by rw [Bd.returns] at h; cases h)
  refine ⟨_, _, pre0 _ ?_, hrun, hended, _, _, rfl, ?_, ⟨_, rfl⟩, hW, hsame.mono (by decide) (by decide)⟩
  · show Steps p.tables e below (s₁.setTop (mkF m 0 #[.val (.ref tz)] [])) _
    refine st130 _ ?_
    show Steps p.tables e below (T130.setTop (mkF m 3 #[.val (.ref tz)] [(.ref b130)])) _
    refine XS.dup X130.here hx rfl (hb hby d25_3) rfl rfl ?_
    refine XS.aloadN X130.here hx rfl (hb hby d25_4) rfl rfl ?_
    show Steps p.tables e below (T130.setTop (mkF m 5 #[.val (.ref tz)] [(.ref tz), (.ref b130), (.ref b130)])) _
    refine st136.trans ?_
    show Steps p.tables e below (T136.setTop (mkF m 8 #[.val (.ref tz)] [(.ref b130)])) _
    jvm_step X136.here [X136.here.top, hx, (hb hby d25_8), X136.method', Bd.returns, Value.isRef, FieldType.isReference]
    first | (intro acts; rw [hr _ acts rfl rfl rfl]) | rw [hr _ _ rfl rfl rfl]
    exact Steps.refl _
  · show Q25_2 Z tz tz_value b0 b1 kb st_COMPACT_STRINGS h0 n0 _ T136.heap _
    exact ⟨b130, b_136, kk_136, rfl, N136, K136, sz_b130, sz_b_136, Q136_1, Q136_2, Q136_3, Q136_4⟩
theorem ef33_3 (m : MethodId) (x1 : Addr) : entryFrame m #[(.ref x1), (.int (0 : Int32)), (.int (3 : Int32))] 5 = mkF m 0 #[.val (.ref x1), .val (.int (0 : Int32)), .val (.int (3 : Int32)), .unset, .unset] [] := by first | (simp [entryFrame, mkF, argsToLocals, Value.category]; done) | rfl
def Q33_3 (Z : State) (x1 : Addr) (b0 : Int32) (b1 : Int32) (b2 : Int32) (kb : ClassId) (h0 : Heap) (n0 : Nat) (v : Option Value) (h : Heap) (L : List Loc) : Prop := ∃ (b : Addr), ∃ (kk : ClassId), v = some (.ref b) ∧ Fr n0 L ∧ Keep h0 h [] ∧ h0.size ≤ b ∧ Arv Z h b kk .byte (3 : Int32) [(.int b0), (.int b1), (.int b2)] (.int (0 : Int32))
set_option maxRecDepth 65536 in
set_option maxHeartbeats 40000000 in
theorem rm33_3 (l : Launch) (Z : State) (a0 : Array Value) (hw : ∀ d ∈ tables_1, d.before a0 Z = true) (ws : List Jvm.Cond) (x1 : Addr) (b0 : Int32) (b1 : Int32) (b2 : Int32) (kb : ClassId) (h0 : Heap) (n0 : Nat) (Z0 : n0 ≤ h0.size) (O0 : Old Z n0 h0) (V_x1 : Arv Z h0 x1 kb .byte (16 : Int32) [(.int b0), (.int b1), (.int b2), (.int (0 : Int32)), (.int (0 : Int32)), (.int (0 : Int32)), (.int (0 : Int32)), (.int (0 : Int32)), (.int (0 : Int32)), (.int (0 : Int32)), (.int (0 : Int32)), (.int (0 : Int32)), (.int (0 : Int32)), (.int (0 : Int32)), (.int (0 : Int32)), (.int (0 : Int32))] (.int (0 : Int32))) :
    MetFree l (⟨"java/util/Arrays", "copyOfRangeByte", "([BII)[B"⟩ : MethodName) (head1 (Jvm.Cond.code (⟨"java/util/Arrays", "copyOfRangeByte", "([BII)[B"⟩ : MethodName) jdk_65_method_133_code 5 (some (.array .byte)) :: ws) ({ frames := 1, cells := 1, slots := 3, locals := 18 } : Room)) (fun a U => a = #[(.ref x1), (.int (0 : Int32)), (.int (3 : Int32))] ∧ Z.Warmed39 U.vm ∧ U.heap = h0) (fun _ _ _ _ _ => True) (fun _ U o U' => ∃ v L, o = .returned v ∧ Q33_3 Z x1 b0 b1 b2 kb h0 n0 v U'.heap L ∧ FrameEnd U o U' L ({ frames := 1, cells := 1, slots := 3, locals := 18 } : Room).cells ({ frames := 1, cells := 1, slots := 3, locals := 18 } : Room).slots) := by
  refine MetFree.of_bodySF (plainFor_of_name pn_java_util_Arrays) hisR ?_
  intro p e s m args below meth c s₁ Bd hml0 hP hK
  obtain ⟨rfl, hZ, hh⟩ := hP
  have hx := Bd.exec
  have hby := Bd.bytes
  have hml : c.maxLocals = 5 := hml0
  have hown : s.vm.findClass "java/util/Arrays" = some m.cls := findClass_of_methodNamed Bd.named
  have hnm := (name_of_methodNamed Bd.named Bd.method).1
  have X0 : Stand p l e ({ frames := 1, cells := 1, slots := 3, locals := 18 } : Room) s m #[(.ref x1), (.int (0 : Int32)), (.int (3 : Int32))] below meth c s₁ [] 0 0 := Stand.of_body Bd
  have e0 : s₁.heap = h0 := by rw [← hh, Bd.state]; rfl
  have N0 := Fr.nil n0
  have K0 : Keep h0 h0 [] := Keep.refl _ _
  have pre0 : ∀ t, Steps p.tables e below (s₁.setTop (mkF m 0 #[.val (.ref x1), .val (.int (0 : Int32)), .val (.int (3 : Int32)), .unset, .unset] [])) t → Steps p.tables e below (s₁.setTop (entryFrame m #[(.ref x1), (.int (0 : Int32)), (.int (3 : Int32))] 5)) t := fun t k => castTop (ef33_3 m x1) k
  have pp137 : ¬ ((3 : Int32) < (0 : Int32)) := by decide
  obtain ⟨_, _, ⟨T138, L138, k138, n138⟩, -, X138, ⟨Lc138, hQ138, l138, y138, z138⟩, st138⟩ := Jvm.LawKit.callS X0 hx (y := (⟨"java/util/Arrays", "checkLength", "(II)V"⟩ : MethodName)) hown (mvT hZ (own_wd hw 180 rfl)) (mvT hZ (own_wd hw 181 rfl)) (mvT hZ (own_wd hw 175 rfl)) (mvT hZ (own_wd hw 182 rfl)) (by decide) (backOf (W := 0) (rm34 l Z a0 hw [] (0 : Int32) (3 : Int32) h0 n0 Z0 O0 pp137) hZ (own_wd hw 182 rfl) (own_wd hw 175 rfl) (by decide) (by decide)) (g := (mkF m 2 #[.val (.ref x1), .val (.int (0 : Int32)), .val (.int (3 : Int32)), .unset, .unset] [(.int (3 : Int32)), (.int (0 : Int32))])) rfl (by rw [hml]; rfl) (argsL := [(.int (0 : Int32)), (.int (3 : Int32))]) (rest := []) (lenOf pd_7 rfl) rfl (by show 2 * 0 + _ ≤ _; exact Nat.le_of_eq rfl) (hb hby d33_2) (fun _ _ => ⟨rfl, e0, (by decide : 0 + 0 ≤ _), (by decide : 0 + 0 ≤ _)⟩)
  dsimp only [Pt.U, Pt.locs, Pt.cells, Pt.slots] at X138 l138 y138 z138 st138 hQ138
  subst l138 y138 z138
  obtain ⟨rfl, N138q, eh138⟩ := hQ138
  have N138 := Fr.app N0 N138q
  obtain ⟨T139, h139, k139, X139, e139, E139, A139, st139⟩ := newP X138 hx hZ (own_wd hw 19 rfl) eh138 (g := (mkF m 10 #[.val (.ref x1), .val (.int (0 : Int32)), .val (.int (3 : Int32)), .val (.int ((3 : Int32) - (0 : Int32))), .unset] [(.int ((3 : Int32) - (0 : Int32)))])) rfl (hb hby d33_10) rfl (by decide) (cap := 3) (by decide) (by decide) (by decide) (by decide)
  obtain ⟨b139, g139⟩ : ∃ z, z = h0.size := ⟨_, rfl⟩
  rw [← g139] at A139 st139
  have O139 : Old Z n0 h139 := O0.ext E139
  have Z139 : n0 ≤ h139.size := Nat.le_trans Z0 E139.1
  have K139 : Keep h0 h139 [] := K0.ext E139
  have g_b139 : n0 ≤ b139 := Nat.le_trans Z0 (Nat.le_of_eq g139.symm)
  have sz_b139 : h0.size ≤ b139 := Nat.le_trans K0.1 (Nat.le_of_eq g139.symm)
  have V139 : Arv Z h139 b139 k139 .byte ((3 : Int32) - (0 : Int32)) [(.int (0 : Int32)), (.int (0 : Int32)), (.int (0 : Int32))] (.int (0 : Int32)) := (Arv.new A139 (by decide)).pad (pad_rep [] (.int (0 : Int32)) 3)
  have V140 : Arv Z h139 x1 kb .byte (16 : Int32) [(.int b0), (.int b1), (.int b2), (.int (0 : Int32)), (.int (0 : Int32)), (.int (0 : Int32)), (.int (0 : Int32)), (.int (0 : Int32)), (.int (0 : Int32)), (.int (0 : Int32)), (.int (0 : Int32)), (.int (0 : Int32)), (.int (0 : Int32)), (.int (0 : Int32)), (.int (0 : Int32)), (.int (0 : Int32))] (.int (0 : Int32)) := (V_x1.ext E139)
  obtain ⟨cl_a141, Ar_a141, -, S_a141, N_a141, -, -⟩ := id V140
  have pp142 : ((3 : Int32) - (0 : Int32)) < ((16 : Int32) - (0 : Int32)) := by decide
  obtain ⟨_, _, ⟨T143, L143, k143, n143⟩, -, X143, ⟨Lc143, hQ143, l143, y143, z143⟩, st143⟩ := Jvm.LawKit.callS X139 hx (y := (⟨"java/lang/Math", "min", "(II)I"⟩ : MethodName)) hown (mvT hZ (own_wd hw 183 rfl)) (mvT hZ (own_wd hw 184 rfl)) (mvT hZ (own_wd hw 185 rfl)) (mvT hZ (own_wd hw 186 rfl)) (by decide) (backOf (W := 4) (rm35 l Z a0 hw [] ((16 : Int32) - (0 : Int32)) ((3 : Int32) - (0 : Int32)) h139 n0 Z139 O139 pp142) hZ (own_wd hw 186 rfl) (own_wd hw 185 rfl) (by decide) (by decide)) (g := (mkF m 24 #[.val (.ref x1), .val (.int (0 : Int32)), .val (.int (3 : Int32)), .val (.int ((3 : Int32) - (0 : Int32))), .val (.ref b139)] [(.int ((3 : Int32) - (0 : Int32))), (.int ((16 : Int32) - (0 : Int32))), (.int (0 : Int32)), (.ref b139), (.int (0 : Int32)), (.ref x1)])) rfl (by rw [hml]; rfl) (argsL := [(.int ((16 : Int32) - (0 : Int32))), (.int ((3 : Int32) - (0 : Int32)))]) (rest := [(.int (0 : Int32)), (.ref b139), (.int (0 : Int32)), (.ref x1)]) (lenOf pd_8 rfl) rfl (by show 2 * 0 + _ ≤ _; exact Nat.le_of_eq rfl) (hb hby d33_24) (fun _ _ => ⟨rfl, e139, (by decide : 1 + 0 ≤ _), (by decide : 3 + 0 ≤ _)⟩)
  dsimp only [Pt.U, Pt.locs, Pt.cells, Pt.slots] at X143 l143 y143 z143 st143 hQ143
  subst l143 y143 z143
  obtain ⟨rfl, N143q, eh143⟩ := hQ143
  have N143 := Fr.app N138 N143q
  obtain ⟨T144, h144, L144, X144, e144, N144, KK144, A144, st144⟩ := cpA X143 hx hZ hown (own_wd hw 187 rfl) (own_wd hw 139 rfl) (own_wd hw 137 rfl) (own_wd hw 138 rfl) eh143 (us := [(.int b0), (.int b1), (.int b2)]) V140 V139 (Or.inl ⟨rfl, rfl⟩) (by first | decide | exact Nat.le_of_ble_eq_true rfl) (by first | decide | exact Nat.le_of_ble_eq_true rfl) (by first | decide | exact Nat.le_of_ble_eq_true rfl) (by first | decide | exact Nat.le_of_ble_eq_true rfl) (by first | decide | exact Nat.le_of_ble_eq_true rfl) rfl (by first | decide | exact Nat.le_of_ble_eq_true rfl) N143 g_b139 (g := (mkF m 27 #[.val (.ref x1), .val (.int (0 : Int32)), .val (.int (3 : Int32)), .val (.int ((3 : Int32) - (0 : Int32))), .val (.ref b139)] [(.int ((3 : Int32) - (0 : Int32))), (.int (0 : Int32)), (.ref b139), (.int (0 : Int32)), (.ref x1)])) rfl (by rw [hml]; rfl) rfl (hb hby d33_27) (by decide) (W := 0) (by show 2 * 0 + _ ≤ _; exact Nat.le_of_eq rfl) (by decide)
  have O144 : Old Z n0 h144 := O139.keep KK144 (allS g_b139 all0)
  have Z144 : n0 ≤ h144.size := Nat.le_trans Z139 KK144.1
  have K144 : Keep h0 h144 [] := K139.trans KK144 (allS (Or.inr sz_b139) all0)
  have V144 : Arv Z h144 b139 k139 .byte ((3 : Int32) - (0 : Int32)) [(.int b0), (.int b1), (.int b2)] (.int (0 : Int32)) := A144
  obtain ⟨fs, hr, hrun, hended, hW, hsame⟩ := X144.leave (v := some (.ref b139)) (fun h => by rw [Bd.returns] at h; cases h)
  refine ⟨_, _, pre0 _ ?_, hrun, hended, _, _, rfl, ?_, ⟨_, rfl⟩, hW, hsame.mono (by decide) (by decide)⟩
  · show Steps p.tables e below (s₁.setTop (mkF m 0 #[.val (.ref x1), .val (.int (0 : Int32)), .val (.int (3 : Int32)), .unset, .unset] [])) _
    refine XS.iloadN X0.here hx rfl (hb hby d33_0) rfl ?_
    refine XS.iloadN X0.here hx rfl (hb hby d33_1) rfl ?_
    show Steps p.tables e below (s₁.setTop (mkF m 2 #[.val (.ref x1), .val (.int (0 : Int32)), .val (.int (3 : Int32)), .unset, .unset] [(.int (3 : Int32)), (.int (0 : Int32))])) _
    refine st138 _ ?_
    show Steps p.tables e below (T138.setTop (mkF m 5 #[.val (.ref x1), .val (.int (0 : Int32)), .val (.int (3 : Int32)), .unset, .unset] [])) _
    refine XS.iloadN X138.here hx rfl (hb hby d33_5) rfl ?_
    refine XS.iloadN X138.here hx rfl (hb hby d33_6) rfl ?_
    refine XS.isub X138.here hx rfl (hb hby d33_7) rfl ?_
    refine XS.istoreN X138.here hx rfl (hb hby d33_8) rfl (l' := #[.val (.ref x1), .val (.int (0 : Int32)), .val (.int (3 : Int32)), .val (.int ((3 : Int32) - (0 : Int32))), .unset]) rfl ?_
    refine XS.iloadN X138.here hx rfl (hb hby d33_9) rfl ?_
    show Steps p.tables e below (T138.setTop (mkF m 10 #[.val (.ref x1), .val (.int (0 : Int32)), .val (.int (3 : Int32)), .val (.int ((3 : Int32) - (0 : Int32))), .unset] [(.int ((3 : Int32) - (0 : Int32)))])) _
    refine st139 _ ?_
    show Steps p.tables e below (T139.setTop (mkF m 12 #[.val (.ref x1), .val (.int (0 : Int32)), .val (.int (3 : Int32)), .val (.int ((3 : Int32) - (0 : Int32))), .unset] [(.ref b139)])) _
    refine XS.astore X139.here hx rfl (hb hby d33_12) rfl rfl (l' := #[.val (.ref x1), .val (.int (0 : Int32)), .val (.int (3 : Int32)), .val (.int ((3 : Int32) - (0 : Int32))), .val (.ref b139)]) rfl ?_
    refine XS.aloadN X139.here hx rfl (hb hby d33_14) rfl rfl ?_
    refine XS.iloadN X139.here hx rfl (hb hby d33_15) rfl ?_
    refine XS.aload X139.here hx rfl (hb hby d33_16) rfl rfl ?_
    refine XS.iconst X139.here hx rfl (hb hby d33_18) ?_
    refine XS.aloadN X139.here hx rfl (hb hby d33_19) rfl rfl ?_
    show Steps p.tables e below (T139.setTop (mkF m 20 #[.val (.ref x1), .val (.int (0 : Int32)), .val (.int (3 : Int32)), .val (.int ((3 : Int32) - (0 : Int32))), .val (.ref b139)] [(.ref x1), (.int (0 : Int32)), (.ref b139), (.int (0 : Int32)), (.ref x1)])) _
    refine X139.arraylength hx (by rw [e139]; exact Ar_a141.1) (State.isArrayOf_alike hZ.alike Ar_a141.2.1) (g := (mkF m 20 #[.val (.ref x1), .val (.int (0 : Int32)), .val (.int (3 : Int32)), .val (.int ((3 : Int32) - (0 : Int32))), .val (.ref b139)] [(.ref x1), (.int (0 : Int32)), (.ref b139), (.int (0 : Int32)), (.ref x1)])) rfl rfl (hb hby d33_20) _ ?_
    rw [len_of S_a141 N_a141]
    refine XS.iloadN X139.here hx rfl (hb hby d33_21) rfl ?_
    refine XS.isub X139.here hx rfl (hb hby d33_22) rfl ?_
    refine XS.iloadN X139.here hx rfl (hb hby d33_23) rfl ?_
    show Steps p.tables e below (T139.setTop (mkF m 24 #[.val (.ref x1), .val (.int (0 : Int32)), .val (.int (3 : Int32)), .val (.int ((3 : Int32) - (0 : Int32))), .val (.ref b139)] [(.int ((3 : Int32) - (0 : Int32))), (.int ((16 : Int32) - (0 : Int32))), (.int (0 : Int32)), (.ref b139), (.int (0 : Int32)), (.ref x1)])) _
    refine st143 _ ?_
    show Steps p.tables e below (T143.setTop (mkF m 27 #[.val (.ref x1), .val (.int (0 : Int32)), .val (.int (3 : Int32)), .val (.int ((3 : Int32) - (0 : Int32))), .val (.ref b139)] [(.int ((3 : Int32) - (0 : Int32))), (.int (0 : Int32)), (.ref b139), (.int (0 : Int32)), (.ref x1)])) _
    refine st144 _ ?_
    show Steps p.tables e below (T144.setTop (mkF m 30 #[.val (.ref x1), .val (.int (0 : Int32)), .val (.int (3 : Int32)), .val (.int ((3 : Int32) - (0 : Int32))), .val (.ref b139)] [])) _
    refine XS.aload X144.here hx rfl (hb hby d33_30) rfl rfl ?_
    show Steps p.tables e below (T144.setTop (mkF m 32 #[.val (.ref x1), .val (.int (0 : Int32)), .val (.int (3 : Int32)), .val (.int ((3 : Int32) - (0 : Int32))), .val (.ref b139)] [(.ref b139)])) _
    jvm_step X144.here [X144.here.top, hx, (hb hby d33_32), X144.method', Bd.returns, Value.isRef, FieldType.isReference]
    first | (intro acts; rw [hr _ acts rfl rfl rfl]) | rw [hr _ _ rfl rfl rfl]
    exact Steps.refl _
  · show Q33_3 Z x1 b0 b1 b2 kb h0 n0 _ T144.heap _
    rw [e144]
    exact ⟨b139, k139, rfl, N144, K144, sz_b139, V144⟩
theorem ef32_3 (m : MethodId) (x1 : Addr) : entryFrame m #[(.ref x1), (.int (0 : Int32)), (.int (3 : Int32))] 3 = mkF m 0 #[.val (.ref x1), .val (.int (0 : Int32)), .val (.int (3 : Int32))] [] := by first | (simp [entryFrame, mkF, argsToLocals, Value.category]; done) | rfl
def Q32_3 (Z : State) (x1 : Addr) (b0 : Int32) (b1 : Int32) (b2 : Int32) (kb : ClassId) (h0 : Heap) (n0 : Nat) (v : Option Value) (h : Heap) (L : List Loc) : Prop := ∃ (b : Addr), ∃ (kk : ClassId), v = some (.ref b) ∧ Fr n0 L ∧ Keep h0 h [] ∧ h0.size ≤ b ∧ Arv Z h b kk .byte (3 : Int32) [(.int b0), (.int b1), (.int b2)] (.int (0 : Int32))
set_option maxRecDepth 65536 in
set_option maxHeartbeats 40000000 in
theorem rm32_3 (l : Launch) (Z : State) (a0 : Array Value) (hw : ∀ d ∈ tables_1, d.before a0 Z = true) (ws : List Jvm.Cond) (x1 : Addr) (b0 : Int32) (b1 : Int32) (b2 : Int32) (kb : ClassId) (h0 : Heap) (n0 : Nat) (Z0 : n0 ≤ h0.size) (O0 : Old Z n0 h0) (V_x1 : Arv Z h0 x1 kb .byte (16 : Int32) [(.int b0), (.int b1), (.int b2), (.int (0 : Int32)), (.int (0 : Int32)), (.int (0 : Int32)), (.int (0 : Int32)), (.int (0 : Int32)), (.int (0 : Int32)), (.int (0 : Int32)), (.int (0 : Int32)), (.int (0 : Int32)), (.int (0 : Int32)), (.int (0 : Int32)), (.int (0 : Int32)), (.int (0 : Int32))] (.int (0 : Int32))) :
    MetFree l (⟨"java/util/Arrays", "copyOfRange", "([BII)[B"⟩ : MethodName) (head1 (Jvm.Cond.code (⟨"java/util/Arrays", "copyOfRange", "([BII)[B"⟩ : MethodName) jdk_65_method_132_code 3 (some (.array .byte)) :: ws) ({ frames := 2, cells := 1, slots := 3, locals := 34 } : Room)) (fun a U => a = #[(.ref x1), (.int (0 : Int32)), (.int (3 : Int32))] ∧ Z.Warmed39 U.vm ∧ U.heap = h0) (fun _ _ _ _ _ => True) (fun _ U o U' => ∃ v L, o = .returned v ∧ Q32_3 Z x1 b0 b1 b2 kb h0 n0 v U'.heap L ∧ FrameEnd U o U' L ({ frames := 2, cells := 1, slots := 3, locals := 34 } : Room).cells ({ frames := 2, cells := 1, slots := 3, locals := 34 } : Room).slots) := by
  refine MetFree.of_bodySF (plainFor_of_name pn_java_util_Arrays) hisR ?_
  intro p e s m args below meth c s₁ Bd hml0 hP hK
  obtain ⟨rfl, hZ, hh⟩ := hP
  have hx := Bd.exec
  have hby := Bd.bytes
  have hml : c.maxLocals = 3 := hml0
  have hown : s.vm.findClass "java/util/Arrays" = some m.cls := findClass_of_methodNamed Bd.named
  have hnm := (name_of_methodNamed Bd.named Bd.method).1
  have X0 : Stand p l e ({ frames := 2, cells := 1, slots := 3, locals := 34 } : Room) s m #[(.ref x1), (.int (0 : Int32)), (.int (3 : Int32))] below meth c s₁ [] 0 0 := Stand.of_body Bd
  have e0 : s₁.heap = h0 := by rw [← hh, Bd.state]; rfl
  have N0 := Fr.nil n0
  have K0 : Keep h0 h0 [] := Keep.refl _ _
  have pre0 : ∀ t, Steps p.tables e below (s₁.setTop (mkF m 0 #[.val (.ref x1), .val (.int (0 : Int32)), .val (.int (3 : Int32))] [])) t → Steps p.tables e below (s₁.setTop (entryFrame m #[(.ref x1), (.int (0 : Int32)), (.int (3 : Int32))] 3)) t := fun t k => castTop (ef32_3 m x1) k
  obtain ⟨cl_a145, Ar_a145, -, S_a145, N_a145, -, -⟩ := id V_x1
  obtain ⟨_, _, ⟨T146, L146, k146, n146⟩, -, X146, ⟨Lc146, hQ146, l146, y146, z146⟩, st146⟩ := Jvm.LawKit.callS X0 hx (y := (⟨"java/util/Arrays", "copyOfRangeByte", "([BII)[B"⟩ : MethodName)) hown (mvT hZ (own_wd hw 177 rfl)) (mvT hZ (own_wd hw 178 rfl)) (mvT hZ (own_wd hw 175 rfl)) (mvT hZ (own_wd hw 179 rfl)) (by decide) (backOf (W := 0) (rm33_3 l Z a0 hw [] x1 b0 b1 b2 kb h0 n0 Z0 O0 V_x1) hZ (own_wd hw 179 rfl) (own_wd hw 175 rfl) (by decide) (by decide)) (g := (mkF m 13 #[.val (.ref x1), .val (.int (0 : Int32)), .val (.int (3 : Int32))] [(.int (3 : Int32)), (.int (0 : Int32)), (.ref x1)])) rfl (by rw [hml]; rfl) (argsL := [(.ref x1), (.int (0 : Int32)), (.int (3 : Int32))]) (rest := []) (lenOf pd_9 rfl) rfl (by show 2 * 0 + _ ≤ _; exact Nat.le_of_eq rfl) (hb hby d32_13) (fun _ _ => ⟨rfl, e0, (by decide : 0 + 1 ≤ _), (by decide : 0 + 3 ≤ _)⟩)
  dsimp only [Pt.U, Pt.locs, Pt.cells, Pt.slots] at X146 l146 y146 z146 st146 hQ146
  subst l146 y146 z146
  obtain ⟨b_146, kk_146, rfl, N146q, KK146, Q146_0, Q146_1⟩ := hQ146
  have N146 := Fr.app N0 N146q
  have O146 : Old Z n0 T146.heap := O0.keep KK146 all0
  have Z146 : n0 ≤ T146.heap.size := Nat.le_trans Z0 KK146.1
  have K146 : Keep h0 T146.heap [] := K0.trans KK146 all0
  have g_b_146 : n0 ≤ b_146 := Nat.le_trans Z0 Q146_0
  have sz_b_146 : h0.size ≤ b_146 := Nat.le_trans K0.1 Q146_0
  obtain ⟨fs, hr, hrun, hended, hW, hsame⟩ := X146.leave (v := some (.ref b_146)) (fun h => by rw [Bd.returns] at h; cases h)
  refine ⟨_, _, pre0 _ ?_, hrun, hended, _, _, rfl, ?_, ⟨_, rfl⟩, hW, hsame.mono (by decide) (by decide)⟩
  · show Steps p.tables e below (s₁.setTop (mkF m 0 #[.val (.ref x1), .val (.int (0 : Int32)), .val (.int (3 : Int32))] [])) _
    refine XS.iloadN X0.here hx rfl (hb hby d32_0) rfl ?_
    refine XS.ifNo X0.here hx rfl (hb hby d32_1) rfl ((if0 _ _).trans (teq (by decide : (0 : Int32) = (0 : Int32))).2) ?_
    refine XS.iloadN X0.here hx rfl (hb hby d32_4) rfl ?_
    refine XS.aloadN X0.here hx rfl (hb hby d32_5) rfl rfl ?_
    show Steps p.tables e below (s₁.setTop (mkF m 6 #[.val (.ref x1), .val (.int (0 : Int32)), .val (.int (3 : Int32))] [(.ref x1), (.int (3 : Int32))])) _
    refine X0.arraylength hx (by rw [e0]; exact Ar_a145.1) (State.isArrayOf_alike hZ.alike Ar_a145.2.1) (g := (mkF m 6 #[.val (.ref x1), .val (.int (0 : Int32)), .val (.int (3 : Int32))] [(.ref x1), (.int (3 : Int32))])) rfl rfl (hb hby d32_6) _ ?_
    rw [len_of S_a145 N_a145]
    refine XS.icmpNo X0.here hx rfl (hb hby d32_7) rfl (feq (by decide : ¬ ((3 : Int32) = (16 : Int32)))).1 ?_
    refine XS.aloadN X0.here hx rfl (hb hby d32_10) rfl rfl ?_
    refine XS.iloadN X0.here hx rfl (hb hby d32_11) rfl ?_
    refine XS.iloadN X0.here hx rfl (hb hby d32_12) rfl ?_
    show Steps p.tables e below (s₁.setTop (mkF m 13 #[.val (.ref x1), .val (.int (0 : Int32)), .val (.int (3 : Int32))] [(.int (3 : Int32)), (.int (0 : Int32)), (.ref x1)])) _
    refine st146 _ ?_
    show Steps p.tables e below (T146.setTop (mkF m 16 #[.val (.ref x1), .val (.int (0 : Int32)), .val (.int (3 : Int32))] [(.ref b_146)])) _
    jvm_step X146.here [X146.here.top, hx, (hb hby d32_16), X146.method', Bd.returns, Value.isRef, FieldType.isReference]
    first | (intro acts; rw [hr _ acts rfl rfl rfl]) | rw [hr _ _ rfl rfl rfl]
    exact Steps.refl _
  · show Q32_3 Z x1 b0 b1 b2 kb h0 n0 _ T146.heap _
    exact ⟨b_146, kk_146, rfl, N146, K146, sz_b_146, Q146_1⟩
theorem ef27_3 (m : MethodId) (tz : Addr) (x1 : Addr) : entryFrame m #[(.ref tz), (.ref x1), .null] 5 = mkF m 0 #[.val (.ref tz), .val (.ref x1), .val .null, .unset, .unset] [] := by first | (simp [entryFrame, mkF, argsToLocals, Value.category]; done) | rfl
def Q27_3 (Z : State) (tz : Addr) (x1 : Addr) (x1_value : Addr) (b0 : Int32) (b1 : Int32) (b2 : Int32) (kb : ClassId) (st_COMPACT_STRINGS : Int32) (u_tz_coder : Value) (u_tz_value : Value) (h0 : Heap) (n0 : Nat) (v : Option Value) (h : Heap) (L : List Loc) : Prop := ∃ (b : Addr), ∃ (kk : ClassId), v = none ∧ Fr n0 L ∧ Keep h0 h [tz] ∧ h0.size ≤ b ∧ Exa Z h tz "java/lang/String" ∧ Fld Z h tz "java/lang/String" "value" "[B" (.ref b) ∧ Fld Z h tz "java/lang/String" "coder" "B" (.int (0 : Int32)) ∧ Arv Z h b kk .byte (3 : Int32) [(.int b0), (.int b1), (.int b2)] (.int (0 : Int32))
set_option maxRecDepth 65536 in
set_option maxHeartbeats 40000000 in
theorem rm27_3 (l : Launch) (Z : State) (a0 : Array Value) (hw : ∀ d ∈ tables_1, d.before a0 Z = true) (ws : List Jvm.Cond) (tz : Addr) (x1 : Addr) (x1_value : Addr) (b0 : Int32) (b1 : Int32) (b2 : Int32) (kb : ClassId) (st_COMPACT_STRINGS : Int32) (u_tz_coder : Value) (u_tz_value : Value) (h0 : Heap) (n0 : Nat) (Z0 : n0 ≤ h0.size) (O0 : Old Z n0 h0) (E_tz : Exa Z h0 tz "java/lang/String") (E_x1 : Exa Z h0 x1 "java/lang/StringBuilder") (F_x1_value : Fld Z h0 x1 "java/lang/AbstractStringBuilder" "value" "[B" (.ref x1_value)) (F_x1_coder : Fld Z h0 x1 "java/lang/AbstractStringBuilder" "coder" "B" (.int (0 : Int32))) (F_x1_count : Fld Z h0 x1 "java/lang/AbstractStringBuilder" "count" "I" (.int (3 : Int32))) (V_x1_value : Arv Z h0 x1_value kb .byte (16 : Int32) [(.int b0), (.int b1), (.int b2), (.int (0 : Int32)), (.int (0 : Int32)), (.int (0 : Int32)), (.int (0 : Int32)), (.int (0 : Int32)), (.int (0 : Int32)), (.int (0 : Int32)), (.int (0 : Int32)), (.int (0 : Int32)), (.int (0 : Int32)), (.int (0 : Int32)), (.int (0 : Int32)), (.int (0 : Int32))] (.int (0 : Int32))) (S_COMPACT_STRINGS : Sta Z Z.heap "java/lang/String" "COMPACT_STRINGS" "Z" (.int st_COMPACT_STRINGS)) (hcomp : ¬ (st_COMPACT_STRINGS = (0 : Int32))) (F_u_tz_coder : Fld Z h0 tz "java/lang/String" "coder" "B" u_tz_coder) (g_tz : n0 ≤ tz) (F_u_tz_value : Fld Z h0 tz "java/lang/String" "value" "[B" u_tz_value) :
    MetFree l (⟨"java/lang/String", "<init>", "(Ljava/lang/AbstractStringBuilder;Ljava/lang/Void;)V"⟩ : MethodName) (head1 (Jvm.Cond.code (⟨"java/lang/String", "<init>", "(Ljava/lang/AbstractStringBuilder;Ljava/lang/Void;)V"⟩ : MethodName) jdk_42_method_150_code 5 none :: ws) ({ frames := 3, cells := 1, slots := 3, locals := 49 } : Room)) (fun a U => a = #[(.ref tz), (.ref x1), .null] ∧ Z.Warmed39 U.vm ∧ U.heap = h0) (fun _ _ _ _ _ => True) (fun _ U o U' => ∃ v L, o = .returned v ∧ Q27_3 Z tz x1 x1_value b0 b1 b2 kb st_COMPACT_STRINGS u_tz_coder u_tz_value h0 n0 v U'.heap L ∧ FrameEnd U o U' L ({ frames := 3, cells := 1, slots := 3, locals := 49 } : Room).cells ({ frames := 3, cells := 1, slots := 3, locals := 49 } : Room).slots) := by
  refine MetFree.of_bodySF (plainFor_of_name pn_java_lang_String) hisR ?_
  intro p e s m args below meth c s₁ Bd hml0 hP hK
  obtain ⟨rfl, hZ, hh⟩ := hP
  have hx := Bd.exec
  have hby := Bd.bytes
  have hml : c.maxLocals = 5 := hml0
  have hown : s.vm.findClass "java/lang/String" = some m.cls := findClass_of_methodNamed Bd.named
  have hnm := (name_of_methodNamed Bd.named Bd.method).1
  have X0 : Stand p l e ({ frames := 3, cells := 1, slots := 3, locals := 49 } : Room) s m #[(.ref tz), (.ref x1), .null] below meth c s₁ [] 0 0 := Stand.of_body Bd
  have e0 : s₁.heap = h0 := by rw [← hh, Bd.state]; rfl
  have N0 := Fr.nil n0
  have K0 : Keep h0 h0 [tz] := Keep.refl _ _
  have pre0 : ∀ t, Steps p.tables e below (s₁.setTop (mkF m 0 #[.val (.ref tz), .val (.ref x1), .val .null, .unset, .unset] [])) t → Steps p.tables e below (s₁.setTop (entryFrame m #[(.ref tz), (.ref x1), .null] 5)) t := fun t k => castTop (ef27_3 m tz x1) k
  obtain ⟨T147, X147, e147, st147⟩ := initO X0 hx hZ hown (own_wd hw 11 rfl) (own_wd hw 12 rfl) (own_wd hw 13 rfl) e0 (g := (mkF m 1 #[.val (.ref tz), .val (.ref x1), .val .null, .unset, .unset] [(.ref tz)])) rfl (by rw [hml]; rfl) rfl (hb hby d27_1) (by decide) (W := 0) (by show 2 * 0 + _ ≤ _; exact Nat.le_of_eq rfl) (by decide)
  obtain ⟨cq148, kq148, q148a, q148b, q148c⟩ := isOf hZ e147 E_x1
  obtain ⟨_, _, ⟨T148, L148, k148, n148⟩, -, X148, ⟨Lc148, hQ148, l148, y148, z148⟩, st148⟩ := X147.virtualBack hx (y := (⟨"java/lang/AbstractStringBuilder", "getValue", "()[B"⟩ : MethodName)) (z := (⟨"java/lang/AbstractStringBuilder", "getValue", "()[B"⟩ : MethodName)) hown (mvT hZ (own_wd hw 155 rfl)) (mvT hZ (own_wd hw 156 rfl)) (notFace_of_selects (args := #[]) (mvT hZ (own_wd hw 158 rfl))) (mvT hZ (own_wd hw 158 rfl)) (mvT hZ (own_wd hw 157 rfl)) (by decide) (backOf (W := 0) (rm28 l Z a0 hw [] x1 x1_value h0 n0 Z0 O0 F_x1_value) hZ (own_wd hw 159 rfl) (own_wd hw 94 rfl) (by decide) (by decide)) q148a q148c (g := (mkF m 5 #[.val (.ref tz), .val (.ref x1), .val .null, .unset, .unset] [(.ref x1)])) rfl (by rw [hml]; rfl) (Steps.refl _) (argsL := []) (rest := []) (lenOf pd_10 rfl) rfl (by show 2 * 0 + _ ≤ _; exact Nat.le_of_eq rfl) (hb hby d27_5) (fun _ _ => ⟨rfl, e147, (by decide : 0 + 0 ≤ _), (by decide : 0 + 0 ≤ _)⟩)
  dsimp only [Pt.U, Pt.locs, Pt.cells, Pt.slots] at X148 l148 y148 z148 st148 hQ148
  subst l148 y148 z148
  obtain ⟨rfl, N148q, eh148⟩ := hQ148
  have N148 := Fr.app N0 N148q
  obtain ⟨cq149, kq149, q149a, q149b, q149c⟩ := isOf hZ eh148 E_x1
  obtain ⟨_, _, ⟨T149, L149, k149, n149⟩, -, X149, ⟨Lc149, hQ149, l149, y149, z149⟩, st149⟩ := X148.virtualBack hx (y := (⟨"java/lang/AbstractStringBuilder", "length", "()I"⟩ : MethodName)) (z := (⟨"java/lang/StringBuilder", "length", "()I"⟩ : MethodName)) hown (mvT hZ (own_wd hw 160 rfl)) (mvT hZ (own_wd hw 161 rfl)) (own_nf (notFace_of_selects (args := #[]) (mvT hZ (own_wd hw 158 rfl))) (a0 := #[]) (mvT hZ (own_wd hw 156 rfl)) rfl) (mvT hZ (own_wd hw 163 rfl)) (mvT hZ (own_wd hw 164 rfl)) (by decide) (backOf (W := 0) (rm29 l Z a0 hw [] x1 (3 : Int32) h0 n0 Z0 O0 E_x1 F_x1_count) hZ (own_wd hw 165 rfl) (own_wd hw 86 rfl) (by decide) (by decide)) q149a q149c (g := (mkF m 10 #[.val (.ref tz), .val (.ref x1), .val .null, .val (.ref x1_value), .unset] [(.ref x1)])) rfl (by rw [hml]; rfl) (Steps.refl _) (argsL := []) (rest := []) (lenOf pd_0 rfl) rfl (by show 2 * 0 + _ ≤ _; exact Nat.le_of_eq rfl) (hb hby d27_10) (fun _ _ => ⟨rfl, eh148, (by decide : 0 + 0 ≤ _), (by decide : 0 + 0 ≤ _)⟩)
  dsimp only [Pt.U, Pt.locs, Pt.cells, Pt.slots] at X149 l149 y149 z149 st149 hQ149
  subst l149 y149 z149
  obtain ⟨rfl, N149q, eh149⟩ := hQ149
  have N149 := Fr.app N148 N149q
  obtain ⟨cq150, kq150, q150a, q150b, q150c⟩ := isOf hZ eh149 E_x1
  obtain ⟨_, _, ⟨T150, L150, k150, n150⟩, -, X150, ⟨Lc150, hQ150, l150, y150, z150⟩, st150⟩ := X149.virtualBack hx (y := (⟨"java/lang/AbstractStringBuilder", "isLatin1", "()Z"⟩ : MethodName)) (z := (⟨"java/lang/AbstractStringBuilder", "isLatin1", "()Z"⟩ : MethodName)) hown (mvT hZ (own_wd hw 168 rfl)) (mvT hZ (own_wd hw 169 rfl)) (notFace_of_selects (args := #[]) (mvT hZ (own_wd hw 171 rfl))) (mvT hZ (own_wd hw 171 rfl)) (mvT hZ (own_wd hw 170 rfl)) (by decide) (backOf (W := 0) (rm31 l Z a0 hw [] x1 st_COMPACT_STRINGS h0 n0 Z0 O0 F_x1_coder S_COMPACT_STRINGS hcomp) hZ (own_wd hw 172 rfl) (own_wd hw 94 rfl) (by decide) (by decide)) q150a q150c (g := (mkF m 16 #[.val (.ref tz), .val (.ref x1), .val .null, .val (.ref x1_value), .val (.int (3 : Int32))] [(.ref x1)])) rfl (by rw [hml]; rfl) (Steps.refl _) (argsL := []) (rest := []) (lenOf pd_11 rfl) rfl (by show 2 * 0 + _ ≤ _; exact Nat.le_of_eq rfl) (hb hby d27_16) (fun _ _ => ⟨rfl, eh149, (by decide : 0 + 0 ≤ _), (by decide : 0 + 0 ≤ _)⟩)
  dsimp only [Pt.U, Pt.locs, Pt.cells, Pt.slots] at X150 l150 y150 z150 st150 hQ150
  subst l150 y150 z150
  obtain ⟨rfl, N150q, eh150⟩ := hQ150
  have N150 := Fr.app N149 N150q
  obtain ⟨T151, h151, X151, e151, W151, st151⟩ := putFN X150 hx hZ hown (own_wd hw 26 rfl) Via.refl eh150 F_u_tz_coder E_tz (Or.inr ⟨(own_wd hw 27 rfl), rfl, hnm⟩) (own_wd hw 2 rfl) (ty := .byte) (v' := (.int (0 : Int32))) (by decide) rfl rfl (g := (mkF m 24 #[.val (.ref tz), .val (.ref x1), .val .null, .val (.ref x1_value), .val (.int (3 : Int32))] [(.int (0 : Int32)), (.ref tz)])) rfl rfl (hb hby d27_24)
  have O151 : Old Z n0 h151 := O0.wr W151 g_tz
  have Z151 : n0 ≤ h151.size := Nat.le_trans Z0 (Keep.of_wr W151).1
  have K151 : Keep h0 h151 [tz] := K0.wr W151 (Or.inl (List.mem_of_getElem? (i := 0) rfl))
  have N151 := Fr.snoc X151 N150 g_tz
  have Fw151 : Fld Z h151 tz "java/lang/String" "coder" "B" (.int (0 : Int32)) := F_u_tz_coder.same W151
  have V152 : Arv Z h151 x1_value kb .byte (16 : Int32) [(.int b0), (.int b1), (.int b2), (.int (0 : Int32)), (.int (0 : Int32)), (.int (0 : Int32)), (.int (0 : Int32)), (.int (0 : Int32)), (.int (0 : Int32)), (.int (0 : Int32)), (.int (0 : Int32)), (.int (0 : Int32)), (.int (0 : Int32)), (.int (0 : Int32)), (.int (0 : Int32)), (.int (0 : Int32))] (.int (0 : Int32)) := (V_x1_value.other W151 (Ne.symm (Exa.neArv E_tz V_x1_value (own_wd hw 2 rfl))))
  obtain ⟨_, _, ⟨T153, L153, k153, n153⟩, -, X153, ⟨Lc153, hQ153, l153, y153, z153⟩, st153⟩ := Jvm.LawKit.callS X151 hx (y := (⟨"java/util/Arrays", "copyOfRange", "([BII)[B"⟩ : MethodName)) hown (mvT hZ (own_wd hw 173 rfl)) (mvT hZ (own_wd hw 174 rfl)) (mvT hZ (own_wd hw 175 rfl)) (mvT hZ (own_wd hw 176 rfl)) (by decide) (backOf (W := 1) (rm32_3 l Z a0 hw [] x1_value b0 b1 b2 kb h151 n0 Z151 O151 V152) hZ (own_wd hw 176 rfl) (own_wd hw 175 rfl) (by decide) (by decide)) (g := (mkF m 32 #[.val (.ref tz), .val (.ref x1), .val .null, .val (.ref x1_value), .val (.int (3 : Int32))] [(.int (3 : Int32)), (.int (0 : Int32)), (.ref x1_value), (.ref tz)])) rfl (by rw [hml]; rfl) (argsL := [(.ref x1_value), (.int (0 : Int32)), (.int (3 : Int32))]) (rest := [(.ref tz)]) (lenOf pd_9 rfl) rfl (by show 2 * 0 + _ ≤ _; exact Nat.le_of_eq rfl) (hb hby d27_32) (fun _ _ => ⟨rfl, e151, (by decide : 0 + 1 ≤ _), (by decide : 0 + 3 ≤ _)⟩)
  dsimp only [Pt.U, Pt.locs, Pt.cells, Pt.slots] at X153 l153 y153 z153 st153 hQ153
  subst l153 y153 z153
  obtain ⟨b_153, kk_153, rfl, N153q, KK153, Q153_0, Q153_1⟩ := hQ153
  have N153 := Fr.app N151 N153q
  have O153 : Old Z n0 T153.heap := O151.keep KK153 all0
  have Z153 : n0 ≤ T153.heap.size := Nat.le_trans Z151 KK153.1
  have K153 : Keep h0 T153.heap [tz] := K151.trans KK153 all0
  have g_b_153 : n0 ≤ b_153 := Nat.le_trans (Nat.le_trans Z0 (Keep.of_wr W151).1) Q153_0
  have sz_b_153 : h0.size ≤ b_153 := Nat.le_trans K151.1 Q153_0
  have C154 : Exa Z T153.heap tz "java/lang/String" := ((E_tz.wr W151).keep KK153)
  have F155 : Fld Z T153.heap tz "java/lang/String" "value" "[B" u_tz_value := ((F_u_tz_value.other W151 (Or.inr (slot_ne (Or.inr (own_wd hw 29 rfl)) (Or.inr (own_wd hw 27 rfl)) (by decide) (t := (.array .byte)) (t' := .byte) (by decide) (by decide)))).keep KK153 nin0)
  obtain ⟨T156, h156, X156, e156, W156, st156⟩ := putF X153 hx hZ hown (host := "") (Or.inl (own_wd hw 28 rfl)) Via.refl rfl F155 C154 (Or.inr ⟨(own_wd hw 29 rfl), rfl, hnm⟩) (own_wd hw 2 rfl) (ty := (.array .byte)) (by decide) rfl rfl (g := (mkF m 35 #[.val (.ref tz), .val (.ref x1), .val .null, .val (.ref x1_value), .val (.int (3 : Int32))] [(.ref b_153), (.ref tz)])) rfl rfl (hb hby d27_35)
  have O156 : Old Z n0 h156 := O153.wr W156 g_tz
  have Z156 : n0 ≤ h156.size := Nat.le_trans Z153 (Keep.of_wr W156).1
  have K156 : Keep h0 h156 [tz] := K153.wr W156 (Or.inl (List.mem_of_getElem? (i := 0) rfl))
  have N156 := Fr.snoc X156 N153 g_tz
  have Fw156 : Fld Z h156 tz "java/lang/String" "value" "[B" (.ref b_153) := F155.same W156
  have C157 : Exa Z h156 tz "java/lang/String" := (C154.wr W156)
  have F158 : Fld Z h156 tz "java/lang/String" "coder" "B" (.int (0 : Int32)) := ((Fw151.keep KK153 nin0).other W156 (Or.inr (slot_ne (Or.inr (own_wd hw 27 rfl)) (Or.inr (own_wd hw 29 rfl)) (by decide) (t := .byte) (t' := (.array .byte)) (by decide) (by decide))))
  have V159 : Arv Z h156 b_153 kk_153 .byte (3 : Int32) [(.int b0), (.int b1), (.int b2)] (.int (0 : Int32)) := (Q153_1.other W156 (Ne.symm (Nat.ne_of_lt (Nat.lt_of_lt_of_le (E_tz.wr W151).lt Q153_0))))
  obtain ⟨fs, hr, hrun, hended, hW, hsame⟩ := X156.leave (v := none) (fun _ => rfl)
  refine ⟨_, _, pre0 _ ?_, hrun, hended, _, _, rfl, ?_, ⟨_, rfl⟩, hW, hsame.mono (by decide) (by decide)⟩
  · show Steps p.tables e below (s₁.setTop (mkF m 0 #[.val (.ref tz), .val (.ref x1), .val .null, .unset, .unset] [])) _
    refine XS.aloadN X0.here hx rfl (hb hby d27_0) rfl rfl ?_
    show Steps p.tables e below (s₁.setTop (mkF m 1 #[.val (.ref tz), .val (.ref x1), .val .null, .unset, .unset] [(.ref tz)])) _
    refine st147 _ ?_
    show Steps p.tables e below (T147.setTop (mkF m 4 #[.val (.ref tz), .val (.ref x1), .val .null, .unset, .unset] [])) _
    refine XS.aloadN X147.here hx rfl (hb hby d27_4) rfl rfl ?_
    show Steps p.tables e below (T147.setTop (mkF m 5 #[.val (.ref tz), .val (.ref x1), .val .null, .unset, .unset] [(.ref x1)])) _
    refine st148.trans ?_
    show Steps p.tables e below (T148.setTop (mkF m 8 #[.val (.ref tz), .val (.ref x1), .val .null, .unset, .unset] [(.ref x1_value)])) _
    refine XS.astoreN X148.here hx rfl (hb hby d27_8) rfl rfl (l' := #[.val (.ref tz), .val (.ref x1), .val .null, .val (.ref x1_value), .unset]) rfl ?_
    refine XS.aloadN X148.here hx rfl (hb hby d27_9) rfl rfl ?_
    show Steps p.tables e below (T148.setTop (mkF m 10 #[.val (.ref tz), .val (.ref x1), .val .null, .val (.ref x1_value), .unset] [(.ref x1)])) _
    refine st149.trans ?_
    show Steps p.tables e below (T149.setTop (mkF m 13 #[.val (.ref tz), .val (.ref x1), .val .null, .val (.ref x1_value), .unset] [(.int (3 : Int32))])) _
    refine XS.istore X149.here hx rfl (hb hby d27_13) rfl (l' := #[.val (.ref tz), .val (.ref x1), .val .null, .val (.ref x1_value), .val (.int (3 : Int32))]) rfl ?_
    refine XS.aloadN X149.here hx rfl (hb hby d27_15) rfl rfl ?_
    show Steps p.tables e below (T149.setTop (mkF m 16 #[.val (.ref tz), .val (.ref x1), .val .null, .val (.ref x1_value), .val (.int (3 : Int32))] [(.ref x1)])) _
    refine st150.trans ?_
    show Steps p.tables e below (T150.setTop (mkF m 19 #[.val (.ref tz), .val (.ref x1), .val .null, .val (.ref x1_value), .val (.int (3 : Int32))] [(.int (1 : Int32))])) _
    refine XS.ifNo X150.here hx rfl (hb hby d27_19) rfl ((if0 _ _).trans (feq (by decide : ¬ ((1 : Int32) = (0 : Int32)))).1) ?_
    refine XS.aloadN X150.here hx rfl (hb hby d27_22) rfl rfl ?_
    refine XS.iconst X150.here hx rfl (hb hby d27_23) ?_
    show Steps p.tables e below (T150.setTop (mkF m 24 #[.val (.ref tz), .val (.ref x1), .val .null, .val (.ref x1_value), .val (.int (3 : Int32))] [(.int (0 : Int32)), (.ref tz)])) _
    refine st151 _ ?_
    show Steps p.tables e below (T151.setTop (mkF m 27 #[.val (.ref tz), .val (.ref x1), .val .null, .val (.ref x1_value), .val (.int (3 : Int32))] [])) _
    refine XS.aloadN X151.here hx rfl (hb hby d27_27) rfl rfl ?_
    refine XS.aloadN X151.here hx rfl (hb hby d27_28) rfl rfl ?_
    refine XS.iconst X151.here hx rfl (hb hby d27_29) ?_
    refine XS.iload X151.here hx rfl (hb hby d27_30) rfl ?_
    show Steps p.tables e below (T151.setTop (mkF m 32 #[.val (.ref tz), .val (.ref x1), .val .null, .val (.ref x1_value), .val (.int (3 : Int32))] [(.int (3 : Int32)), (.int (0 : Int32)), (.ref x1_value), (.ref tz)])) _
    refine st153 _ ?_
    show Steps p.tables e below (T153.setTop (mkF m 35 #[.val (.ref tz), .val (.ref x1), .val .null, .val (.ref x1_value), .val (.int (3 : Int32))] [(.ref b_153), (.ref tz)])) _
    refine st156 _ ?_
    show Steps p.tables e below (T156.setTop (mkF m 38 #[.val (.ref tz), .val (.ref x1), .val .null, .val (.ref x1_value), .val (.int (3 : Int32))] [])) _
    refine XS.goto X156.here hx rfl (pc0 := 38) (pc' := 97) rfl (hb hby d27_38) (by decide) (by decide) ?_
    show Steps p.tables e below (T156.setTop (mkF m 97 #[.val (.ref tz), .val (.ref x1), .val .null, .val (.ref x1_value), .val (.int (3 : Int32))] [])) _
    exact X156.returnOut hx Bd.returns (hb hby d27_97) hr
  · show Q27_3 Z tz x1 x1_value b0 b1 b2 kb st_COMPACT_STRINGS u_tz_coder u_tz_value h0 n0 _ T156.heap _
    rw [e156]
    exact ⟨b_153, kk_153, rfl, N156, K156, sz_b_153, C157, Fw156, F158, V159⟩
theorem ef26_3 (m : MethodId) (tz : Addr) (x1 : Addr) : entryFrame m #[(.ref tz), (.ref x1)] 2 = mkF m 0 #[.val (.ref tz), .val (.ref x1)] [] := by first | (simp [entryFrame, mkF, argsToLocals, Value.category]; done) | rfl
def Q26_3 (Z : State) (tz : Addr) (x1 : Addr) (x1_value : Addr) (b0 : Int32) (b1 : Int32) (b2 : Int32) (kb : ClassId) (st_COMPACT_STRINGS : Int32) (u_tz_coder : Value) (u_tz_value : Value) (h0 : Heap) (n0 : Nat) (v : Option Value) (h : Heap) (L : List Loc) : Prop := ∃ (b : Addr), ∃ (kk : ClassId), v = none ∧ Fr n0 L ∧ Keep h0 h [tz] ∧ h0.size ≤ b ∧ Exa Z h tz "java/lang/String" ∧ Fld Z h tz "java/lang/String" "value" "[B" (.ref b) ∧ Fld Z h tz "java/lang/String" "coder" "B" (.int (0 : Int32)) ∧ Arv Z h b kk .byte (3 : Int32) [(.int b0), (.int b1), (.int b2)] (.int (0 : Int32))
set_option maxRecDepth 65536 in
set_option maxHeartbeats 40000000 in
theorem rm26_3 (l : Launch) (Z : State) (a0 : Array Value) (hw : ∀ d ∈ tables_1, d.before a0 Z = true) (ws : List Jvm.Cond) (tz : Addr) (x1 : Addr) (x1_value : Addr) (b0 : Int32) (b1 : Int32) (b2 : Int32) (kb : ClassId) (st_COMPACT_STRINGS : Int32) (u_tz_coder : Value) (u_tz_value : Value) (h0 : Heap) (n0 : Nat) (Z0 : n0 ≤ h0.size) (O0 : Old Z n0 h0) (E_tz : Exa Z h0 tz "java/lang/String") (E_x1 : Exa Z h0 x1 "java/lang/StringBuilder") (F_x1_value : Fld Z h0 x1 "java/lang/AbstractStringBuilder" "value" "[B" (.ref x1_value)) (F_x1_coder : Fld Z h0 x1 "java/lang/AbstractStringBuilder" "coder" "B" (.int (0 : Int32))) (F_x1_count : Fld Z h0 x1 "java/lang/AbstractStringBuilder" "count" "I" (.int (3 : Int32))) (V_x1_value : Arv Z h0 x1_value kb .byte (16 : Int32) [(.int b0), (.int b1), (.int b2), (.int (0 : Int32)), (.int (0 : Int32)), (.int (0 : Int32)), (.int (0 : Int32)), (.int (0 : Int32)), (.int (0 : Int32)), (.int (0 : Int32)), (.int (0 : Int32)), (.int (0 : Int32)), (.int (0 : Int32)), (.int (0 : Int32)), (.int (0 : Int32)), (.int (0 : Int32))] (.int (0 : Int32))) (S_COMPACT_STRINGS : Sta Z Z.heap "java/lang/String" "COMPACT_STRINGS" "Z" (.int st_COMPACT_STRINGS)) (hcomp : ¬ (st_COMPACT_STRINGS = (0 : Int32))) (F_u_tz_coder : Fld Z h0 tz "java/lang/String" "coder" "B" u_tz_coder) (F_u_tz_value : Fld Z h0 tz "java/lang/String" "value" "[B" u_tz_value) (g_tz : n0 ≤ tz) :
    MetFree l (⟨"java/lang/String", "<init>", "(Ljava/lang/StringBuilder;)V"⟩ : MethodName) (head1 (Jvm.Cond.code (⟨"java/lang/String", "<init>", "(Ljava/lang/StringBuilder;)V"⟩ : MethodName) jdk_42_method_53_code 2 none :: ws) ({ frames := 4, cells := 1, slots := 3, locals := 65 } : Room)) (fun a U => a = #[(.ref tz), (.ref x1)] ∧ Z.Warmed39 U.vm ∧ U.heap = h0) (fun _ _ _ _ _ => True) (fun _ U o U' => ∃ v L, o = .returned v ∧ Q26_3 Z tz x1 x1_value b0 b1 b2 kb st_COMPACT_STRINGS u_tz_coder u_tz_value h0 n0 v U'.heap L ∧ FrameEnd U o U' L ({ frames := 4, cells := 1, slots := 3, locals := 65 } : Room).cells ({ frames := 4, cells := 1, slots := 3, locals := 65 } : Room).slots) := by
  refine MetFree.of_bodySF (plainFor_of_name pn_java_lang_String) hisR ?_
  intro p e s m args below meth c s₁ Bd hml0 hP hK
  obtain ⟨rfl, hZ, hh⟩ := hP
  have hx := Bd.exec
  have hby := Bd.bytes
  have hml : c.maxLocals = 2 := hml0
  have hown : s.vm.findClass "java/lang/String" = some m.cls := findClass_of_methodNamed Bd.named
  have hnm := (name_of_methodNamed Bd.named Bd.method).1
  have X0 : Stand p l e ({ frames := 4, cells := 1, slots := 3, locals := 65 } : Room) s m #[(.ref tz), (.ref x1)] below meth c s₁ [] 0 0 := Stand.of_body Bd
  have e0 : s₁.heap = h0 := by rw [← hh, Bd.state]; rfl
  have N0 := Fr.nil n0
  have K0 : Keep h0 h0 [tz] := Keep.refl _ _
  have pre0 : ∀ t, Steps p.tables e below (s₁.setTop (mkF m 0 #[.val (.ref tz), .val (.ref x1)] [])) t → Steps p.tables e below (s₁.setTop (entryFrame m #[(.ref tz), (.ref x1)] 2)) t := fun t k => castTop (ef26_3 m tz x1) k
  obtain ⟨_, _, ⟨T160, L160, k160, n160⟩, -, X160, ⟨Lc160, hQ160, l160, y160, z160⟩, st160⟩ := X0.specialBack hx (y := (⟨"java/lang/String", "<init>", "(Ljava/lang/AbstractStringBuilder;Ljava/lang/Void;)V"⟩ : MethodName)) rfl hown (mvT hZ (own_wd hw 152 rfl)) (mvT hZ (own_wd hw 153 rfl)) (mvT hZ (own_wd hw 154 rfl)) (by decide) (backOf (W := 0) (rm27_3 l Z a0 hw [] tz x1 x1_value b0 b1 b2 kb st_COMPACT_STRINGS u_tz_coder u_tz_value h0 n0 Z0 O0 E_tz E_x1 F_x1_value F_x1_coder F_x1_count V_x1_value S_COMPACT_STRINGS hcomp F_u_tz_coder g_tz F_u_tz_value) hZ (own_wd hw 154 rfl) (own_wd hw 3 rfl) (by decide) (by decide)) (g := (mkF m 3 #[.val (.ref tz), .val (.ref x1)] [.null, (.ref x1), (.ref tz)])) rfl (by rw [hml]; rfl) (Steps.refl _) (a := tz) (argsL := [(.ref x1), .null]) (rest := []) (lenOf pd_12 rfl) rfl (by show 2 * 0 + _ ≤ _; exact Nat.le_of_eq rfl) (hb hby d26_3) (fun _ _ => ⟨rfl, e0, (by decide : 0 + 1 ≤ _), (by decide : 0 + 3 ≤ _)⟩)
  dsimp only [Pt.U, Pt.locs, Pt.cells, Pt.slots] at X160 l160 y160 z160 st160 hQ160
  subst l160 y160 z160
  obtain ⟨b_160, kk_160, rfl, N160q, KK160, Q160_0, Q160_1, Q160_2, Q160_3, Q160_4⟩ := hQ160
  have N160 := Fr.app N0 N160q
  have O160 : Old Z n0 T160.heap := O0.keep KK160 (allS g_tz all0)
  have Z160 : n0 ≤ T160.heap.size := Nat.le_trans Z0 KK160.1
  have K160 : Keep h0 T160.heap [tz] := K0.trans KK160 (allS (Or.inl (List.mem_of_getElem? (i := 0) rfl)) all0)
  have g_b_160 : n0 ≤ b_160 := Nat.le_trans Z0 Q160_0
  have sz_b_160 : h0.size ≤ b_160 := Nat.le_trans K0.1 Q160_0
  obtain ⟨fs, hr, hrun, hended, hW, hsame⟩ := X160.leave (v := none) (fun _ => rfl)
  refine ⟨_, _, pre0 _ ?_, hrun, hended, _, _, rfl, ?_, ⟨_, rfl⟩, hW, hsame.mono (by decide) (by decide)⟩
  · show Steps p.tables e below (s₁.setTop (mkF m 0 #[.val (.ref tz), .val (.ref x1)] [])) _
    refine XS.aloadN X0.here hx rfl (hb hby d26_0) rfl rfl ?_
    refine XS.aloadN X0.here hx rfl (hb hby d26_1) rfl rfl ?_
    refine XS.aconstNull X0.here hx rfl (hb hby d26_2) ?_
    show Steps p.tables e below (s₁.setTop (mkF m 3 #[.val (.ref tz), .val (.ref x1)] [.null, (.ref x1), (.ref tz)])) _
    refine st160.trans ?_
    show Steps p.tables e below (T160.setTop (mkF m 6 #[.val (.ref tz), .val (.ref x1)] [])) _
    exact X160.returnOut hx Bd.returns (hb hby d26_6) hr
  · show Q26_3 Z tz x1 x1_value b0 b1 b2 kb st_COMPACT_STRINGS u_tz_coder u_tz_value h0 n0 _ T160.heap _
    exact ⟨b_160, kk_160, rfl, N160, K160, sz_b_160, Q160_1, Q160_2, Q160_3, Q160_4⟩
theorem ef25_3 (m : MethodId) (tz : Addr) : entryFrame m #[(.ref tz)] 1 = mkF m 0 #[.val (.ref tz)] [] := by first | (simp [entryFrame, mkF, argsToLocals, Value.category]; done) | rfl
def Q25_3 (Z : State) (tz : Addr) (tz_value : Addr) (b0 : Int32) (b1 : Int32) (b2 : Int32) (kb : ClassId) (st_COMPACT_STRINGS : Int32) (h0 : Heap) (n0 : Nat) (v : Option Value) (h : Heap) (L : List Loc) : Prop := ∃ (b : Addr), ∃ (t : Addr), ∃ (kk : ClassId), v = some (.ref b) ∧ Fr n0 L ∧ Keep h0 h [] ∧ h0.size ≤ b ∧ h0.size ≤ t ∧ Exa Z h b "java/lang/String" ∧ Fld Z h b "java/lang/String" "value" "[B" (.ref t) ∧ Fld Z h b "java/lang/String" "coder" "B" (.int (0 : Int32)) ∧ Arv Z h t kk .byte (3 : Int32) [(.int b0), (.int b1), (.int b2)] (.int (0 : Int32))
set_option maxRecDepth 65536 in
set_option maxHeartbeats 40000000 in
theorem rm25_3 (l : Launch) (Z : State) (a0 : Array Value) (hw : ∀ d ∈ tables_1, d.before a0 Z = true) (ws : List Jvm.Cond) (tz : Addr) (tz_value : Addr) (b0 : Int32) (b1 : Int32) (b2 : Int32) (kb : ClassId) (st_COMPACT_STRINGS : Int32) (h0 : Heap) (n0 : Nat) (Z0 : n0 ≤ h0.size) (O0 : Old Z n0 h0) (E_tz : Exa Z h0 tz "java/lang/StringBuilder") (F_tz_value : Fld Z h0 tz "java/lang/AbstractStringBuilder" "value" "[B" (.ref tz_value)) (F_tz_coder : Fld Z h0 tz "java/lang/AbstractStringBuilder" "coder" "B" (.int (0 : Int32))) (F_tz_count : Fld Z h0 tz "java/lang/AbstractStringBuilder" "count" "I" (.int (3 : Int32))) (V_tz_value : Arv Z h0 tz_value kb .byte (16 : Int32) [(.int b0), (.int b1), (.int b2), (.int (0 : Int32)), (.int (0 : Int32)), (.int (0 : Int32)), (.int (0 : Int32)), (.int (0 : Int32)), (.int (0 : Int32)), (.int (0 : Int32)), (.int (0 : Int32)), (.int (0 : Int32)), (.int (0 : Int32)), (.int (0 : Int32)), (.int (0 : Int32)), (.int (0 : Int32))] (.int (0 : Int32))) (S_COMPACT_STRINGS : Sta Z Z.heap "java/lang/String" "COMPACT_STRINGS" "Z" (.int st_COMPACT_STRINGS)) (hcomp : ¬ (st_COMPACT_STRINGS = (0 : Int32))) :
    MetFree l (⟨"java/lang/StringBuilder", "toString", "()Ljava/lang/String;"⟩ : MethodName) (head1 (Jvm.Cond.code (⟨"java/lang/StringBuilder", "toString", "()Ljava/lang/String;"⟩ : MethodName) jdk_67_method_42_code 1 (some (.object "java/lang/String")) :: ws) ({ frames := 5, cells := 2, slots := 7, locals := 79 } : Room)) (fun a U => a = #[(.ref tz)] ∧ Z.Warmed39 U.vm ∧ U.heap = h0) (fun _ _ _ _ _ => True) (fun _ U o U' => ∃ v L, o = .returned v ∧ Q25_3 Z tz tz_value b0 b1 b2 kb st_COMPACT_STRINGS h0 n0 v U'.heap L ∧ FrameEnd U o U' L ({ frames := 5, cells := 2, slots := 7, locals := 79 } : Room).cells ({ frames := 5, cells := 2, slots := 7, locals := 79 } : Room).slots) := by
  refine MetFree.of_bodySF (plainFor_of_name pn_java_lang_StringBuilder) hisR ?_
  intro p e s m args below meth c s₁ Bd hml0 hP hK
  obtain ⟨rfl, hZ, hh⟩ := hP
  have hx := Bd.exec
  have hby := Bd.bytes
  have hml : c.maxLocals = 1 := hml0
  have hown : s.vm.findClass "java/lang/StringBuilder" = some m.cls := findClass_of_methodNamed Bd.named
  have hnm := (name_of_methodNamed Bd.named Bd.method).1
  have X0 : Stand p l e ({ frames := 5, cells := 2, slots := 7, locals := 79 } : Room) s m #[(.ref tz)] below meth c s₁ [] 0 0 := Stand.of_body Bd
  have e0 : s₁.heap = h0 := by rw [← hh, Bd.state]; rfl
  have N0 := Fr.nil n0
  have K0 : Keep h0 h0 [] := Keep.refl _ _
  have pre0 : ∀ t, Steps p.tables e below (s₁.setTop (mkF m 0 #[.val (.ref tz)] [])) t → Steps p.tables e below (s₁.setTop (entryFrame m #[(.ref tz)] 1)) t := fun t k => castTop (ef25_3 m tz) k
  obtain ⟨T161, h161, X161, e161, E161, A161, D161, U161, st161⟩ := newO X0 hx hZ hown (own_wd hw 148 rfl) (own_wd hw 2 rfl) (own_wd hw 3 rfl) e0 (g := (mkF m 0 #[.val (.ref tz)] [])) rfl (hb hby d25_0) (by decide) (by decide)
  obtain ⟨b161, g161⟩ : ∃ z, z = h0.size := ⟨_, rfl⟩
  rw [← g161] at A161 D161 st161
  have O161 : Old Z n0 h161 := O0.ext E161
  have Z161 : n0 ≤ h161.size := Nat.le_trans Z0 E161.1
  have K161 : Keep h0 h161 [] := K0.ext E161
  have g_b161 : n0 ≤ b161 := Nat.le_trans Z0 (Nat.le_of_eq g161.symm)
  have sz_b161 : h0.size ≤ b161 := Nat.le_trans K0.1 (Nat.le_of_eq g161.symm)
  have F_b161_coder : Fld Z h161 b161 "java/lang/String" "coder" "B" (.int (0 : Int32)) := D161 (Or.inr (own_wd hw 27 rfl)) (ty := .byte) (by decide)
  have F_b161_value : Fld Z h161 b161 "java/lang/String" "value" "[B" .null := D161 (Or.inr (own_wd hw 29 rfl)) (ty := (.array .byte)) (by decide)
  have F162 : Fld Z h161 tz "java/lang/AbstractStringBuilder" "value" "[B" (.ref tz_value) := (F_tz_value.ext E161)
  have F163 : Fld Z h161 tz "java/lang/AbstractStringBuilder" "coder" "B" (.int (0 : Int32)) := (F_tz_coder.ext E161)
  have F164 : Fld Z h161 tz "java/lang/AbstractStringBuilder" "count" "I" (.int (3 : Int32)) := (F_tz_count.ext E161)
  have C165 : Exa Z h161 tz "java/lang/StringBuilder" := (E_tz.ext E161)
  have V166 : Arv Z h161 tz_value kb .byte (16 : Int32) [(.int b0), (.int b1), (.int b2), (.int (0 : Int32)), (.int (0 : Int32)), (.int (0 : Int32)), (.int (0 : Int32)), (.int (0 : Int32)), (.int (0 : Int32)), (.int (0 : Int32)), (.int (0 : Int32)), (.int (0 : Int32)), (.int (0 : Int32)), (.int (0 : Int32)), (.int (0 : Int32)), (.int (0 : Int32))] (.int (0 : Int32)) := (V_tz_value.ext E161)
  obtain ⟨_, _, ⟨T167, L167, k167, n167⟩, -, X167, ⟨Lc167, hQ167, l167, y167, z167⟩, st167⟩ := X161.specialBack hx (y := (⟨"java/lang/String", "<init>", "(Ljava/lang/StringBuilder;)V"⟩ : MethodName)) rfl hown (mvT hZ (own_wd hw 149 rfl)) (mvT hZ (own_wd hw 150 rfl)) (mvT hZ (own_wd hw 151 rfl)) (by decide) (backOf (W := 1) (rm26_3 l Z a0 hw [] b161 tz tz_value b0 b1 b2 kb st_COMPACT_STRINGS (.int (0 : Int32)) .null h161 n0 Z161 O161 A161 C165 F162 F163 F164 V166 S_COMPACT_STRINGS hcomp F_b161_coder F_b161_value g_b161) hZ (own_wd hw 151 rfl) (own_wd hw 3 rfl) (by decide) (by decide)) (g := (mkF m 5 #[.val (.ref tz)] [(.ref tz), (.ref b161), (.ref b161)])) rfl (by rw [hml]; rfl) (Steps.refl _) (a := b161) (argsL := [(.ref tz)]) (rest := [(.ref b161)]) (lenOf pd_13 rfl) rfl (by show 2 * 0 + _ ≤ _; exact Nat.le_of_eq rfl) (hb hby d25_5) (fun _ _ => ⟨rfl, e161, (by decide : 1 + 1 ≤ _), (by decide : 4 + 3 ≤ _)⟩)
  dsimp only [Pt.U, Pt.locs, Pt.cells, Pt.slots] at X167 l167 y167 z167 st167 hQ167
  subst l167 y167 z167
  obtain ⟨b_167, kk_167, rfl, N167q, KK167, Q167_0, Q167_1, Q167_2, Q167_3, Q167_4⟩ := hQ167
  have N167 := Fr.app N0 N167q
  have O167 : Old Z n0 T167.heap := O161.keep KK167 (allS g_b161 all0)
  have Z167 : n0 ≤ T167.heap.size := Nat.le_trans Z161 KK167.1
  have K167 : Keep h0 T167.heap [] := K161.trans KK167 (allS (Or.inr sz_b161) all0)
  have g_b_167 : n0 ≤ b_167 := Nat.le_trans (Nat.le_trans Z0 E161.1) Q167_0
  have sz_b_167 : h0.size ≤ b_167 := Nat.le_trans K161.1 Q167_0
  obtain ⟨fs, hr, hrun, hended, hW, hsame⟩ := X167.leave (v := some (.ref b161)) (fun h => by rw [Bd.returns] at h; cases h)
  refine ⟨_, _, pre0 _ ?_, hrun, hended, _, _, rfl, ?_, ⟨_, rfl⟩, hW, hsame.mono (by decide) (by decide)⟩
  · show Steps p.tables e below (s₁.setTop (mkF m 0 #[.val (.ref tz)] [])) _
    refine st161 _ ?_
    show Steps p.tables e below (T161.setTop (mkF m 3 #[.val (.ref tz)] [(.ref b161)])) _
    refine XS.dup X161.here hx rfl (hb hby d25_3) rfl rfl ?_
    refine XS.aloadN X161.here hx rfl (hb hby d25_4) rfl rfl ?_
    show Steps p.tables e below (T161.setTop (mkF m 5 #[.val (.ref tz)] [(.ref tz), (.ref b161), (.ref b161)])) _
    refine st167.trans ?_
    show Steps p.tables e below (T167.setTop (mkF m 8 #[.val (.ref tz)] [(.ref b161)])) _
    jvm_step X167.here [X167.here.top, hx, (hb hby d25_8), X167.method', Bd.returns, Value.isRef, FieldType.isReference]
    first | (intro acts; rw [hr _ acts rfl rfl rfl]) | rw [hr _ _ rfl rfl rfl]
    exact Steps.refl _
  · show Q25_3 Z tz tz_value b0 b1 b2 kb st_COMPACT_STRINGS h0 n0 _ T167.heap _
    exact ⟨b161, b_167, kk_167, rfl, N167, K167, sz_b161, sz_b_167, Q167_1, Q167_2, Q167_3, Q167_4⟩
theorem d9_0 : decode jdk_37_method_2_code 0 = .ok (.aload_n 0, 1) := by decide +kernel
theorem d9_1 : decode jdk_37_method_2_code 1 = .ok (.getfield 7, 3) := by decide +kernel
theorem d9_4 : decode jdk_37_method_2_code 4 = .ok (.ireturn, 1) := by decide +kernel
theorem pn_java_lang_Enum : plainName "java/lang/Enum" = true := by first | (simp [plainName, overriddenIn]; done) | decide +kernel
theorem ef9 (m : MethodId) (tz : Addr) : entryFrame m #[(.ref tz)] 1 = mkF m 0 #[.val (.ref tz)] [] := by first | (simp [entryFrame, mkF, argsToLocals, Value.category]; done) | rfl
def Q9 (Z : State) (tz : Addr) (tz_ordinal : Int32) (h0 : Heap) (n0 : Nat) (v : Option Value) (h : Heap) (L : List Loc) : Prop := v = some (.int tz_ordinal) ∧ Fr n0 L ∧ h = h0
set_option maxRecDepth 65536 in
set_option maxHeartbeats 40000000 in
theorem rm9 (l : Launch) (Z : State) (a0 : Array Value) (hw : ∀ d ∈ tables_1, d.before a0 Z = true) (ws : List Jvm.Cond) (tz : Addr) (tz_ordinal : Int32) (h0 : Heap) (n0 : Nat) (Z0 : n0 ≤ h0.size) (O0 : Old Z n0 h0) (F_tz_ordinal : Fld Z h0 tz "java/lang/Enum" "ordinal" "I" (.int tz_ordinal)) :
    MetFree l (⟨"java/lang/Enum", "ordinal", "()I"⟩ : MethodName) (head1 (Jvm.Cond.code (⟨"java/lang/Enum", "ordinal", "()I"⟩ : MethodName) jdk_37_method_2_code 1 (some .int) :: ws) ({ frames := 0, cells := 0, slots := 0, locals := 0 } : Room)) (fun a U => a = #[(.ref tz)] ∧ Z.Warmed39 U.vm ∧ U.heap = h0) (fun _ _ _ _ _ => True) (fun _ U o U' => ∃ v L, o = .returned v ∧ Q9 Z tz tz_ordinal h0 n0 v U'.heap L ∧ FrameEnd U o U' L ({ frames := 0, cells := 0, slots := 0, locals := 0 } : Room).cells ({ frames := 0, cells := 0, slots := 0, locals := 0 } : Room).slots) := by
  refine MetFree.of_bodySF (plainFor_of_name pn_java_lang_Enum) hisR ?_
  intro p e s m args below meth c s₁ Bd hml0 hP hK
  obtain ⟨rfl, hZ, hh⟩ := hP
  have hx := Bd.exec
  have hby := Bd.bytes
  have hml : c.maxLocals = 1 := hml0
  have hown : s.vm.findClass "java/lang/Enum" = some m.cls := findClass_of_methodNamed Bd.named
  have hnm := (name_of_methodNamed Bd.named Bd.method).1
  have X0 : Stand p l e ({ frames := 0, cells := 0, slots := 0, locals := 0 } : Room) s m #[(.ref tz)] below meth c s₁ [] 0 0 := Stand.of_body Bd
  have e0 : s₁.heap = h0 := by rw [← hh, Bd.state]; rfl
  have N0 := Fr.nil n0
  have K0 : Keep h0 h0 [] := Keep.refl _ _
  have pre0 : ∀ t, Steps p.tables e below (s₁.setTop (mkF m 0 #[.val (.ref tz)] [])) t → Steps p.tables e below (s₁.setTop (entryFrame m #[(.ref tz)] 1)) t := fun t k => castTop (ef9 m tz) k
  obtain ⟨T168, X168, e168, st168⟩ := getF X0 hx hZ hown (host := "") (Or.inl (own_wd hw 48 rfl)) Via.refl e0 F_tz_ordinal (g := (mkF m 1 #[.val (.ref tz)] [(.ref tz)])) rfl rfl (hb hby d9_1)
  obtain ⟨fs, hr, hrun, hended, hW, hsame⟩ := X168.leave (v := some (.int tz_ordinal)) (fun h => by rw [Bd.returns] at h; cases h)
  refine ⟨_, _, pre0 _ ?_, hrun, hended, _, _, rfl, ?_, ⟨_, rfl⟩, hW, hsame.mono (by decide) (by decide)⟩
  · show Steps p.tables e below (s₁.setTop (mkF m 0 #[.val (.ref tz)] [])) _
    refine XS.aloadN X0.here hx rfl (hb hby d9_0) rfl rfl ?_
    show Steps p.tables e below (s₁.setTop (mkF m 1 #[.val (.ref tz)] [(.ref tz)])) _
    refine st168 _ ?_
    show Steps p.tables e below (T168.setTop (mkF m 4 #[.val (.ref tz)] [(.int tz_ordinal)])) _
    exact retI X168 hx Bd.returns (hb hby d9_4) hr
  · show Q9 Z tz tz_ordinal h0 n0 _ T168.heap _
    rw [e168]
    exact ⟨rfl, N0, rfl⟩
theorem d7_0 : decode prog_8_method_4_code 0 = .ok (.iload_n 0, 1) := by decide +kernel
theorem d7_1 : decode prog_8_method_4_code 1 = .ok (.ifCond .eq 17, 3) := by decide +kernel
theorem d7_18 : decode prog_8_method_4_code 18 = .ok (.iload_n 1, 1) := by decide +kernel
theorem d7_19 : decode prog_8_method_4_code 19 = .ok (.ifCond .eq 9, 3) := by decide +kernel
theorem d7_28 : decode prog_8_method_4_code 28 = .ok (.getstatic 3, 3) := by decide +kernel
theorem d7_31 : decode prog_8_method_4_code 31 = .ok (.areturn, 1) := by decide +kernel
theorem pn_com_example_derive_derive_LikeWildcards : plainName "com/example/derive/derive/LikeWildcards" = true := by first | (simp [plainName, overriddenIn]; done) | decide +kernel
theorem ef7_00 (m : MethodId)  : entryFrame m #[(.int (0 : Int32)), (.int (0 : Int32))] 2 = mkF m 0 #[.val (.int (0 : Int32)), .val (.int (0 : Int32))] [] := by first | (simp [entryFrame, mkF, argsToLocals, Value.category]; done) | rfl
def Q7_00 (Z : State) (st_NONE : Addr) (h0 : Heap) (n0 : Nat) (v : Option Value) (h : Heap) (L : List Loc) : Prop := v = some (.ref st_NONE) ∧ Fr n0 L ∧ h = h0
set_option maxRecDepth 65536 in
set_option maxHeartbeats 40000000 in
theorem rm7_00 (l : Launch) (Z : State) (a0 : Array Value) (hw : ∀ d ∈ tables_1, d.before a0 Z = true) (ws : List Jvm.Cond) (st_NONE : Addr) (h0 : Heap) (n0 : Nat) (Z0 : n0 ≤ h0.size) (O0 : Old Z n0 h0) (S_NONE : Sta Z Z.heap "com/example/derive/derive/LikeWildcards" "NONE" "Lcom/example/derive/derive/LikeWildcards;" (.ref st_NONE)) :
    MetFree l (⟨"com/example/derive/derive/LikeWildcards", "of", "(ZZ)Lcom/example/derive/derive/LikeWildcards;"⟩ : MethodName) (head1 (Jvm.Cond.code (⟨"com/example/derive/derive/LikeWildcards", "of", "(ZZ)Lcom/example/derive/derive/LikeWildcards;"⟩ : MethodName) prog_8_method_4_code 2 (some (.object "com/example/derive/derive/LikeWildcards")) :: ws) ({ frames := 0, cells := 0, slots := 0, locals := 0 } : Room)) (fun a U => a = #[(.int (0 : Int32)), (.int (0 : Int32))] ∧ Z.Warmed39 U.vm ∧ U.heap = h0) (fun _ _ _ _ _ => True) (fun _ U o U' => ∃ v L, o = .returned v ∧ Q7_00 Z st_NONE h0 n0 v U'.heap L ∧ FrameEnd U o U' L ({ frames := 0, cells := 0, slots := 0, locals := 0 } : Room).cells ({ frames := 0, cells := 0, slots := 0, locals := 0 } : Room).slots) := by
  refine MetFree.of_bodySF (plainFor_of_name pn_com_example_derive_derive_LikeWildcards) hisR ?_
  intro p e s m args below meth c s₁ Bd hml0 hP hK
  obtain ⟨rfl, hZ, hh⟩ := hP
  have hx := Bd.exec
  have hby := Bd.bytes
  have hml : c.maxLocals = 2 := hml0
  have hown : s.vm.findClass "com/example/derive/derive/LikeWildcards" = some m.cls := findClass_of_methodNamed Bd.named
  have hnm := (name_of_methodNamed Bd.named Bd.method).1
  have X0 : Stand p l e ({ frames := 0, cells := 0, slots := 0, locals := 0 } : Room) s m #[(.int (0 : Int32)), (.int (0 : Int32))] below meth c s₁ [] 0 0 := Stand.of_body Bd
  have e0 : s₁.heap = h0 := by rw [← hh, Bd.state]; rfl
  have N0 := Fr.nil n0
  have K0 : Keep h0 h0 [] := Keep.refl _ _
  have pre0 : ∀ t, Steps p.tables e below (s₁.setTop (mkF m 0 #[.val (.int (0 : Int32)), .val (.int (0 : Int32))] [])) t → Steps p.tables e below (s₁.setTop (entryFrame m #[(.int (0 : Int32)), (.int (0 : Int32))] 2)) t := fun t k => castTop (ef7_00 m ) k
  obtain ⟨T169, X169, e169, st169⟩ := getS2 X0 hx hZ hown (host := "") (Or.inl (own_wd hw 34 rfl)) Via.refl e0 (S_NONE.ext O0.2) (g := (mkF m 28 #[.val (.int (0 : Int32)), .val (.int (0 : Int32))] [])) rfl (hb hby d7_28)
  obtain ⟨fs, hr, hrun, hended, hW, hsame⟩ := X169.leave (v := some (.ref st_NONE)) (fun h => by rw [Bd.returns] at h; cases h)
  refine ⟨_, _, pre0 _ ?_, hrun, hended, _, _, rfl, ?_, ⟨_, rfl⟩, hW, hsame.mono (by decide) (by decide)⟩
  · show Steps p.tables e below (s₁.setTop (mkF m 0 #[.val (.int (0 : Int32)), .val (.int (0 : Int32))] [])) _
    refine XS.iloadN X0.here hx rfl (hb hby d7_0) rfl ?_
    refine XS.ifYes X0.here hx rfl (pc0 := 1) (pc' := 18) rfl (hb hby d7_1) rfl ((if0 _ _).trans (teq (by decide : (0 : Int32) = (0 : Int32))).1) (by decide) (by decide) ?_
    refine XS.iloadN X0.here hx rfl (hb hby d7_18) rfl ?_
    refine XS.ifYes X0.here hx rfl (pc0 := 19) (pc' := 28) rfl (hb hby d7_19) rfl ((if0 _ _).trans (teq (by decide : (0 : Int32) = (0 : Int32))).1) (by decide) (by decide) ?_
    show Steps p.tables e below (s₁.setTop (mkF m 28 #[.val (.int (0 : Int32)), .val (.int (0 : Int32))] [])) _
    refine st169 _ ?_
    show Steps p.tables e below (T169.setTop (mkF m 31 #[.val (.int (0 : Int32)), .val (.int (0 : Int32))] [(.ref st_NONE)])) _
    jvm_step X169.here [X169.here.top, hx, (hb hby d7_31), X169.method', Bd.returns, Value.isRef, FieldType.isReference]
    first | (intro acts; rw [hr _ acts rfl rfl rfl]) | rw [hr _ _ rfl rfl rfl]
    exact Steps.refl _
  · show Q7_00 Z st_NONE h0 n0 _ T169.heap _
    rw [e169]
    exact ⟨rfl, N0, rfl⟩
theorem d7_22 : decode prog_8_method_4_code 22 = .ok (.getstatic 7, 3) := by decide +kernel
theorem d7_25 : decode prog_8_method_4_code 25 = .ok (.goto 6, 3) := by decide +kernel
theorem ef7_01 (m : MethodId)  : entryFrame m #[(.int (0 : Int32)), (.int (1 : Int32))] 2 = mkF m 0 #[.val (.int (0 : Int32)), .val (.int (1 : Int32))] [] := by first | (simp [entryFrame, mkF, argsToLocals, Value.category]; done) | rfl
def Q7_01 (Z : State) (st_AFTER : Addr) (h0 : Heap) (n0 : Nat) (v : Option Value) (h : Heap) (L : List Loc) : Prop := v = some (.ref st_AFTER) ∧ Fr n0 L ∧ h = h0
set_option maxRecDepth 65536 in
set_option maxHeartbeats 40000000 in
theorem rm7_01 (l : Launch) (Z : State) (a0 : Array Value) (hw : ∀ d ∈ tables_1, d.before a0 Z = true) (ws : List Jvm.Cond) (st_AFTER : Addr) (h0 : Heap) (n0 : Nat) (Z0 : n0 ≤ h0.size) (O0 : Old Z n0 h0) (S_AFTER : Sta Z Z.heap "com/example/derive/derive/LikeWildcards" "AFTER" "Lcom/example/derive/derive/LikeWildcards;" (.ref st_AFTER)) :
    MetFree l (⟨"com/example/derive/derive/LikeWildcards", "of", "(ZZ)Lcom/example/derive/derive/LikeWildcards;"⟩ : MethodName) (head1 (Jvm.Cond.code (⟨"com/example/derive/derive/LikeWildcards", "of", "(ZZ)Lcom/example/derive/derive/LikeWildcards;"⟩ : MethodName) prog_8_method_4_code 2 (some (.object "com/example/derive/derive/LikeWildcards")) :: ws) ({ frames := 0, cells := 0, slots := 0, locals := 0 } : Room)) (fun a U => a = #[(.int (0 : Int32)), (.int (1 : Int32))] ∧ Z.Warmed39 U.vm ∧ U.heap = h0) (fun _ _ _ _ _ => True) (fun _ U o U' => ∃ v L, o = .returned v ∧ Q7_01 Z st_AFTER h0 n0 v U'.heap L ∧ FrameEnd U o U' L ({ frames := 0, cells := 0, slots := 0, locals := 0 } : Room).cells ({ frames := 0, cells := 0, slots := 0, locals := 0 } : Room).slots) := by
  refine MetFree.of_bodySF (plainFor_of_name pn_com_example_derive_derive_LikeWildcards) hisR ?_
  intro p e s m args below meth c s₁ Bd hml0 hP hK
  obtain ⟨rfl, hZ, hh⟩ := hP
  have hx := Bd.exec
  have hby := Bd.bytes
  have hml : c.maxLocals = 2 := hml0
  have hown : s.vm.findClass "com/example/derive/derive/LikeWildcards" = some m.cls := findClass_of_methodNamed Bd.named
  have hnm := (name_of_methodNamed Bd.named Bd.method).1
  have X0 : Stand p l e ({ frames := 0, cells := 0, slots := 0, locals := 0 } : Room) s m #[(.int (0 : Int32)), (.int (1 : Int32))] below meth c s₁ [] 0 0 := Stand.of_body Bd
  have e0 : s₁.heap = h0 := by rw [← hh, Bd.state]; rfl
  have N0 := Fr.nil n0
  have K0 : Keep h0 h0 [] := Keep.refl _ _
  have pre0 : ∀ t, Steps p.tables e below (s₁.setTop (mkF m 0 #[.val (.int (0 : Int32)), .val (.int (1 : Int32))] [])) t → Steps p.tables e below (s₁.setTop (entryFrame m #[(.int (0 : Int32)), (.int (1 : Int32))] 2)) t := fun t k => castTop (ef7_01 m ) k
  obtain ⟨T170, X170, e170, st170⟩ := getS2 X0 hx hZ hown (host := "") (Or.inl (own_wd hw 82 rfl)) Via.refl e0 (S_AFTER.ext O0.2) (g := (mkF m 22 #[.val (.int (0 : Int32)), .val (.int (1 : Int32))] [])) rfl (hb hby d7_22)
  obtain ⟨fs, hr, hrun, hended, hW, hsame⟩ := X170.leave (v := some (.ref st_AFTER)) (fun h => by rw [Bd.returns] at h; cases h)
  refine ⟨_, _, pre0 _ ?_, hrun, hended, _, _, rfl, ?_, ⟨_, rfl⟩, hW, hsame.mono (by decide) (by decide)⟩
  · show Steps p.tables e below (s₁.setTop (mkF m 0 #[.val (.int (0 : Int32)), .val (.int (1 : Int32))] [])) _
    refine XS.iloadN X0.here hx rfl (hb hby d7_0) rfl ?_
    refine XS.ifYes X0.here hx rfl (pc0 := 1) (pc' := 18) rfl (hb hby d7_1) rfl ((if0 _ _).trans (teq (by decide : (0 : Int32) = (0 : Int32))).1) (by decide) (by decide) ?_
    refine XS.iloadN X0.here hx rfl (hb hby d7_18) rfl ?_
    refine XS.ifNo X0.here hx rfl (hb hby d7_19) rfl ((if0 _ _).trans (feq (by decide : ¬ ((1 : Int32) = (0 : Int32)))).1) ?_
    show Steps p.tables e below (s₁.setTop (mkF m 22 #[.val (.int (0 : Int32)), .val (.int (1 : Int32))] [])) _
    refine st170 _ ?_
    show Steps p.tables e below (T170.setTop (mkF m 25 #[.val (.int (0 : Int32)), .val (.int (1 : Int32))] [(.ref st_AFTER)])) _
    refine XS.goto X170.here hx rfl (pc0 := 25) (pc' := 31) rfl (hb hby d7_25) (by decide) (by decide) ?_
    show Steps p.tables e below (T170.setTop (mkF m 31 #[.val (.int (0 : Int32)), .val (.int (1 : Int32))] [(.ref st_AFTER)])) _
    jvm_step X170.here [X170.here.top, hx, (hb hby d7_31), X170.method', Bd.returns, Value.isRef, FieldType.isReference]
    first | (intro acts; rw [hr _ acts rfl rfl rfl]) | rw [hr _ _ rfl rfl rfl]
    exact Steps.refl _
  · show Q7_01 Z st_AFTER h0 n0 _ T170.heap _
    rw [e170]
    exact ⟨rfl, N0, rfl⟩
theorem d7_4 : decode prog_8_method_4_code 4 = .ok (.iload_n 1, 1) := by decide +kernel
theorem d7_5 : decode prog_8_method_4_code 5 = .ok (.ifCond .eq 9, 3) := by decide +kernel
theorem d7_14 : decode prog_8_method_4_code 14 = .ok (.getstatic 10, 3) := by decide +kernel
theorem d7_17 : decode prog_8_method_4_code 17 = .ok (.areturn, 1) := by decide +kernel
theorem ef7_10 (m : MethodId)  : entryFrame m #[(.int (1 : Int32)), (.int (0 : Int32))] 2 = mkF m 0 #[.val (.int (1 : Int32)), .val (.int (0 : Int32))] [] := by first | (simp [entryFrame, mkF, argsToLocals, Value.category]; done) | rfl
def Q7_10 (Z : State) (st_BEFORE : Addr) (h0 : Heap) (n0 : Nat) (v : Option Value) (h : Heap) (L : List Loc) : Prop := v = some (.ref st_BEFORE) ∧ Fr n0 L ∧ h = h0
set_option maxRecDepth 65536 in
set_option maxHeartbeats 40000000 in
theorem rm7_10 (l : Launch) (Z : State) (a0 : Array Value) (hw : ∀ d ∈ tables_1, d.before a0 Z = true) (ws : List Jvm.Cond) (st_BEFORE : Addr) (h0 : Heap) (n0 : Nat) (Z0 : n0 ≤ h0.size) (O0 : Old Z n0 h0) (S_BEFORE : Sta Z Z.heap "com/example/derive/derive/LikeWildcards" "BEFORE" "Lcom/example/derive/derive/LikeWildcards;" (.ref st_BEFORE)) :
    MetFree l (⟨"com/example/derive/derive/LikeWildcards", "of", "(ZZ)Lcom/example/derive/derive/LikeWildcards;"⟩ : MethodName) (head1 (Jvm.Cond.code (⟨"com/example/derive/derive/LikeWildcards", "of", "(ZZ)Lcom/example/derive/derive/LikeWildcards;"⟩ : MethodName) prog_8_method_4_code 2 (some (.object "com/example/derive/derive/LikeWildcards")) :: ws) ({ frames := 0, cells := 0, slots := 0, locals := 0 } : Room)) (fun a U => a = #[(.int (1 : Int32)), (.int (0 : Int32))] ∧ Z.Warmed39 U.vm ∧ U.heap = h0) (fun _ _ _ _ _ => True) (fun _ U o U' => ∃ v L, o = .returned v ∧ Q7_10 Z st_BEFORE h0 n0 v U'.heap L ∧ FrameEnd U o U' L ({ frames := 0, cells := 0, slots := 0, locals := 0 } : Room).cells ({ frames := 0, cells := 0, slots := 0, locals := 0 } : Room).slots) := by
  refine MetFree.of_bodySF (plainFor_of_name pn_com_example_derive_derive_LikeWildcards) hisR ?_
  intro p e s m args below meth c s₁ Bd hml0 hP hK
  obtain ⟨rfl, hZ, hh⟩ := hP
  have hx := Bd.exec
  have hby := Bd.bytes
  have hml : c.maxLocals = 2 := hml0
  have hown : s.vm.findClass "com/example/derive/derive/LikeWildcards" = some m.cls := findClass_of_methodNamed Bd.named
  have hnm := (name_of_methodNamed Bd.named Bd.method).1
  have X0 : Stand p l e ({ frames := 0, cells := 0, slots := 0, locals := 0 } : Room) s m #[(.int (1 : Int32)), (.int (0 : Int32))] below meth c s₁ [] 0 0 := Stand.of_body Bd
  have e0 : s₁.heap = h0 := by rw [← hh, Bd.state]; rfl
  have N0 := Fr.nil n0
  have K0 : Keep h0 h0 [] := Keep.refl _ _
  have pre0 : ∀ t, Steps p.tables e below (s₁.setTop (mkF m 0 #[.val (.int (1 : Int32)), .val (.int (0 : Int32))] [])) t → Steps p.tables e below (s₁.setTop (entryFrame m #[(.int (1 : Int32)), (.int (0 : Int32))] 2)) t := fun t k => castTop (ef7_10 m ) k
  obtain ⟨T171, X171, e171, st171⟩ := getS2 X0 hx hZ hown (host := "") (Or.inl (own_wd hw 188 rfl)) Via.refl e0 (S_BEFORE.ext O0.2) (g := (mkF m 14 #[.val (.int (1 : Int32)), .val (.int (0 : Int32))] [])) rfl (hb hby d7_14)
  obtain ⟨fs, hr, hrun, hended, hW, hsame⟩ := X171.leave (v := some (.ref st_BEFORE)) (fun h => by rw [Bd.returns] at h; cases h)
  refine ⟨_, _, pre0 _ ?_, hrun, hended, _, _, rfl, ?_, ⟨_, rfl⟩, hW, hsame.mono (by decide) (by decide)⟩
  · show Steps p.tables e below (s₁.setTop (mkF m 0 #[.val (.int (1 : Int32)), .val (.int (0 : Int32))] [])) _
    refine XS.iloadN X0.here hx rfl (hb hby d7_0) rfl ?_
    refine XS.ifNo X0.here hx rfl (hb hby d7_1) rfl ((if0 _ _).trans (feq (by decide : ¬ ((1 : Int32) = (0 : Int32)))).1) ?_
    refine XS.iloadN X0.here hx rfl (hb hby d7_4) rfl ?_
    refine XS.ifYes X0.here hx rfl (pc0 := 5) (pc' := 14) rfl (hb hby d7_5) rfl ((if0 _ _).trans (teq (by decide : (0 : Int32) = (0 : Int32))).1) (by decide) (by decide) ?_
    show Steps p.tables e below (s₁.setTop (mkF m 14 #[.val (.int (1 : Int32)), .val (.int (0 : Int32))] [])) _
    refine st171 _ ?_
    show Steps p.tables e below (T171.setTop (mkF m 17 #[.val (.int (1 : Int32)), .val (.int (0 : Int32))] [(.ref st_BEFORE)])) _
    jvm_step X171.here [X171.here.top, hx, (hb hby d7_17), X171.method', Bd.returns, Value.isRef, FieldType.isReference]
    first | (intro acts; rw [hr _ acts rfl rfl rfl]) | rw [hr _ _ rfl rfl rfl]
    exact Steps.refl _
  · show Q7_10 Z st_BEFORE h0 n0 _ T171.heap _
    rw [e171]
    exact ⟨rfl, N0, rfl⟩
theorem d7_8 : decode prog_8_method_4_code 8 = .ok (.getstatic 13, 3) := by decide +kernel
theorem d7_11 : decode prog_8_method_4_code 11 = .ok (.goto 6, 3) := by decide +kernel
theorem ef7_11 (m : MethodId)  : entryFrame m #[(.int (1 : Int32)), (.int (1 : Int32))] 2 = mkF m 0 #[.val (.int (1 : Int32)), .val (.int (1 : Int32))] [] := by first | (simp [entryFrame, mkF, argsToLocals, Value.category]; done) | rfl
def Q7_11 (Z : State) (st_AROUND : Addr) (h0 : Heap) (n0 : Nat) (v : Option Value) (h : Heap) (L : List Loc) : Prop := v = some (.ref st_AROUND) ∧ Fr n0 L ∧ h = h0
set_option maxRecDepth 65536 in
set_option maxHeartbeats 40000000 in
theorem rm7_11 (l : Launch) (Z : State) (a0 : Array Value) (hw : ∀ d ∈ tables_1, d.before a0 Z = true) (ws : List Jvm.Cond) (st_AROUND : Addr) (h0 : Heap) (n0 : Nat) (Z0 : n0 ≤ h0.size) (O0 : Old Z n0 h0) (S_AROUND : Sta Z Z.heap "com/example/derive/derive/LikeWildcards" "AROUND" "Lcom/example/derive/derive/LikeWildcards;" (.ref st_AROUND)) :
    MetFree l (⟨"com/example/derive/derive/LikeWildcards", "of", "(ZZ)Lcom/example/derive/derive/LikeWildcards;"⟩ : MethodName) (head1 (Jvm.Cond.code (⟨"com/example/derive/derive/LikeWildcards", "of", "(ZZ)Lcom/example/derive/derive/LikeWildcards;"⟩ : MethodName) prog_8_method_4_code 2 (some (.object "com/example/derive/derive/LikeWildcards")) :: ws) ({ frames := 0, cells := 0, slots := 0, locals := 0 } : Room)) (fun a U => a = #[(.int (1 : Int32)), (.int (1 : Int32))] ∧ Z.Warmed39 U.vm ∧ U.heap = h0) (fun _ _ _ _ _ => True) (fun _ U o U' => ∃ v L, o = .returned v ∧ Q7_11 Z st_AROUND h0 n0 v U'.heap L ∧ FrameEnd U o U' L ({ frames := 0, cells := 0, slots := 0, locals := 0 } : Room).cells ({ frames := 0, cells := 0, slots := 0, locals := 0 } : Room).slots) := by
  refine MetFree.of_bodySF (plainFor_of_name pn_com_example_derive_derive_LikeWildcards) hisR ?_
  intro p e s m args below meth c s₁ Bd hml0 hP hK
  obtain ⟨rfl, hZ, hh⟩ := hP
  have hx := Bd.exec
  have hby := Bd.bytes
  have hml : c.maxLocals = 2 := hml0
  have hown : s.vm.findClass "com/example/derive/derive/LikeWildcards" = some m.cls := findClass_of_methodNamed Bd.named
  have hnm := (name_of_methodNamed Bd.named Bd.method).1
  have X0 : Stand p l e ({ frames := 0, cells := 0, slots := 0, locals := 0 } : Room) s m #[(.int (1 : Int32)), (.int (1 : Int32))] below meth c s₁ [] 0 0 := Stand.of_body Bd
  have e0 : s₁.heap = h0 := by rw [← hh, Bd.state]; rfl
  have N0 := Fr.nil n0
  have K0 : Keep h0 h0 [] := Keep.refl _ _
  have pre0 : ∀ t, Steps p.tables e below (s₁.setTop (mkF m 0 #[.val (.int (1 : Int32)), .val (.int (1 : Int32))] [])) t → Steps p.tables e below (s₁.setTop (entryFrame m #[(.int (1 : Int32)), (.int (1 : Int32))] 2)) t := fun t k => castTop (ef7_11 m ) k
  obtain ⟨T172, X172, e172, st172⟩ := getS2 X0 hx hZ hown (host := "") (Or.inl (own_wd hw 190 rfl)) Via.refl e0 (S_AROUND.ext O0.2) (g := (mkF m 8 #[.val (.int (1 : Int32)), .val (.int (1 : Int32))] [])) rfl (hb hby d7_8)
  obtain ⟨fs, hr, hrun, hended, hW, hsame⟩ := X172.leave (v := some (.ref st_AROUND)) (fun h => by rw [Bd.returns] at h; cases h)
  refine ⟨_, _, pre0 _ ?_, hrun, hended, _, _, rfl, ?_, ⟨_, rfl⟩, hW, hsame.mono (by decide) (by decide)⟩
  · show Steps p.tables e below (s₁.setTop (mkF m 0 #[.val (.int (1 : Int32)), .val (.int (1 : Int32))] [])) _
    refine XS.iloadN X0.here hx rfl (hb hby d7_0) rfl ?_
    refine XS.ifNo X0.here hx rfl (hb hby d7_1) rfl ((if0 _ _).trans (feq (by decide : ¬ ((1 : Int32) = (0 : Int32)))).1) ?_
    refine XS.iloadN X0.here hx rfl (hb hby d7_4) rfl ?_
    refine XS.ifNo X0.here hx rfl (hb hby d7_5) rfl ((if0 _ _).trans (feq (by decide : ¬ ((1 : Int32) = (0 : Int32)))).1) ?_
    show Steps p.tables e below (s₁.setTop (mkF m 8 #[.val (.int (1 : Int32)), .val (.int (1 : Int32))] [])) _
    refine st172 _ ?_
    show Steps p.tables e below (T172.setTop (mkF m 11 #[.val (.int (1 : Int32)), .val (.int (1 : Int32))] [(.ref st_AROUND)])) _
    refine XS.goto X172.here hx rfl (pc0 := 11) (pc' := 17) rfl (hb hby d7_11) (by decide) (by decide) ?_
    show Steps p.tables e below (T172.setTop (mkF m 17 #[.val (.int (1 : Int32)), .val (.int (1 : Int32))] [(.ref st_AROUND)])) _
    jvm_step X172.here [X172.here.top, hx, (hb hby d7_17), X172.method', Bd.returns, Value.isRef, FieldType.isReference]
    first | (intro acts; rw [hr _ acts rfl rfl rfl]) | rw [hr _ _ rfl rfl rfl]
    exact Steps.refl _
  · show Q7_11 Z st_AROUND h0 n0 _ T172.heap _
    rw [e172]
    exact ⟨rfl, N0, rfl⟩
theorem d8_0 : decode prog_8_method_5_code 0 = .ok (.aload_n 0, 1) := by decide +kernel
theorem d8_1 : decode prog_8_method_5_code 1 = .ok (.invokevirtual 35, 3) := by decide +kernel
theorem d8_4 : decode prog_8_method_5_code 4 = .ok (.tableswitch 32 0 3 #[42, 46, 68, 90], 32) := by decide +kernel
theorem d8_46 : decode prog_8_method_5_code 46 = .ok (.aload_n 1, 1) := by decide +kernel
theorem d8_47 : decode prog_8_method_5_code 47 = .ok (.goto 71, 3) := by decide +kernel
theorem d8_118 : decode prog_8_method_5_code 118 = .ok (.areturn, 1) := by decide +kernel
theorem ef8_0 (m : MethodId) (tz : Addr) (x1 : Addr) : entryFrame m #[(.ref tz), (.ref x1)] 2 = mkF m 0 #[.val (.ref tz), .val (.ref x1)] [] := by first | (simp [entryFrame, mkF, argsToLocals, Value.category]; done) | rfl
def Q8_0 (Z : State) (tz : Addr) (x1 : Addr) (x1_value : Addr) (y0 : Int32) (ks : ClassId) (st_COMPACT_STRINGS : Int32) (h0 : Heap) (n0 : Nat) (v : Option Value) (h : Heap) (L : List Loc) : Prop := v = some (.ref x1) ∧ Fr n0 L ∧ h = h0
set_option maxRecDepth 65536 in
set_option maxHeartbeats 40000000 in
theorem rm8_0 (l : Launch) (Z : State) (a0 : Array Value) (hw : ∀ d ∈ tables_1, d.before a0 Z = true) (ws : List Jvm.Cond) (tz : Addr) (x1 : Addr) (x1_value : Addr) (y0 : Int32) (ks : ClassId) (st_COMPACT_STRINGS : Int32) (h0 : Heap) (n0 : Nat) (Z0 : n0 ≤ h0.size) (O0 : Old Z n0 h0) (E_tz : Exa Z h0 tz "com/example/derive/derive/LikeWildcards") (F_tz_ordinal : Fld Z h0 tz "java/lang/Enum" "ordinal" "I" (.int (0 : Int32))) (E_x1 : Exa Z h0 x1 "java/lang/String") (F_x1_value : Fld Z h0 x1 "java/lang/String" "value" "[B" (.ref x1_value)) (F_x1_coder : Fld Z h0 x1 "java/lang/String" "coder" "B" (.int (0 : Int32))) (V_x1_value : Arv Z h0 x1_value ks .byte (1 : Int32) [(.int (y0.toInt8.toInt32))] (.int 0)) (hp : ∀ c ∈ ([y0] : List Int32), ¬ c < 0 ∧ ¬ (255 : Int32) < c) (S_COMPACT_STRINGS : Sta Z Z.heap "java/lang/String" "COMPACT_STRINGS" "Z" (.int st_COMPACT_STRINGS)) (hcomp : ¬ (st_COMPACT_STRINGS = (0 : Int32))) :
    MetFree l (⟨"com/example/derive/derive/LikeWildcards", "addTo", "(Ljava/lang/String;)Ljava/lang/String;"⟩ : MethodName) (head1 (Jvm.Cond.code (⟨"com/example/derive/derive/LikeWildcards", "addTo", "(Ljava/lang/String;)Ljava/lang/String;"⟩ : MethodName) prog_8_method_5_code 2 (some (.object "java/lang/String")) :: ws) ({ frames := 1, cells := 0, slots := 0, locals := 12 } : Room)) (fun a U => a = #[(.ref tz), (.ref x1)] ∧ Z.Warmed39 U.vm ∧ U.heap = h0) (fun _ _ _ _ _ => True) (fun _ U o U' => ∃ v L, o = .returned v ∧ Q8_0 Z tz x1 x1_value y0 ks st_COMPACT_STRINGS h0 n0 v U'.heap L ∧ FrameEnd U o U' L ({ frames := 1, cells := 0, slots := 0, locals := 12 } : Room).cells ({ frames := 1, cells := 0, slots := 0, locals := 12 } : Room).slots) := by
  refine MetFree.of_bodySF (plainFor_of_name pn_com_example_derive_derive_LikeWildcards) hisR ?_
  intro p e s m args below meth c s₁ Bd hml0 hP hK
  obtain ⟨rfl, hZ, hh⟩ := hP
  have hx := Bd.exec
  have hby := Bd.bytes
  have hml : c.maxLocals = 2 := hml0
  have hown : s.vm.findClass "com/example/derive/derive/LikeWildcards" = some m.cls := findClass_of_methodNamed Bd.named
  have hnm := (name_of_methodNamed Bd.named Bd.method).1
  have X0 : Stand p l e ({ frames := 1, cells := 0, slots := 0, locals := 12 } : Room) s m #[(.ref tz), (.ref x1)] below meth c s₁ [] 0 0 := Stand.of_body Bd
  have e0 : s₁.heap = h0 := by rw [← hh, Bd.state]; rfl
  have N0 := Fr.nil n0
  have K0 : Keep h0 h0 [] := Keep.refl _ _
  have pre0 : ∀ t, Steps p.tables e below (s₁.setTop (mkF m 0 #[.val (.ref tz), .val (.ref x1)] [])) t → Steps p.tables e below (s₁.setTop (entryFrame m #[(.ref tz), (.ref x1)] 2)) t := fun t k => castTop (ef8_0 m tz x1) k
  obtain ⟨cq173, kq173, q173a, q173b, q173c⟩ := isOf hZ e0 E_tz
  obtain ⟨_, _, ⟨T173, L173, k173, n173⟩, -, X173, ⟨Lc173, hQ173, l173, y173, z173⟩, st173⟩ := X0.virtualBackUp hx (owner := "java/lang/Enum") (x := (⟨"com/example/derive/derive/LikeWildcards", "ordinal", "()I"⟩ : MethodName)) (y := (⟨"java/lang/Enum", "ordinal", "()I"⟩ : MethodName)) hown (mvT hZ (own_wd hw 41 rfl)) (mvT hZ (own_wd hw 42 rfl)) (mvT hZ (own_wd hw 43 rfl)) (by decide) (mvT hZ (own_wd hw 45 rfl)) (mvT hZ (own_wd hw 44 rfl)) (backOf (W := 0) (rm9 l Z a0 hw [] tz (0 : Int32) h0 n0 Z0 O0 F_tz_ordinal) hZ (own_wd hw 47 rfl) (own_wd hw 46 rfl) (by decide) (by decide)) q173a q173c (g := (mkF m 1 #[.val (.ref tz), .val (.ref x1)] [(.ref tz)])) rfl (by rw [hml]; rfl) (Steps.refl _) (argsL := []) (rest := []) (lenOf pd_0 rfl) rfl (by show 2 * 0 + _ ≤ _; exact Nat.le_of_eq rfl) (hb hby d8_1) (fun _ _ => ⟨rfl, e0, (by decide : 0 + 0 ≤ _), (by decide : 0 + 0 ≤ _)⟩)
  dsimp only [Pt.U, Pt.locs, Pt.cells, Pt.slots] at X173 l173 y173 z173 st173 hQ173
  subst l173 y173 z173
  obtain ⟨rfl, N173q, eh173⟩ := hQ173
  have N173 := Fr.app N0 N173q
  obtain ⟨fs, hr, hrun, hended, hW, hsame⟩ := X173.leave (v := some (.ref x1)) (fun h => by rw [Bd.returns] at h; cases h)
  refine ⟨_, _, pre0 _ ?_, hrun, hended, _, _, rfl, ?_, ⟨_, rfl⟩, hW, hsame.mono (by decide) (by decide)⟩
  · show Steps p.tables e below (s₁.setTop (mkF m 0 #[.val (.ref tz), .val (.ref x1)] [])) _
    refine XS.aloadN X0.here hx rfl (hb hby d8_0) rfl rfl ?_
    show Steps p.tables e below (s₁.setTop (mkF m 1 #[.val (.ref tz), .val (.ref x1)] [(.ref tz)])) _
    refine st173.trans ?_
    show Steps p.tables e below (T173.setTop (mkF m 4 #[.val (.ref tz), .val (.ref x1)] [(.int (0 : Int32))])) _
    refine XS.tswIn X173.here hx rfl (o := 42) (pc0 := 4) (pc' := 46) rfl (hb hby d8_4) rfl (by decide) (by decide) (by decide) (by decide) ?_
    refine XS.aloadN X173.here hx rfl (hb hby d8_46) rfl rfl ?_
    refine XS.goto X173.here hx rfl (pc0 := 47) (pc' := 118) rfl (hb hby d8_47) (by decide) (by decide) ?_
    show Steps p.tables e below (T173.setTop (mkF m 118 #[.val (.ref tz), .val (.ref x1)] [(.ref x1)])) _
    jvm_step X173.here [X173.here.top, hx, (hb hby d8_118), X173.method', Bd.returns, Value.isRef, FieldType.isReference]
    first | (intro acts; rw [hr _ acts rfl rfl rfl]) | rw [hr _ _ rfl rfl rfl]
    exact Steps.refl _
  · show Q8_0 Z tz x1 x1_value y0 ks st_COMPACT_STRINGS h0 n0 _ T173.heap _
    rw [eh173]
    exact ⟨rfl, N173, rfl⟩
theorem d8_50 : decode prog_8_method_5_code 50 = .ok (.new 44, 3) := by decide +kernel
theorem d8_53 : decode prog_8_method_5_code 53 = .ok (.dup, 1) := by decide +kernel
theorem pd_14 : parseMethodDescriptor "()V" = some ⟨[], none⟩ := by decide +kernel
theorem d8_54 : decode prog_8_method_5_code 54 = .ok (.invokespecial 46, 3) := by decide +kernel
theorem d8_57 : decode prog_8_method_5_code 57 = .ok (.aload_n 1, 1) := by decide +kernel
theorem pd_15 : parseMethodDescriptor "(Ljava/lang/String;)Ljava/lang/StringBuilder;" = some ⟨[(.object "java/lang/String")], some (.object "java/lang/StringBuilder")⟩ := by decide +kernel
theorem d8_58 : decode prog_8_method_5_code 58 = .ok (.invokevirtual 49, 3) := by decide +kernel
theorem d8_61 : decode prog_8_method_5_code 61 = .ok (.ldc 53, 2) := by decide +kernel
theorem d8_63 : decode prog_8_method_5_code 63 = .ok (.invokevirtual 49, 3) := by decide +kernel
theorem pd_16 : parseMethodDescriptor "()Ljava/lang/String;" = some ⟨[], some (.object "java/lang/String")⟩ := by decide +kernel
theorem d8_66 : decode prog_8_method_5_code 66 = .ok (.invokevirtual 55, 3) := by decide +kernel
theorem d8_69 : decode prog_8_method_5_code 69 = .ok (.goto 49, 3) := by decide +kernel
theorem ef8_1 (m : MethodId) (tz : Addr) (x1 : Addr) : entryFrame m #[(.ref tz), (.ref x1)] 2 = mkF m 0 #[.val (.ref tz), .val (.ref x1)] [] := by first | (simp [entryFrame, mkF, argsToLocals, Value.category]; done) | rfl
def Q8_1 (Z : State) (tz : Addr) (x1 : Addr) (x1_value : Addr) (y0 : Int32) (ks : ClassId) (st_COMPACT_STRINGS : Int32) (h0 : Heap) (n0 : Nat) (v : Option Value) (h : Heap) (L : List Loc) : Prop := ∃ (b : Addr), ∃ (t : Addr), ∃ (kk : ClassId), v = some (.ref b) ∧ Fr n0 L ∧ Keep h0 h [] ∧ h0.size ≤ b ∧ Exa Z h b "java/lang/String" ∧ Fld Z h b "java/lang/String" "value" "[B" (.ref t) ∧ Fld Z h b "java/lang/String" "coder" "B" (.int (0 : Int32)) ∧ Arv Z h t kk .byte (2 : Int32) [(.int (y0.toInt8.toInt32)), (.int (37 : Int32))] (.int (0 : Int32))
set_option maxRecDepth 65536 in
set_option maxHeartbeats 40000000 in
theorem rm8_1 (l : Launch) (Z : State) (a0 : Array Value) (hw : ∀ d ∈ tables_1, d.before a0 Z = true) (ws : List Jvm.Cond) (tz : Addr) (x1 : Addr) (x1_value : Addr) (y0 : Int32) (ks : ClassId) (st_COMPACT_STRINGS : Int32) (h0 : Heap) (n0 : Nat) (Z0 : n0 ≤ h0.size) (O0 : Old Z n0 h0) (E_tz : Exa Z h0 tz "com/example/derive/derive/LikeWildcards") (F_tz_ordinal : Fld Z h0 tz "java/lang/Enum" "ordinal" "I" (.int (1 : Int32))) (E_x1 : Exa Z h0 x1 "java/lang/String") (F_x1_value : Fld Z h0 x1 "java/lang/String" "value" "[B" (.ref x1_value)) (F_x1_coder : Fld Z h0 x1 "java/lang/String" "coder" "B" (.int (0 : Int32))) (V_x1_value : Arv Z h0 x1_value ks .byte (1 : Int32) [(.int (y0.toInt8.toInt32))] (.int 0)) (hp : ∀ c ∈ ([y0] : List Int32), ¬ c < 0 ∧ ¬ (255 : Int32) < c) (S_COMPACT_STRINGS : Sta Z Z.heap "java/lang/String" "COMPACT_STRINGS" "Z" (.int st_COMPACT_STRINGS)) (hcomp : ¬ (st_COMPACT_STRINGS = (0 : Int32))) :
    MetFree l (⟨"com/example/derive/derive/LikeWildcards", "addTo", "(Ljava/lang/String;)Ljava/lang/String;"⟩ : MethodName) (head1 (Jvm.Cond.code (⟨"com/example/derive/derive/LikeWildcards", "addTo", "(Ljava/lang/String;)Ljava/lang/String;"⟩ : MethodName) prog_8_method_5_code 2 (some (.object "java/lang/String")) :: ws) ({ frames := 6, cells := 6, slots := 34, locals := 91 } : Room)) (fun a U => a = #[(.ref tz), (.ref x1)] ∧ Z.Warmed39 U.vm ∧ U.heap = h0 ∧ CHv Z own_EL U.vm h0) (fun _ _ _ _ _ => True) (fun _ U o U' => ∃ v L, o = .returned v ∧ Q8_1 Z tz x1 x1_value y0 ks st_COMPACT_STRINGS h0 n0 v U'.heap L ∧ CHr Z own_EL U.vm U.heap U'.vm U'.heap ∧ ReturnedEndW U o U' L ({ frames := 6, cells := 6, slots := 34, locals := 91 } : Room).cells ({ frames := 6, cells := 6, slots := 34, locals := 91 } : Room).slots) := by
  refine MetFree.of_bodySF (plainFor_of_name pn_com_example_derive_derive_LikeWildcards) hisR ?_
  intro p e s m args below meth c s₁ Bd hml0 hP hK
  obtain ⟨rfl, hZ, hh, CH0⟩ := hP
  have hx := Bd.exec
  have hby := Bd.bytes
  have hml : c.maxLocals = 2 := hml0
  have hown : (s.setVm s.vm).vm.findClass "com/example/derive/derive/LikeWildcards" = some m.cls := findClass_of_methodNamed Bd.named
  have hnm := (name_of_methodNamed Bd.named Bd.method).1
  have X0 : Stand p l e ({ frames := 6, cells := 6, slots := 34, locals := 91 } : Room) (s.setVm s.vm) m #[(.ref tz), (.ref x1)] below meth c s₁ [] 0 0 := Stand.of_body Bd
  have e0 : s₁.heap = h0 := by rw [← hh, Bd.state]; rfl
  have N0 := Fr.nil n0
  have K0 : Keep h0 h0 [] := Keep.refl _ _
  have pre0 : ∀ t, Steps p.tables e below (s₁.setTop (mkF m 0 #[.val (.ref tz), .val (.ref x1)] [])) t → Steps p.tables e below (s₁.setTop (entryFrame m #[(.ref tz), (.ref x1)] 2)) t := fun t k => castTop (ef8_1 m tz x1) k
  have hZa : Z.Warmed39 (s.setVm s.vm).vm := hZ
  have howna : (s.setVm s.vm).vm.findClass "com/example/derive/derive/LikeWildcards" = some m.cls := hown
  have hS0 : s.Since s.vm h0.size := (State.WarmedH.refl s).since _
  have hk0 : h0.size ≤ h0.size := Nat.le_refl _
  have CR0 : CHr Z own_EL s.vm h0 s.vm h0 := CHr.refl CH0
  obtain ⟨cq174, kq174, q174a, q174b, q174c⟩ := isOf hZa e0 E_tz
  obtain ⟨_, _, ⟨T174, L174, k174, n174⟩, -, X174, ⟨Lc174, hQ174, l174, y174, z174⟩, st174⟩ := X0.virtualBackUp hx (owner := "java/lang/Enum") (x := (⟨"com/example/derive/derive/LikeWildcards", "ordinal", "()I"⟩ : MethodName)) (y := (⟨"java/lang/Enum", "ordinal", "()I"⟩ : MethodName)) howna (mvT hZa (own_wd hw 41 rfl)) (mvT hZa (own_wd hw 42 rfl)) (mvT hZa (own_wd hw 43 rfl)) (by decide) (mvT hZa (own_wd hw 45 rfl)) (mvT hZa (own_wd hw 44 rfl)) (backOf (W := 0) (rm9 l Z a0 hw [] tz (1 : Int32) h0 n0 Z0 O0 F_tz_ordinal) hZa (own_wd hw 47 rfl) (own_wd hw 46 rfl) (by decide) (by decide)) q174a q174c (g := (mkF m 1 #[.val (.ref tz), .val (.ref x1)] [(.ref tz)])) rfl (by rw [hml]; rfl) (Steps.refl _) (argsL := []) (rest := []) (lenOf pd_0 rfl) rfl (by show 2 * 0 + _ ≤ _; exact Nat.le_of_eq rfl) (hb hby d8_1) (fun _ _ => ⟨rfl, e0, (by decide : 0 + 0 ≤ _), (by decide : 0 + 0 ≤ _)⟩)
  dsimp only [Pt.U, Pt.locs, Pt.cells, Pt.slots] at X174 l174 y174 z174 st174 hQ174
  subst l174 y174 z174
  obtain ⟨rfl, N174q, eh174⟩ := hQ174
  have N174 := Fr.app N0 N174q
  obtain ⟨T175, h175, X175, e175, E175, A175, D175, U175, st175⟩ := newO X174 hx hZa howna (own_wd hw 84 rfl) (own_wd hw 85 rfl) (own_wd hw 86 rfl) eh174 (g := (mkF m 50 #[.val (.ref tz), .val (.ref x1)] [])) rfl (hb hby d8_50) (by decide) (by decide)
  obtain ⟨b175, g175⟩ : ∃ z, z = h0.size := ⟨_, rfl⟩
  rw [← g175] at A175 D175 st175
  have O175 : Old Z n0 h175 := O0.ext E175
  have Z175 : n0 ≤ h175.size := Nat.le_trans Z0 E175.1
  have K175 : Keep h0 h175 [] := K0.ext E175
  have CH175 : CHv Z own_EL s.vm h175 := CHv.ext E175 CH0
  have CR175 : CHr Z own_EL s.vm h0 s.vm h175 := CR0.trans (CHr.ext E175 CH0)
  have g_b175 : n0 ≤ b175 := Nat.le_trans Z0 (Nat.le_of_eq g175.symm)
  have sz_b175 : h0.size ≤ b175 := Nat.le_trans K0.1 (Nat.le_of_eq g175.symm)
  have F_b175_value : Fld Z h175 b175 "java/lang/AbstractStringBuilder" "value" "[B" .null := D175 (Or.inl (own_wd hw 99 rfl)) (ty := (.array .byte)) (by decide)
  have F_b175_coder : Fld Z h175 b175 "java/lang/AbstractStringBuilder" "coder" "B" (.int (0 : Int32)) := D175 (Or.inl (own_wd hw 101 rfl)) (ty := .byte) (by decide)
  have F_b175_count : Fld Z h175 b175 "java/lang/AbstractStringBuilder" "count" "I" (.int (0 : Int32)) := D175 (Or.inl (own_wd hw 114 rfl)) (ty := .int) (by decide)
  obtain ⟨_, _, ⟨T176, L176, k176, n176⟩, -, X176, ⟨Lc176, hQ176, l176, y176, z176⟩, st176⟩ := X175.specialBack hx (y := (⟨"java/lang/StringBuilder", "<init>", "()V"⟩ : MethodName)) rfl howna (mvT hZa (own_wd hw 87 rfl)) (mvT hZa (own_wd hw 88 rfl)) (mvT hZa (own_wd hw 89 rfl)) (by decide) (backOf (W := 1) (rm17 l Z a0 hw [] b175 st_COMPACT_STRINGS .null (.int (0 : Int32)) h175 n0 Z175 O175 A175 F_b175_count S_COMPACT_STRINGS F_b175_value F_b175_coder hcomp g_b175) hZa (own_wd hw 89 rfl) (own_wd hw 86 rfl) (by decide) (by decide)) (g := (mkF m 54 #[.val (.ref tz), .val (.ref x1)] [(.ref b175), (.ref b175)])) rfl (by rw [hml]; rfl) (Steps.refl _) (a := b175) (argsL := []) (rest := [(.ref b175)]) (lenOf pd_14 rfl) rfl (by show 2 * 0 + _ ≤ _; exact Nat.le_of_eq rfl) (hb hby d8_54) (fun _ _ => ⟨rfl, e175, (by decide : 1 + 1 ≤ _), (by decide : 4 + 16 ≤ _)⟩)
  dsimp only [Pt.U, Pt.locs, Pt.cells, Pt.slots] at X176 l176 y176 z176 st176 hQ176
  subst l176 y176 z176
  obtain ⟨b_176, kb_176, rfl, N176q, KK176, Q176_0, Q176_1, Q176_2, Q176_3, Q176_4, Q176_5⟩ := hQ176
  have N176 := Fr.app N174 N176q
  have O176 : Old Z n0 T176.heap := O175.keep KK176 (allS g_b175 all0)
  have Z176 : n0 ≤ T176.heap.size := Nat.le_trans Z175 KK176.1
  have K176 : Keep h0 T176.heap [] := K175.trans KK176 (allS (Or.inr sz_b175) all0)
  have CH176 : CHv Z own_EL s.vm T176.heap := CHv.keep KK176 (sfS (Safe.exa hZa.alike A175 (by decide) (by decide)) sf0) CH175
  have CR176 : CHr Z own_EL s.vm h0 s.vm T176.heap := CR175.trans (CHr.keep KK176 (sfS (Safe.exa hZa.alike A175 (by decide) (by decide)) sf0) CH175)
  have g_b_176 : n0 ≤ b_176 := Nat.le_trans (Nat.le_trans Z0 E175.1) Q176_0
  have sz_b_176 : h0.size ≤ b_176 := Nat.le_trans K175.1 Q176_0
  have F177 : Fld Z T176.heap x1 "java/lang/String" "value" "[B" (.ref x1_value) := ((F_x1_value.ext E175).keep KK176 (ninS (Nat.ne_of_lt (Nat.lt_of_lt_of_le E_x1.lt (Nat.le_of_eq g175.symm))) nin0))
  have F178 : Fld Z T176.heap x1 "java/lang/String" "coder" "B" (.int (0 : Int32)) := ((F_x1_coder.ext E175).keep KK176 (ninS (Nat.ne_of_lt (Nat.lt_of_lt_of_le E_x1.lt (Nat.le_of_eq g175.symm))) nin0))
  have C179 : Exa Z T176.heap x1 "java/lang/String" := ((E_x1.ext E175).keep KK176)
  have V180 : Arv Z T176.heap x1_value ks .byte (1 : Int32) [(.int (y0.toInt8.toInt32))] (.int 0) := ((V_x1_value.ext E175).keep KK176 (ninS (Nat.ne_of_lt (Nat.lt_of_lt_of_le V_x1_value.lt (Nat.le_of_eq g175.symm))) nin0))
  obtain ⟨cq181, kq181, q181a, q181b, q181c⟩ := isOf hZa rfl Q176_1
  obtain ⟨_, _, ⟨T181, L181, k181, n181⟩, -, X181, ⟨Lc181, hQ181, l181, y181, z181⟩, st181⟩ := X176.virtualBack hx (y := (⟨"java/lang/StringBuilder", "append", "(Ljava/lang/String;)Ljava/lang/StringBuilder;"⟩ : MethodName)) (z := (⟨"java/lang/StringBuilder", "append", "(Ljava/lang/String;)Ljava/lang/StringBuilder;"⟩ : MethodName)) howna (mvT hZa (own_wd hw 102 rfl)) (mvT hZa (own_wd hw 103 rfl)) (notFace_of_selects (args := #[]) (mvT hZa (own_wd hw 105 rfl))) (mvT hZa (own_wd hw 105 rfl)) (mvT hZa (own_wd hw 104 rfl)) (by decide) (backOf (W := 0) (rm19_0 l Z a0 hw [] b175 x1 b_176 x1_value y0 kb_176 ks st_COMPACT_STRINGS T176.heap n0 Z176 O176 Q176_1 Q176_2 Q176_3 Q176_5 Q176_4 C179 F177 F178 V180 (Nat.ne_of_lt (Nat.lt_of_lt_of_le (V_x1_value.ext E175).lt Q176_0)) hp S_COMPACT_STRINGS hcomp g_b_176 g_b175) hZa (own_wd hw 106 rfl) (own_wd hw 86 rfl) (by decide) (by decide)) q181a q181c (g := (mkF m 58 #[.val (.ref tz), .val (.ref x1)] [(.ref x1), (.ref b175)])) rfl (by rw [hml]; rfl) (Steps.refl _) (argsL := [(.ref x1)]) (rest := []) (lenOf pd_15 rfl) rfl (by show 2 * 0 + _ ≤ _; exact Nat.le_of_eq rfl) (hb hby d8_58) (fun _ _ => ⟨rfl, rfl, (by decide : 2 + 0 ≤ _), (by decide : 20 + 0 ≤ _)⟩)
  dsimp only [Pt.U, Pt.locs, Pt.cells, Pt.slots] at X181 l181 y181 z181 st181 hQ181
  subst l181 y181 z181
  obtain ⟨rfl, N181q, KK181, Q181_0, Q181_1, Q181_2, Q181_3, Q181_4⟩ := hQ181
  have N181 := Fr.app N176 N181q
  have sf182 : Safe Z own_EL s.vm T176.heap b_176 := (Safe.keep KK176 (sfS (Safe.exa hZa.alike A175 (by decide) (by decide)) sf0) CH175 (Safe.new Q176_0))
  have O181 : Old Z n0 T181.heap := O176.keep KK181 (allS g_b175 (allS g_b_176 all0))
  have Z181 : n0 ≤ T181.heap.size := Nat.le_trans Z176 KK181.1
  have K181 : Keep h0 T181.heap [] := K176.trans KK181 (allS (Or.inr sz_b175) (allS (Or.inr sz_b_176) all0))
  have CH181 : CHv Z own_EL s.vm T181.heap := CHv.keep KK181 (sfS (Safe.exa hZa.alike Q176_1 (by decide) (by decide)) (sfS sf182 sf0)) CH176
  have CR181 : CHr Z own_EL s.vm h0 s.vm T181.heap := CR176.trans (CHr.keep KK181 (sfS (Safe.exa hZa.alike Q176_1 (by decide) (by decide)) (sfS sf182 sf0)) CH176)
  obtain ⟨b183, T183, h183, k183, t183, kb183, X183, e183, E183, hS183, hk183, hZ183, hown183, Ex183, Co183, Va183, Ar183, lta183, ltb183, R183, Lt183, sep183, st183⟩ := ldcCH (s := s) (vm0 := s.vm) X181 hx hZa howna (own_wd hw 140 rfl) (own_wS hw) rfl hS0 (Nat.le_trans (Nat.le_trans (Nat.le_trans hk0 E175.1) KK176.1) KK181.1) (own_EW hw) (List.mem_of_getElem? (i := 0) rfl) CH181 (vs := [(.int (37 : Int32))]) (z := (1 : Int32)) ⟨by decide +kernel, by decide +kernel⟩ (by decide) (by decide) (g := (mkF m 61 #[.val (.ref tz), .val (.ref x1)] [(.ref b175)])) rfl (hb hby d8_61) (n := 4) (by decide +kernel) (by decide) (by decide) (by decide)
  have O183 : Old Z n0 h183 := O181.ext E183
  have Z183 : n0 ≤ h183.size := Nat.le_trans Z181 E183.1
  have K183 : Keep h0 h183 [] := K181.ext E183
  have CH183 : CHv Z own_EL T183.vm h183 := R183.1
  have CR183 : CHr Z own_EL s.vm h0 T183.vm h183 := CR181.trans R183
  have F184 : Fld Z h183 b175 "java/lang/AbstractStringBuilder" "value" "[B" (.ref b_176) := (Q181_1.ext E183)
  have F185 : Fld Z h183 b175 "java/lang/AbstractStringBuilder" "coder" "B" (.int (0 : Int32)) := (Q181_2.ext E183)
  have F186 : Fld Z h183 b175 "java/lang/AbstractStringBuilder" "count" "I" (.int (1 : Int32)) := (Q181_3.ext E183)
  have C187 : Exa Z h183 b175 "java/lang/StringBuilder" := (Q181_0.ext E183)
  have V188 : Arv Z h183 b_176 kb_176 .byte (16 : Int32) [(.int (y0.toInt8.toInt32)), (.int (0 : Int32)), (.int (0 : Int32)), (.int (0 : Int32)), (.int (0 : Int32)), (.int (0 : Int32)), (.int (0 : Int32)), (.int (0 : Int32)), (.int (0 : Int32)), (.int (0 : Int32)), (.int (0 : Int32)), (.int (0 : Int32)), (.int (0 : Int32)), (.int (0 : Int32)), (.int (0 : Int32)), (.int (0 : Int32))] (.int (0 : Int32)) := (Q181_4.ext E183)
  obtain ⟨cq189, kq189, q189a, q189b, q189c⟩ := isOf hZ183 e183 C187
  obtain ⟨_, _, ⟨T189, L189, k189, n189⟩, -, X189, ⟨Lc189, hQ189, l189, y189, z189⟩, st189⟩ := X183.virtualBack hx (y := (⟨"java/lang/StringBuilder", "append", "(Ljava/lang/String;)Ljava/lang/StringBuilder;"⟩ : MethodName)) (z := (⟨"java/lang/StringBuilder", "append", "(Ljava/lang/String;)Ljava/lang/StringBuilder;"⟩ : MethodName)) hown183 (mvT hZ183 (own_wd hw 102 rfl)) (mvT hZ183 (own_wd hw 103 rfl)) (notFace_of_selects (args := #[]) (mvT hZ183 (own_wd hw 105 rfl))) (mvT hZ183 (own_wd hw 105 rfl)) (mvT hZ183 (own_wd hw 104 rfl)) (by decide) (backOf (W := 0) (rm19_1 l Z a0 hw [] b175 b183 b_176 t183 (y0.toInt8.toInt32) (37 : Int32) kb_176 kb183 st_COMPACT_STRINGS h183 n0 Z183 O183 C187 F184 F185 V188 F186 Ex183 Va183 Co183 Ar183 (Ne.symm (sep183 _ (CHr.safe R183 Q181_4.lt (Safe.keep KK181 (sfS (Safe.exa hZa.alike Q176_1 (by decide) (by decide)) (sfS sf182 sf0)) CH176 sf182))).2) (by decide) S_COMPACT_STRINGS hcomp g_b_176 g_b175) hZ183 (own_wd hw 106 rfl) (own_wd hw 86 rfl) (by decide) (by decide)) q189a q189c (g := (mkF m 63 #[.val (.ref tz), .val (.ref x1)] [(.ref b183), (.ref b175)])) rfl (by rw [hml]; rfl) (Steps.refl _) (argsL := [(.ref b183)]) (rest := []) (lenOf pd_15 rfl) rfl (by show 2 * 0 + _ ≤ _; exact Nat.le_of_eq rfl) (hb hby d8_63) (fun _ _ => ⟨rfl, e183, (by decide : 4 + 0 ≤ _), (by decide : 28 + 0 ≤ _)⟩)
  dsimp only [Pt.U, Pt.locs, Pt.cells, Pt.slots] at X189 l189 y189 z189 st189 hQ189
  subst l189 y189 z189
  obtain ⟨rfl, N189q, KK189, Q189_0, Q189_1, Q189_2, Q189_3, Q189_4⟩ := hQ189
  have N189 := Fr.app N181 N189q
  have sf190 : Safe Z own_EL T183.vm h183 b_176 := (CHr.safe R183 Q181_4.lt (Safe.keep KK181 (sfS (Safe.exa hZa.alike Q176_1 (by decide) (by decide)) (sfS sf182 sf0)) CH176 sf182))
  have O189 : Old Z n0 T189.heap := O183.keep KK189 (allS g_b175 (allS g_b_176 all0))
  have Z189 : n0 ≤ T189.heap.size := Nat.le_trans Z183 KK189.1
  have K189 : Keep h0 T189.heap [] := K183.trans KK189 (allS (Or.inr sz_b175) (allS (Or.inr sz_b_176) all0))
  have CH189 : CHv Z own_EL T183.vm T189.heap := CHv.keep KK189 (sfS (Safe.exa hZ183.alike C187 (by decide) (by decide)) (sfS sf190 sf0)) CH183
  have CR189 : CHr Z own_EL s.vm h0 T183.vm T189.heap := CR183.trans (CHr.keep KK189 (sfS (Safe.exa hZ183.alike C187 (by decide) (by decide)) (sfS sf190 sf0)) CH183)
  obtain ⟨cq191, kq191, q191a, q191b, q191c⟩ := isOf hZ183 rfl Q189_0
  obtain ⟨_, _, ⟨T191, L191, k191, n191⟩, -, X191, ⟨Lc191, hQ191, l191, y191, z191⟩, st191⟩ := X189.virtualBack hx (y := (⟨"java/lang/StringBuilder", "toString", "()Ljava/lang/String;"⟩ : MethodName)) (z := (⟨"java/lang/StringBuilder", "toString", "()Ljava/lang/String;"⟩ : MethodName)) hown183 (mvT hZ183 (own_wd hw 143 rfl)) (mvT hZ183 (own_wd hw 144 rfl)) (notFace_of_selects (args := #[]) (mvT hZ183 (own_wd hw 146 rfl))) (mvT hZ183 (own_wd hw 146 rfl)) (mvT hZ183 (own_wd hw 145 rfl)) (by decide) (backOf (W := 0) (rm25_2 l Z a0 hw [] b175 b_176 (y0.toInt8.toInt32) ((37 : Int32).toInt8.toInt32) kb_176 st_COMPACT_STRINGS T189.heap n0 Z189 O189 Q189_0 Q189_1 Q189_2 Q189_3 Q189_4 S_COMPACT_STRINGS hcomp) hZ183 (own_wd hw 147 rfl) (own_wd hw 86 rfl) (by decide) (by decide)) q191a q191c (g := (mkF m 66 #[.val (.ref tz), .val (.ref x1)] [(.ref b175)])) rfl (by rw [hml]; rfl) (Steps.refl _) (argsL := []) (rest := []) (lenOf pd_16 rfl) rfl (by show 2 * 0 + _ ≤ _; exact Nat.le_of_eq rfl) (hb hby d8_66) (fun _ _ => ⟨rfl, rfl, (by decide : 4 + 2 ≤ _), (by decide : 28 + 6 ≤ _)⟩)
  dsimp only [Pt.U, Pt.locs, Pt.cells, Pt.slots] at X191 l191 y191 z191 st191 hQ191
  subst l191 y191 z191
  obtain ⟨b_191, t_191, kk_191, rfl, N191q, KK191, Q191_0, Q191_1, Q191_2, Q191_3, Q191_4, Q191_5⟩ := hQ191
  have N191 := Fr.app N189 N191q
  have O191 : Old Z n0 T191.heap := O189.keep KK191 all0
  have Z191 : n0 ≤ T191.heap.size := Nat.le_trans Z189 KK191.1
  have K191 : Keep h0 T191.heap [] := K189.trans KK191 all0
  have CH191 : CHv Z own_EL T183.vm T191.heap := CHv.keep KK191 sf0 CH189
  have CR191 : CHr Z own_EL s.vm h0 T183.vm T191.heap := CR189.trans (CHr.keep KK191 sf0 CH189)
  have g_b_191 : n0 ≤ b_191 := Nat.le_trans (Nat.le_trans (Nat.le_trans (Nat.le_trans (Nat.le_trans (Nat.le_trans Z0 E175.1) KK176.1) KK181.1) E183.1) KK189.1) Q191_0
  have sz_b_191 : h0.size ≤ b_191 := Nat.le_trans K189.1 Q191_0
  have g_t_191 : n0 ≤ t_191 := Nat.le_trans (Nat.le_trans (Nat.le_trans (Nat.le_trans (Nat.le_trans (Nat.le_trans Z0 E175.1) KK176.1) KK181.1) E183.1) KK189.1) Q191_1
  have sz_t_191 : h0.size ≤ t_191 := Nat.le_trans K189.1 Q191_1
  obtain ⟨fs, hr, hrun, hended, hW, hsame⟩ := X191.leave (v := some (.ref b_191)) (fun h => by rw [Bd.returns] at h; cases h)
  have hend := hS183.ended hW (show _ ≤ T191.heap.size from (Nat.le_trans (Nat.le_trans hk183 KK189.1) KK191.1)) hsame
  have hcr : CHr Z own_EL s.vm s.heap T191.vm T191.heap := by
    rw [hh]
    exact CR191.trans (CHv.at X191 hZ183 (own_EW hw) CH191)
  refine ⟨_, _, pre0 _ ?_, hrun, hended, _, _, rfl, ?_, hcr, ⟨_, rfl⟩, hend.1, hend.2.1, hend.2.2.mono (by decide) (by decide)⟩
  · show Steps p.tables e below (s₁.setTop (mkF m 0 #[.val (.ref tz), .val (.ref x1)] [])) _
    refine XS.aloadN X0.here hx rfl (hb hby d8_0) rfl rfl ?_
    show Steps p.tables e below (s₁.setTop (mkF m 1 #[.val (.ref tz), .val (.ref x1)] [(.ref tz)])) _
    refine st174.trans ?_
    show Steps p.tables e below (T174.setTop (mkF m 4 #[.val (.ref tz), .val (.ref x1)] [(.int (1 : Int32))])) _
    refine XS.tswIn X174.here hx rfl (o := 46) (pc0 := 4) (pc' := 50) rfl (hb hby d8_4) rfl (by decide) (by decide) (by decide) (by decide) ?_
    show Steps p.tables e below (T174.setTop (mkF m 50 #[.val (.ref tz), .val (.ref x1)] [])) _
    refine st175 _ ?_
    show Steps p.tables e below (T175.setTop (mkF m 53 #[.val (.ref tz), .val (.ref x1)] [(.ref b175)])) _
    refine XS.dup X175.here hx rfl (hb hby d8_53) rfl rfl ?_
    show Steps p.tables e below (T175.setTop (mkF m 54 #[.val (.ref tz), .val (.ref x1)] [(.ref b175), (.ref b175)])) _
    refine st176.trans ?_
    show Steps p.tables e below (T176.setTop (mkF m 57 #[.val (.ref tz), .val (.ref x1)] [(.ref b175)])) _
    refine XS.aloadN X176.here hx rfl (hb hby d8_57) rfl rfl ?_
    show Steps p.tables e below (T176.setTop (mkF m 58 #[.val (.ref tz), .val (.ref x1)] [(.ref x1), (.ref b175)])) _
    refine st181.trans ?_
    show Steps p.tables e below (T181.setTop (mkF m 61 #[.val (.ref tz), .val (.ref x1)] [(.ref b175)])) _
    refine st183 _ ?_
    show Steps p.tables e below (T183.setTop (mkF m 63 #[.val (.ref tz), .val (.ref x1)] [(.ref b183), (.ref b175)])) _
    refine st189.trans ?_
    show Steps p.tables e below (T189.setTop (mkF m 66 #[.val (.ref tz), .val (.ref x1)] [(.ref b175)])) _
    refine st191.trans ?_
    show Steps p.tables e below (T191.setTop (mkF m 69 #[.val (.ref tz), .val (.ref x1)] [(.ref b_191)])) _
    refine XS.goto X191.here hx rfl (pc0 := 69) (pc' := 118) rfl (hb hby d8_69) (by decide) (by decide) ?_
    show Steps p.tables e below (T191.setTop (mkF m 118 #[.val (.ref tz), .val (.ref x1)] [(.ref b_191)])) _
    jvm_step X191.here [X191.here.top, hx, (hb hby d8_118), X191.method', Bd.returns, Value.isRef, FieldType.isReference]
    first | (intro acts; rw [hr _ acts rfl rfl rfl]) | rw [hr _ _ rfl rfl rfl]
    exact Steps.refl _
  · show Q8_1 Z tz x1 x1_value y0 ks st_COMPACT_STRINGS h0 n0 _ T191.heap _
    exact ⟨b_191, t_191, kk_191, rfl, N191, K191, sz_b_191, Q191_2, Q191_3, Q191_4, Q191_5⟩
theorem d8_72 : decode prog_8_method_5_code 72 = .ok (.new 44, 3) := by decide +kernel
theorem d8_75 : decode prog_8_method_5_code 75 = .ok (.dup, 1) := by decide +kernel
theorem d8_76 : decode prog_8_method_5_code 76 = .ok (.invokespecial 46, 3) := by decide +kernel
theorem d8_79 : decode prog_8_method_5_code 79 = .ok (.ldc 53, 2) := by decide +kernel
theorem d8_81 : decode prog_8_method_5_code 81 = .ok (.invokevirtual 49, 3) := by decide +kernel
theorem d8_84 : decode prog_8_method_5_code 84 = .ok (.aload_n 1, 1) := by decide +kernel
theorem d8_85 : decode prog_8_method_5_code 85 = .ok (.invokevirtual 49, 3) := by decide +kernel
theorem d8_88 : decode prog_8_method_5_code 88 = .ok (.invokevirtual 55, 3) := by decide +kernel
theorem d8_91 : decode prog_8_method_5_code 91 = .ok (.goto 27, 3) := by decide +kernel
theorem ef8_2 (m : MethodId) (tz : Addr) (x1 : Addr) : entryFrame m #[(.ref tz), (.ref x1)] 2 = mkF m 0 #[.val (.ref tz), .val (.ref x1)] [] := by first | (simp [entryFrame, mkF, argsToLocals, Value.category]; done) | rfl
def Q8_2 (Z : State) (tz : Addr) (x1 : Addr) (x1_value : Addr) (y0 : Int32) (ks : ClassId) (st_COMPACT_STRINGS : Int32) (h0 : Heap) (n0 : Nat) (v : Option Value) (h : Heap) (L : List Loc) : Prop := ∃ (b : Addr), ∃ (t : Addr), ∃ (kk : ClassId), v = some (.ref b) ∧ Fr n0 L ∧ Keep h0 h [] ∧ h0.size ≤ b ∧ Exa Z h b "java/lang/String" ∧ Fld Z h b "java/lang/String" "value" "[B" (.ref t) ∧ Fld Z h b "java/lang/String" "coder" "B" (.int (0 : Int32)) ∧ Arv Z h t kk .byte (2 : Int32) [(.int (37 : Int32)), (.int (y0.toInt8.toInt32))] (.int (0 : Int32))
set_option maxRecDepth 65536 in
set_option maxHeartbeats 40000000 in
theorem rm8_2 (l : Launch) (Z : State) (a0 : Array Value) (hw : ∀ d ∈ tables_1, d.before a0 Z = true) (ws : List Jvm.Cond) (tz : Addr) (x1 : Addr) (x1_value : Addr) (y0 : Int32) (ks : ClassId) (st_COMPACT_STRINGS : Int32) (h0 : Heap) (n0 : Nat) (Z0 : n0 ≤ h0.size) (O0 : Old Z n0 h0) (E_tz : Exa Z h0 tz "com/example/derive/derive/LikeWildcards") (F_tz_ordinal : Fld Z h0 tz "java/lang/Enum" "ordinal" "I" (.int (2 : Int32))) (E_x1 : Exa Z h0 x1 "java/lang/String") (F_x1_value : Fld Z h0 x1 "java/lang/String" "value" "[B" (.ref x1_value)) (F_x1_coder : Fld Z h0 x1 "java/lang/String" "coder" "B" (.int (0 : Int32))) (V_x1_value : Arv Z h0 x1_value ks .byte (1 : Int32) [(.int (y0.toInt8.toInt32))] (.int 0)) (hp : ∀ c ∈ ([y0] : List Int32), ¬ c < 0 ∧ ¬ (255 : Int32) < c) (S_COMPACT_STRINGS : Sta Z Z.heap "java/lang/String" "COMPACT_STRINGS" "Z" (.int st_COMPACT_STRINGS)) (hcomp : ¬ (st_COMPACT_STRINGS = (0 : Int32))) :
    MetFree l (⟨"com/example/derive/derive/LikeWildcards", "addTo", "(Ljava/lang/String;)Ljava/lang/String;"⟩ : MethodName) (head1 (Jvm.Cond.code (⟨"com/example/derive/derive/LikeWildcards", "addTo", "(Ljava/lang/String;)Ljava/lang/String;"⟩ : MethodName) prog_8_method_5_code 2 (some (.object "java/lang/String")) :: ws) ({ frames := 6, cells := 6, slots := 34, locals := 91 } : Room)) (fun a U => a = #[(.ref tz), (.ref x1)] ∧ Z.Warmed39 U.vm ∧ U.heap = h0 ∧ CHv Z own_EL U.vm h0) (fun _ _ _ _ _ => True) (fun _ U o U' => ∃ v L, o = .returned v ∧ Q8_2 Z tz x1 x1_value y0 ks st_COMPACT_STRINGS h0 n0 v U'.heap L ∧ CHr Z own_EL U.vm U.heap U'.vm U'.heap ∧ ReturnedEndW U o U' L ({ frames := 6, cells := 6, slots := 34, locals := 91 } : Room).cells ({ frames := 6, cells := 6, slots := 34, locals := 91 } : Room).slots) := by
  refine MetFree.of_bodySF (plainFor_of_name pn_com_example_derive_derive_LikeWildcards) hisR ?_
  intro p e s m args below meth c s₁ Bd hml0 hP hK
  obtain ⟨rfl, hZ, hh, CH0⟩ := hP
  have hx := Bd.exec
  have hby := Bd.bytes
  have hml : c.maxLocals = 2 := hml0
  have hown : (s.setVm s.vm).vm.findClass "com/example/derive/derive/LikeWildcards" = some m.cls := findClass_of_methodNamed Bd.named
  have hnm := (name_of_methodNamed Bd.named Bd.method).1
  have X0 : Stand p l e ({ frames := 6, cells := 6, slots := 34, locals := 91 } : Room) (s.setVm s.vm) m #[(.ref tz), (.ref x1)] below meth c s₁ [] 0 0 := Stand.of_body Bd
  have e0 : s₁.heap = h0 := by rw [← hh, Bd.state]; rfl
  have N0 := Fr.nil n0
  have K0 : Keep h0 h0 [] := Keep.refl _ _
  have pre0 : ∀ t, Steps p.tables e below (s₁.setTop (mkF m 0 #[.val (.ref tz), .val (.ref x1)] [])) t → Steps p.tables e below (s₁.setTop (entryFrame m #[(.ref tz), (.ref x1)] 2)) t := fun t k => castTop (ef8_2 m tz x1) k
  have hZa : Z.Warmed39 (s.setVm s.vm).vm := hZ
  have howna : (s.setVm s.vm).vm.findClass "com/example/derive/derive/LikeWildcards" = some m.cls := hown
  have hS0 : s.Since s.vm h0.size := (State.WarmedH.refl s).since _
  have hk0 : h0.size ≤ h0.size := Nat.le_refl _
  have CR0 : CHr Z own_EL s.vm h0 s.vm h0 := CHr.refl CH0
  obtain ⟨cq192, kq192, q192a, q192b, q192c⟩ := isOf hZa e0 E_tz
  obtain ⟨_, _, ⟨T192, L192, k192, n192⟩, -, X192, ⟨Lc192, hQ192, l192, y192, z192⟩, st192⟩ := X0.virtualBackUp hx (owner := "java/lang/Enum") (x := (⟨"com/example/derive/derive/LikeWildcards", "ordinal", "()I"⟩ : MethodName)) (y := (⟨"java/lang/Enum", "ordinal", "()I"⟩ : MethodName)) howna (mvT hZa (own_wd hw 41 rfl)) (mvT hZa (own_wd hw 42 rfl)) (mvT hZa (own_wd hw 43 rfl)) (by decide) (mvT hZa (own_wd hw 45 rfl)) (mvT hZa (own_wd hw 44 rfl)) (backOf (W := 0) (rm9 l Z a0 hw [] tz (2 : Int32) h0 n0 Z0 O0 F_tz_ordinal) hZa (own_wd hw 47 rfl) (own_wd hw 46 rfl) (by decide) (by decide)) q192a q192c (g := (mkF m 1 #[.val (.ref tz), .val (.ref x1)] [(.ref tz)])) rfl (by rw [hml]; rfl) (Steps.refl _) (argsL := []) (rest := []) (lenOf pd_0 rfl) rfl (by show 2 * 0 + _ ≤ _; exact Nat.le_of_eq rfl) (hb hby d8_1) (fun _ _ => ⟨rfl, e0, (by decide : 0 + 0 ≤ _), (by decide : 0 + 0 ≤ _)⟩)
  dsimp only [Pt.U, Pt.locs, Pt.cells, Pt.slots] at X192 l192 y192 z192 st192 hQ192
  subst l192 y192 z192
  obtain ⟨rfl, N192q, eh192⟩ := hQ192
  have N192 := Fr.app N0 N192q
  obtain ⟨T193, h193, X193, e193, E193, A193, D193, U193, st193⟩ := newO X192 hx hZa howna (own_wd hw 84 rfl) (own_wd hw 85 rfl) (own_wd hw 86 rfl) eh192 (g := (mkF m 72 #[.val (.ref tz), .val (.ref x1)] [])) rfl (hb hby d8_72) (by decide) (by decide)
  obtain ⟨b193, g193⟩ : ∃ z, z = h0.size := ⟨_, rfl⟩
  rw [← g193] at A193 D193 st193
  have O193 : Old Z n0 h193 := O0.ext E193
  have Z193 : n0 ≤ h193.size := Nat.le_trans Z0 E193.1
  have K193 : Keep h0 h193 [] := K0.ext E193
  have CH193 : CHv Z own_EL s.vm h193 := CHv.ext E193 CH0
  have CR193 : CHr Z own_EL s.vm h0 s.vm h193 := CR0.trans (CHr.ext E193 CH0)
  have g_b193 : n0 ≤ b193 := Nat.le_trans Z0 (Nat.le_of_eq g193.symm)
  have sz_b193 : h0.size ≤ b193 := Nat.le_trans K0.1 (Nat.le_of_eq g193.symm)
  have F_b193_value : Fld Z h193 b193 "java/lang/AbstractStringBuilder" "value" "[B" .null := D193 (Or.inl (own_wd hw 99 rfl)) (ty := (.array .byte)) (by decide)
  have F_b193_coder : Fld Z h193 b193 "java/lang/AbstractStringBuilder" "coder" "B" (.int (0 : Int32)) := D193 (Or.inl (own_wd hw 101 rfl)) (ty := .byte) (by decide)
  have F_b193_count : Fld Z h193 b193 "java/lang/AbstractStringBuilder" "count" "I" (.int (0 : Int32)) := D193 (Or.inl (own_wd hw 114 rfl)) (ty := .int) (by decide)
  obtain ⟨_, _, ⟨T194, L194, k194, n194⟩, -, X194, ⟨Lc194, hQ194, l194, y194, z194⟩, st194⟩ := X193.specialBack hx (y := (⟨"java/lang/StringBuilder", "<init>", "()V"⟩ : MethodName)) rfl howna (mvT hZa (own_wd hw 87 rfl)) (mvT hZa (own_wd hw 88 rfl)) (mvT hZa (own_wd hw 89 rfl)) (by decide) (backOf (W := 1) (rm17 l Z a0 hw [] b193 st_COMPACT_STRINGS .null (.int (0 : Int32)) h193 n0 Z193 O193 A193 F_b193_count S_COMPACT_STRINGS F_b193_value F_b193_coder hcomp g_b193) hZa (own_wd hw 89 rfl) (own_wd hw 86 rfl) (by decide) (by decide)) (g := (mkF m 76 #[.val (.ref tz), .val (.ref x1)] [(.ref b193), (.ref b193)])) rfl (by rw [hml]; rfl) (Steps.refl _) (a := b193) (argsL := []) (rest := [(.ref b193)]) (lenOf pd_14 rfl) rfl (by show 2 * 0 + _ ≤ _; exact Nat.le_of_eq rfl) (hb hby d8_76) (fun _ _ => ⟨rfl, e193, (by decide : 1 + 1 ≤ _), (by decide : 4 + 16 ≤ _)⟩)
  dsimp only [Pt.U, Pt.locs, Pt.cells, Pt.slots] at X194 l194 y194 z194 st194 hQ194
  subst l194 y194 z194
  obtain ⟨b_194, kb_194, rfl, N194q, KK194, Q194_0, Q194_1, Q194_2, Q194_3, Q194_4, Q194_5⟩ := hQ194
  have N194 := Fr.app N192 N194q
  have O194 : Old Z n0 T194.heap := O193.keep KK194 (allS g_b193 all0)
  have Z194 : n0 ≤ T194.heap.size := Nat.le_trans Z193 KK194.1
  have K194 : Keep h0 T194.heap [] := K193.trans KK194 (allS (Or.inr sz_b193) all0)
  have CH194 : CHv Z own_EL s.vm T194.heap := CHv.keep KK194 (sfS (Safe.exa hZa.alike A193 (by decide) (by decide)) sf0) CH193
  have CR194 : CHr Z own_EL s.vm h0 s.vm T194.heap := CR193.trans (CHr.keep KK194 (sfS (Safe.exa hZa.alike A193 (by decide) (by decide)) sf0) CH193)
  have g_b_194 : n0 ≤ b_194 := Nat.le_trans (Nat.le_trans Z0 E193.1) Q194_0
  have sz_b_194 : h0.size ≤ b_194 := Nat.le_trans K193.1 Q194_0
  obtain ⟨b195, T195, h195, k195, t195, kb195, X195, e195, E195, hS195, hk195, hZ195, hown195, Ex195, Co195, Va195, Ar195, lta195, ltb195, R195, Lt195, sep195, st195⟩ := ldcCH (s := s) (vm0 := s.vm) X194 hx hZa howna (own_wd hw 140 rfl) (own_wS hw) rfl hS0 (Nat.le_trans (Nat.le_trans hk0 E193.1) KK194.1) (own_EW hw) (List.mem_of_getElem? (i := 0) rfl) CH194 (vs := [(.int (37 : Int32))]) (z := (1 : Int32)) ⟨by decide +kernel, by decide +kernel⟩ (by decide) (by decide) (g := (mkF m 79 #[.val (.ref tz), .val (.ref x1)] [(.ref b193)])) rfl (hb hby d8_79) (n := 4) (by decide +kernel) (by decide) (by decide) (by decide)
  have O195 : Old Z n0 h195 := O194.ext E195
  have Z195 : n0 ≤ h195.size := Nat.le_trans Z194 E195.1
  have K195 : Keep h0 h195 [] := K194.ext E195
  have CH195 : CHv Z own_EL T195.vm h195 := R195.1
  have CR195 : CHr Z own_EL s.vm h0 T195.vm h195 := CR194.trans R195
  have F196 : Fld Z h195 b193 "java/lang/AbstractStringBuilder" "value" "[B" (.ref b_194) := (Q194_2.ext E195)
  have F197 : Fld Z h195 b193 "java/lang/AbstractStringBuilder" "coder" "B" (.int (0 : Int32)) := (Q194_3.ext E195)
  have F198 : Fld Z h195 b193 "java/lang/AbstractStringBuilder" "count" "I" (.int (0 : Int32)) := (Q194_4.ext E195)
  have C199 : Exa Z h195 b193 "java/lang/StringBuilder" := (Q194_1.ext E195)
  have V200 : Arv Z h195 b_194 kb_194 .byte (16 : Int32) [(.int (0 : Int32)), (.int (0 : Int32)), (.int (0 : Int32)), (.int (0 : Int32)), (.int (0 : Int32)), (.int (0 : Int32)), (.int (0 : Int32)), (.int (0 : Int32)), (.int (0 : Int32)), (.int (0 : Int32)), (.int (0 : Int32)), (.int (0 : Int32)), (.int (0 : Int32)), (.int (0 : Int32)), (.int (0 : Int32)), (.int (0 : Int32))] (.int (0 : Int32)) := (Q194_5.ext E195)
  obtain ⟨cq201, kq201, q201a, q201b, q201c⟩ := isOf hZ195 e195 C199
  obtain ⟨_, _, ⟨T201, L201, k201, n201⟩, -, X201, ⟨Lc201, hQ201, l201, y201, z201⟩, st201⟩ := X195.virtualBack hx (y := (⟨"java/lang/StringBuilder", "append", "(Ljava/lang/String;)Ljava/lang/StringBuilder;"⟩ : MethodName)) (z := (⟨"java/lang/StringBuilder", "append", "(Ljava/lang/String;)Ljava/lang/StringBuilder;"⟩ : MethodName)) hown195 (mvT hZ195 (own_wd hw 102 rfl)) (mvT hZ195 (own_wd hw 103 rfl)) (notFace_of_selects (args := #[]) (mvT hZ195 (own_wd hw 105 rfl))) (mvT hZ195 (own_wd hw 105 rfl)) (mvT hZ195 (own_wd hw 104 rfl)) (by decide) (backOf (W := 0) (rm19_0 l Z a0 hw [] b193 b195 b_194 t195 (37 : Int32) kb_194 kb195 st_COMPACT_STRINGS h195 n0 Z195 O195 C199 F196 F197 V200 F198 Ex195 Va195 Co195 Ar195 (Ne.symm (sep195 _ (CHr.safe R195 Q194_5.lt (Safe.keep KK194 (sfS (Safe.exa hZa.alike A193 (by decide) (by decide)) sf0) CH193 (Safe.new Q194_0)))).2) (by decide) S_COMPACT_STRINGS hcomp g_b_194 g_b193) hZ195 (own_wd hw 106 rfl) (own_wd hw 86 rfl) (by decide) (by decide)) q201a q201c (g := (mkF m 81 #[.val (.ref tz), .val (.ref x1)] [(.ref b195), (.ref b193)])) rfl (by rw [hml]; rfl) (Steps.refl _) (argsL := [(.ref b195)]) (rest := []) (lenOf pd_15 rfl) rfl (by show 2 * 0 + _ ≤ _; exact Nat.le_of_eq rfl) (hb hby d8_81) (fun _ _ => ⟨rfl, e195, (by decide : 4 + 0 ≤ _), (by decide : 28 + 0 ≤ _)⟩)
  dsimp only [Pt.U, Pt.locs, Pt.cells, Pt.slots] at X201 l201 y201 z201 st201 hQ201
  subst l201 y201 z201
  obtain ⟨rfl, N201q, KK201, Q201_0, Q201_1, Q201_2, Q201_3, Q201_4⟩ := hQ201
  have N201 := Fr.app N194 N201q
  have sf202 : Safe Z own_EL T195.vm h195 b_194 := (CHr.safe R195 Q194_5.lt (Safe.keep KK194 (sfS (Safe.exa hZa.alike A193 (by decide) (by decide)) sf0) CH193 (Safe.new Q194_0)))
  have O201 : Old Z n0 T201.heap := O195.keep KK201 (allS g_b193 (allS g_b_194 all0))
  have Z201 : n0 ≤ T201.heap.size := Nat.le_trans Z195 KK201.1
  have K201 : Keep h0 T201.heap [] := K195.trans KK201 (allS (Or.inr sz_b193) (allS (Or.inr sz_b_194) all0))
  have CH201 : CHv Z own_EL T195.vm T201.heap := CHv.keep KK201 (sfS (Safe.exa hZ195.alike C199 (by decide) (by decide)) (sfS sf202 sf0)) CH195
  have CR201 : CHr Z own_EL s.vm h0 T195.vm T201.heap := CR195.trans (CHr.keep KK201 (sfS (Safe.exa hZ195.alike C199 (by decide) (by decide)) (sfS sf202 sf0)) CH195)
  have F203 : Fld Z T201.heap x1 "java/lang/String" "value" "[B" (.ref x1_value) := ((((F_x1_value.ext E193).keep KK194 (ninS (Nat.ne_of_lt (Nat.lt_of_lt_of_le E_x1.lt (Nat.le_of_eq g193.symm))) nin0)).ext E195).keep KK201 (ninS (Nat.ne_of_lt (Nat.lt_of_lt_of_le E_x1.lt (Nat.le_of_eq g193.symm))) (ninS (Nat.ne_of_lt (Nat.lt_of_lt_of_le (E_x1.ext E193).lt Q194_0)) nin0)))
  have F204 : Fld Z T201.heap x1 "java/lang/String" "coder" "B" (.int (0 : Int32)) := ((((F_x1_coder.ext E193).keep KK194 (ninS (Nat.ne_of_lt (Nat.lt_of_lt_of_le E_x1.lt (Nat.le_of_eq g193.symm))) nin0)).ext E195).keep KK201 (ninS (Nat.ne_of_lt (Nat.lt_of_lt_of_le E_x1.lt (Nat.le_of_eq g193.symm))) (ninS (Nat.ne_of_lt (Nat.lt_of_lt_of_le (E_x1.ext E193).lt Q194_0)) nin0)))
  have C205 : Exa Z T201.heap x1 "java/lang/String" := ((((E_x1.ext E193).keep KK194).ext E195).keep KK201)
  have V206 : Arv Z T201.heap x1_value ks .byte (1 : Int32) [(.int (y0.toInt8.toInt32))] (.int 0) := ((((V_x1_value.ext E193).keep KK194 (ninS (Nat.ne_of_lt (Nat.lt_of_lt_of_le V_x1_value.lt (Nat.le_of_eq g193.symm))) nin0)).ext E195).keep KK201 (ninS (Nat.ne_of_lt (Nat.lt_of_lt_of_le V_x1_value.lt (Nat.le_of_eq g193.symm))) (ninS (Nat.ne_of_lt (Nat.lt_of_lt_of_le (V_x1_value.ext E193).lt Q194_0)) nin0)))
  obtain ⟨cq207, kq207, q207a, q207b, q207c⟩ := isOf hZ195 rfl Q201_0
  obtain ⟨_, _, ⟨T207, L207, k207, n207⟩, -, X207, ⟨Lc207, hQ207, l207, y207, z207⟩, st207⟩ := X201.virtualBack hx (y := (⟨"java/lang/StringBuilder", "append", "(Ljava/lang/String;)Ljava/lang/StringBuilder;"⟩ : MethodName)) (z := (⟨"java/lang/StringBuilder", "append", "(Ljava/lang/String;)Ljava/lang/StringBuilder;"⟩ : MethodName)) hown195 (mvT hZ195 (own_wd hw 102 rfl)) (mvT hZ195 (own_wd hw 103 rfl)) (notFace_of_selects (args := #[]) (mvT hZ195 (own_wd hw 105 rfl))) (mvT hZ195 (own_wd hw 105 rfl)) (mvT hZ195 (own_wd hw 104 rfl)) (by decide) (backOf (W := 0) (rm19_1 l Z a0 hw [] b193 x1 b_194 x1_value ((37 : Int32).toInt8.toInt32) y0 kb_194 ks st_COMPACT_STRINGS T201.heap n0 Z201 O201 Q201_0 Q201_1 Q201_2 Q201_4 Q201_3 C205 F203 F204 V206 (Nat.ne_of_lt (Nat.lt_of_lt_of_le (V_x1_value.ext E193).lt Q194_0)) hp S_COMPACT_STRINGS hcomp g_b_194 g_b193) hZ195 (own_wd hw 106 rfl) (own_wd hw 86 rfl) (by decide) (by decide)) q207a q207c (g := (mkF m 85 #[.val (.ref tz), .val (.ref x1)] [(.ref x1), (.ref b193)])) rfl (by rw [hml]; rfl) (Steps.refl _) (argsL := [(.ref x1)]) (rest := []) (lenOf pd_15 rfl) rfl (by show 2 * 0 + _ ≤ _; exact Nat.le_of_eq rfl) (hb hby d8_85) (fun _ _ => ⟨rfl, rfl, (by decide : 4 + 0 ≤ _), (by decide : 28 + 0 ≤ _)⟩)
  dsimp only [Pt.U, Pt.locs, Pt.cells, Pt.slots] at X207 l207 y207 z207 st207 hQ207
  subst l207 y207 z207
  obtain ⟨rfl, N207q, KK207, Q207_0, Q207_1, Q207_2, Q207_3, Q207_4⟩ := hQ207
  have N207 := Fr.app N201 N207q
  have sf208 : Safe Z own_EL T195.vm T201.heap b_194 := (Safe.keep KK201 (sfS (Safe.exa hZ195.alike C199 (by decide) (by decide)) (sfS sf202 sf0)) CH195 sf202)
  have O207 : Old Z n0 T207.heap := O201.keep KK207 (allS g_b193 (allS g_b_194 all0))
  have Z207 : n0 ≤ T207.heap.size := Nat.le_trans Z201 KK207.1
  have K207 : Keep h0 T207.heap [] := K201.trans KK207 (allS (Or.inr sz_b193) (allS (Or.inr sz_b_194) all0))
  have CH207 : CHv Z own_EL T195.vm T207.heap := CHv.keep KK207 (sfS (Safe.exa hZ195.alike Q201_0 (by decide) (by decide)) (sfS sf208 sf0)) CH201
  have CR207 : CHr Z own_EL s.vm h0 T195.vm T207.heap := CR201.trans (CHr.keep KK207 (sfS (Safe.exa hZ195.alike Q201_0 (by decide) (by decide)) (sfS sf208 sf0)) CH201)
  obtain ⟨cq209, kq209, q209a, q209b, q209c⟩ := isOf hZ195 rfl Q207_0
  obtain ⟨_, _, ⟨T209, L209, k209, n209⟩, -, X209, ⟨Lc209, hQ209, l209, y209, z209⟩, st209⟩ := X207.virtualBack hx (y := (⟨"java/lang/StringBuilder", "toString", "()Ljava/lang/String;"⟩ : MethodName)) (z := (⟨"java/lang/StringBuilder", "toString", "()Ljava/lang/String;"⟩ : MethodName)) hown195 (mvT hZ195 (own_wd hw 143 rfl)) (mvT hZ195 (own_wd hw 144 rfl)) (notFace_of_selects (args := #[]) (mvT hZ195 (own_wd hw 146 rfl))) (mvT hZ195 (own_wd hw 146 rfl)) (mvT hZ195 (own_wd hw 145 rfl)) (by decide) (backOf (W := 0) (rm25_2 l Z a0 hw [] b193 b_194 ((37 : Int32).toInt8.toInt32) (y0.toInt8.toInt32) kb_194 st_COMPACT_STRINGS T207.heap n0 Z207 O207 Q207_0 Q207_1 Q207_2 Q207_3 Q207_4 S_COMPACT_STRINGS hcomp) hZ195 (own_wd hw 147 rfl) (own_wd hw 86 rfl) (by decide) (by decide)) q209a q209c (g := (mkF m 88 #[.val (.ref tz), .val (.ref x1)] [(.ref b193)])) rfl (by rw [hml]; rfl) (Steps.refl _) (argsL := []) (rest := []) (lenOf pd_16 rfl) rfl (by show 2 * 0 + _ ≤ _; exact Nat.le_of_eq rfl) (hb hby d8_88) (fun _ _ => ⟨rfl, rfl, (by decide : 4 + 2 ≤ _), (by decide : 28 + 6 ≤ _)⟩)
  dsimp only [Pt.U, Pt.locs, Pt.cells, Pt.slots] at X209 l209 y209 z209 st209 hQ209
  subst l209 y209 z209
  obtain ⟨b_209, t_209, kk_209, rfl, N209q, KK209, Q209_0, Q209_1, Q209_2, Q209_3, Q209_4, Q209_5⟩ := hQ209
  have N209 := Fr.app N207 N209q
  have O209 : Old Z n0 T209.heap := O207.keep KK209 all0
  have Z209 : n0 ≤ T209.heap.size := Nat.le_trans Z207 KK209.1
  have K209 : Keep h0 T209.heap [] := K207.trans KK209 all0
  have CH209 : CHv Z own_EL T195.vm T209.heap := CHv.keep KK209 sf0 CH207
  have CR209 : CHr Z own_EL s.vm h0 T195.vm T209.heap := CR207.trans (CHr.keep KK209 sf0 CH207)
  have g_b_209 : n0 ≤ b_209 := Nat.le_trans (Nat.le_trans (Nat.le_trans (Nat.le_trans (Nat.le_trans (Nat.le_trans Z0 E193.1) KK194.1) E195.1) KK201.1) KK207.1) Q209_0
  have sz_b_209 : h0.size ≤ b_209 := Nat.le_trans K207.1 Q209_0
  have g_t_209 : n0 ≤ t_209 := Nat.le_trans (Nat.le_trans (Nat.le_trans (Nat.le_trans (Nat.le_trans (Nat.le_trans Z0 E193.1) KK194.1) E195.1) KK201.1) KK207.1) Q209_1
  have sz_t_209 : h0.size ≤ t_209 := Nat.le_trans K207.1 Q209_1
  obtain ⟨fs, hr, hrun, hended, hW, hsame⟩ := X209.leave (v := some (.ref b_209)) (fun h => by rw [Bd.returns] at h; cases h)
  have hend := hS195.ended hW (show _ ≤ T209.heap.size from (Nat.le_trans (Nat.le_trans (Nat.le_trans hk195 KK201.1) KK207.1) KK209.1)) hsame
  have hcr : CHr Z own_EL s.vm s.heap T209.vm T209.heap := by
    rw [hh]
    exact CR209.trans (CHv.at X209 hZ195 (own_EW hw) CH209)
  refine ⟨_, _, pre0 _ ?_, hrun, hended, _, _, rfl, ?_, hcr, ⟨_, rfl⟩, hend.1, hend.2.1, hend.2.2.mono (by decide) (by decide)⟩
  · show Steps p.tables e below (s₁.setTop (mkF m 0 #[.val (.ref tz), .val (.ref x1)] [])) _
    refine XS.aloadN X0.here hx rfl (hb hby d8_0) rfl rfl ?_
    show Steps p.tables e below (s₁.setTop (mkF m 1 #[.val (.ref tz), .val (.ref x1)] [(.ref tz)])) _
    refine st192.trans ?_
    show Steps p.tables e below (T192.setTop (mkF m 4 #[.val (.ref tz), .val (.ref x1)] [(.int (2 : Int32))])) _
    refine XS.tswIn X192.here hx rfl (o := 68) (pc0 := 4) (pc' := 72) rfl (hb hby d8_4) rfl (by decide) (by decide) (by decide) (by decide) ?_
    show Steps p.tables e below (T192.setTop (mkF m 72 #[.val (.ref tz), .val (.ref x1)] [])) _
    refine st193 _ ?_
    show Steps p.tables e below (T193.setTop (mkF m 75 #[.val (.ref tz), .val (.ref x1)] [(.ref b193)])) _
    refine XS.dup X193.here hx rfl (hb hby d8_75) rfl rfl ?_
    show Steps p.tables e below (T193.setTop (mkF m 76 #[.val (.ref tz), .val (.ref x1)] [(.ref b193), (.ref b193)])) _
    refine st194.trans ?_
    show Steps p.tables e below (T194.setTop (mkF m 79 #[.val (.ref tz), .val (.ref x1)] [(.ref b193)])) _
    refine st195 _ ?_
    show Steps p.tables e below (T195.setTop (mkF m 81 #[.val (.ref tz), .val (.ref x1)] [(.ref b195), (.ref b193)])) _
    refine st201.trans ?_
    show Steps p.tables e below (T201.setTop (mkF m 84 #[.val (.ref tz), .val (.ref x1)] [(.ref b193)])) _
    refine XS.aloadN X201.here hx rfl (hb hby d8_84) rfl rfl ?_
    show Steps p.tables e below (T201.setTop (mkF m 85 #[.val (.ref tz), .val (.ref x1)] [(.ref x1), (.ref b193)])) _
    refine st207.trans ?_
    show Steps p.tables e below (T207.setTop (mkF m 88 #[.val (.ref tz), .val (.ref x1)] [(.ref b193)])) _
    refine st209.trans ?_
    show Steps p.tables e below (T209.setTop (mkF m 91 #[.val (.ref tz), .val (.ref x1)] [(.ref b_209)])) _
    refine XS.goto X209.here hx rfl (pc0 := 91) (pc' := 118) rfl (hb hby d8_91) (by decide) (by decide) ?_
    show Steps p.tables e below (T209.setTop (mkF m 118 #[.val (.ref tz), .val (.ref x1)] [(.ref b_209)])) _
    jvm_step X209.here [X209.here.top, hx, (hb hby d8_118), X209.method', Bd.returns, Value.isRef, FieldType.isReference]
    first | (intro acts; rw [hr _ acts rfl rfl rfl]) | rw [hr _ _ rfl rfl rfl]
    exact Steps.refl _
  · show Q8_2 Z tz x1 x1_value y0 ks st_COMPACT_STRINGS h0 n0 _ T209.heap _
    exact ⟨b_209, t_209, kk_209, rfl, N209, K209, sz_b_209, Q209_2, Q209_3, Q209_4, Q209_5⟩
theorem d8_94 : decode prog_8_method_5_code 94 = .ok (.new 44, 3) := by decide +kernel
theorem d8_97 : decode prog_8_method_5_code 97 = .ok (.dup, 1) := by decide +kernel
theorem d8_98 : decode prog_8_method_5_code 98 = .ok (.invokespecial 46, 3) := by decide +kernel
theorem d8_101 : decode prog_8_method_5_code 101 = .ok (.ldc 53, 2) := by decide +kernel
theorem d8_103 : decode prog_8_method_5_code 103 = .ok (.invokevirtual 49, 3) := by decide +kernel
theorem d8_106 : decode prog_8_method_5_code 106 = .ok (.aload_n 1, 1) := by decide +kernel
theorem d8_107 : decode prog_8_method_5_code 107 = .ok (.invokevirtual 49, 3) := by decide +kernel
theorem d8_110 : decode prog_8_method_5_code 110 = .ok (.ldc 53, 2) := by decide +kernel
theorem d8_112 : decode prog_8_method_5_code 112 = .ok (.invokevirtual 49, 3) := by decide +kernel
theorem d8_115 : decode prog_8_method_5_code 115 = .ok (.invokevirtual 55, 3) := by decide +kernel
theorem ef8_3 (m : MethodId) (tz : Addr) (x1 : Addr) : entryFrame m #[(.ref tz), (.ref x1)] 2 = mkF m 0 #[.val (.ref tz), .val (.ref x1)] [] := by first | (simp [entryFrame, mkF, argsToLocals, Value.category]; done) | rfl
def Q8_3 (Z : State) (tz : Addr) (x1 : Addr) (x1_value : Addr) (y0 : Int32) (ks : ClassId) (st_COMPACT_STRINGS : Int32) (h0 : Heap) (n0 : Nat) (v : Option Value) (h : Heap) (L : List Loc) : Prop := ∃ (b : Addr), ∃ (t : Addr), ∃ (kk : ClassId), v = some (.ref b) ∧ Fr n0 L ∧ Keep h0 h [] ∧ h0.size ≤ b ∧ Exa Z h b "java/lang/String" ∧ Fld Z h b "java/lang/String" "value" "[B" (.ref t) ∧ Fld Z h b "java/lang/String" "coder" "B" (.int (0 : Int32)) ∧ Arv Z h t kk .byte (3 : Int32) [(.int (37 : Int32)), (.int (y0.toInt8.toInt32)), (.int (37 : Int32))] (.int (0 : Int32))
set_option maxRecDepth 65536 in
set_option maxHeartbeats 40000000 in
theorem rm8_3 (l : Launch) (Z : State) (a0 : Array Value) (hw : ∀ d ∈ tables_1, d.before a0 Z = true) (ws : List Jvm.Cond) (tz : Addr) (x1 : Addr) (x1_value : Addr) (y0 : Int32) (ks : ClassId) (st_COMPACT_STRINGS : Int32) (h0 : Heap) (n0 : Nat) (Z0 : n0 ≤ h0.size) (O0 : Old Z n0 h0) (E_tz : Exa Z h0 tz "com/example/derive/derive/LikeWildcards") (F_tz_ordinal : Fld Z h0 tz "java/lang/Enum" "ordinal" "I" (.int (3 : Int32))) (E_x1 : Exa Z h0 x1 "java/lang/String") (F_x1_value : Fld Z h0 x1 "java/lang/String" "value" "[B" (.ref x1_value)) (F_x1_coder : Fld Z h0 x1 "java/lang/String" "coder" "B" (.int (0 : Int32))) (V_x1_value : Arv Z h0 x1_value ks .byte (1 : Int32) [(.int (y0.toInt8.toInt32))] (.int 0)) (hp : ∀ c ∈ ([y0] : List Int32), ¬ c < 0 ∧ ¬ (255 : Int32) < c) (S_COMPACT_STRINGS : Sta Z Z.heap "java/lang/String" "COMPACT_STRINGS" "Z" (.int st_COMPACT_STRINGS)) (hcomp : ¬ (st_COMPACT_STRINGS = (0 : Int32))) :
    MetFree l (⟨"com/example/derive/derive/LikeWildcards", "addTo", "(Ljava/lang/String;)Ljava/lang/String;"⟩ : MethodName) (head1 (Jvm.Cond.code (⟨"com/example/derive/derive/LikeWildcards", "addTo", "(Ljava/lang/String;)Ljava/lang/String;"⟩ : MethodName) prog_8_method_5_code 2 (some (.object "java/lang/String")) :: ws) ({ frames := 6, cells := 8, slots := 43, locals := 91 } : Room)) (fun a U => a = #[(.ref tz), (.ref x1)] ∧ Z.Warmed39 U.vm ∧ U.heap = h0 ∧ CHv Z own_EL U.vm h0) (fun _ _ _ _ _ => True) (fun _ U o U' => ∃ v L, o = .returned v ∧ Q8_3 Z tz x1 x1_value y0 ks st_COMPACT_STRINGS h0 n0 v U'.heap L ∧ CHr Z own_EL U.vm U.heap U'.vm U'.heap ∧ ReturnedEndW U o U' L ({ frames := 6, cells := 8, slots := 43, locals := 91 } : Room).cells ({ frames := 6, cells := 8, slots := 43, locals := 91 } : Room).slots) := by
  refine MetFree.of_bodySF (plainFor_of_name pn_com_example_derive_derive_LikeWildcards) hisR ?_
  intro p e s m args below meth c s₁ Bd hml0 hP hK
  obtain ⟨rfl, hZ, hh, CH0⟩ := hP
  have hx := Bd.exec
  have hby := Bd.bytes
  have hml : c.maxLocals = 2 := hml0
  have hown : (s.setVm s.vm).vm.findClass "com/example/derive/derive/LikeWildcards" = some m.cls := findClass_of_methodNamed Bd.named
  have hnm := (name_of_methodNamed Bd.named Bd.method).1
  have X0 : Stand p l e ({ frames := 6, cells := 8, slots := 43, locals := 91 } : Room) (s.setVm s.vm) m #[(.ref tz), (.ref x1)] below meth c s₁ [] 0 0 := Stand.of_body Bd
  have e0 : s₁.heap = h0 := by rw [← hh, Bd.state]; rfl
  have N0 := Fr.nil n0
  have K0 : Keep h0 h0 [] := Keep.refl _ _
  have pre0 : ∀ t, Steps p.tables e below (s₁.setTop (mkF m 0 #[.val (.ref tz), .val (.ref x1)] [])) t → Steps p.tables e below (s₁.setTop (entryFrame m #[(.ref tz), (.ref x1)] 2)) t := fun t k => castTop (ef8_3 m tz x1) k
  have hZa : Z.Warmed39 (s.setVm s.vm).vm := hZ
  have howna : (s.setVm s.vm).vm.findClass "com/example/derive/derive/LikeWildcards" = some m.cls := hown
  have hS0 : s.Since s.vm h0.size := (State.WarmedH.refl s).since _
  have hk0 : h0.size ≤ h0.size := Nat.le_refl _
  have CR0 : CHr Z own_EL s.vm h0 s.vm h0 := CHr.refl CH0
  obtain ⟨cq210, kq210, q210a, q210b, q210c⟩ := isOf hZa e0 E_tz
  obtain ⟨_, _, ⟨T210, L210, k210, n210⟩, -, X210, ⟨Lc210, hQ210, l210, y210, z210⟩, st210⟩ := X0.virtualBackUp hx (owner := "java/lang/Enum") (x := (⟨"com/example/derive/derive/LikeWildcards", "ordinal", "()I"⟩ : MethodName)) (y := (⟨"java/lang/Enum", "ordinal", "()I"⟩ : MethodName)) howna (mvT hZa (own_wd hw 41 rfl)) (mvT hZa (own_wd hw 42 rfl)) (mvT hZa (own_wd hw 43 rfl)) (by decide) (mvT hZa (own_wd hw 45 rfl)) (mvT hZa (own_wd hw 44 rfl)) (backOf (W := 0) (rm9 l Z a0 hw [] tz (3 : Int32) h0 n0 Z0 O0 F_tz_ordinal) hZa (own_wd hw 47 rfl) (own_wd hw 46 rfl) (by decide) (by decide)) q210a q210c (g := (mkF m 1 #[.val (.ref tz), .val (.ref x1)] [(.ref tz)])) rfl (by rw [hml]; rfl) (Steps.refl _) (argsL := []) (rest := []) (lenOf pd_0 rfl) rfl (by show 2 * 0 + _ ≤ _; exact Nat.le_of_eq rfl) (hb hby d8_1) (fun _ _ => ⟨rfl, e0, (by decide : 0 + 0 ≤ _), (by decide : 0 + 0 ≤ _)⟩)
  dsimp only [Pt.U, Pt.locs, Pt.cells, Pt.slots] at X210 l210 y210 z210 st210 hQ210
  subst l210 y210 z210
  obtain ⟨rfl, N210q, eh210⟩ := hQ210
  have N210 := Fr.app N0 N210q
  obtain ⟨T211, h211, X211, e211, E211, A211, D211, U211, st211⟩ := newO X210 hx hZa howna (own_wd hw 84 rfl) (own_wd hw 85 rfl) (own_wd hw 86 rfl) eh210 (g := (mkF m 94 #[.val (.ref tz), .val (.ref x1)] [])) rfl (hb hby d8_94) (by decide) (by decide)
  obtain ⟨b211, g211⟩ : ∃ z, z = h0.size := ⟨_, rfl⟩
  rw [← g211] at A211 D211 st211
  have O211 : Old Z n0 h211 := O0.ext E211
  have Z211 : n0 ≤ h211.size := Nat.le_trans Z0 E211.1
  have K211 : Keep h0 h211 [] := K0.ext E211
  have CH211 : CHv Z own_EL s.vm h211 := CHv.ext E211 CH0
  have CR211 : CHr Z own_EL s.vm h0 s.vm h211 := CR0.trans (CHr.ext E211 CH0)
  have g_b211 : n0 ≤ b211 := Nat.le_trans Z0 (Nat.le_of_eq g211.symm)
  have sz_b211 : h0.size ≤ b211 := Nat.le_trans K0.1 (Nat.le_of_eq g211.symm)
  have F_b211_value : Fld Z h211 b211 "java/lang/AbstractStringBuilder" "value" "[B" .null := D211 (Or.inl (own_wd hw 99 rfl)) (ty := (.array .byte)) (by decide)
  have F_b211_coder : Fld Z h211 b211 "java/lang/AbstractStringBuilder" "coder" "B" (.int (0 : Int32)) := D211 (Or.inl (own_wd hw 101 rfl)) (ty := .byte) (by decide)
  have F_b211_count : Fld Z h211 b211 "java/lang/AbstractStringBuilder" "count" "I" (.int (0 : Int32)) := D211 (Or.inl (own_wd hw 114 rfl)) (ty := .int) (by decide)
  obtain ⟨_, _, ⟨T212, L212, k212, n212⟩, -, X212, ⟨Lc212, hQ212, l212, y212, z212⟩, st212⟩ := X211.specialBack hx (y := (⟨"java/lang/StringBuilder", "<init>", "()V"⟩ : MethodName)) rfl howna (mvT hZa (own_wd hw 87 rfl)) (mvT hZa (own_wd hw 88 rfl)) (mvT hZa (own_wd hw 89 rfl)) (by decide) (backOf (W := 1) (rm17 l Z a0 hw [] b211 st_COMPACT_STRINGS .null (.int (0 : Int32)) h211 n0 Z211 O211 A211 F_b211_count S_COMPACT_STRINGS F_b211_value F_b211_coder hcomp g_b211) hZa (own_wd hw 89 rfl) (own_wd hw 86 rfl) (by decide) (by decide)) (g := (mkF m 98 #[.val (.ref tz), .val (.ref x1)] [(.ref b211), (.ref b211)])) rfl (by rw [hml]; rfl) (Steps.refl _) (a := b211) (argsL := []) (rest := [(.ref b211)]) (lenOf pd_14 rfl) rfl (by show 2 * 0 + _ ≤ _; exact Nat.le_of_eq rfl) (hb hby d8_98) (fun _ _ => ⟨rfl, e211, (by decide : 1 + 1 ≤ _), (by decide : 4 + 16 ≤ _)⟩)
  dsimp only [Pt.U, Pt.locs, Pt.cells, Pt.slots] at X212 l212 y212 z212 st212 hQ212
  subst l212 y212 z212
  obtain ⟨b_212, kb_212, rfl, N212q, KK212, Q212_0, Q212_1, Q212_2, Q212_3, Q212_4, Q212_5⟩ := hQ212
  have N212 := Fr.app N210 N212q
  have O212 : Old Z n0 T212.heap := O211.keep KK212 (allS g_b211 all0)
  have Z212 : n0 ≤ T212.heap.size := Nat.le_trans Z211 KK212.1
  have K212 : Keep h0 T212.heap [] := K211.trans KK212 (allS (Or.inr sz_b211) all0)
  have CH212 : CHv Z own_EL s.vm T212.heap := CHv.keep KK212 (sfS (Safe.exa hZa.alike A211 (by decide) (by decide)) sf0) CH211
  have CR212 : CHr Z own_EL s.vm h0 s.vm T212.heap := CR211.trans (CHr.keep KK212 (sfS (Safe.exa hZa.alike A211 (by decide) (by decide)) sf0) CH211)
  have g_b_212 : n0 ≤ b_212 := Nat.le_trans (Nat.le_trans Z0 E211.1) Q212_0
  have sz_b_212 : h0.size ≤ b_212 := Nat.le_trans K211.1 Q212_0
  obtain ⟨b213, T213, h213, k213, t213, kb213, X213, e213, E213, hS213, hk213, hZ213, hown213, Ex213, Co213, Va213, Ar213, lta213, ltb213, R213, Lt213, sep213, st213⟩ := ldcCH (s := s) (vm0 := s.vm) X212 hx hZa howna (own_wd hw 140 rfl) (own_wS hw) rfl hS0 (Nat.le_trans (Nat.le_trans hk0 E211.1) KK212.1) (own_EW hw) (List.mem_of_getElem? (i := 0) rfl) CH212 (vs := [(.int (37 : Int32))]) (z := (1 : Int32)) ⟨by decide +kernel, by decide +kernel⟩ (by decide) (by decide) (g := (mkF m 101 #[.val (.ref tz), .val (.ref x1)] [(.ref b211)])) rfl (hb hby d8_101) (n := 4) (by decide +kernel) (by decide) (by decide) (by decide)
  have O213 : Old Z n0 h213 := O212.ext E213
  have Z213 : n0 ≤ h213.size := Nat.le_trans Z212 E213.1
  have K213 : Keep h0 h213 [] := K212.ext E213
  have CH213 : CHv Z own_EL T213.vm h213 := R213.1
  have CR213 : CHr Z own_EL s.vm h0 T213.vm h213 := CR212.trans R213
  have F214 : Fld Z h213 b211 "java/lang/AbstractStringBuilder" "value" "[B" (.ref b_212) := (Q212_2.ext E213)
  have F215 : Fld Z h213 b211 "java/lang/AbstractStringBuilder" "coder" "B" (.int (0 : Int32)) := (Q212_3.ext E213)
  have F216 : Fld Z h213 b211 "java/lang/AbstractStringBuilder" "count" "I" (.int (0 : Int32)) := (Q212_4.ext E213)
  have C217 : Exa Z h213 b211 "java/lang/StringBuilder" := (Q212_1.ext E213)
  have V218 : Arv Z h213 b_212 kb_212 .byte (16 : Int32) [(.int (0 : Int32)), (.int (0 : Int32)), (.int (0 : Int32)), (.int (0 : Int32)), (.int (0 : Int32)), (.int (0 : Int32)), (.int (0 : Int32)), (.int (0 : Int32)), (.int (0 : Int32)), (.int (0 : Int32)), (.int (0 : Int32)), (.int (0 : Int32)), (.int (0 : Int32)), (.int (0 : Int32)), (.int (0 : Int32)), (.int (0 : Int32))] (.int (0 : Int32)) := (Q212_5.ext E213)
  obtain ⟨cq219, kq219, q219a, q219b, q219c⟩ := isOf hZ213 e213 C217
  obtain ⟨_, _, ⟨T219, L219, k219, n219⟩, -, X219, ⟨Lc219, hQ219, l219, y219, z219⟩, st219⟩ := X213.virtualBack hx (y := (⟨"java/lang/StringBuilder", "append", "(Ljava/lang/String;)Ljava/lang/StringBuilder;"⟩ : MethodName)) (z := (⟨"java/lang/StringBuilder", "append", "(Ljava/lang/String;)Ljava/lang/StringBuilder;"⟩ : MethodName)) hown213 (mvT hZ213 (own_wd hw 102 rfl)) (mvT hZ213 (own_wd hw 103 rfl)) (notFace_of_selects (args := #[]) (mvT hZ213 (own_wd hw 105 rfl))) (mvT hZ213 (own_wd hw 105 rfl)) (mvT hZ213 (own_wd hw 104 rfl)) (by decide) (backOf (W := 0) (rm19_0 l Z a0 hw [] b211 b213 b_212 t213 (37 : Int32) kb_212 kb213 st_COMPACT_STRINGS h213 n0 Z213 O213 C217 F214 F215 V218 F216 Ex213 Va213 Co213 Ar213 (Ne.symm (sep213 _ (CHr.safe R213 Q212_5.lt (Safe.keep KK212 (sfS (Safe.exa hZa.alike A211 (by decide) (by decide)) sf0) CH211 (Safe.new Q212_0)))).2) (by decide) S_COMPACT_STRINGS hcomp g_b_212 g_b211) hZ213 (own_wd hw 106 rfl) (own_wd hw 86 rfl) (by decide) (by decide)) q219a q219c (g := (mkF m 103 #[.val (.ref tz), .val (.ref x1)] [(.ref b213), (.ref b211)])) rfl (by rw [hml]; rfl) (Steps.refl _) (argsL := [(.ref b213)]) (rest := []) (lenOf pd_15 rfl) rfl (by show 2 * 0 + _ ≤ _; exact Nat.le_of_eq rfl) (hb hby d8_103) (fun _ _ => ⟨rfl, e213, (by decide : 4 + 0 ≤ _), (by decide : 28 + 0 ≤ _)⟩)
  dsimp only [Pt.U, Pt.locs, Pt.cells, Pt.slots] at X219 l219 y219 z219 st219 hQ219
  subst l219 y219 z219
  obtain ⟨rfl, N219q, KK219, Q219_0, Q219_1, Q219_2, Q219_3, Q219_4⟩ := hQ219
  have N219 := Fr.app N212 N219q
  have sf220 : Safe Z own_EL T213.vm h213 b_212 := (CHr.safe R213 Q212_5.lt (Safe.keep KK212 (sfS (Safe.exa hZa.alike A211 (by decide) (by decide)) sf0) CH211 (Safe.new Q212_0)))
  have O219 : Old Z n0 T219.heap := O213.keep KK219 (allS g_b211 (allS g_b_212 all0))
  have Z219 : n0 ≤ T219.heap.size := Nat.le_trans Z213 KK219.1
  have K219 : Keep h0 T219.heap [] := K213.trans KK219 (allS (Or.inr sz_b211) (allS (Or.inr sz_b_212) all0))
  have CH219 : CHv Z own_EL T213.vm T219.heap := CHv.keep KK219 (sfS (Safe.exa hZ213.alike C217 (by decide) (by decide)) (sfS sf220 sf0)) CH213
  have CR219 : CHr Z own_EL s.vm h0 T213.vm T219.heap := CR213.trans (CHr.keep KK219 (sfS (Safe.exa hZ213.alike C217 (by decide) (by decide)) (sfS sf220 sf0)) CH213)
  have F221 : Fld Z T219.heap x1 "java/lang/String" "value" "[B" (.ref x1_value) := ((((F_x1_value.ext E211).keep KK212 (ninS (Nat.ne_of_lt (Nat.lt_of_lt_of_le E_x1.lt (Nat.le_of_eq g211.symm))) nin0)).ext E213).keep KK219 (ninS (Nat.ne_of_lt (Nat.lt_of_lt_of_le E_x1.lt (Nat.le_of_eq g211.symm))) (ninS (Nat.ne_of_lt (Nat.lt_of_lt_of_le (E_x1.ext E211).lt Q212_0)) nin0)))
  have F222 : Fld Z T219.heap x1 "java/lang/String" "coder" "B" (.int (0 : Int32)) := ((((F_x1_coder.ext E211).keep KK212 (ninS (Nat.ne_of_lt (Nat.lt_of_lt_of_le E_x1.lt (Nat.le_of_eq g211.symm))) nin0)).ext E213).keep KK219 (ninS (Nat.ne_of_lt (Nat.lt_of_lt_of_le E_x1.lt (Nat.le_of_eq g211.symm))) (ninS (Nat.ne_of_lt (Nat.lt_of_lt_of_le (E_x1.ext E211).lt Q212_0)) nin0)))
  have C223 : Exa Z T219.heap x1 "java/lang/String" := ((((E_x1.ext E211).keep KK212).ext E213).keep KK219)
  have V224 : Arv Z T219.heap x1_value ks .byte (1 : Int32) [(.int (y0.toInt8.toInt32))] (.int 0) := ((((V_x1_value.ext E211).keep KK212 (ninS (Nat.ne_of_lt (Nat.lt_of_lt_of_le V_x1_value.lt (Nat.le_of_eq g211.symm))) nin0)).ext E213).keep KK219 (ninS (Nat.ne_of_lt (Nat.lt_of_lt_of_le V_x1_value.lt (Nat.le_of_eq g211.symm))) (ninS (Nat.ne_of_lt (Nat.lt_of_lt_of_le (V_x1_value.ext E211).lt Q212_0)) nin0)))
  obtain ⟨cq225, kq225, q225a, q225b, q225c⟩ := isOf hZ213 rfl Q219_0
  obtain ⟨_, _, ⟨T225, L225, k225, n225⟩, -, X225, ⟨Lc225, hQ225, l225, y225, z225⟩, st225⟩ := X219.virtualBack hx (y := (⟨"java/lang/StringBuilder", "append", "(Ljava/lang/String;)Ljava/lang/StringBuilder;"⟩ : MethodName)) (z := (⟨"java/lang/StringBuilder", "append", "(Ljava/lang/String;)Ljava/lang/StringBuilder;"⟩ : MethodName)) hown213 (mvT hZ213 (own_wd hw 102 rfl)) (mvT hZ213 (own_wd hw 103 rfl)) (notFace_of_selects (args := #[]) (mvT hZ213 (own_wd hw 105 rfl))) (mvT hZ213 (own_wd hw 105 rfl)) (mvT hZ213 (own_wd hw 104 rfl)) (by decide) (backOf (W := 0) (rm19_1 l Z a0 hw [] b211 x1 b_212 x1_value ((37 : Int32).toInt8.toInt32) y0 kb_212 ks st_COMPACT_STRINGS T219.heap n0 Z219 O219 Q219_0 Q219_1 Q219_2 Q219_4 Q219_3 C223 F221 F222 V224 (Nat.ne_of_lt (Nat.lt_of_lt_of_le (V_x1_value.ext E211).lt Q212_0)) hp S_COMPACT_STRINGS hcomp g_b_212 g_b211) hZ213 (own_wd hw 106 rfl) (own_wd hw 86 rfl) (by decide) (by decide)) q225a q225c (g := (mkF m 107 #[.val (.ref tz), .val (.ref x1)] [(.ref x1), (.ref b211)])) rfl (by rw [hml]; rfl) (Steps.refl _) (argsL := [(.ref x1)]) (rest := []) (lenOf pd_15 rfl) rfl (by show 2 * 0 + _ ≤ _; exact Nat.le_of_eq rfl) (hb hby d8_107) (fun _ _ => ⟨rfl, rfl, (by decide : 4 + 0 ≤ _), (by decide : 28 + 0 ≤ _)⟩)
  dsimp only [Pt.U, Pt.locs, Pt.cells, Pt.slots] at X225 l225 y225 z225 st225 hQ225
  subst l225 y225 z225
  obtain ⟨rfl, N225q, KK225, Q225_0, Q225_1, Q225_2, Q225_3, Q225_4⟩ := hQ225
  have N225 := Fr.app N219 N225q
  have sf226 : Safe Z own_EL T213.vm T219.heap b_212 := (Safe.keep KK219 (sfS (Safe.exa hZ213.alike C217 (by decide) (by decide)) (sfS sf220 sf0)) CH213 sf220)
  have O225 : Old Z n0 T225.heap := O219.keep KK225 (allS g_b211 (allS g_b_212 all0))
  have Z225 : n0 ≤ T225.heap.size := Nat.le_trans Z219 KK225.1
  have K225 : Keep h0 T225.heap [] := K219.trans KK225 (allS (Or.inr sz_b211) (allS (Or.inr sz_b_212) all0))
  have CH225 : CHv Z own_EL T213.vm T225.heap := CHv.keep KK225 (sfS (Safe.exa hZ213.alike Q219_0 (by decide) (by decide)) (sfS sf226 sf0)) CH219
  have CR225 : CHr Z own_EL s.vm h0 T213.vm T225.heap := CR219.trans (CHr.keep KK225 (sfS (Safe.exa hZ213.alike Q219_0 (by decide) (by decide)) (sfS sf226 sf0)) CH219)
  obtain ⟨b227, T227, h227, k227, t227, kb227, X227, e227, E227, hS227, hk227, hZ227, hown227, Ex227, Co227, Va227, Ar227, lta227, ltb227, R227, Lt227, sep227, st227⟩ := ldcCH (s := s) (vm0 := T213.vm) X225 hx hZ213 hown213 (own_wd hw 140 rfl) (own_wS hw) rfl hS213 (Nat.le_trans (Nat.le_trans hk213 KK219.1) KK225.1) (own_EW hw) (List.mem_of_getElem? (i := 0) rfl) CH225 (vs := [(.int (37 : Int32))]) (z := (1 : Int32)) ⟨by decide +kernel, by decide +kernel⟩ (by decide) (by decide) (g := (mkF m 110 #[.val (.ref tz), .val (.ref x1)] [(.ref b211)])) rfl (hb hby d8_110) (n := 4) (by decide +kernel) (by decide) (by decide) (by decide)
  have O227 : Old Z n0 h227 := O225.ext E227
  have Z227 : n0 ≤ h227.size := Nat.le_trans Z225 E227.1
  have K227 : Keep h0 h227 [] := K225.ext E227
  have CH227 : CHv Z own_EL T227.vm h227 := R227.1
  have CR227 : CHr Z own_EL s.vm h0 T227.vm h227 := CR225.trans R227
  have F228 : Fld Z h227 b211 "java/lang/AbstractStringBuilder" "value" "[B" (.ref b_212) := (Q225_1.ext E227)
  have F229 : Fld Z h227 b211 "java/lang/AbstractStringBuilder" "coder" "B" (.int (0 : Int32)) := (Q225_2.ext E227)
  have F230 : Fld Z h227 b211 "java/lang/AbstractStringBuilder" "count" "I" (.int (2 : Int32)) := (Q225_3.ext E227)
  have C231 : Exa Z h227 b211 "java/lang/StringBuilder" := (Q225_0.ext E227)
  have V232 : Arv Z h227 b_212 kb_212 .byte (16 : Int32) [(.int ((37 : Int32).toInt8.toInt32)), (.int (y0.toInt8.toInt32)), (.int (0 : Int32)), (.int (0 : Int32)), (.int (0 : Int32)), (.int (0 : Int32)), (.int (0 : Int32)), (.int (0 : Int32)), (.int (0 : Int32)), (.int (0 : Int32)), (.int (0 : Int32)), (.int (0 : Int32)), (.int (0 : Int32)), (.int (0 : Int32)), (.int (0 : Int32)), (.int (0 : Int32))] (.int (0 : Int32)) := (Q225_4.ext E227)
  obtain ⟨cq233, kq233, q233a, q233b, q233c⟩ := isOf hZ227 e227 C231
  obtain ⟨_, _, ⟨T233, L233, k233, n233⟩, -, X233, ⟨Lc233, hQ233, l233, y233, z233⟩, st233⟩ := X227.virtualBack hx (y := (⟨"java/lang/StringBuilder", "append", "(Ljava/lang/String;)Ljava/lang/StringBuilder;"⟩ : MethodName)) (z := (⟨"java/lang/StringBuilder", "append", "(Ljava/lang/String;)Ljava/lang/StringBuilder;"⟩ : MethodName)) hown227 (mvT hZ227 (own_wd hw 102 rfl)) (mvT hZ227 (own_wd hw 103 rfl)) (notFace_of_selects (args := #[]) (mvT hZ227 (own_wd hw 105 rfl))) (mvT hZ227 (own_wd hw 105 rfl)) (mvT hZ227 (own_wd hw 104 rfl)) (by decide) (backOf (W := 0) (rm19_2 l Z a0 hw [] b211 b227 b_212 t227 ((37 : Int32).toInt8.toInt32) (y0.toInt8.toInt32) (37 : Int32) kb_212 kb227 st_COMPACT_STRINGS h227 n0 Z227 O227 C231 F228 F229 V232 F230 Ex227 Va227 Co227 Ar227 (Ne.symm (sep227 _ (CHr.safe R227 Q225_4.lt (Safe.keep KK225 (sfS (Safe.exa hZ213.alike Q219_0 (by decide) (by decide)) (sfS sf226 sf0)) CH219 sf226))).2) (by decide) S_COMPACT_STRINGS hcomp g_b_212 g_b211) hZ227 (own_wd hw 106 rfl) (own_wd hw 86 rfl) (by decide) (by decide)) q233a q233c (g := (mkF m 112 #[.val (.ref tz), .val (.ref x1)] [(.ref b227), (.ref b211)])) rfl (by rw [hml]; rfl) (Steps.refl _) (argsL := [(.ref b227)]) (rest := []) (lenOf pd_15 rfl) rfl (by show 2 * 0 + _ ≤ _; exact Nat.le_of_eq rfl) (hb hby d8_112) (fun _ _ => ⟨rfl, e227, (by decide : 6 + 0 ≤ _), (by decide : 36 + 0 ≤ _)⟩)
  dsimp only [Pt.U, Pt.locs, Pt.cells, Pt.slots] at X233 l233 y233 z233 st233 hQ233
  subst l233 y233 z233
  obtain ⟨rfl, N233q, KK233, Q233_0, Q233_1, Q233_2, Q233_3, Q233_4⟩ := hQ233
  have N233 := Fr.app N225 N233q
  have sf234 : Safe Z own_EL T227.vm h227 b_212 := (CHr.safe R227 Q225_4.lt (Safe.keep KK225 (sfS (Safe.exa hZ213.alike Q219_0 (by decide) (by decide)) (sfS sf226 sf0)) CH219 sf226))
  have O233 : Old Z n0 T233.heap := O227.keep KK233 (allS g_b211 (allS g_b_212 all0))
  have Z233 : n0 ≤ T233.heap.size := Nat.le_trans Z227 KK233.1
  have K233 : Keep h0 T233.heap [] := K227.trans KK233 (allS (Or.inr sz_b211) (allS (Or.inr sz_b_212) all0))
  have CH233 : CHv Z own_EL T227.vm T233.heap := CHv.keep KK233 (sfS (Safe.exa hZ227.alike C231 (by decide) (by decide)) (sfS sf234 sf0)) CH227
  have CR233 : CHr Z own_EL s.vm h0 T227.vm T233.heap := CR227.trans (CHr.keep KK233 (sfS (Safe.exa hZ227.alike C231 (by decide) (by decide)) (sfS sf234 sf0)) CH227)
  obtain ⟨cq235, kq235, q235a, q235b, q235c⟩ := isOf hZ227 rfl Q233_0
  obtain ⟨_, _, ⟨T235, L235, k235, n235⟩, -, X235, ⟨Lc235, hQ235, l235, y235, z235⟩, st235⟩ := X233.virtualBack hx (y := (⟨"java/lang/StringBuilder", "toString", "()Ljava/lang/String;"⟩ : MethodName)) (z := (⟨"java/lang/StringBuilder", "toString", "()Ljava/lang/String;"⟩ : MethodName)) hown227 (mvT hZ227 (own_wd hw 143 rfl)) (mvT hZ227 (own_wd hw 144 rfl)) (notFace_of_selects (args := #[]) (mvT hZ227 (own_wd hw 146 rfl))) (mvT hZ227 (own_wd hw 146 rfl)) (mvT hZ227 (own_wd hw 145 rfl)) (by decide) (backOf (W := 0) (rm25_3 l Z a0 hw [] b211 b_212 ((37 : Int32).toInt8.toInt32) (y0.toInt8.toInt32) ((37 : Int32).toInt8.toInt32) kb_212 st_COMPACT_STRINGS T233.heap n0 Z233 O233 Q233_0 Q233_1 Q233_2 Q233_3 Q233_4 S_COMPACT_STRINGS hcomp) hZ227 (own_wd hw 147 rfl) (own_wd hw 86 rfl) (by decide) (by decide)) q235a q235c (g := (mkF m 115 #[.val (.ref tz), .val (.ref x1)] [(.ref b211)])) rfl (by rw [hml]; rfl) (Steps.refl _) (argsL := []) (rest := []) (lenOf pd_16 rfl) rfl (by show 2 * 0 + _ ≤ _; exact Nat.le_of_eq rfl) (hb hby d8_115) (fun _ _ => ⟨rfl, rfl, (by decide : 6 + 2 ≤ _), (by decide : 36 + 7 ≤ _)⟩)
  dsimp only [Pt.U, Pt.locs, Pt.cells, Pt.slots] at X235 l235 y235 z235 st235 hQ235
  subst l235 y235 z235
  obtain ⟨b_235, t_235, kk_235, rfl, N235q, KK235, Q235_0, Q235_1, Q235_2, Q235_3, Q235_4, Q235_5⟩ := hQ235
  have N235 := Fr.app N233 N235q
  have O235 : Old Z n0 T235.heap := O233.keep KK235 all0
  have Z235 : n0 ≤ T235.heap.size := Nat.le_trans Z233 KK235.1
  have K235 : Keep h0 T235.heap [] := K233.trans KK235 all0
  have CH235 : CHv Z own_EL T227.vm T235.heap := CHv.keep KK235 sf0 CH233
  have CR235 : CHr Z own_EL s.vm h0 T227.vm T235.heap := CR233.trans (CHr.keep KK235 sf0 CH233)
  have g_b_235 : n0 ≤ b_235 := Nat.le_trans (Nat.le_trans (Nat.le_trans (Nat.le_trans (Nat.le_trans (Nat.le_trans (Nat.le_trans (Nat.le_trans Z0 E211.1) KK212.1) E213.1) KK219.1) KK225.1) E227.1) KK233.1) Q235_0
  have sz_b_235 : h0.size ≤ b_235 := Nat.le_trans K233.1 Q235_0
  have g_t_235 : n0 ≤ t_235 := Nat.le_trans (Nat.le_trans (Nat.le_trans (Nat.le_trans (Nat.le_trans (Nat.le_trans (Nat.le_trans (Nat.le_trans Z0 E211.1) KK212.1) E213.1) KK219.1) KK225.1) E227.1) KK233.1) Q235_1
  have sz_t_235 : h0.size ≤ t_235 := Nat.le_trans K233.1 Q235_1
  obtain ⟨fs, hr, hrun, hended, hW, hsame⟩ := X235.leave (v := some (.ref b_235)) (fun h => by rw [Bd.returns] at h; cases h)
  have hend := hS227.ended hW (show _ ≤ T235.heap.size from (Nat.le_trans (Nat.le_trans hk227 KK233.1) KK235.1)) hsame
  have hcr : CHr Z own_EL s.vm s.heap T235.vm T235.heap := by
    rw [hh]
    exact CR235.trans (CHv.at X235 hZ227 (own_EW hw) CH235)
  refine ⟨_, _, pre0 _ ?_, hrun, hended, _, _, rfl, ?_, hcr, ⟨_, rfl⟩, hend.1, hend.2.1, hend.2.2.mono (by decide) (by decide)⟩
  · show Steps p.tables e below (s₁.setTop (mkF m 0 #[.val (.ref tz), .val (.ref x1)] [])) _
    refine XS.aloadN X0.here hx rfl (hb hby d8_0) rfl rfl ?_
    show Steps p.tables e below (s₁.setTop (mkF m 1 #[.val (.ref tz), .val (.ref x1)] [(.ref tz)])) _
    refine st210.trans ?_
    show Steps p.tables e below (T210.setTop (mkF m 4 #[.val (.ref tz), .val (.ref x1)] [(.int (3 : Int32))])) _
    refine XS.tswIn X210.here hx rfl (o := 90) (pc0 := 4) (pc' := 94) rfl (hb hby d8_4) rfl (by decide) (by decide) (by decide) (by decide) ?_
    show Steps p.tables e below (T210.setTop (mkF m 94 #[.val (.ref tz), .val (.ref x1)] [])) _
    refine st211 _ ?_
    show Steps p.tables e below (T211.setTop (mkF m 97 #[.val (.ref tz), .val (.ref x1)] [(.ref b211)])) _
    refine XS.dup X211.here hx rfl (hb hby d8_97) rfl rfl ?_
    show Steps p.tables e below (T211.setTop (mkF m 98 #[.val (.ref tz), .val (.ref x1)] [(.ref b211), (.ref b211)])) _
    refine st212.trans ?_
    show Steps p.tables e below (T212.setTop (mkF m 101 #[.val (.ref tz), .val (.ref x1)] [(.ref b211)])) _
    refine st213 _ ?_
    show Steps p.tables e below (T213.setTop (mkF m 103 #[.val (.ref tz), .val (.ref x1)] [(.ref b213), (.ref b211)])) _
    refine st219.trans ?_
    show Steps p.tables e below (T219.setTop (mkF m 106 #[.val (.ref tz), .val (.ref x1)] [(.ref b211)])) _
    refine XS.aloadN X219.here hx rfl (hb hby d8_106) rfl rfl ?_
    show Steps p.tables e below (T219.setTop (mkF m 107 #[.val (.ref tz), .val (.ref x1)] [(.ref x1), (.ref b211)])) _
    refine st225.trans ?_
    show Steps p.tables e below (T225.setTop (mkF m 110 #[.val (.ref tz), .val (.ref x1)] [(.ref b211)])) _
    refine st227 _ ?_
    show Steps p.tables e below (T227.setTop (mkF m 112 #[.val (.ref tz), .val (.ref x1)] [(.ref b227), (.ref b211)])) _
    refine st233.trans ?_
    show Steps p.tables e below (T233.setTop (mkF m 115 #[.val (.ref tz), .val (.ref x1)] [(.ref b211)])) _
    refine st235.trans ?_
    show Steps p.tables e below (T235.setTop (mkF m 118 #[.val (.ref tz), .val (.ref x1)] [(.ref b_235)])) _
    jvm_step X235.here [X235.here.top, hx, (hb hby d8_118), X235.method', Bd.returns, Value.isRef, FieldType.isReference]
    first | (intro acts; rw [hr _ acts rfl rfl rfl]) | rw [hr _ _ rfl rfl rfl]
    exact Steps.refl _
  · show Q8_3 Z tz x1 x1_value y0 ks st_COMPACT_STRINGS h0 n0 _ T235.heap _
    exact ⟨b_235, t_235, kk_235, rfl, N235, K235, sz_b_235, Q235_2, Q235_3, Q235_4, Q235_5⟩
theorem pd_17 : parseMethodDescriptor "([C)V" = some ⟨[(.array .char)], none⟩ := by decide +kernel
theorem pd_18 : parseMethodDescriptor "(ZZ)Lcom/example/derive/derive/LikeWildcards;" = some ⟨[.boolean, .boolean], some (.object "com/example/derive/derive/LikeWildcards")⟩ := by decide +kernel
theorem pd_19 : parseMethodDescriptor "(Ljava/lang/String;)Ljava/lang/String;" = some ⟨[(.object "java/lang/String")], some (.object "java/lang/String")⟩ := by decide +kernel
theorem pd_20 : parseMethodDescriptor "(I)C" = some ⟨[.int], some .char⟩ := by decide +kernel
theorem pn_com_example_derive_derive_LikeWildcardsOfPinLaw : plainName "com/example/derive/derive/LikeWildcardsOfPinLaw" = true := by first | (simp [plainName, overriddenIn]; done) | decide +kernel
theorem ef0 (m : MethodId) (x1 : Int32) (x2 : Int32) : entryFrame m #[(.int x1), (.int x2)] maxLocals = mkF m 0 #[.val (.int x1), .val (.int x2), .unset, .unset, .unset, .unset, .unset, .unset, .unset, .unset, .unset] [] := by first | (simp [entryFrame, mkF, argsToLocals, Value.category, maxLocals]; done) | rfl
def Q0 (Z : State) (x1 : Int32) (x2 : Int32) (st_NONE : Addr) (st_AFTER : Addr) (st_BEFORE : Addr) (st_AROUND : Addr) (st_COMPACT_STRINGS : Int32) (st_fm : Value) (h0 : Heap) (n0 : Nat) (v : Option Value) (h : Heap) (L : List Loc) : Prop := v = some (.int (1 : Int32)) ∧ Fr n0 L ∧ Keep h0 h []
set_option maxRecDepth 65536 in
set_option maxHeartbeats 40000000 in
theorem rm0 (l : Launch) (Z : State) (a0 : Array Value) (hw : ∀ d ∈ tables_1, d.before a0 Z = true) (ws : List Jvm.Cond) (x1 : Int32) (x2 : Int32) (st_NONE : Addr) (st_AFTER : Addr) (st_BEFORE : Addr) (st_AROUND : Addr) (st_COMPACT_STRINGS : Int32) (st_fm : Value) (h0 : Heap) (n0 : Nat) (Z0 : n0 ≤ h0.size) (O0 : Old Z n0 h0) (S_NONE : Sta Z Z.heap "com/example/derive/derive/LikeWildcards" "NONE" "Lcom/example/derive/derive/LikeWildcards;" (.ref st_NONE)) (EZ_st_NONE : Exa Z Z.heap st_NONE "com/example/derive/derive/LikeWildcards") (FZ_st_NONE_ordinal : Fld Z Z.heap st_NONE "java/lang/Enum" "ordinal" "I" (.int (0 : Int32))) (S_AFTER : Sta Z Z.heap "com/example/derive/derive/LikeWildcards" "AFTER" "Lcom/example/derive/derive/LikeWildcards;" (.ref st_AFTER)) (EZ_st_AFTER : Exa Z Z.heap st_AFTER "com/example/derive/derive/LikeWildcards") (FZ_st_AFTER_ordinal : Fld Z Z.heap st_AFTER "java/lang/Enum" "ordinal" "I" (.int (1 : Int32))) (S_BEFORE : Sta Z Z.heap "com/example/derive/derive/LikeWildcards" "BEFORE" "Lcom/example/derive/derive/LikeWildcards;" (.ref st_BEFORE)) (EZ_st_BEFORE : Exa Z Z.heap st_BEFORE "com/example/derive/derive/LikeWildcards") (FZ_st_BEFORE_ordinal : Fld Z Z.heap st_BEFORE "java/lang/Enum" "ordinal" "I" (.int (2 : Int32))) (S_AROUND : Sta Z Z.heap "com/example/derive/derive/LikeWildcards" "AROUND" "Lcom/example/derive/derive/LikeWildcards;" (.ref st_AROUND)) (EZ_st_AROUND : Exa Z Z.heap st_AROUND "com/example/derive/derive/LikeWildcards") (FZ_st_AROUND_ordinal : Fld Z Z.heap st_AROUND "java/lang/Enum" "ordinal" "I" (.int (3 : Int32))) (S_COMPACT_STRINGS : Sta Z Z.heap "java/lang/String" "COMPACT_STRINGS" "Z" (.int st_COMPACT_STRINGS)) (hcomp : ¬ (st_COMPACT_STRINGS = (0 : Int32))) (S_fm : Sta Z Z.heap "jdk/internal/util/Preconditions" "SIOOBE_FORMATTER" "Ljava/util/function/BiFunction;" st_fm) (hfm : st_fm.isRef = true) :
    MetFree l x (head1 (Jvm.Cond.code x code maxLocals ret :: ws) room_1) (fun a U => a = #[(.int x1), (.int x2)] ∧ Z.Warmed39 U.vm ∧ U.heap = h0 ∧ CHv Z own_EL U.vm h0) (fun _ _ _ _ _ => True) (fun _ U o U' => ∃ v L, o = .returned v ∧ Q0 Z x1 x2 st_NONE st_AFTER st_BEFORE st_AROUND st_COMPACT_STRINGS st_fm h0 n0 v U'.heap L ∧ CHr Z own_EL U.vm U.heap U'.vm U'.heap ∧ ReturnedEndW U o U' L room_1.cells room_1.slots) := by
  refine MetFree.of_bodySF (plainFor_of_name pn_com_example_derive_derive_LikeWildcardsOfPinLaw) hisR ?_
  intro p e s m args below meth c s₁ Bd hml0 hP hK
  obtain ⟨rfl, hZ, hh, CH0⟩ := hP
  have hx := Bd.exec
  have hby := Bd.bytes
  have hml : c.maxLocals = 11 := hml0
  have hown : (s.setVm s.vm).vm.findClass "com/example/derive/derive/LikeWildcardsOfPinLaw" = some m.cls := findClass_of_methodNamed Bd.named
  have hnm := (name_of_methodNamed Bd.named Bd.method).1
  have X0 : Stand p l e room_1 (s.setVm s.vm) m #[(.int x1), (.int x2)] below meth c s₁ [] 0 0 := Stand.of_body Bd
  have e0 : s₁.heap = h0 := by rw [← hh, Bd.state]; rfl
  have N0 := Fr.nil n0
  have K0 : Keep h0 h0 [] := Keep.refl _ _
  have pre0 : ∀ t, Steps p.tables e below (s₁.setTop (mkF m 0 #[.val (.int x1), .val (.int x2), .unset, .unset, .unset, .unset, .unset, .unset, .unset, .unset, .unset] [])) t → Steps p.tables e below (s₁.setTop (entryFrame m #[(.int x1), (.int x2)] maxLocals)) t := fun t k => castTop (ef0 m x1 x2) k
  have hZa : Z.Warmed39 (s.setVm s.vm).vm := hZ
  have howna : (s.setVm s.vm).vm.findClass "com/example/derive/derive/LikeWildcardsOfPinLaw" = some m.cls := hown
  have hS0 : s.Since s.vm h0.size := (State.WarmedH.refl s).since _
  have hk0 : h0.size ≤ h0.size := Nat.le_refl _
  have CR0 : CHr Z own_EL s.vm h0 s.vm h0 := CHr.refl CH0
  have C236 : Exa Z h0 st_NONE "com/example/derive/derive/LikeWildcards" := EZ_st_NONE.ext O0.2
  have F237 : Fld Z h0 st_NONE "java/lang/Enum" "ordinal" "I" (.int (0 : Int32)) := FZ_st_NONE_ordinal.ext O0.2
  have C238 : Exa Z h0 st_AFTER "com/example/derive/derive/LikeWildcards" := EZ_st_AFTER.ext O0.2
  have F239 : Fld Z h0 st_AFTER "java/lang/Enum" "ordinal" "I" (.int (1 : Int32)) := FZ_st_AFTER_ordinal.ext O0.2
  have C240 : Exa Z h0 st_BEFORE "com/example/derive/derive/LikeWildcards" := EZ_st_BEFORE.ext O0.2
  have F241 : Fld Z h0 st_BEFORE "java/lang/Enum" "ordinal" "I" (.int (2 : Int32)) := FZ_st_BEFORE_ordinal.ext O0.2
  have C242 : Exa Z h0 st_AROUND "com/example/derive/derive/LikeWildcards" := EZ_st_AROUND.ext O0.2
  have F243 : Fld Z h0 st_AROUND "java/lang/Enum" "ordinal" "I" (.int (3 : Int32)) := FZ_st_AROUND_ordinal.ext O0.2
  have pre244 : ∀ t, Steps p.tables e below (s₁.setTop (mkF m 3 #[.val (.int x1), .val (.int x2), .unset, .unset, .unset, .unset, .unset, .unset, .unset, .unset, .unset] [(.int (x1 &&& (1 : Int32)))])) t → Steps p.tables e below (s₁.setTop (entryFrame m #[(.int x1), (.int x2)] maxLocals)) t := by
    intro t kt
    refine pre0 t ?_
    show Steps p.tables e below (s₁.setTop (mkF m 0 #[.val (.int x1), .val (.int x2), .unset, .unset, .unset, .unset, .unset, .unset, .unset, .unset, .unset] [])) _
    refine XS.iloadN X0.here hx rfl (hb hby at_0) rfl ?_
    refine XS.iconst X0.here hx rfl (hb hby at_1) ?_
    refine XS.iand X0.here hx rfl (hb hby at_2) rfl ?_
    exact kt
  by_cases hc3 : (x1 &&& (1 : Int32)) = (0 : Int32)
  · skip
    have pre245 : ∀ t, Steps p.tables e below (s₁.setTop (mkF m 15 #[.val (.int x1), .val (.int x2), .val (.int (0 : Int32)), .unset, .unset, .unset, .unset, .unset, .unset, .unset, .unset] [(.int (x1 &&& (2 : Int32)))])) t → Steps p.tables e below (s₁.setTop (entryFrame m #[(.int x1), (.int x2)] maxLocals)) t := by
      intro t kt
      refine pre244 t ?_
      show Steps p.tables e below (s₁.setTop (mkF m 3 #[.val (.int x1), .val (.int x2), .unset, .unset, .unset, .unset, .unset, .unset, .unset, .unset, .unset] [(.int (x1 &&& (1 : Int32)))])) _
      refine XS.ifYes X0.here hx rfl (pc0 := 3) (pc' := 10) rfl (hb hby at_3) rfl ((if0 _ _).trans (teq hc3).1) (by decide) (by decide) ?_
      refine XS.iconst X0.here hx rfl (hb hby at_10) ?_
      refine XS.istoreN X0.here hx rfl (hb hby at_11) rfl (l' := #[.val (.int x1), .val (.int x2), .val (.int (0 : Int32)), .unset, .unset, .unset, .unset, .unset, .unset, .unset, .unset]) rfl ?_
      show Steps p.tables e below (s₁.setTop (mkF m 12 #[.val (.int x1), .val (.int x2), .val (.int (0 : Int32)), .unset, .unset, .unset, .unset, .unset, .unset, .unset, .unset] [])) _
      refine XS.iloadN X0.here hx rfl (hb hby at_12) rfl ?_
      refine XS.iconst X0.here hx rfl (hb hby at_13) ?_
      refine XS.iand X0.here hx rfl (hb hby at_14) rfl ?_
      exact kt
    by_cases hc15 : (x1 &&& (2 : Int32)) = (0 : Int32)
    · skip
      obtain ⟨T246, h246, k246, X246, e246, E246, A246, st246⟩ := newP X0 hx hZa (own_wd hw 0 rfl) e0 (g := (mkF m 33 #[.val (.int x1), .val (.int x2), .val (.int (0 : Int32)), .val (.int (0 : Int32)), .val (.int ((x2 &&& (255 : Int32)).toUInt32.toUInt16.toUInt32.toInt32)), .unset, .unset, .unset, .unset, .unset, .unset] [(.int (1 : Int32))])) rfl (hb hby at_33) rfl (by decide) (cap := 1) (by decide) (by decide) (by decide) (by decide)
      obtain ⟨b246, g246⟩ : ∃ z, z = h0.size := ⟨_, rfl⟩
      rw [← g246] at A246 st246
      have O246 : Old Z n0 h246 := O0.ext E246
      have Z246 : n0 ≤ h246.size := Nat.le_trans Z0 E246.1
      have K246 : Keep h0 h246 [] := K0.ext E246
      have CH246 : CHv Z own_EL s.vm h246 := CHv.ext E246 CH0
      have CR246 : CHr Z own_EL s.vm h0 s.vm h246 := CR0.trans (CHr.ext E246 CH0)
      have g_b246 : n0 ≤ b246 := Nat.le_trans Z0 (Nat.le_of_eq g246.symm)
      have sz_b246 : h0.size ≤ b246 := Nat.le_trans K0.1 (Nat.le_of_eq g246.symm)
      have V246 : Arv Z h246 b246 k246 .char (1 : Int32) [(.int (0 : Int32))] (.int (0 : Int32)) := (Arv.new A246 (by decide)).pad (pad_rep [] (.int (0 : Int32)) 1)
      obtain ⟨cl_a247, Ar_a247, q_a247, S_a247, N_a247, H_a247, G_a247⟩ := id V246
      have hin_a247 : ¬ ((0 : Int32) < 0 ∨ cl_a247.slots.size ≤ ((0 : Int32)).toNatClampNeg) := inb_of S_a247 ⟨by decide, by decide⟩
      obtain ⟨T248, h248, X248, e248, W248, st248⟩ := stC X246 hx hZa e246 Ar_a247 (j := (0 : Int32)) hin_a247 (g := (mkF m 39 #[.val (.int x1), .val (.int x2), .val (.int (0 : Int32)), .val (.int (0 : Int32)), .val (.int ((x2 &&& (255 : Int32)).toUInt32.toUInt16.toUInt32.toInt32)), .unset, .unset, .unset, .unset, .unset, .unset] [(.int ((x2 &&& (255 : Int32)).toUInt32.toUInt16.toUInt32.toInt32)), (.int (0 : Int32)), (.ref b246), (.ref b246)])) rfl rfl (hb hby at_39)
      have O248 : Old Z n0 h248 := O246.wr W248 g_b246
      have Z248 : n0 ≤ h248.size := Nat.le_trans Z246 (Keep.of_wr W248).1
      have K248 : Keep h0 h248 [] := K246.wr W248 (Or.inr sz_b246)
      have N248 := Fr.snoc X248 N0 g_b246
      have CH248 : CHv Z own_EL s.vm h248 := CHv.wr W248 (Safe.arv hZa.alike V246 (by decide)) CH246
      have CR248 : CHr Z own_EL s.vm h0 s.vm h248 := CR246.trans (CHr.wr W248 (Safe.arv hZa.alike V246 (by decide)) CH246)
      have V248 : Arv Z h248 b246 k246 .char (1 : Int32) [(.int ((x2 &&& (255 : Int32)).toUInt32.toUInt16.toUInt32.toInt32).toUInt32.toUInt16.toUInt32.toInt32)] (.int (0 : Int32)) := Arv.set Ar_a247 q_a247 S_a247 N_a247 H_a247 G_a247 (fits_nar_char _) W248 0 rfl (Nat.le_of_ble_eq_true rfl)
      obtain ⟨T249, h249, X249, e249, E249, A249, D249, U249, st249⟩ := newO X248 hx hZa howna (own_wd hw 1 rfl) (own_wd hw 2 rfl) (own_wd hw 3 rfl) e248 (g := (mkF m 42 #[.val (.int x1), .val (.int x2), .val (.int (0 : Int32)), .val (.int (0 : Int32)), .val (.int ((x2 &&& (255 : Int32)).toUInt32.toUInt16.toUInt32.toInt32)), .val (.ref b246), .unset, .unset, .unset, .unset, .unset] [])) rfl (hb hby at_42) (by decide) (by decide)
      obtain ⟨b249, g249⟩ : ∃ z, z = h248.size := ⟨_, rfl⟩
      rw [← g249] at A249 D249 st249
      have O249 : Old Z n0 h249 := O248.ext E249
      have Z249 : n0 ≤ h249.size := Nat.le_trans Z248 E249.1
      have K249 : Keep h0 h249 [] := K248.ext E249
      have CH249 : CHv Z own_EL s.vm h249 := CHv.ext E249 CH248
      have CR249 : CHr Z own_EL s.vm h0 s.vm h249 := CR248.trans (CHr.ext E249 CH248)
      have g_b249 : n0 ≤ b249 := Nat.le_trans Z248 (Nat.le_of_eq g249.symm)
      have sz_b249 : h0.size ≤ b249 := Nat.le_trans K248.1 (Nat.le_of_eq g249.symm)
      have F_b249_coder : Fld Z h249 b249 "java/lang/String" "coder" "B" (.int (0 : Int32)) := D249 (Or.inr (own_wd hw 27 rfl)) (ty := .byte) (by decide)
      have F_b249_value : Fld Z h249 b249 "java/lang/String" "value" "[B" .null := D249 (Or.inr (own_wd hw 29 rfl)) (ty := (.array .byte)) (by decide)
      have V250 : Arv Z h249 b246 k246 .char (1 : Int32) [(.int ((x2 &&& (255 : Int32)).toUInt32.toUInt16.toUInt32.toInt32).toUInt32.toUInt16.toUInt32.toInt32)] (.int (0 : Int32)) := (V248.ext E249)
      have hp251 : ∀ c ∈ ([((x2 &&& (255 : Int32)).toUInt32.toUInt16.toUInt32.toInt32).toUInt32.toUInt16.toUInt32.toInt32] : List Int32), ¬ c < 0 ∧ ¬ (255 : Int32) < c := by
        intro c hc
        simp only [List.mem_cons, List.not_mem_nil, or_false] at hc
        rcases hc with rfl
        · exact own_chr _
      obtain ⟨_, _, ⟨T252, L252, k252, n252⟩, -, X252, ⟨Lc252, hQ252, l252, y252, z252⟩, st252⟩ := X249.specialBack hx (y := (⟨"java/lang/String", "<init>", "([C)V"⟩ : MethodName)) rfl howna (mvT hZa (own_wd hw 4 rfl)) (mvT hZa (own_wd hw 5 rfl)) (mvT hZa (own_wd hw 6 rfl)) (by decide) (StrChars.Road.backV (W := 1) hZa (own_hws hw) (kI := 4) (own_wd hw 2 rfl) (cs := ([((x2 &&& (255 : Int32)).toUInt32.toUInt16.toUInt32.toInt32).toUInt32.toUInt16.toUInt32.toInt32] : List Int32)) (bs := ([((x2 &&& (255 : Int32)).toUInt32.toUInt16.toUInt32.toInt32).toUInt32.toUInt16.toUInt32.toInt32] : List Int32).map (fun c => c.toInt8.toInt32)) (n := 1) g_b249 Z249 A249 F_b249_value F_b249_coder V250 (S_COMPACT_STRINGS.ext O249.2) hcomp rfl rfl (by decide) (by decide) hp251 rfl (by decide) (by decide)) (g := (mkF m 48 #[.val (.int x1), .val (.int x2), .val (.int (0 : Int32)), .val (.int (0 : Int32)), .val (.int ((x2 &&& (255 : Int32)).toUInt32.toUInt16.toUInt32.toInt32)), .val (.ref b246), .unset, .unset, .unset, .unset, .unset] [(.ref b246), (.ref b249), (.ref b249)])) rfl (by rw [hml]; rfl) (Steps.refl _) (a := b249) (argsL := [(.ref b246)]) (rest := [(.ref b249)]) (lenOf pd_17 rfl) rfl (by show 2 * 0 + _ ≤ _; exact Nat.le_of_eq rfl) (hb hby at_48) (fun _ _ => ⟨rfl, e249, (by decide : 2 + 1 ≤ _), (by decide : 5 + 1 ≤ _)⟩)
      dsimp only [Pt.U, Pt.locs, Pt.cells, Pt.slots] at X252 l252 y252 z252 st252 hQ252
      subst l252 y252 z252
      obtain ⟨rfl, N252q, KK252, E252, C252, t252, kb252, g_t252, s252, ne252, V252, A252⟩ := hQ252
      have N252 := Fr.app N248 N252q
      have sf253 : Safe Z own_EL s.vm h249 b249 := (Safe.ext E249 CH248 (Safe.new (Nat.le_of_eq g249.symm)))
      have O252 : Old Z n0 T252.heap := O249.keep KK252 (allS g_b249 all0)
      have Z252 : n0 ≤ T252.heap.size := Nat.le_trans Z249 KK252.1
      have K252 : Keep h0 T252.heap [] := K249.trans KK252 (allS (Or.inr sz_b249) all0)
      have CH252 : CHv Z own_EL s.vm T252.heap := CHv.keep KK252 (sfS sf253 sf0) CH249
      have CR252 : CHr Z own_EL s.vm h0 s.vm T252.heap := CR249.trans (CHr.keep KK252 (sfS sf253 sf0) CH249)
      have sz_t252 : h0.size ≤ t252 := Nat.le_trans K249.1 s252
      have Ae252 : Arv Z T252.heap t252 kb252 .byte (1 : Int32) [(.int (((x2 &&& (255 : Int32)).toUInt32.toUInt16.toUInt32.toInt32).toUInt32.toUInt16.toUInt32.toInt32.toInt8.toInt32))] (.int 0) := A252
      obtain ⟨_, _, ⟨T254, L254, k254, n254⟩, -, X254, ⟨Lc254, hQ254, l254, y254, z254⟩, st254⟩ := Jvm.LawKit.callS X252 hx (y := (⟨"com/example/derive/derive/LikeWildcards", "of", "(ZZ)Lcom/example/derive/derive/LikeWildcards;"⟩ : MethodName)) howna (mvT hZa (own_wd hw 30 rfl)) (mvT hZa (own_wd hw 31 rfl)) (mvT hZa (own_wd hw 32 rfl)) (mvT hZa (own_wd hw 33 rfl)) (by decide) (backOf (W := 0) (rm7_00 l Z a0 hw [] st_NONE T252.heap n0 Z252 O252 S_NONE) hZa (own_wd hw 33 rfl) (own_wd hw 32 rfl) (by decide) (by decide)) (g := (mkF m 55 #[.val (.int x1), .val (.int x2), .val (.int (0 : Int32)), .val (.int (0 : Int32)), .val (.int ((x2 &&& (255 : Int32)).toUInt32.toUInt16.toUInt32.toInt32)), .val (.ref b246), .val (.ref b249), .unset, .unset, .unset, .unset] [(.int (0 : Int32)), (.int (0 : Int32))])) rfl (by rw [hml]; rfl) (argsL := [(.int (0 : Int32)), (.int (0 : Int32))]) (rest := []) (lenOf pd_18 rfl) rfl (by show 2 * 0 + _ ≤ _; exact Nat.le_of_eq rfl) (hb hby at_55) (fun _ _ => ⟨rfl, rfl, (by decide : 3 + 0 ≤ _), (by decide : 6 + 0 ≤ _)⟩)
      dsimp only [Pt.U, Pt.locs, Pt.cells, Pt.slots] at X254 l254 y254 z254 st254 hQ254
      subst l254 y254 z254
      obtain ⟨rfl, N254q, eh254⟩ := hQ254
      have N254 := Fr.app N252 N254q
      have F255 : Fld Z T252.heap st_NONE "java/lang/Enum" "ordinal" "I" (.int (0 : Int32)) := (FZ_st_NONE_ordinal.ext O252.2)
      have C256 : Exa Z T252.heap st_NONE "com/example/derive/derive/LikeWildcards" := (EZ_st_NONE.ext O252.2)
      obtain ⟨cq257, kq257, q257a, q257b, q257c⟩ := isOf hZa eh254 C256
      obtain ⟨_, _, ⟨T257, L257, k257, n257⟩, -, X257, ⟨Lc257, hQ257, l257, y257, z257⟩, st257⟩ := X254.virtualBack hx (y := (⟨"com/example/derive/derive/LikeWildcards", "addTo", "(Ljava/lang/String;)Ljava/lang/String;"⟩ : MethodName)) (z := (⟨"com/example/derive/derive/LikeWildcards", "addTo", "(Ljava/lang/String;)Ljava/lang/String;"⟩ : MethodName)) howna (mvT hZa (own_wd hw 36 rfl)) (mvT hZa (own_wd hw 37 rfl)) (notFace_of_selects (args := #[]) (mvT hZa (own_wd hw 39 rfl))) (mvT hZa (own_wd hw 39 rfl)) (mvT hZa (own_wd hw 38 rfl)) (by decide) (backOf (W := 0) (rm8_0 l Z a0 hw [] st_NONE b249 t252 ((x2 &&& (255 : Int32)).toUInt32.toUInt16.toUInt32.toInt32).toUInt32.toUInt16.toUInt32.toInt32 kb252 st_COMPACT_STRINGS T252.heap n0 Z252 O252 C256 F255 E252 V252 C252 Ae252 hp251 S_COMPACT_STRINGS hcomp) hZa (own_wd hw 40 rfl) (own_wd hw 32 rfl) (by decide) (by decide)) q257a q257c (g := (mkF m 64 #[.val (.int x1), .val (.int x2), .val (.int (0 : Int32)), .val (.int (0 : Int32)), .val (.int ((x2 &&& (255 : Int32)).toUInt32.toUInt16.toUInt32.toInt32)), .val (.ref b246), .val (.ref b249), .val (.ref st_NONE), .unset, .unset, .unset] [(.ref b249), (.ref st_NONE)])) rfl (by rw [hml]; rfl) (Steps.refl _) (argsL := [(.ref b249)]) (rest := []) (lenOf pd_19 rfl) rfl (by show 2 * 0 + _ ≤ _; exact Nat.le_of_eq rfl) (hb hby at_64) (fun _ _ => ⟨rfl, eh254, (by decide : 3 + 0 ≤ _), (by decide : 6 + 0 ≤ _)⟩)
      dsimp only [Pt.U, Pt.locs, Pt.cells, Pt.slots] at X257 l257 y257 z257 st257 hQ257
      subst l257 y257 z257
      obtain ⟨rfl, N257q, eh257⟩ := hQ257
      have N257 := Fr.app N254 N257q
      have cd258 : StrChars.Road.CodA ([((x2 &&& (255 : Int32)).toUInt32.toUInt16.toUInt32.toInt32).toUInt32.toUInt16.toUInt32.toInt32] : List Int32) 0 (1 : Int32) [(.int (((x2 &&& (255 : Int32)).toUInt32.toUInt16.toUInt32.toInt32).toUInt32.toUInt16.toUInt32.toInt32.toInt8.toInt32))] := StrChars.Road.codOf (n := 1) rfl (fun c hc => (hp251 c hc).2)
      have hb259 : ∀ c ∈ ([((x2 &&& (255 : Int32)).toUInt32.toUInt16.toUInt32.toInt32).toUInt32.toUInt16.toUInt32.toInt32] : List Int32), ¬ c < 0 ∧ ¬ (65535 : Int32) < c := own_up _ hp251
      obtain ⟨cq260, kq260, q260a, q260b, q260c⟩ := isOf hZa eh257 E252
      obtain ⟨_, _, ⟨T260, L260, k260, n260⟩, -, X260, ⟨Lc260, hQ260, l260, y260, z260⟩, st260⟩ := X257.virtualBack hx (y := (⟨"java/lang/String", "length", "()I"⟩ : MethodName)) (z := (⟨"java/lang/String", "length", "()I"⟩ : MethodName)) howna (mvT hZa (own_wd hw 50 rfl)) (mvT hZa (own_wd hw 51 rfl)) (notFace_of_selects (args := #[]) (mvT hZa (own_wd hw 53 rfl))) (mvT hZa (own_wd hw 53 rfl)) (mvT hZa (own_wd hw 52 rfl)) (by decide) (StrChars.Road.lenW (W := 0) hZa (own_hln hw) (kI := 4) (own_wd hw 2 rfl) E252 V252 C252 Ae252 cd258 hb259 (S_COMPACT_STRINGS.ext O252.2) hcomp (Nat.le_of_ble_eq_true rfl) (by decide) (by decide)) q260a q260c (g := (mkF m 94 #[.val (.int x1), .val (.int x2), .val (.int (0 : Int32)), .val (.int (0 : Int32)), .val (.int ((x2 &&& (255 : Int32)).toUInt32.toUInt16.toUInt32.toInt32)), .val (.ref b246), .val (.ref b249), .val (.ref st_NONE), .val (.ref b249), .val (.int (((1 : Int32) + (0 : Int32)) + (0 : Int32))), .unset] [(.ref b249)])) rfl (by rw [hml]; rfl) (Steps.refl _) (argsL := []) (rest := []) (lenOf pd_0 rfl) rfl (by show 2 * 0 + _ ≤ _; exact Nat.le_of_eq rfl) (hb hby at_94) (fun _ _ => ⟨rfl, eh257, (by decide : 3 + 0 ≤ _), (by decide : 6 + 0 ≤ _)⟩)
      dsimp only [Pt.U, Pt.locs, Pt.cells, Pt.slots] at X260 l260 y260 z260 st260 hQ260
      subst l260 y260 z260
      obtain ⟨hv260, rfl, eh260⟩ := hQ260
      obtain rfl : _ = some (Value.int (1 : Int32)) := hv260
      have N260 := Fr.app N257 (Fr.nil n0)
      obtain ⟨cq261, kq261, q261a, q261b, q261c⟩ := isOf hZa eh260 E252
      obtain ⟨_, _, ⟨T261, L261, k261, n261⟩, -, X261, ⟨Lc261, hQ261, l261, y261, z261⟩, st261⟩ := X260.virtualBack hx (y := (⟨"java/lang/String", "charAt", "(I)C"⟩ : MethodName)) (z := (⟨"java/lang/String", "charAt", "(I)C"⟩ : MethodName)) howna (mvT hZa (own_wd hw 60 rfl)) (mvT hZa (own_wd hw 61 rfl)) (notFace_of_selects (args := #[]) (mvT hZa (own_wd hw 63 rfl))) (mvT hZa (own_wd hw 63 rfl)) (mvT hZa (own_wd hw 62 rfl)) (by decide) (StrChars.Road.chN (W := 0) hZa (own_hch hw) (kI := 4) (own_wd hw 2 rfl) E252 V252 C252 Ae252 cd258 hb259 (S_COMPACT_STRINGS.ext O252.2) hcomp (S_fm.ext O252.2) hfm (Nat.le_of_ble_eq_true rfl) (i := 0) (Nat.le_of_ble_eq_true rfl) (j := (0 : Int32)) (by decide) (by decide) (by decide)) q261a q261c (g := (mkF m 119 #[.val (.int x1), .val (.int x2), .val (.int (0 : Int32)), .val (.int (0 : Int32)), .val (.int ((x2 &&& (255 : Int32)).toUInt32.toUInt16.toUInt32.toInt32)), .val (.ref b246), .val (.ref b249), .val (.ref st_NONE), .val (.ref b249), .val (.int (((1 : Int32) + (0 : Int32)) + (0 : Int32))), .val (.int (0 : Int32))] [(.int (0 : Int32)), (.ref b249)])) rfl (by rw [hml]; rfl) (Steps.refl _) (argsL := [(.int (0 : Int32))]) (rest := []) (lenOf pd_20 rfl) rfl (by show 2 * 0 + _ ≤ _; exact Nat.le_of_eq rfl) (hb hby at_119) (fun _ _ => ⟨rfl, eh260, (by decide : 3 + 0 ≤ _), (by decide : 6 + 0 ≤ _)⟩)
      dsimp only [Pt.U, Pt.locs, Pt.cells, Pt.slots] at X261 l261 y261 z261 st261 hQ261
      subst l261 y261 z261
      obtain ⟨hv261, rfl, eh261⟩ := hQ261
      obtain rfl : _ = some (Value.int ((x2 &&& (255 : Int32)).toUInt32.toUInt16.toUInt32.toInt32).toUInt32.toUInt16.toUInt32.toInt32) := hv261
      have N261 := Fr.app N260 (Fr.nil n0)
      obtain ⟨fs, hr, hrun, hended, hW, hsame⟩ := X261.leave (v := some (.int (1 : Int32))) (fun h => by rw [Bd.returns] at h; cases h)
      have hend := hS0.ended hW (show _ ≤ T261.heap.size from by rw [eh261]; exact (Nat.le_trans (Nat.le_trans (Nat.le_trans (Nat.le_trans hk0 E246.1) (Keep.of_wr W248).1) E249.1) KK252.1)) hsame
      have hcr : CHr Z own_EL s.vm s.heap T261.vm T261.heap := by
        rw [hh, eh261]
        exact CR252.trans (CHv.at X261 hZa (own_EW hw) CH252)
      refine ⟨_, _, pre245 _ ?_, hrun, hended, _, _, rfl, ?_, hcr, ⟨_, rfl⟩, hend.1, hend.2.1, hend.2.2.mono (by decide) (by decide)⟩
      · show Steps p.tables e below (s₁.setTop (mkF m 15 #[.val (.int x1), .val (.int x2), .val (.int (0 : Int32)), .unset, .unset, .unset, .unset, .unset, .unset, .unset, .unset] [(.int (x1 &&& (2 : Int32)))])) _
        refine XS.ifYes X0.here hx rfl (pc0 := 15) (pc' := 22) rfl (hb hby at_15) rfl ((if0 _ _).trans (teq hc15).1) (by decide) (by decide) ?_
        refine XS.iconst X0.here hx rfl (hb hby at_22) ?_
        refine XS.istoreN X0.here hx rfl (hb hby at_23) rfl (l' := #[.val (.int x1), .val (.int x2), .val (.int (0 : Int32)), .val (.int (0 : Int32)), .unset, .unset, .unset, .unset, .unset, .unset, .unset]) rfl ?_
        show Steps p.tables e below (s₁.setTop (mkF m 24 #[.val (.int x1), .val (.int x2), .val (.int (0 : Int32)), .val (.int (0 : Int32)), .unset, .unset, .unset, .unset, .unset, .unset, .unset] [])) _
        refine XS.iloadN X0.here hx rfl (hb hby at_24) rfl ?_
        refine XS.sipush X0.here hx rfl (hb hby at_25) ?_
        refine XS.iand X0.here hx rfl (hb hby at_28) rfl ?_
        refine XS.i2c X0.here hx rfl (hb hby at_29) rfl ?_
        refine XS.istore X0.here hx rfl (hb hby at_30) rfl (l' := #[.val (.int x1), .val (.int x2), .val (.int (0 : Int32)), .val (.int (0 : Int32)), .val (.int ((x2 &&& (255 : Int32)).toUInt32.toUInt16.toUInt32.toInt32)), .unset, .unset, .unset, .unset, .unset, .unset]) rfl ?_
        refine XS.iconst X0.here hx rfl (hb hby at_32) ?_
        show Steps p.tables e below (s₁.setTop (mkF m 33 #[.val (.int x1), .val (.int x2), .val (.int (0 : Int32)), .val (.int (0 : Int32)), .val (.int ((x2 &&& (255 : Int32)).toUInt32.toUInt16.toUInt32.toInt32)), .unset, .unset, .unset, .unset, .unset, .unset] [(.int (1 : Int32))])) _
        refine st246 _ ?_
        show Steps p.tables e below (T246.setTop (mkF m 35 #[.val (.int x1), .val (.int x2), .val (.int (0 : Int32)), .val (.int (0 : Int32)), .val (.int ((x2 &&& (255 : Int32)).toUInt32.toUInt16.toUInt32.toInt32)), .unset, .unset, .unset, .unset, .unset, .unset] [(.ref b246)])) _
        refine XS.dup X246.here hx rfl (hb hby at_35) rfl rfl ?_
        refine XS.iconst X246.here hx rfl (hb hby at_36) ?_
        refine XS.iload X246.here hx rfl (hb hby at_37) rfl ?_
        show Steps p.tables e below (T246.setTop (mkF m 39 #[.val (.int x1), .val (.int x2), .val (.int (0 : Int32)), .val (.int (0 : Int32)), .val (.int ((x2 &&& (255 : Int32)).toUInt32.toUInt16.toUInt32.toInt32)), .unset, .unset, .unset, .unset, .unset, .unset] [(.int ((x2 &&& (255 : Int32)).toUInt32.toUInt16.toUInt32.toInt32)), (.int (0 : Int32)), (.ref b246), (.ref b246)])) _
        refine st248 _ ?_
        show Steps p.tables e below (T248.setTop (mkF m 40 #[.val (.int x1), .val (.int x2), .val (.int (0 : Int32)), .val (.int (0 : Int32)), .val (.int ((x2 &&& (255 : Int32)).toUInt32.toUInt16.toUInt32.toInt32)), .unset, .unset, .unset, .unset, .unset, .unset] [(.ref b246)])) _
        refine XS.astore X248.here hx rfl (hb hby at_40) rfl rfl (l' := #[.val (.int x1), .val (.int x2), .val (.int (0 : Int32)), .val (.int (0 : Int32)), .val (.int ((x2 &&& (255 : Int32)).toUInt32.toUInt16.toUInt32.toInt32)), .val (.ref b246), .unset, .unset, .unset, .unset, .unset]) rfl ?_
        show Steps p.tables e below (T248.setTop (mkF m 42 #[.val (.int x1), .val (.int x2), .val (.int (0 : Int32)), .val (.int (0 : Int32)), .val (.int ((x2 &&& (255 : Int32)).toUInt32.toUInt16.toUInt32.toInt32)), .val (.ref b246), .unset, .unset, .unset, .unset, .unset] [])) _
        refine st249 _ ?_
        show Steps p.tables e below (T249.setTop (mkF m 45 #[.val (.int x1), .val (.int x2), .val (.int (0 : Int32)), .val (.int (0 : Int32)), .val (.int ((x2 &&& (255 : Int32)).toUInt32.toUInt16.toUInt32.toInt32)), .val (.ref b246), .unset, .unset, .unset, .unset, .unset] [(.ref b249)])) _
        refine XS.dup X249.here hx rfl (hb hby at_45) rfl rfl ?_
        refine XS.aload X249.here hx rfl (hb hby at_46) rfl rfl ?_
        show Steps p.tables e below (T249.setTop (mkF m 48 #[.val (.int x1), .val (.int x2), .val (.int (0 : Int32)), .val (.int (0 : Int32)), .val (.int ((x2 &&& (255 : Int32)).toUInt32.toUInt16.toUInt32.toInt32)), .val (.ref b246), .unset, .unset, .unset, .unset, .unset] [(.ref b246), (.ref b249), (.ref b249)])) _
        refine st252.trans ?_
        show Steps p.tables e below (T252.setTop (mkF m 51 #[.val (.int x1), .val (.int x2), .val (.int (0 : Int32)), .val (.int (0 : Int32)), .val (.int ((x2 &&& (255 : Int32)).toUInt32.toUInt16.toUInt32.toInt32)), .val (.ref b246), .unset, .unset, .unset, .unset, .unset] [(.ref b249)])) _
        refine XS.astore X252.here hx rfl (hb hby at_51) rfl rfl (l' := #[.val (.int x1), .val (.int x2), .val (.int (0 : Int32)), .val (.int (0 : Int32)), .val (.int ((x2 &&& (255 : Int32)).toUInt32.toUInt16.toUInt32.toInt32)), .val (.ref b246), .val (.ref b249), .unset, .unset, .unset, .unset]) rfl ?_
        refine XS.iloadN X252.here hx rfl (hb hby at_53) rfl ?_
        refine XS.iloadN X252.here hx rfl (hb hby at_54) rfl ?_
        show Steps p.tables e below (T252.setTop (mkF m 55 #[.val (.int x1), .val (.int x2), .val (.int (0 : Int32)), .val (.int (0 : Int32)), .val (.int ((x2 &&& (255 : Int32)).toUInt32.toUInt16.toUInt32.toInt32)), .val (.ref b246), .val (.ref b249), .unset, .unset, .unset, .unset] [(.int (0 : Int32)), (.int (0 : Int32))])) _
        refine st254 _ ?_
        show Steps p.tables e below (T254.setTop (mkF m 58 #[.val (.int x1), .val (.int x2), .val (.int (0 : Int32)), .val (.int (0 : Int32)), .val (.int ((x2 &&& (255 : Int32)).toUInt32.toUInt16.toUInt32.toInt32)), .val (.ref b246), .val (.ref b249), .unset, .unset, .unset, .unset] [(.ref st_NONE)])) _
        refine XS.astore X254.here hx rfl (hb hby at_58) rfl rfl (l' := #[.val (.int x1), .val (.int x2), .val (.int (0 : Int32)), .val (.int (0 : Int32)), .val (.int ((x2 &&& (255 : Int32)).toUInt32.toUInt16.toUInt32.toInt32)), .val (.ref b246), .val (.ref b249), .val (.ref st_NONE), .unset, .unset, .unset]) rfl ?_
        refine XS.aload X254.here hx rfl (hb hby at_60) rfl rfl ?_
        refine XS.aload X254.here hx rfl (hb hby at_62) rfl rfl ?_
        show Steps p.tables e below (T254.setTop (mkF m 64 #[.val (.int x1), .val (.int x2), .val (.int (0 : Int32)), .val (.int (0 : Int32)), .val (.int ((x2 &&& (255 : Int32)).toUInt32.toUInt16.toUInt32.toInt32)), .val (.ref b246), .val (.ref b249), .val (.ref st_NONE), .unset, .unset, .unset] [(.ref b249), (.ref st_NONE)])) _
        refine st257.trans ?_
        show Steps p.tables e below (T257.setTop (mkF m 67 #[.val (.int x1), .val (.int x2), .val (.int (0 : Int32)), .val (.int (0 : Int32)), .val (.int ((x2 &&& (255 : Int32)).toUInt32.toUInt16.toUInt32.toInt32)), .val (.ref b246), .val (.ref b249), .val (.ref st_NONE), .unset, .unset, .unset] [(.ref b249)])) _
        refine XS.astore X257.here hx rfl (hb hby at_67) rfl rfl (l' := #[.val (.int x1), .val (.int x2), .val (.int (0 : Int32)), .val (.int (0 : Int32)), .val (.int ((x2 &&& (255 : Int32)).toUInt32.toUInt16.toUInt32.toInt32)), .val (.ref b246), .val (.ref b249), .val (.ref st_NONE), .val (.ref b249), .unset, .unset]) rfl ?_
        refine XS.iconst X257.here hx rfl (hb hby at_69) ?_
        refine XS.iloadN X257.here hx rfl (hb hby at_70) rfl ?_
        refine XS.ifYes X257.here hx rfl (pc0 := 71) (pc' := 78) rfl (hb hby at_71) rfl ((if0 _ _).trans (teq (by decide : (0 : Int32) = (0 : Int32))).1) (by decide) (by decide) ?_
        refine XS.iconst X257.here hx rfl (hb hby at_78) ?_
        refine XS.iadd X257.here hx rfl (hb hby at_79) rfl ?_
        show Steps p.tables e below (T257.setTop (mkF m 80 #[.val (.int x1), .val (.int x2), .val (.int (0 : Int32)), .val (.int (0 : Int32)), .val (.int ((x2 &&& (255 : Int32)).toUInt32.toUInt16.toUInt32.toInt32)), .val (.ref b246), .val (.ref b249), .val (.ref st_NONE), .val (.ref b249), .unset, .unset] [(.int ((1 : Int32) + (0 : Int32)))])) _
        refine XS.iloadN X257.here hx rfl (hb hby at_80) rfl ?_
        refine XS.ifYes X257.here hx rfl (pc0 := 81) (pc' := 88) rfl (hb hby at_81) rfl ((if0 _ _).trans (teq (by decide : (0 : Int32) = (0 : Int32))).1) (by decide) (by decide) ?_
        refine XS.iconst X257.here hx rfl (hb hby at_88) ?_
        refine XS.iadd X257.here hx rfl (hb hby at_89) rfl ?_
        refine XS.istore X257.here hx rfl (hb hby at_90) rfl (l' := #[.val (.int x1), .val (.int x2), .val (.int (0 : Int32)), .val (.int (0 : Int32)), .val (.int ((x2 &&& (255 : Int32)).toUInt32.toUInt16.toUInt32.toInt32)), .val (.ref b246), .val (.ref b249), .val (.ref st_NONE), .val (.ref b249), .val (.int (((1 : Int32) + (0 : Int32)) + (0 : Int32))), .unset]) rfl ?_
        refine XS.aload X257.here hx rfl (hb hby at_92) rfl rfl ?_
        show Steps p.tables e below (T257.setTop (mkF m 94 #[.val (.int x1), .val (.int x2), .val (.int (0 : Int32)), .val (.int (0 : Int32)), .val (.int ((x2 &&& (255 : Int32)).toUInt32.toUInt16.toUInt32.toInt32)), .val (.ref b246), .val (.ref b249), .val (.ref st_NONE), .val (.ref b249), .val (.int (((1 : Int32) + (0 : Int32)) + (0 : Int32))), .unset] [(.ref b249)])) _
        refine st260.trans ?_
        show Steps p.tables e below (T260.setTop (mkF m 97 #[.val (.int x1), .val (.int x2), .val (.int (0 : Int32)), .val (.int (0 : Int32)), .val (.int ((x2 &&& (255 : Int32)).toUInt32.toUInt16.toUInt32.toInt32)), .val (.ref b246), .val (.ref b249), .val (.ref st_NONE), .val (.ref b249), .val (.int (((1 : Int32) + (0 : Int32)) + (0 : Int32))), .unset] [(.int (1 : Int32))])) _
        refine XS.iload X260.here hx rfl (hb hby at_97) rfl ?_
        refine XS.icmpYes X260.here hx rfl (pc0 := 99) (pc' := 104) rfl (hb hby at_99) rfl (teq (by decide : (1 : Int32) = (((1 : Int32) + (0 : Int32)) + (0 : Int32)))).1 (by decide) (by decide) ?_
        refine XS.iloadN X260.here hx rfl (hb hby at_104) rfl ?_
        refine XS.ifYes X260.here hx rfl (pc0 := 105) (pc' := 112) rfl (hb hby at_105) rfl ((if0 _ _).trans (teq (by decide : (0 : Int32) = (0 : Int32))).1) (by decide) (by decide) ?_
        refine XS.iconst X260.here hx rfl (hb hby at_112) ?_
        refine XS.istore X260.here hx rfl (hb hby at_113) rfl (l' := #[.val (.int x1), .val (.int x2), .val (.int (0 : Int32)), .val (.int (0 : Int32)), .val (.int ((x2 &&& (255 : Int32)).toUInt32.toUInt16.toUInt32.toInt32)), .val (.ref b246), .val (.ref b249), .val (.ref st_NONE), .val (.ref b249), .val (.int (((1 : Int32) + (0 : Int32)) + (0 : Int32))), .val (.int (0 : Int32))]) rfl ?_
        show Steps p.tables e below (T260.setTop (mkF m 115 #[.val (.int x1), .val (.int x2), .val (.int (0 : Int32)), .val (.int (0 : Int32)), .val (.int ((x2 &&& (255 : Int32)).toUInt32.toUInt16.toUInt32.toInt32)), .val (.ref b246), .val (.ref b249), .val (.ref st_NONE), .val (.ref b249), .val (.int (((1 : Int32) + (0 : Int32)) + (0 : Int32))), .val (.int (0 : Int32))] [])) _
        refine XS.aload X260.here hx rfl (hb hby at_115) rfl rfl ?_
        refine XS.iload X260.here hx rfl (hb hby at_117) rfl ?_
        show Steps p.tables e below (T260.setTop (mkF m 119 #[.val (.int x1), .val (.int x2), .val (.int (0 : Int32)), .val (.int (0 : Int32)), .val (.int ((x2 &&& (255 : Int32)).toUInt32.toUInt16.toUInt32.toInt32)), .val (.ref b246), .val (.ref b249), .val (.ref st_NONE), .val (.ref b249), .val (.int (((1 : Int32) + (0 : Int32)) + (0 : Int32))), .val (.int (0 : Int32))] [(.int (0 : Int32)), (.ref b249)])) _
        refine st261.trans ?_
        show Steps p.tables e below (T261.setTop (mkF m 122 #[.val (.int x1), .val (.int x2), .val (.int (0 : Int32)), .val (.int (0 : Int32)), .val (.int ((x2 &&& (255 : Int32)).toUInt32.toUInt16.toUInt32.toInt32)), .val (.ref b246), .val (.ref b249), .val (.ref st_NONE), .val (.ref b249), .val (.int (((1 : Int32) + (0 : Int32)) + (0 : Int32))), .val (.int (0 : Int32))] [(.int ((x2 &&& (255 : Int32)).toUInt32.toUInt16.toUInt32.toInt32).toUInt32.toUInt16.toUInt32.toInt32)])) _
        refine XS.iload X261.here hx rfl (hb hby at_122) rfl ?_
        refine XS.icmpYes X261.here hx rfl (pc0 := 124) (pc' := 129) rfl (hb hby at_124) rfl (teq (own_cc _)).1 (by decide) (by decide) ?_
        refine XS.iloadN X261.here hx rfl (hb hby at_129) rfl ?_
        refine XS.ifYes X261.here hx rfl (pc0 := 130) (pc' := 146) rfl (hb hby at_130) rfl ((if0 _ _).trans (teq (by decide : (0 : Int32) = (0 : Int32))).1) (by decide) (by decide) ?_
        refine XS.iloadN X261.here hx rfl (hb hby at_146) rfl ?_
        refine XS.ifYes X261.here hx rfl (pc0 := 147) (pc' := 166) rfl (hb hby at_147) rfl ((if0 _ _).trans (teq (by decide : (0 : Int32) = (0 : Int32))).1) (by decide) (by decide) ?_
        show Steps p.tables e below (T261.setTop (mkF m 166 #[.val (.int x1), .val (.int x2), .val (.int (0 : Int32)), .val (.int (0 : Int32)), .val (.int ((x2 &&& (255 : Int32)).toUInt32.toUInt16.toUInt32.toInt32)), .val (.ref b246), .val (.ref b249), .val (.ref st_NONE), .val (.ref b249), .val (.int (((1 : Int32) + (0 : Int32)) + (0 : Int32))), .val (.int (0 : Int32))] [])) _
        refine XS.iconst X261.here hx rfl (hb hby at_166) ?_
        show Steps p.tables e below (T261.setTop (mkF m 167 #[.val (.int x1), .val (.int x2), .val (.int (0 : Int32)), .val (.int (0 : Int32)), .val (.int ((x2 &&& (255 : Int32)).toUInt32.toUInt16.toUInt32.toInt32)), .val (.ref b246), .val (.ref b249), .val (.ref st_NONE), .val (.ref b249), .val (.int (((1 : Int32) + (0 : Int32)) + (0 : Int32))), .val (.int (0 : Int32))] [(.int (1 : Int32))])) _
        exact retN X261 hx (t := .boolean) Bd.returns (by simp) (hb hby at_167) hr
      · show Q0 Z x1 x2 st_NONE st_AFTER st_BEFORE st_AROUND st_COMPACT_STRINGS st_fm h0 n0 _ T261.heap _
        rw [eh261]
        exact ⟨rfl, N261, K252⟩
    · skip
      obtain ⟨T262, h262, k262, X262, e262, E262, A262, st262⟩ := newP X0 hx hZa (own_wd hw 0 rfl) e0 (g := (mkF m 33 #[.val (.int x1), .val (.int x2), .val (.int (0 : Int32)), .val (.int (1 : Int32)), .val (.int ((x2 &&& (255 : Int32)).toUInt32.toUInt16.toUInt32.toInt32)), .unset, .unset, .unset, .unset, .unset, .unset] [(.int (1 : Int32))])) rfl (hb hby at_33) rfl (by decide) (cap := 1) (by decide) (by decide) (by decide) (by decide)
      obtain ⟨b262, g262⟩ : ∃ z, z = h0.size := ⟨_, rfl⟩
      rw [← g262] at A262 st262
      have O262 : Old Z n0 h262 := O0.ext E262
      have Z262 : n0 ≤ h262.size := Nat.le_trans Z0 E262.1
      have K262 : Keep h0 h262 [] := K0.ext E262
      have CH262 : CHv Z own_EL s.vm h262 := CHv.ext E262 CH0
      have CR262 : CHr Z own_EL s.vm h0 s.vm h262 := CR0.trans (CHr.ext E262 CH0)
      have g_b262 : n0 ≤ b262 := Nat.le_trans Z0 (Nat.le_of_eq g262.symm)
      have sz_b262 : h0.size ≤ b262 := Nat.le_trans K0.1 (Nat.le_of_eq g262.symm)
      have V262 : Arv Z h262 b262 k262 .char (1 : Int32) [(.int (0 : Int32))] (.int (0 : Int32)) := (Arv.new A262 (by decide)).pad (pad_rep [] (.int (0 : Int32)) 1)
      obtain ⟨cl_a263, Ar_a263, q_a263, S_a263, N_a263, H_a263, G_a263⟩ := id V262
      have hin_a263 : ¬ ((0 : Int32) < 0 ∨ cl_a263.slots.size ≤ ((0 : Int32)).toNatClampNeg) := inb_of S_a263 ⟨by decide, by decide⟩
      obtain ⟨T264, h264, X264, e264, W264, st264⟩ := stC X262 hx hZa e262 Ar_a263 (j := (0 : Int32)) hin_a263 (g := (mkF m 39 #[.val (.int x1), .val (.int x2), .val (.int (0 : Int32)), .val (.int (1 : Int32)), .val (.int ((x2 &&& (255 : Int32)).toUInt32.toUInt16.toUInt32.toInt32)), .unset, .unset, .unset, .unset, .unset, .unset] [(.int ((x2 &&& (255 : Int32)).toUInt32.toUInt16.toUInt32.toInt32)), (.int (0 : Int32)), (.ref b262), (.ref b262)])) rfl rfl (hb hby at_39)
      have O264 : Old Z n0 h264 := O262.wr W264 g_b262
      have Z264 : n0 ≤ h264.size := Nat.le_trans Z262 (Keep.of_wr W264).1
      have K264 : Keep h0 h264 [] := K262.wr W264 (Or.inr sz_b262)
      have N264 := Fr.snoc X264 N0 g_b262
      have CH264 : CHv Z own_EL s.vm h264 := CHv.wr W264 (Safe.arv hZa.alike V262 (by decide)) CH262
      have CR264 : CHr Z own_EL s.vm h0 s.vm h264 := CR262.trans (CHr.wr W264 (Safe.arv hZa.alike V262 (by decide)) CH262)
      have V264 : Arv Z h264 b262 k262 .char (1 : Int32) [(.int ((x2 &&& (255 : Int32)).toUInt32.toUInt16.toUInt32.toInt32).toUInt32.toUInt16.toUInt32.toInt32)] (.int (0 : Int32)) := Arv.set Ar_a263 q_a263 S_a263 N_a263 H_a263 G_a263 (fits_nar_char _) W264 0 rfl (Nat.le_of_ble_eq_true rfl)
      obtain ⟨T265, h265, X265, e265, E265, A265, D265, U265, st265⟩ := newO X264 hx hZa howna (own_wd hw 1 rfl) (own_wd hw 2 rfl) (own_wd hw 3 rfl) e264 (g := (mkF m 42 #[.val (.int x1), .val (.int x2), .val (.int (0 : Int32)), .val (.int (1 : Int32)), .val (.int ((x2 &&& (255 : Int32)).toUInt32.toUInt16.toUInt32.toInt32)), .val (.ref b262), .unset, .unset, .unset, .unset, .unset] [])) rfl (hb hby at_42) (by decide) (by decide)
      obtain ⟨b265, g265⟩ : ∃ z, z = h264.size := ⟨_, rfl⟩
      rw [← g265] at A265 D265 st265
      have O265 : Old Z n0 h265 := O264.ext E265
      have Z265 : n0 ≤ h265.size := Nat.le_trans Z264 E265.1
      have K265 : Keep h0 h265 [] := K264.ext E265
      have CH265 : CHv Z own_EL s.vm h265 := CHv.ext E265 CH264
      have CR265 : CHr Z own_EL s.vm h0 s.vm h265 := CR264.trans (CHr.ext E265 CH264)
      have g_b265 : n0 ≤ b265 := Nat.le_trans Z264 (Nat.le_of_eq g265.symm)
      have sz_b265 : h0.size ≤ b265 := Nat.le_trans K264.1 (Nat.le_of_eq g265.symm)
      have F_b265_coder : Fld Z h265 b265 "java/lang/String" "coder" "B" (.int (0 : Int32)) := D265 (Or.inr (own_wd hw 27 rfl)) (ty := .byte) (by decide)
      have F_b265_value : Fld Z h265 b265 "java/lang/String" "value" "[B" .null := D265 (Or.inr (own_wd hw 29 rfl)) (ty := (.array .byte)) (by decide)
      have V266 : Arv Z h265 b262 k262 .char (1 : Int32) [(.int ((x2 &&& (255 : Int32)).toUInt32.toUInt16.toUInt32.toInt32).toUInt32.toUInt16.toUInt32.toInt32)] (.int (0 : Int32)) := (V264.ext E265)
      have hp267 : ∀ c ∈ ([((x2 &&& (255 : Int32)).toUInt32.toUInt16.toUInt32.toInt32).toUInt32.toUInt16.toUInt32.toInt32] : List Int32), ¬ c < 0 ∧ ¬ (255 : Int32) < c := by
        intro c hc
        simp only [List.mem_cons, List.not_mem_nil, or_false] at hc
        rcases hc with rfl
        · exact own_chr _
      obtain ⟨_, _, ⟨T268, L268, k268, n268⟩, -, X268, ⟨Lc268, hQ268, l268, y268, z268⟩, st268⟩ := X265.specialBack hx (y := (⟨"java/lang/String", "<init>", "([C)V"⟩ : MethodName)) rfl howna (mvT hZa (own_wd hw 4 rfl)) (mvT hZa (own_wd hw 5 rfl)) (mvT hZa (own_wd hw 6 rfl)) (by decide) (StrChars.Road.backV (W := 1) hZa (own_hws hw) (kI := 4) (own_wd hw 2 rfl) (cs := ([((x2 &&& (255 : Int32)).toUInt32.toUInt16.toUInt32.toInt32).toUInt32.toUInt16.toUInt32.toInt32] : List Int32)) (bs := ([((x2 &&& (255 : Int32)).toUInt32.toUInt16.toUInt32.toInt32).toUInt32.toUInt16.toUInt32.toInt32] : List Int32).map (fun c => c.toInt8.toInt32)) (n := 1) g_b265 Z265 A265 F_b265_value F_b265_coder V266 (S_COMPACT_STRINGS.ext O265.2) hcomp rfl rfl (by decide) (by decide) hp267 rfl (by decide) (by decide)) (g := (mkF m 48 #[.val (.int x1), .val (.int x2), .val (.int (0 : Int32)), .val (.int (1 : Int32)), .val (.int ((x2 &&& (255 : Int32)).toUInt32.toUInt16.toUInt32.toInt32)), .val (.ref b262), .unset, .unset, .unset, .unset, .unset] [(.ref b262), (.ref b265), (.ref b265)])) rfl (by rw [hml]; rfl) (Steps.refl _) (a := b265) (argsL := [(.ref b262)]) (rest := [(.ref b265)]) (lenOf pd_17 rfl) rfl (by show 2 * 0 + _ ≤ _; exact Nat.le_of_eq rfl) (hb hby at_48) (fun _ _ => ⟨rfl, e265, (by decide : 2 + 1 ≤ _), (by decide : 5 + 1 ≤ _)⟩)
      dsimp only [Pt.U, Pt.locs, Pt.cells, Pt.slots] at X268 l268 y268 z268 st268 hQ268
      subst l268 y268 z268
      obtain ⟨rfl, N268q, KK268, E268, C268, t268, kb268, g_t268, s268, ne268, V268, A268⟩ := hQ268
      have N268 := Fr.app N264 N268q
      have sf269 : Safe Z own_EL s.vm h265 b265 := (Safe.ext E265 CH264 (Safe.new (Nat.le_of_eq g265.symm)))
      have O268 : Old Z n0 T268.heap := O265.keep KK268 (allS g_b265 all0)
      have Z268 : n0 ≤ T268.heap.size := Nat.le_trans Z265 KK268.1
      have K268 : Keep h0 T268.heap [] := K265.trans KK268 (allS (Or.inr sz_b265) all0)
      have CH268 : CHv Z own_EL s.vm T268.heap := CHv.keep KK268 (sfS sf269 sf0) CH265
      have CR268 : CHr Z own_EL s.vm h0 s.vm T268.heap := CR265.trans (CHr.keep KK268 (sfS sf269 sf0) CH265)
      have sz_t268 : h0.size ≤ t268 := Nat.le_trans K265.1 s268
      have Ae268 : Arv Z T268.heap t268 kb268 .byte (1 : Int32) [(.int (((x2 &&& (255 : Int32)).toUInt32.toUInt16.toUInt32.toInt32).toUInt32.toUInt16.toUInt32.toInt32.toInt8.toInt32))] (.int 0) := A268
      obtain ⟨_, _, ⟨T270, L270, k270, n270⟩, -, X270, ⟨Lc270, hQ270, l270, y270, z270⟩, st270⟩ := Jvm.LawKit.callS X268 hx (y := (⟨"com/example/derive/derive/LikeWildcards", "of", "(ZZ)Lcom/example/derive/derive/LikeWildcards;"⟩ : MethodName)) howna (mvT hZa (own_wd hw 30 rfl)) (mvT hZa (own_wd hw 31 rfl)) (mvT hZa (own_wd hw 32 rfl)) (mvT hZa (own_wd hw 33 rfl)) (by decide) (backOf (W := 0) (rm7_01 l Z a0 hw [] st_AFTER T268.heap n0 Z268 O268 S_AFTER) hZa (own_wd hw 33 rfl) (own_wd hw 32 rfl) (by decide) (by decide)) (g := (mkF m 55 #[.val (.int x1), .val (.int x2), .val (.int (0 : Int32)), .val (.int (1 : Int32)), .val (.int ((x2 &&& (255 : Int32)).toUInt32.toUInt16.toUInt32.toInt32)), .val (.ref b262), .val (.ref b265), .unset, .unset, .unset, .unset] [(.int (1 : Int32)), (.int (0 : Int32))])) rfl (by rw [hml]; rfl) (argsL := [(.int (0 : Int32)), (.int (1 : Int32))]) (rest := []) (lenOf pd_18 rfl) rfl (by show 2 * 0 + _ ≤ _; exact Nat.le_of_eq rfl) (hb hby at_55) (fun _ _ => ⟨rfl, rfl, (by decide : 3 + 0 ≤ _), (by decide : 6 + 0 ≤ _)⟩)
      dsimp only [Pt.U, Pt.locs, Pt.cells, Pt.slots] at X270 l270 y270 z270 st270 hQ270
      subst l270 y270 z270
      obtain ⟨rfl, N270q, eh270⟩ := hQ270
      have N270 := Fr.app N268 N270q
      have F271 : Fld Z T268.heap st_AFTER "java/lang/Enum" "ordinal" "I" (.int (1 : Int32)) := (FZ_st_AFTER_ordinal.ext O268.2)
      have C272 : Exa Z T268.heap st_AFTER "com/example/derive/derive/LikeWildcards" := (EZ_st_AFTER.ext O268.2)
      obtain ⟨cq273, kq273, q273a, q273b, q273c⟩ := isOf hZa eh270 C272
      obtain ⟨_, _, ⟨T273, L273, k273, n273⟩, -, X273, hS273, hg273, ⟨Lc273, hQ273, l273, y273, z273, R273⟩, st273⟩ := X270.virtualBackS hx (y := (⟨"com/example/derive/derive/LikeWildcards", "addTo", "(Ljava/lang/String;)Ljava/lang/String;"⟩ : MethodName)) (z := (⟨"com/example/derive/derive/LikeWildcards", "addTo", "(Ljava/lang/String;)Ljava/lang/String;"⟩ : MethodName)) howna (mvT hZa (own_wd hw 36 rfl)) (mvT hZa (own_wd hw 37 rfl)) (notFace_of_selects (args := #[]) (mvT hZa (own_wd hw 39 rfl))) (mvT hZa (own_wd hw 39 rfl)) (mvT hZa (own_wd hw 38 rfl)) (by decide) (backOfSH (s := s) (vm0 := s.vm) (W := 0) (rm8_1 l Z a0 hw [] st_AFTER b265 t268 ((x2 &&& (255 : Int32)).toUInt32.toUInt16.toUInt32.toInt32).toUInt32.toUInt16.toUInt32.toInt32 kb268 st_COMPACT_STRINGS T268.heap n0 Z268 O268 C272 F271 E268 V268 C268 Ae268 hp267 S_COMPACT_STRINGS hcomp) hZa (own_wd hw 40 rfl) (own_wd hw 32 rfl) (by decide) (by decide) (own_EW hw) CH268) q273a q273c (g := (mkF m 64 #[.val (.int x1), .val (.int x2), .val (.int (0 : Int32)), .val (.int (1 : Int32)), .val (.int ((x2 &&& (255 : Int32)).toUInt32.toUInt16.toUInt32.toInt32)), .val (.ref b262), .val (.ref b265), .val (.ref st_AFTER), .unset, .unset, .unset] [(.ref b265), (.ref st_AFTER)])) rfl (by rw [hml]; rfl) (Steps.refl _) (argsL := [(.ref b265)]) (rest := []) (lenOf pd_19 rfl) rfl (by show 2 * 0 + _ ≤ _; exact Nat.le_of_eq rfl) (hb hby at_64) (fun _ _ => ⟨rfl, eh270, (by decide : 3 + 6 ≤ _), (by decide : 6 + 34 ≤ _)⟩)
      dsimp only [Pt.U, Pt.locs, Pt.cells, Pt.slots] at X273 l273 y273 z273 st273 hQ273 hS273 hg273 R273
      subst l273 y273 z273
      obtain ⟨X273, hS273, hZ273, hown273⟩ := rebS hS0 (Nat.le_trans (Nat.le_trans (Nat.le_trans (Nat.le_trans hk0 E262.1) (Keep.of_wr W264).1) E265.1) KK268.1) X273 hS273 (by rw [← eh270]; exact hg273) hZa howna
      obtain ⟨b_273, t_273, kk_273, rfl, N273q, KK273, Q273_0, Q273_1, Q273_2, Q273_3, Q273_4⟩ := hQ273
      have N273 := Fr.app N270 N273q
      have O273 : Old Z n0 T273.heap := O268.keep KK273 all0
      have Z273 : n0 ≤ T273.heap.size := Nat.le_trans Z268 KK273.1
      have K273 : Keep h0 T273.heap [] := K268.trans KK273 all0
      have CH273 : CHv Z own_EL T273.vm T273.heap := R273.1
      have CR273 : CHr Z own_EL s.vm h0 T273.vm T273.heap := CR268.trans R273
      have g_b_273 : n0 ≤ b_273 := Nat.le_trans (Nat.le_trans (Nat.le_trans (Nat.le_trans (Nat.le_trans Z0 E262.1) (Keep.of_wr W264).1) E265.1) KK268.1) Q273_0
      have sz_b_273 : h0.size ≤ b_273 := Nat.le_trans K268.1 Q273_0
      have hp274 : ∀ c ∈ ([((x2 &&& (255 : Int32)).toUInt32.toUInt16.toUInt32.toInt32).toUInt32.toUInt16.toUInt32.toInt32, (37 : Int32)] : List Int32), ¬ c < 0 ∧ ¬ (255 : Int32) < c := by
        intro c hc
        simp only [List.mem_cons, List.not_mem_nil, or_false] at hc
        rcases hc with rfl | rfl
        · exact own_chr _
        · decide
      have cd275 : StrChars.Road.CodA ([((x2 &&& (255 : Int32)).toUInt32.toUInt16.toUInt32.toInt32).toUInt32.toUInt16.toUInt32.toInt32, (37 : Int32)] : List Int32) 0 (2 : Int32) [(.int (((x2 &&& (255 : Int32)).toUInt32.toUInt16.toUInt32.toInt32).toUInt32.toUInt16.toUInt32.toInt32.toInt8.toInt32)), (.int (37 : Int32))] := StrChars.Road.codOf (n := 2) rfl (fun c hc => (hp274 c hc).2)
      have hb276 : ∀ c ∈ ([((x2 &&& (255 : Int32)).toUInt32.toUInt16.toUInt32.toInt32).toUInt32.toUInt16.toUInt32.toInt32, (37 : Int32)] : List Int32), ¬ c < 0 ∧ ¬ (65535 : Int32) < c := own_up _ hp274
      obtain ⟨cq277, kq277, q277a, q277b, q277c⟩ := isOf hZ273 rfl Q273_1
      obtain ⟨_, _, ⟨T277, L277, k277, n277⟩, -, X277, ⟨Lc277, hQ277, l277, y277, z277⟩, st277⟩ := X273.virtualBack hx (y := (⟨"java/lang/String", "length", "()I"⟩ : MethodName)) (z := (⟨"java/lang/String", "length", "()I"⟩ : MethodName)) hown273 (mvT hZ273 (own_wd hw 50 rfl)) (mvT hZ273 (own_wd hw 51 rfl)) (notFace_of_selects (args := #[]) (mvT hZ273 (own_wd hw 53 rfl))) (mvT hZ273 (own_wd hw 53 rfl)) (mvT hZ273 (own_wd hw 52 rfl)) (by decide) (StrChars.Road.lenW (W := 0) hZ273 (own_hln hw) (kI := 4) (own_wd hw 2 rfl) Q273_1 Q273_2 Q273_3 Q273_4 cd275 hb276 (S_COMPACT_STRINGS.ext O273.2) hcomp (Nat.le_of_ble_eq_true rfl) (by decide) (by decide)) q277a q277c (g := (mkF m 94 #[.val (.int x1), .val (.int x2), .val (.int (0 : Int32)), .val (.int (1 : Int32)), .val (.int ((x2 &&& (255 : Int32)).toUInt32.toUInt16.toUInt32.toInt32)), .val (.ref b262), .val (.ref b265), .val (.ref st_AFTER), .val (.ref b_273), .val (.int (((1 : Int32) + (0 : Int32)) + (1 : Int32))), .unset] [(.ref b_273)])) rfl (by rw [hml]; rfl) (Steps.refl _) (argsL := []) (rest := []) (lenOf pd_0 rfl) rfl (by show 2 * 0 + _ ≤ _; exact Nat.le_of_eq rfl) (hb hby at_94) (fun _ _ => ⟨rfl, rfl, (by decide : 9 + 0 ≤ _), (by decide : 40 + 0 ≤ _)⟩)
      dsimp only [Pt.U, Pt.locs, Pt.cells, Pt.slots] at X277 l277 y277 z277 st277 hQ277
      subst l277 y277 z277
      obtain ⟨hv277, rfl, eh277⟩ := hQ277
      obtain rfl : _ = some (Value.int (2 : Int32)) := hv277
      have N277 := Fr.app N273 (Fr.nil n0)
      obtain ⟨cq278, kq278, q278a, q278b, q278c⟩ := isOf hZ273 eh277 Q273_1
      obtain ⟨_, _, ⟨T278, L278, k278, n278⟩, -, X278, ⟨Lc278, hQ278, l278, y278, z278⟩, st278⟩ := X277.virtualBack hx (y := (⟨"java/lang/String", "charAt", "(I)C"⟩ : MethodName)) (z := (⟨"java/lang/String", "charAt", "(I)C"⟩ : MethodName)) hown273 (mvT hZ273 (own_wd hw 60 rfl)) (mvT hZ273 (own_wd hw 61 rfl)) (notFace_of_selects (args := #[]) (mvT hZ273 (own_wd hw 63 rfl))) (mvT hZ273 (own_wd hw 63 rfl)) (mvT hZ273 (own_wd hw 62 rfl)) (by decide) (StrChars.Road.chN (W := 0) hZ273 (own_hch hw) (kI := 4) (own_wd hw 2 rfl) Q273_1 Q273_2 Q273_3 Q273_4 cd275 hb276 (S_COMPACT_STRINGS.ext O273.2) hcomp (S_fm.ext O273.2) hfm (Nat.le_of_ble_eq_true rfl) (i := 0) (Nat.le_of_ble_eq_true rfl) (j := (0 : Int32)) (by decide) (by decide) (by decide)) q278a q278c (g := (mkF m 119 #[.val (.int x1), .val (.int x2), .val (.int (0 : Int32)), .val (.int (1 : Int32)), .val (.int ((x2 &&& (255 : Int32)).toUInt32.toUInt16.toUInt32.toInt32)), .val (.ref b262), .val (.ref b265), .val (.ref st_AFTER), .val (.ref b_273), .val (.int (((1 : Int32) + (0 : Int32)) + (1 : Int32))), .val (.int (0 : Int32))] [(.int (0 : Int32)), (.ref b_273)])) rfl (by rw [hml]; rfl) (Steps.refl _) (argsL := [(.int (0 : Int32))]) (rest := []) (lenOf pd_20 rfl) rfl (by show 2 * 0 + _ ≤ _; exact Nat.le_of_eq rfl) (hb hby at_119) (fun _ _ => ⟨rfl, eh277, (by decide : 9 + 0 ≤ _), (by decide : 40 + 0 ≤ _)⟩)
      dsimp only [Pt.U, Pt.locs, Pt.cells, Pt.slots] at X278 l278 y278 z278 st278 hQ278
      subst l278 y278 z278
      obtain ⟨hv278, rfl, eh278⟩ := hQ278
      obtain rfl : _ = some (Value.int ((x2 &&& (255 : Int32)).toUInt32.toUInt16.toUInt32.toInt32).toUInt32.toUInt16.toUInt32.toInt32) := hv278
      have N278 := Fr.app N277 (Fr.nil n0)
      obtain ⟨cq279, kq279, q279a, q279b, q279c⟩ := isOf hZ273 eh278 Q273_1
      obtain ⟨_, _, ⟨T279, L279, k279, n279⟩, -, X279, ⟨Lc279, hQ279, l279, y279, z279⟩, st279⟩ := X278.virtualBack hx (y := (⟨"java/lang/String", "charAt", "(I)C"⟩ : MethodName)) (z := (⟨"java/lang/String", "charAt", "(I)C"⟩ : MethodName)) hown273 (mvT hZ273 (own_wd hw 60 rfl)) (mvT hZ273 (own_wd hw 61 rfl)) (notFace_of_selects (args := #[]) (mvT hZ273 (own_wd hw 63 rfl))) (mvT hZ273 (own_wd hw 63 rfl)) (mvT hZ273 (own_wd hw 62 rfl)) (by decide) (StrChars.Road.chN (W := 0) hZ273 (own_hch hw) (kI := 4) (own_wd hw 2 rfl) Q273_1 Q273_2 Q273_3 Q273_4 cd275 hb276 (S_COMPACT_STRINGS.ext O273.2) hcomp (S_fm.ext O273.2) hfm (Nat.le_of_ble_eq_true rfl) (i := 1) (Nat.le_of_ble_eq_true rfl) (j := ((((1 : Int32) + (0 : Int32)) + (1 : Int32)) - (1 : Int32))) (by decide) (by decide) (by decide)) q279a q279c (g := (mkF m 156 #[.val (.int x1), .val (.int x2), .val (.int (0 : Int32)), .val (.int (1 : Int32)), .val (.int ((x2 &&& (255 : Int32)).toUInt32.toUInt16.toUInt32.toInt32)), .val (.ref b262), .val (.ref b265), .val (.ref st_AFTER), .val (.ref b_273), .val (.int (((1 : Int32) + (0 : Int32)) + (1 : Int32))), .val (.int (0 : Int32))] [(.int ((((1 : Int32) + (0 : Int32)) + (1 : Int32)) - (1 : Int32))), (.ref b_273)])) rfl (by rw [hml]; rfl) (Steps.refl _) (argsL := [(.int ((((1 : Int32) + (0 : Int32)) + (1 : Int32)) - (1 : Int32)))]) (rest := []) (lenOf pd_20 rfl) rfl (by show 2 * 0 + _ ≤ _; exact Nat.le_of_eq rfl) (hb hby at_156) (fun _ _ => ⟨rfl, eh278, (by decide : 9 + 0 ≤ _), (by decide : 40 + 0 ≤ _)⟩)
      dsimp only [Pt.U, Pt.locs, Pt.cells, Pt.slots] at X279 l279 y279 z279 st279 hQ279
      subst l279 y279 z279
      obtain ⟨hv279, rfl, eh279⟩ := hQ279
      obtain rfl : _ = some (Value.int (37 : Int32)) := hv279
      have N279 := Fr.app N278 (Fr.nil n0)
      obtain ⟨fs, hr, hrun, hended, hW, hsame⟩ := X279.leave (v := some (.int (1 : Int32))) (fun h => by rw [Bd.returns] at h; cases h)
      have hend := hS273.ended hW (show _ ≤ T279.heap.size from by rw [eh279]; exact (Nat.le_refl _)) hsame
      have hcr : CHr Z own_EL s.vm s.heap T279.vm T279.heap := by
        rw [hh, eh279]
        exact CR273.trans (CHv.at X279 hZ273 (own_EW hw) CH273)
      refine ⟨_, _, pre245 _ ?_, hrun, hended, _, _, rfl, ?_, hcr, ⟨_, rfl⟩, hend.1, hend.2.1, hend.2.2.mono (by decide) (by decide)⟩
      · show Steps p.tables e below (s₁.setTop (mkF m 15 #[.val (.int x1), .val (.int x2), .val (.int (0 : Int32)), .unset, .unset, .unset, .unset, .unset, .unset, .unset, .unset] [(.int (x1 &&& (2 : Int32)))])) _
        refine XS.ifNo X0.here hx rfl (hb hby at_15) rfl ((if0 _ _).trans (feq hc15).1) ?_
        refine XS.iconst X0.here hx rfl (hb hby at_18) ?_
        refine XS.goto X0.here hx rfl (pc0 := 19) (pc' := 23) rfl (hb hby at_19) (by decide) (by decide) ?_
        show Steps p.tables e below (s₁.setTop (mkF m 23 #[.val (.int x1), .val (.int x2), .val (.int (0 : Int32)), .unset, .unset, .unset, .unset, .unset, .unset, .unset, .unset] [(.int (1 : Int32))])) _
        refine XS.istoreN X0.here hx rfl (hb hby at_23) rfl (l' := #[.val (.int x1), .val (.int x2), .val (.int (0 : Int32)), .val (.int (1 : Int32)), .unset, .unset, .unset, .unset, .unset, .unset, .unset]) rfl ?_
        refine XS.iloadN X0.here hx rfl (hb hby at_24) rfl ?_
        refine XS.sipush X0.here hx rfl (hb hby at_25) ?_
        refine XS.iand X0.here hx rfl (hb hby at_28) rfl ?_
        refine XS.i2c X0.here hx rfl (hb hby at_29) rfl ?_
        refine XS.istore X0.here hx rfl (hb hby at_30) rfl (l' := #[.val (.int x1), .val (.int x2), .val (.int (0 : Int32)), .val (.int (1 : Int32)), .val (.int ((x2 &&& (255 : Int32)).toUInt32.toUInt16.toUInt32.toInt32)), .unset, .unset, .unset, .unset, .unset, .unset]) rfl ?_
        show Steps p.tables e below (s₁.setTop (mkF m 32 #[.val (.int x1), .val (.int x2), .val (.int (0 : Int32)), .val (.int (1 : Int32)), .val (.int ((x2 &&& (255 : Int32)).toUInt32.toUInt16.toUInt32.toInt32)), .unset, .unset, .unset, .unset, .unset, .unset] [])) _
        refine XS.iconst X0.here hx rfl (hb hby at_32) ?_
        show Steps p.tables e below (s₁.setTop (mkF m 33 #[.val (.int x1), .val (.int x2), .val (.int (0 : Int32)), .val (.int (1 : Int32)), .val (.int ((x2 &&& (255 : Int32)).toUInt32.toUInt16.toUInt32.toInt32)), .unset, .unset, .unset, .unset, .unset, .unset] [(.int (1 : Int32))])) _
        refine st262 _ ?_
        show Steps p.tables e below (T262.setTop (mkF m 35 #[.val (.int x1), .val (.int x2), .val (.int (0 : Int32)), .val (.int (1 : Int32)), .val (.int ((x2 &&& (255 : Int32)).toUInt32.toUInt16.toUInt32.toInt32)), .unset, .unset, .unset, .unset, .unset, .unset] [(.ref b262)])) _
        refine XS.dup X262.here hx rfl (hb hby at_35) rfl rfl ?_
        refine XS.iconst X262.here hx rfl (hb hby at_36) ?_
        refine XS.iload X262.here hx rfl (hb hby at_37) rfl ?_
        show Steps p.tables e below (T262.setTop (mkF m 39 #[.val (.int x1), .val (.int x2), .val (.int (0 : Int32)), .val (.int (1 : Int32)), .val (.int ((x2 &&& (255 : Int32)).toUInt32.toUInt16.toUInt32.toInt32)), .unset, .unset, .unset, .unset, .unset, .unset] [(.int ((x2 &&& (255 : Int32)).toUInt32.toUInt16.toUInt32.toInt32)), (.int (0 : Int32)), (.ref b262), (.ref b262)])) _
        refine st264 _ ?_
        show Steps p.tables e below (T264.setTop (mkF m 40 #[.val (.int x1), .val (.int x2), .val (.int (0 : Int32)), .val (.int (1 : Int32)), .val (.int ((x2 &&& (255 : Int32)).toUInt32.toUInt16.toUInt32.toInt32)), .unset, .unset, .unset, .unset, .unset, .unset] [(.ref b262)])) _
        refine XS.astore X264.here hx rfl (hb hby at_40) rfl rfl (l' := #[.val (.int x1), .val (.int x2), .val (.int (0 : Int32)), .val (.int (1 : Int32)), .val (.int ((x2 &&& (255 : Int32)).toUInt32.toUInt16.toUInt32.toInt32)), .val (.ref b262), .unset, .unset, .unset, .unset, .unset]) rfl ?_
        show Steps p.tables e below (T264.setTop (mkF m 42 #[.val (.int x1), .val (.int x2), .val (.int (0 : Int32)), .val (.int (1 : Int32)), .val (.int ((x2 &&& (255 : Int32)).toUInt32.toUInt16.toUInt32.toInt32)), .val (.ref b262), .unset, .unset, .unset, .unset, .unset] [])) _
        refine st265 _ ?_
        show Steps p.tables e below (T265.setTop (mkF m 45 #[.val (.int x1), .val (.int x2), .val (.int (0 : Int32)), .val (.int (1 : Int32)), .val (.int ((x2 &&& (255 : Int32)).toUInt32.toUInt16.toUInt32.toInt32)), .val (.ref b262), .unset, .unset, .unset, .unset, .unset] [(.ref b265)])) _
        refine XS.dup X265.here hx rfl (hb hby at_45) rfl rfl ?_
        refine XS.aload X265.here hx rfl (hb hby at_46) rfl rfl ?_
        show Steps p.tables e below (T265.setTop (mkF m 48 #[.val (.int x1), .val (.int x2), .val (.int (0 : Int32)), .val (.int (1 : Int32)), .val (.int ((x2 &&& (255 : Int32)).toUInt32.toUInt16.toUInt32.toInt32)), .val (.ref b262), .unset, .unset, .unset, .unset, .unset] [(.ref b262), (.ref b265), (.ref b265)])) _
        refine st268.trans ?_
        show Steps p.tables e below (T268.setTop (mkF m 51 #[.val (.int x1), .val (.int x2), .val (.int (0 : Int32)), .val (.int (1 : Int32)), .val (.int ((x2 &&& (255 : Int32)).toUInt32.toUInt16.toUInt32.toInt32)), .val (.ref b262), .unset, .unset, .unset, .unset, .unset] [(.ref b265)])) _
        refine XS.astore X268.here hx rfl (hb hby at_51) rfl rfl (l' := #[.val (.int x1), .val (.int x2), .val (.int (0 : Int32)), .val (.int (1 : Int32)), .val (.int ((x2 &&& (255 : Int32)).toUInt32.toUInt16.toUInt32.toInt32)), .val (.ref b262), .val (.ref b265), .unset, .unset, .unset, .unset]) rfl ?_
        refine XS.iloadN X268.here hx rfl (hb hby at_53) rfl ?_
        refine XS.iloadN X268.here hx rfl (hb hby at_54) rfl ?_
        show Steps p.tables e below (T268.setTop (mkF m 55 #[.val (.int x1), .val (.int x2), .val (.int (0 : Int32)), .val (.int (1 : Int32)), .val (.int ((x2 &&& (255 : Int32)).toUInt32.toUInt16.toUInt32.toInt32)), .val (.ref b262), .val (.ref b265), .unset, .unset, .unset, .unset] [(.int (1 : Int32)), (.int (0 : Int32))])) _
        refine st270 _ ?_
        show Steps p.tables e below (T270.setTop (mkF m 58 #[.val (.int x1), .val (.int x2), .val (.int (0 : Int32)), .val (.int (1 : Int32)), .val (.int ((x2 &&& (255 : Int32)).toUInt32.toUInt16.toUInt32.toInt32)), .val (.ref b262), .val (.ref b265), .unset, .unset, .unset, .unset] [(.ref st_AFTER)])) _
        refine XS.astore X270.here hx rfl (hb hby at_58) rfl rfl (l' := #[.val (.int x1), .val (.int x2), .val (.int (0 : Int32)), .val (.int (1 : Int32)), .val (.int ((x2 &&& (255 : Int32)).toUInt32.toUInt16.toUInt32.toInt32)), .val (.ref b262), .val (.ref b265), .val (.ref st_AFTER), .unset, .unset, .unset]) rfl ?_
        refine XS.aload X270.here hx rfl (hb hby at_60) rfl rfl ?_
        refine XS.aload X270.here hx rfl (hb hby at_62) rfl rfl ?_
        show Steps p.tables e below (T270.setTop (mkF m 64 #[.val (.int x1), .val (.int x2), .val (.int (0 : Int32)), .val (.int (1 : Int32)), .val (.int ((x2 &&& (255 : Int32)).toUInt32.toUInt16.toUInt32.toInt32)), .val (.ref b262), .val (.ref b265), .val (.ref st_AFTER), .unset, .unset, .unset] [(.ref b265), (.ref st_AFTER)])) _
        refine st273.trans ?_
        show Steps p.tables e below (T273.setTop (mkF m 67 #[.val (.int x1), .val (.int x2), .val (.int (0 : Int32)), .val (.int (1 : Int32)), .val (.int ((x2 &&& (255 : Int32)).toUInt32.toUInt16.toUInt32.toInt32)), .val (.ref b262), .val (.ref b265), .val (.ref st_AFTER), .unset, .unset, .unset] [(.ref b_273)])) _
        refine XS.astore X273.here hx rfl (hb hby at_67) rfl rfl (l' := #[.val (.int x1), .val (.int x2), .val (.int (0 : Int32)), .val (.int (1 : Int32)), .val (.int ((x2 &&& (255 : Int32)).toUInt32.toUInt16.toUInt32.toInt32)), .val (.ref b262), .val (.ref b265), .val (.ref st_AFTER), .val (.ref b_273), .unset, .unset]) rfl ?_
        refine XS.iconst X273.here hx rfl (hb hby at_69) ?_
        refine XS.iloadN X273.here hx rfl (hb hby at_70) rfl ?_
        refine XS.ifYes X273.here hx rfl (pc0 := 71) (pc' := 78) rfl (hb hby at_71) rfl ((if0 _ _).trans (teq (by decide : (0 : Int32) = (0 : Int32))).1) (by decide) (by decide) ?_
        refine XS.iconst X273.here hx rfl (hb hby at_78) ?_
        refine XS.iadd X273.here hx rfl (hb hby at_79) rfl ?_
        show Steps p.tables e below (T273.setTop (mkF m 80 #[.val (.int x1), .val (.int x2), .val (.int (0 : Int32)), .val (.int (1 : Int32)), .val (.int ((x2 &&& (255 : Int32)).toUInt32.toUInt16.toUInt32.toInt32)), .val (.ref b262), .val (.ref b265), .val (.ref st_AFTER), .val (.ref b_273), .unset, .unset] [(.int ((1 : Int32) + (0 : Int32)))])) _
        refine XS.iloadN X273.here hx rfl (hb hby at_80) rfl ?_
        refine XS.ifNo X273.here hx rfl (hb hby at_81) rfl ((if0 _ _).trans (feq (by decide : ¬ ((1 : Int32) = (0 : Int32)))).1) ?_
        refine XS.iconst X273.here hx rfl (hb hby at_84) ?_
        refine XS.goto X273.here hx rfl (pc0 := 85) (pc' := 89) rfl (hb hby at_85) (by decide) (by decide) ?_
        refine XS.iadd X273.here hx rfl (hb hby at_89) rfl ?_
        refine XS.istore X273.here hx rfl (hb hby at_90) rfl (l' := #[.val (.int x1), .val (.int x2), .val (.int (0 : Int32)), .val (.int (1 : Int32)), .val (.int ((x2 &&& (255 : Int32)).toUInt32.toUInt16.toUInt32.toInt32)), .val (.ref b262), .val (.ref b265), .val (.ref st_AFTER), .val (.ref b_273), .val (.int (((1 : Int32) + (0 : Int32)) + (1 : Int32))), .unset]) rfl ?_
        show Steps p.tables e below (T273.setTop (mkF m 92 #[.val (.int x1), .val (.int x2), .val (.int (0 : Int32)), .val (.int (1 : Int32)), .val (.int ((x2 &&& (255 : Int32)).toUInt32.toUInt16.toUInt32.toInt32)), .val (.ref b262), .val (.ref b265), .val (.ref st_AFTER), .val (.ref b_273), .val (.int (((1 : Int32) + (0 : Int32)) + (1 : Int32))), .unset] [])) _
        refine XS.aload X273.here hx rfl (hb hby at_92) rfl rfl ?_
        show Steps p.tables e below (T273.setTop (mkF m 94 #[.val (.int x1), .val (.int x2), .val (.int (0 : Int32)), .val (.int (1 : Int32)), .val (.int ((x2 &&& (255 : Int32)).toUInt32.toUInt16.toUInt32.toInt32)), .val (.ref b262), .val (.ref b265), .val (.ref st_AFTER), .val (.ref b_273), .val (.int (((1 : Int32) + (0 : Int32)) + (1 : Int32))), .unset] [(.ref b_273)])) _
        refine st277.trans ?_
        show Steps p.tables e below (T277.setTop (mkF m 97 #[.val (.int x1), .val (.int x2), .val (.int (0 : Int32)), .val (.int (1 : Int32)), .val (.int ((x2 &&& (255 : Int32)).toUInt32.toUInt16.toUInt32.toInt32)), .val (.ref b262), .val (.ref b265), .val (.ref st_AFTER), .val (.ref b_273), .val (.int (((1 : Int32) + (0 : Int32)) + (1 : Int32))), .unset] [(.int (2 : Int32))])) _
        refine XS.iload X277.here hx rfl (hb hby at_97) rfl ?_
        refine XS.icmpYes X277.here hx rfl (pc0 := 99) (pc' := 104) rfl (hb hby at_99) rfl (teq (by decide : (2 : Int32) = (((1 : Int32) + (0 : Int32)) + (1 : Int32)))).1 (by decide) (by decide) ?_
        refine XS.iloadN X277.here hx rfl (hb hby at_104) rfl ?_
        refine XS.ifYes X277.here hx rfl (pc0 := 105) (pc' := 112) rfl (hb hby at_105) rfl ((if0 _ _).trans (teq (by decide : (0 : Int32) = (0 : Int32))).1) (by decide) (by decide) ?_
        refine XS.iconst X277.here hx rfl (hb hby at_112) ?_
        refine XS.istore X277.here hx rfl (hb hby at_113) rfl (l' := #[.val (.int x1), .val (.int x2), .val (.int (0 : Int32)), .val (.int (1 : Int32)), .val (.int ((x2 &&& (255 : Int32)).toUInt32.toUInt16.toUInt32.toInt32)), .val (.ref b262), .val (.ref b265), .val (.ref st_AFTER), .val (.ref b_273), .val (.int (((1 : Int32) + (0 : Int32)) + (1 : Int32))), .val (.int (0 : Int32))]) rfl ?_
        show Steps p.tables e below (T277.setTop (mkF m 115 #[.val (.int x1), .val (.int x2), .val (.int (0 : Int32)), .val (.int (1 : Int32)), .val (.int ((x2 &&& (255 : Int32)).toUInt32.toUInt16.toUInt32.toInt32)), .val (.ref b262), .val (.ref b265), .val (.ref st_AFTER), .val (.ref b_273), .val (.int (((1 : Int32) + (0 : Int32)) + (1 : Int32))), .val (.int (0 : Int32))] [])) _
        refine XS.aload X277.here hx rfl (hb hby at_115) rfl rfl ?_
        refine XS.iload X277.here hx rfl (hb hby at_117) rfl ?_
        show Steps p.tables e below (T277.setTop (mkF m 119 #[.val (.int x1), .val (.int x2), .val (.int (0 : Int32)), .val (.int (1 : Int32)), .val (.int ((x2 &&& (255 : Int32)).toUInt32.toUInt16.toUInt32.toInt32)), .val (.ref b262), .val (.ref b265), .val (.ref st_AFTER), .val (.ref b_273), .val (.int (((1 : Int32) + (0 : Int32)) + (1 : Int32))), .val (.int (0 : Int32))] [(.int (0 : Int32)), (.ref b_273)])) _
        refine st278.trans ?_
        show Steps p.tables e below (T278.setTop (mkF m 122 #[.val (.int x1), .val (.int x2), .val (.int (0 : Int32)), .val (.int (1 : Int32)), .val (.int ((x2 &&& (255 : Int32)).toUInt32.toUInt16.toUInt32.toInt32)), .val (.ref b262), .val (.ref b265), .val (.ref st_AFTER), .val (.ref b_273), .val (.int (((1 : Int32) + (0 : Int32)) + (1 : Int32))), .val (.int (0 : Int32))] [(.int ((x2 &&& (255 : Int32)).toUInt32.toUInt16.toUInt32.toInt32).toUInt32.toUInt16.toUInt32.toInt32)])) _
        refine XS.iload X278.here hx rfl (hb hby at_122) rfl ?_
        refine XS.icmpYes X278.here hx rfl (pc0 := 124) (pc' := 129) rfl (hb hby at_124) rfl (teq (own_cc _)).1 (by decide) (by decide) ?_
        refine XS.iloadN X278.here hx rfl (hb hby at_129) rfl ?_
        refine XS.ifYes X278.here hx rfl (pc0 := 130) (pc' := 146) rfl (hb hby at_130) rfl ((if0 _ _).trans (teq (by decide : (0 : Int32) = (0 : Int32))).1) (by decide) (by decide) ?_
        refine XS.iloadN X278.here hx rfl (hb hby at_146) rfl ?_
        refine XS.ifNo X278.here hx rfl (hb hby at_147) rfl ((if0 _ _).trans (feq (by decide : ¬ ((1 : Int32) = (0 : Int32)))).1) ?_
        show Steps p.tables e below (T278.setTop (mkF m 150 #[.val (.int x1), .val (.int x2), .val (.int (0 : Int32)), .val (.int (1 : Int32)), .val (.int ((x2 &&& (255 : Int32)).toUInt32.toUInt16.toUInt32.toInt32)), .val (.ref b262), .val (.ref b265), .val (.ref st_AFTER), .val (.ref b_273), .val (.int (((1 : Int32) + (0 : Int32)) + (1 : Int32))), .val (.int (0 : Int32))] [])) _
        refine XS.aload X278.here hx rfl (hb hby at_150) rfl rfl ?_
        refine XS.iload X278.here hx rfl (hb hby at_152) rfl ?_
        refine XS.iconst X278.here hx rfl (hb hby at_154) ?_
        refine XS.isub X278.here hx rfl (hb hby at_155) rfl ?_
        show Steps p.tables e below (T278.setTop (mkF m 156 #[.val (.int x1), .val (.int x2), .val (.int (0 : Int32)), .val (.int (1 : Int32)), .val (.int ((x2 &&& (255 : Int32)).toUInt32.toUInt16.toUInt32.toInt32)), .val (.ref b262), .val (.ref b265), .val (.ref st_AFTER), .val (.ref b_273), .val (.int (((1 : Int32) + (0 : Int32)) + (1 : Int32))), .val (.int (0 : Int32))] [(.int ((((1 : Int32) + (0 : Int32)) + (1 : Int32)) - (1 : Int32))), (.ref b_273)])) _
        refine st279.trans ?_
        show Steps p.tables e below (T279.setTop (mkF m 159 #[.val (.int x1), .val (.int x2), .val (.int (0 : Int32)), .val (.int (1 : Int32)), .val (.int ((x2 &&& (255 : Int32)).toUInt32.toUInt16.toUInt32.toInt32)), .val (.ref b262), .val (.ref b265), .val (.ref st_AFTER), .val (.ref b_273), .val (.int (((1 : Int32) + (0 : Int32)) + (1 : Int32))), .val (.int (0 : Int32))] [(.int (37 : Int32))])) _
        refine XS.bipush X279.here hx rfl (hb hby at_159) ?_
        refine XS.icmpYes X279.here hx rfl (pc0 := 161) (pc' := 166) rfl (hb hby at_161) rfl (teq (by decide : (37 : Int32) = (37 : Int32))).1 (by decide) (by decide) ?_
        refine XS.iconst X279.here hx rfl (hb hby at_166) ?_
        show Steps p.tables e below (T279.setTop (mkF m 167 #[.val (.int x1), .val (.int x2), .val (.int (0 : Int32)), .val (.int (1 : Int32)), .val (.int ((x2 &&& (255 : Int32)).toUInt32.toUInt16.toUInt32.toInt32)), .val (.ref b262), .val (.ref b265), .val (.ref st_AFTER), .val (.ref b_273), .val (.int (((1 : Int32) + (0 : Int32)) + (1 : Int32))), .val (.int (0 : Int32))] [(.int (1 : Int32))])) _
        exact retN X279 hx (t := .boolean) Bd.returns (by simp) (hb hby at_167) hr
      · show Q0 Z x1 x2 st_NONE st_AFTER st_BEFORE st_AROUND st_COMPACT_STRINGS st_fm h0 n0 _ T279.heap _
        rw [eh279]
        exact ⟨rfl, N279, K273⟩
  · skip
    have pre280 : ∀ t, Steps p.tables e below (s₁.setTop (mkF m 15 #[.val (.int x1), .val (.int x2), .val (.int (1 : Int32)), .unset, .unset, .unset, .unset, .unset, .unset, .unset, .unset] [(.int (x1 &&& (2 : Int32)))])) t → Steps p.tables e below (s₁.setTop (entryFrame m #[(.int x1), (.int x2)] maxLocals)) t := by
      intro t kt
      refine pre244 t ?_
      show Steps p.tables e below (s₁.setTop (mkF m 3 #[.val (.int x1), .val (.int x2), .unset, .unset, .unset, .unset, .unset, .unset, .unset, .unset, .unset] [(.int (x1 &&& (1 : Int32)))])) _
      refine XS.ifNo X0.here hx rfl (hb hby at_3) rfl ((if0 _ _).trans (feq hc3).1) ?_
      refine XS.iconst X0.here hx rfl (hb hby at_6) ?_
      refine XS.goto X0.here hx rfl (pc0 := 7) (pc' := 11) rfl (hb hby at_7) (by decide) (by decide) ?_
      show Steps p.tables e below (s₁.setTop (mkF m 11 #[.val (.int x1), .val (.int x2), .unset, .unset, .unset, .unset, .unset, .unset, .unset, .unset, .unset] [(.int (1 : Int32))])) _
      refine XS.istoreN X0.here hx rfl (hb hby at_11) rfl (l' := #[.val (.int x1), .val (.int x2), .val (.int (1 : Int32)), .unset, .unset, .unset, .unset, .unset, .unset, .unset, .unset]) rfl ?_
      refine XS.iloadN X0.here hx rfl (hb hby at_12) rfl ?_
      refine XS.iconst X0.here hx rfl (hb hby at_13) ?_
      refine XS.iand X0.here hx rfl (hb hby at_14) rfl ?_
      exact kt
    by_cases hc15 : (x1 &&& (2 : Int32)) = (0 : Int32)
    · skip
      obtain ⟨T281, h281, k281, X281, e281, E281, A281, st281⟩ := newP X0 hx hZa (own_wd hw 0 rfl) e0 (g := (mkF m 33 #[.val (.int x1), .val (.int x2), .val (.int (1 : Int32)), .val (.int (0 : Int32)), .val (.int ((x2 &&& (255 : Int32)).toUInt32.toUInt16.toUInt32.toInt32)), .unset, .unset, .unset, .unset, .unset, .unset] [(.int (1 : Int32))])) rfl (hb hby at_33) rfl (by decide) (cap := 1) (by decide) (by decide) (by decide) (by decide)
      obtain ⟨b281, g281⟩ : ∃ z, z = h0.size := ⟨_, rfl⟩
      rw [← g281] at A281 st281
      have O281 : Old Z n0 h281 := O0.ext E281
      have Z281 : n0 ≤ h281.size := Nat.le_trans Z0 E281.1
      have K281 : Keep h0 h281 [] := K0.ext E281
      have CH281 : CHv Z own_EL s.vm h281 := CHv.ext E281 CH0
      have CR281 : CHr Z own_EL s.vm h0 s.vm h281 := CR0.trans (CHr.ext E281 CH0)
      have g_b281 : n0 ≤ b281 := Nat.le_trans Z0 (Nat.le_of_eq g281.symm)
      have sz_b281 : h0.size ≤ b281 := Nat.le_trans K0.1 (Nat.le_of_eq g281.symm)
      have V281 : Arv Z h281 b281 k281 .char (1 : Int32) [(.int (0 : Int32))] (.int (0 : Int32)) := (Arv.new A281 (by decide)).pad (pad_rep [] (.int (0 : Int32)) 1)
      obtain ⟨cl_a282, Ar_a282, q_a282, S_a282, N_a282, H_a282, G_a282⟩ := id V281
      have hin_a282 : ¬ ((0 : Int32) < 0 ∨ cl_a282.slots.size ≤ ((0 : Int32)).toNatClampNeg) := inb_of S_a282 ⟨by decide, by decide⟩
      obtain ⟨T283, h283, X283, e283, W283, st283⟩ := stC X281 hx hZa e281 Ar_a282 (j := (0 : Int32)) hin_a282 (g := (mkF m 39 #[.val (.int x1), .val (.int x2), .val (.int (1 : Int32)), .val (.int (0 : Int32)), .val (.int ((x2 &&& (255 : Int32)).toUInt32.toUInt16.toUInt32.toInt32)), .unset, .unset, .unset, .unset, .unset, .unset] [(.int ((x2 &&& (255 : Int32)).toUInt32.toUInt16.toUInt32.toInt32)), (.int (0 : Int32)), (.ref b281), (.ref b281)])) rfl rfl (hb hby at_39)
      have O283 : Old Z n0 h283 := O281.wr W283 g_b281
      have Z283 : n0 ≤ h283.size := Nat.le_trans Z281 (Keep.of_wr W283).1
      have K283 : Keep h0 h283 [] := K281.wr W283 (Or.inr sz_b281)
      have N283 := Fr.snoc X283 N0 g_b281
      have CH283 : CHv Z own_EL s.vm h283 := CHv.wr W283 (Safe.arv hZa.alike V281 (by decide)) CH281
      have CR283 : CHr Z own_EL s.vm h0 s.vm h283 := CR281.trans (CHr.wr W283 (Safe.arv hZa.alike V281 (by decide)) CH281)
      have V283 : Arv Z h283 b281 k281 .char (1 : Int32) [(.int ((x2 &&& (255 : Int32)).toUInt32.toUInt16.toUInt32.toInt32).toUInt32.toUInt16.toUInt32.toInt32)] (.int (0 : Int32)) := Arv.set Ar_a282 q_a282 S_a282 N_a282 H_a282 G_a282 (fits_nar_char _) W283 0 rfl (Nat.le_of_ble_eq_true rfl)
      obtain ⟨T284, h284, X284, e284, E284, A284, D284, U284, st284⟩ := newO X283 hx hZa howna (own_wd hw 1 rfl) (own_wd hw 2 rfl) (own_wd hw 3 rfl) e283 (g := (mkF m 42 #[.val (.int x1), .val (.int x2), .val (.int (1 : Int32)), .val (.int (0 : Int32)), .val (.int ((x2 &&& (255 : Int32)).toUInt32.toUInt16.toUInt32.toInt32)), .val (.ref b281), .unset, .unset, .unset, .unset, .unset] [])) rfl (hb hby at_42) (by decide) (by decide)
      obtain ⟨b284, g284⟩ : ∃ z, z = h283.size := ⟨_, rfl⟩
      rw [← g284] at A284 D284 st284
      have O284 : Old Z n0 h284 := O283.ext E284
      have Z284 : n0 ≤ h284.size := Nat.le_trans Z283 E284.1
      have K284 : Keep h0 h284 [] := K283.ext E284
      have CH284 : CHv Z own_EL s.vm h284 := CHv.ext E284 CH283
      have CR284 : CHr Z own_EL s.vm h0 s.vm h284 := CR283.trans (CHr.ext E284 CH283)
      have g_b284 : n0 ≤ b284 := Nat.le_trans Z283 (Nat.le_of_eq g284.symm)
      have sz_b284 : h0.size ≤ b284 := Nat.le_trans K283.1 (Nat.le_of_eq g284.symm)
      have F_b284_coder : Fld Z h284 b284 "java/lang/String" "coder" "B" (.int (0 : Int32)) := D284 (Or.inr (own_wd hw 27 rfl)) (ty := .byte) (by decide)
      have F_b284_value : Fld Z h284 b284 "java/lang/String" "value" "[B" .null := D284 (Or.inr (own_wd hw 29 rfl)) (ty := (.array .byte)) (by decide)
      have V285 : Arv Z h284 b281 k281 .char (1 : Int32) [(.int ((x2 &&& (255 : Int32)).toUInt32.toUInt16.toUInt32.toInt32).toUInt32.toUInt16.toUInt32.toInt32)] (.int (0 : Int32)) := (V283.ext E284)
      have hp286 : ∀ c ∈ ([((x2 &&& (255 : Int32)).toUInt32.toUInt16.toUInt32.toInt32).toUInt32.toUInt16.toUInt32.toInt32] : List Int32), ¬ c < 0 ∧ ¬ (255 : Int32) < c := by
        intro c hc
        simp only [List.mem_cons, List.not_mem_nil, or_false] at hc
        rcases hc with rfl
        · exact own_chr _
      obtain ⟨_, _, ⟨T287, L287, k287, n287⟩, -, X287, ⟨Lc287, hQ287, l287, y287, z287⟩, st287⟩ := X284.specialBack hx (y := (⟨"java/lang/String", "<init>", "([C)V"⟩ : MethodName)) rfl howna (mvT hZa (own_wd hw 4 rfl)) (mvT hZa (own_wd hw 5 rfl)) (mvT hZa (own_wd hw 6 rfl)) (by decide) (StrChars.Road.backV (W := 1) hZa (own_hws hw) (kI := 4) (own_wd hw 2 rfl) (cs := ([((x2 &&& (255 : Int32)).toUInt32.toUInt16.toUInt32.toInt32).toUInt32.toUInt16.toUInt32.toInt32] : List Int32)) (bs := ([((x2 &&& (255 : Int32)).toUInt32.toUInt16.toUInt32.toInt32).toUInt32.toUInt16.toUInt32.toInt32] : List Int32).map (fun c => c.toInt8.toInt32)) (n := 1) g_b284 Z284 A284 F_b284_value F_b284_coder V285 (S_COMPACT_STRINGS.ext O284.2) hcomp rfl rfl (by decide) (by decide) hp286 rfl (by decide) (by decide)) (g := (mkF m 48 #[.val (.int x1), .val (.int x2), .val (.int (1 : Int32)), .val (.int (0 : Int32)), .val (.int ((x2 &&& (255 : Int32)).toUInt32.toUInt16.toUInt32.toInt32)), .val (.ref b281), .unset, .unset, .unset, .unset, .unset] [(.ref b281), (.ref b284), (.ref b284)])) rfl (by rw [hml]; rfl) (Steps.refl _) (a := b284) (argsL := [(.ref b281)]) (rest := [(.ref b284)]) (lenOf pd_17 rfl) rfl (by show 2 * 0 + _ ≤ _; exact Nat.le_of_eq rfl) (hb hby at_48) (fun _ _ => ⟨rfl, e284, (by decide : 2 + 1 ≤ _), (by decide : 5 + 1 ≤ _)⟩)
      dsimp only [Pt.U, Pt.locs, Pt.cells, Pt.slots] at X287 l287 y287 z287 st287 hQ287
      subst l287 y287 z287
      obtain ⟨rfl, N287q, KK287, E287, C287, t287, kb287, g_t287, s287, ne287, V287, A287⟩ := hQ287
      have N287 := Fr.app N283 N287q
      have sf288 : Safe Z own_EL s.vm h284 b284 := (Safe.ext E284 CH283 (Safe.new (Nat.le_of_eq g284.symm)))
      have O287 : Old Z n0 T287.heap := O284.keep KK287 (allS g_b284 all0)
      have Z287 : n0 ≤ T287.heap.size := Nat.le_trans Z284 KK287.1
      have K287 : Keep h0 T287.heap [] := K284.trans KK287 (allS (Or.inr sz_b284) all0)
      have CH287 : CHv Z own_EL s.vm T287.heap := CHv.keep KK287 (sfS sf288 sf0) CH284
      have CR287 : CHr Z own_EL s.vm h0 s.vm T287.heap := CR284.trans (CHr.keep KK287 (sfS sf288 sf0) CH284)
      have sz_t287 : h0.size ≤ t287 := Nat.le_trans K284.1 s287
      have Ae287 : Arv Z T287.heap t287 kb287 .byte (1 : Int32) [(.int (((x2 &&& (255 : Int32)).toUInt32.toUInt16.toUInt32.toInt32).toUInt32.toUInt16.toUInt32.toInt32.toInt8.toInt32))] (.int 0) := A287
      obtain ⟨_, _, ⟨T289, L289, k289, n289⟩, -, X289, ⟨Lc289, hQ289, l289, y289, z289⟩, st289⟩ := Jvm.LawKit.callS X287 hx (y := (⟨"com/example/derive/derive/LikeWildcards", "of", "(ZZ)Lcom/example/derive/derive/LikeWildcards;"⟩ : MethodName)) howna (mvT hZa (own_wd hw 30 rfl)) (mvT hZa (own_wd hw 31 rfl)) (mvT hZa (own_wd hw 32 rfl)) (mvT hZa (own_wd hw 33 rfl)) (by decide) (backOf (W := 0) (rm7_10 l Z a0 hw [] st_BEFORE T287.heap n0 Z287 O287 S_BEFORE) hZa (own_wd hw 33 rfl) (own_wd hw 32 rfl) (by decide) (by decide)) (g := (mkF m 55 #[.val (.int x1), .val (.int x2), .val (.int (1 : Int32)), .val (.int (0 : Int32)), .val (.int ((x2 &&& (255 : Int32)).toUInt32.toUInt16.toUInt32.toInt32)), .val (.ref b281), .val (.ref b284), .unset, .unset, .unset, .unset] [(.int (0 : Int32)), (.int (1 : Int32))])) rfl (by rw [hml]; rfl) (argsL := [(.int (1 : Int32)), (.int (0 : Int32))]) (rest := []) (lenOf pd_18 rfl) rfl (by show 2 * 0 + _ ≤ _; exact Nat.le_of_eq rfl) (hb hby at_55) (fun _ _ => ⟨rfl, rfl, (by decide : 3 + 0 ≤ _), (by decide : 6 + 0 ≤ _)⟩)
      dsimp only [Pt.U, Pt.locs, Pt.cells, Pt.slots] at X289 l289 y289 z289 st289 hQ289
      subst l289 y289 z289
      obtain ⟨rfl, N289q, eh289⟩ := hQ289
      have N289 := Fr.app N287 N289q
      have F290 : Fld Z T287.heap st_BEFORE "java/lang/Enum" "ordinal" "I" (.int (2 : Int32)) := (FZ_st_BEFORE_ordinal.ext O287.2)
      have C291 : Exa Z T287.heap st_BEFORE "com/example/derive/derive/LikeWildcards" := (EZ_st_BEFORE.ext O287.2)
      obtain ⟨cq292, kq292, q292a, q292b, q292c⟩ := isOf hZa eh289 C291
      obtain ⟨_, _, ⟨T292, L292, k292, n292⟩, -, X292, hS292, hg292, ⟨Lc292, hQ292, l292, y292, z292, R292⟩, st292⟩ := X289.virtualBackS hx (y := (⟨"com/example/derive/derive/LikeWildcards", "addTo", "(Ljava/lang/String;)Ljava/lang/String;"⟩ : MethodName)) (z := (⟨"com/example/derive/derive/LikeWildcards", "addTo", "(Ljava/lang/String;)Ljava/lang/String;"⟩ : MethodName)) howna (mvT hZa (own_wd hw 36 rfl)) (mvT hZa (own_wd hw 37 rfl)) (notFace_of_selects (args := #[]) (mvT hZa (own_wd hw 39 rfl))) (mvT hZa (own_wd hw 39 rfl)) (mvT hZa (own_wd hw 38 rfl)) (by decide) (backOfSH (s := s) (vm0 := s.vm) (W := 0) (rm8_2 l Z a0 hw [] st_BEFORE b284 t287 ((x2 &&& (255 : Int32)).toUInt32.toUInt16.toUInt32.toInt32).toUInt32.toUInt16.toUInt32.toInt32 kb287 st_COMPACT_STRINGS T287.heap n0 Z287 O287 C291 F290 E287 V287 C287 Ae287 hp286 S_COMPACT_STRINGS hcomp) hZa (own_wd hw 40 rfl) (own_wd hw 32 rfl) (by decide) (by decide) (own_EW hw) CH287) q292a q292c (g := (mkF m 64 #[.val (.int x1), .val (.int x2), .val (.int (1 : Int32)), .val (.int (0 : Int32)), .val (.int ((x2 &&& (255 : Int32)).toUInt32.toUInt16.toUInt32.toInt32)), .val (.ref b281), .val (.ref b284), .val (.ref st_BEFORE), .unset, .unset, .unset] [(.ref b284), (.ref st_BEFORE)])) rfl (by rw [hml]; rfl) (Steps.refl _) (argsL := [(.ref b284)]) (rest := []) (lenOf pd_19 rfl) rfl (by show 2 * 0 + _ ≤ _; exact Nat.le_of_eq rfl) (hb hby at_64) (fun _ _ => ⟨rfl, eh289, (by decide : 3 + 6 ≤ _), (by decide : 6 + 34 ≤ _)⟩)
      dsimp only [Pt.U, Pt.locs, Pt.cells, Pt.slots] at X292 l292 y292 z292 st292 hQ292 hS292 hg292 R292
      subst l292 y292 z292
      obtain ⟨X292, hS292, hZ292, hown292⟩ := rebS hS0 (Nat.le_trans (Nat.le_trans (Nat.le_trans (Nat.le_trans hk0 E281.1) (Keep.of_wr W283).1) E284.1) KK287.1) X292 hS292 (by rw [← eh289]; exact hg292) hZa howna
      obtain ⟨b_292, t_292, kk_292, rfl, N292q, KK292, Q292_0, Q292_1, Q292_2, Q292_3, Q292_4⟩ := hQ292
      have N292 := Fr.app N289 N292q
      have O292 : Old Z n0 T292.heap := O287.keep KK292 all0
      have Z292 : n0 ≤ T292.heap.size := Nat.le_trans Z287 KK292.1
      have K292 : Keep h0 T292.heap [] := K287.trans KK292 all0
      have CH292 : CHv Z own_EL T292.vm T292.heap := R292.1
      have CR292 : CHr Z own_EL s.vm h0 T292.vm T292.heap := CR287.trans R292
      have g_b_292 : n0 ≤ b_292 := Nat.le_trans (Nat.le_trans (Nat.le_trans (Nat.le_trans (Nat.le_trans Z0 E281.1) (Keep.of_wr W283).1) E284.1) KK287.1) Q292_0
      have sz_b_292 : h0.size ≤ b_292 := Nat.le_trans K287.1 Q292_0
      have hp293 : ∀ c ∈ ([(37 : Int32), ((x2 &&& (255 : Int32)).toUInt32.toUInt16.toUInt32.toInt32).toUInt32.toUInt16.toUInt32.toInt32] : List Int32), ¬ c < 0 ∧ ¬ (255 : Int32) < c := by
        intro c hc
        simp only [List.mem_cons, List.not_mem_nil, or_false] at hc
        rcases hc with rfl | rfl
        · decide
        · exact own_chr _
      have cd294 : StrChars.Road.CodA ([(37 : Int32), ((x2 &&& (255 : Int32)).toUInt32.toUInt16.toUInt32.toInt32).toUInt32.toUInt16.toUInt32.toInt32] : List Int32) 0 (2 : Int32) [(.int (37 : Int32)), (.int (((x2 &&& (255 : Int32)).toUInt32.toUInt16.toUInt32.toInt32).toUInt32.toUInt16.toUInt32.toInt32.toInt8.toInt32))] := StrChars.Road.codOf (n := 2) rfl (fun c hc => (hp293 c hc).2)
      have hb295 : ∀ c ∈ ([(37 : Int32), ((x2 &&& (255 : Int32)).toUInt32.toUInt16.toUInt32.toInt32).toUInt32.toUInt16.toUInt32.toInt32] : List Int32), ¬ c < 0 ∧ ¬ (65535 : Int32) < c := own_up _ hp293
      obtain ⟨cq296, kq296, q296a, q296b, q296c⟩ := isOf hZ292 rfl Q292_1
      obtain ⟨_, _, ⟨T296, L296, k296, n296⟩, -, X296, ⟨Lc296, hQ296, l296, y296, z296⟩, st296⟩ := X292.virtualBack hx (y := (⟨"java/lang/String", "length", "()I"⟩ : MethodName)) (z := (⟨"java/lang/String", "length", "()I"⟩ : MethodName)) hown292 (mvT hZ292 (own_wd hw 50 rfl)) (mvT hZ292 (own_wd hw 51 rfl)) (notFace_of_selects (args := #[]) (mvT hZ292 (own_wd hw 53 rfl))) (mvT hZ292 (own_wd hw 53 rfl)) (mvT hZ292 (own_wd hw 52 rfl)) (by decide) (StrChars.Road.lenW (W := 0) hZ292 (own_hln hw) (kI := 4) (own_wd hw 2 rfl) Q292_1 Q292_2 Q292_3 Q292_4 cd294 hb295 (S_COMPACT_STRINGS.ext O292.2) hcomp (Nat.le_of_ble_eq_true rfl) (by decide) (by decide)) q296a q296c (g := (mkF m 94 #[.val (.int x1), .val (.int x2), .val (.int (1 : Int32)), .val (.int (0 : Int32)), .val (.int ((x2 &&& (255 : Int32)).toUInt32.toUInt16.toUInt32.toInt32)), .val (.ref b281), .val (.ref b284), .val (.ref st_BEFORE), .val (.ref b_292), .val (.int (((1 : Int32) + (1 : Int32)) + (0 : Int32))), .unset] [(.ref b_292)])) rfl (by rw [hml]; rfl) (Steps.refl _) (argsL := []) (rest := []) (lenOf pd_0 rfl) rfl (by show 2 * 0 + _ ≤ _; exact Nat.le_of_eq rfl) (hb hby at_94) (fun _ _ => ⟨rfl, rfl, (by decide : 9 + 0 ≤ _), (by decide : 40 + 0 ≤ _)⟩)
      dsimp only [Pt.U, Pt.locs, Pt.cells, Pt.slots] at X296 l296 y296 z296 st296 hQ296
      subst l296 y296 z296
      obtain ⟨hv296, rfl, eh296⟩ := hQ296
      obtain rfl : _ = some (Value.int (2 : Int32)) := hv296
      have N296 := Fr.app N292 (Fr.nil n0)
      obtain ⟨cq297, kq297, q297a, q297b, q297c⟩ := isOf hZ292 eh296 Q292_1
      obtain ⟨_, _, ⟨T297, L297, k297, n297⟩, -, X297, ⟨Lc297, hQ297, l297, y297, z297⟩, st297⟩ := X296.virtualBack hx (y := (⟨"java/lang/String", "charAt", "(I)C"⟩ : MethodName)) (z := (⟨"java/lang/String", "charAt", "(I)C"⟩ : MethodName)) hown292 (mvT hZ292 (own_wd hw 60 rfl)) (mvT hZ292 (own_wd hw 61 rfl)) (notFace_of_selects (args := #[]) (mvT hZ292 (own_wd hw 63 rfl))) (mvT hZ292 (own_wd hw 63 rfl)) (mvT hZ292 (own_wd hw 62 rfl)) (by decide) (StrChars.Road.chN (W := 0) hZ292 (own_hch hw) (kI := 4) (own_wd hw 2 rfl) Q292_1 Q292_2 Q292_3 Q292_4 cd294 hb295 (S_COMPACT_STRINGS.ext O292.2) hcomp (S_fm.ext O292.2) hfm (Nat.le_of_ble_eq_true rfl) (i := 1) (Nat.le_of_ble_eq_true rfl) (j := (1 : Int32)) (by decide) (by decide) (by decide)) q297a q297c (g := (mkF m 119 #[.val (.int x1), .val (.int x2), .val (.int (1 : Int32)), .val (.int (0 : Int32)), .val (.int ((x2 &&& (255 : Int32)).toUInt32.toUInt16.toUInt32.toInt32)), .val (.ref b281), .val (.ref b284), .val (.ref st_BEFORE), .val (.ref b_292), .val (.int (((1 : Int32) + (1 : Int32)) + (0 : Int32))), .val (.int (1 : Int32))] [(.int (1 : Int32)), (.ref b_292)])) rfl (by rw [hml]; rfl) (Steps.refl _) (argsL := [(.int (1 : Int32))]) (rest := []) (lenOf pd_20 rfl) rfl (by show 2 * 0 + _ ≤ _; exact Nat.le_of_eq rfl) (hb hby at_119) (fun _ _ => ⟨rfl, eh296, (by decide : 9 + 0 ≤ _), (by decide : 40 + 0 ≤ _)⟩)
      dsimp only [Pt.U, Pt.locs, Pt.cells, Pt.slots] at X297 l297 y297 z297 st297 hQ297
      subst l297 y297 z297
      obtain ⟨hv297, rfl, eh297⟩ := hQ297
      obtain rfl : _ = some (Value.int ((x2 &&& (255 : Int32)).toUInt32.toUInt16.toUInt32.toInt32).toUInt32.toUInt16.toUInt32.toInt32) := hv297
      have N297 := Fr.app N296 (Fr.nil n0)
      obtain ⟨cq298, kq298, q298a, q298b, q298c⟩ := isOf hZ292 eh297 Q292_1
      obtain ⟨_, _, ⟨T298, L298, k298, n298⟩, -, X298, ⟨Lc298, hQ298, l298, y298, z298⟩, st298⟩ := X297.virtualBack hx (y := (⟨"java/lang/String", "charAt", "(I)C"⟩ : MethodName)) (z := (⟨"java/lang/String", "charAt", "(I)C"⟩ : MethodName)) hown292 (mvT hZ292 (own_wd hw 60 rfl)) (mvT hZ292 (own_wd hw 61 rfl)) (notFace_of_selects (args := #[]) (mvT hZ292 (own_wd hw 63 rfl))) (mvT hZ292 (own_wd hw 63 rfl)) (mvT hZ292 (own_wd hw 62 rfl)) (by decide) (StrChars.Road.chN (W := 0) hZ292 (own_hch hw) (kI := 4) (own_wd hw 2 rfl) Q292_1 Q292_2 Q292_3 Q292_4 cd294 hb295 (S_COMPACT_STRINGS.ext O292.2) hcomp (S_fm.ext O292.2) hfm (Nat.le_of_ble_eq_true rfl) (i := 0) (Nat.le_of_ble_eq_true rfl) (j := (0 : Int32)) (by decide) (by decide) (by decide)) q298a q298c (g := (mkF m 136 #[.val (.int x1), .val (.int x2), .val (.int (1 : Int32)), .val (.int (0 : Int32)), .val (.int ((x2 &&& (255 : Int32)).toUInt32.toUInt16.toUInt32.toInt32)), .val (.ref b281), .val (.ref b284), .val (.ref st_BEFORE), .val (.ref b_292), .val (.int (((1 : Int32) + (1 : Int32)) + (0 : Int32))), .val (.int (1 : Int32))] [(.int (0 : Int32)), (.ref b_292)])) rfl (by rw [hml]; rfl) (Steps.refl _) (argsL := [(.int (0 : Int32))]) (rest := []) (lenOf pd_20 rfl) rfl (by show 2 * 0 + _ ≤ _; exact Nat.le_of_eq rfl) (hb hby at_136) (fun _ _ => ⟨rfl, eh297, (by decide : 9 + 0 ≤ _), (by decide : 40 + 0 ≤ _)⟩)
      dsimp only [Pt.U, Pt.locs, Pt.cells, Pt.slots] at X298 l298 y298 z298 st298 hQ298
      subst l298 y298 z298
      obtain ⟨hv298, rfl, eh298⟩ := hQ298
      obtain rfl : _ = some (Value.int (37 : Int32)) := hv298
      have N298 := Fr.app N297 (Fr.nil n0)
      obtain ⟨fs, hr, hrun, hended, hW, hsame⟩ := X298.leave (v := some (.int (1 : Int32))) (fun h => by rw [Bd.returns] at h; cases h)
      have hend := hS292.ended hW (show _ ≤ T298.heap.size from by rw [eh298]; exact (Nat.le_refl _)) hsame
      have hcr : CHr Z own_EL s.vm s.heap T298.vm T298.heap := by
        rw [hh, eh298]
        exact CR292.trans (CHv.at X298 hZ292 (own_EW hw) CH292)
      refine ⟨_, _, pre280 _ ?_, hrun, hended, _, _, rfl, ?_, hcr, ⟨_, rfl⟩, hend.1, hend.2.1, hend.2.2.mono (by decide) (by decide)⟩
      · show Steps p.tables e below (s₁.setTop (mkF m 15 #[.val (.int x1), .val (.int x2), .val (.int (1 : Int32)), .unset, .unset, .unset, .unset, .unset, .unset, .unset, .unset] [(.int (x1 &&& (2 : Int32)))])) _
        refine XS.ifYes X0.here hx rfl (pc0 := 15) (pc' := 22) rfl (hb hby at_15) rfl ((if0 _ _).trans (teq hc15).1) (by decide) (by decide) ?_
        refine XS.iconst X0.here hx rfl (hb hby at_22) ?_
        show Steps p.tables e below (s₁.setTop (mkF m 23 #[.val (.int x1), .val (.int x2), .val (.int (1 : Int32)), .unset, .unset, .unset, .unset, .unset, .unset, .unset, .unset] [(.int (0 : Int32))])) _
        refine XS.istoreN X0.here hx rfl (hb hby at_23) rfl (l' := #[.val (.int x1), .val (.int x2), .val (.int (1 : Int32)), .val (.int (0 : Int32)), .unset, .unset, .unset, .unset, .unset, .unset, .unset]) rfl ?_
        refine XS.iloadN X0.here hx rfl (hb hby at_24) rfl ?_
        refine XS.sipush X0.here hx rfl (hb hby at_25) ?_
        refine XS.iand X0.here hx rfl (hb hby at_28) rfl ?_
        refine XS.i2c X0.here hx rfl (hb hby at_29) rfl ?_
        refine XS.istore X0.here hx rfl (hb hby at_30) rfl (l' := #[.val (.int x1), .val (.int x2), .val (.int (1 : Int32)), .val (.int (0 : Int32)), .val (.int ((x2 &&& (255 : Int32)).toUInt32.toUInt16.toUInt32.toInt32)), .unset, .unset, .unset, .unset, .unset, .unset]) rfl ?_
        show Steps p.tables e below (s₁.setTop (mkF m 32 #[.val (.int x1), .val (.int x2), .val (.int (1 : Int32)), .val (.int (0 : Int32)), .val (.int ((x2 &&& (255 : Int32)).toUInt32.toUInt16.toUInt32.toInt32)), .unset, .unset, .unset, .unset, .unset, .unset] [])) _
        refine XS.iconst X0.here hx rfl (hb hby at_32) ?_
        show Steps p.tables e below (s₁.setTop (mkF m 33 #[.val (.int x1), .val (.int x2), .val (.int (1 : Int32)), .val (.int (0 : Int32)), .val (.int ((x2 &&& (255 : Int32)).toUInt32.toUInt16.toUInt32.toInt32)), .unset, .unset, .unset, .unset, .unset, .unset] [(.int (1 : Int32))])) _
        refine st281 _ ?_
        show Steps p.tables e below (T281.setTop (mkF m 35 #[.val (.int x1), .val (.int x2), .val (.int (1 : Int32)), .val (.int (0 : Int32)), .val (.int ((x2 &&& (255 : Int32)).toUInt32.toUInt16.toUInt32.toInt32)), .unset, .unset, .unset, .unset, .unset, .unset] [(.ref b281)])) _
        refine XS.dup X281.here hx rfl (hb hby at_35) rfl rfl ?_
        refine XS.iconst X281.here hx rfl (hb hby at_36) ?_
        refine XS.iload X281.here hx rfl (hb hby at_37) rfl ?_
        show Steps p.tables e below (T281.setTop (mkF m 39 #[.val (.int x1), .val (.int x2), .val (.int (1 : Int32)), .val (.int (0 : Int32)), .val (.int ((x2 &&& (255 : Int32)).toUInt32.toUInt16.toUInt32.toInt32)), .unset, .unset, .unset, .unset, .unset, .unset] [(.int ((x2 &&& (255 : Int32)).toUInt32.toUInt16.toUInt32.toInt32)), (.int (0 : Int32)), (.ref b281), (.ref b281)])) _
        refine st283 _ ?_
        show Steps p.tables e below (T283.setTop (mkF m 40 #[.val (.int x1), .val (.int x2), .val (.int (1 : Int32)), .val (.int (0 : Int32)), .val (.int ((x2 &&& (255 : Int32)).toUInt32.toUInt16.toUInt32.toInt32)), .unset, .unset, .unset, .unset, .unset, .unset] [(.ref b281)])) _
        refine XS.astore X283.here hx rfl (hb hby at_40) rfl rfl (l' := #[.val (.int x1), .val (.int x2), .val (.int (1 : Int32)), .val (.int (0 : Int32)), .val (.int ((x2 &&& (255 : Int32)).toUInt32.toUInt16.toUInt32.toInt32)), .val (.ref b281), .unset, .unset, .unset, .unset, .unset]) rfl ?_
        show Steps p.tables e below (T283.setTop (mkF m 42 #[.val (.int x1), .val (.int x2), .val (.int (1 : Int32)), .val (.int (0 : Int32)), .val (.int ((x2 &&& (255 : Int32)).toUInt32.toUInt16.toUInt32.toInt32)), .val (.ref b281), .unset, .unset, .unset, .unset, .unset] [])) _
        refine st284 _ ?_
        show Steps p.tables e below (T284.setTop (mkF m 45 #[.val (.int x1), .val (.int x2), .val (.int (1 : Int32)), .val (.int (0 : Int32)), .val (.int ((x2 &&& (255 : Int32)).toUInt32.toUInt16.toUInt32.toInt32)), .val (.ref b281), .unset, .unset, .unset, .unset, .unset] [(.ref b284)])) _
        refine XS.dup X284.here hx rfl (hb hby at_45) rfl rfl ?_
        refine XS.aload X284.here hx rfl (hb hby at_46) rfl rfl ?_
        show Steps p.tables e below (T284.setTop (mkF m 48 #[.val (.int x1), .val (.int x2), .val (.int (1 : Int32)), .val (.int (0 : Int32)), .val (.int ((x2 &&& (255 : Int32)).toUInt32.toUInt16.toUInt32.toInt32)), .val (.ref b281), .unset, .unset, .unset, .unset, .unset] [(.ref b281), (.ref b284), (.ref b284)])) _
        refine st287.trans ?_
        show Steps p.tables e below (T287.setTop (mkF m 51 #[.val (.int x1), .val (.int x2), .val (.int (1 : Int32)), .val (.int (0 : Int32)), .val (.int ((x2 &&& (255 : Int32)).toUInt32.toUInt16.toUInt32.toInt32)), .val (.ref b281), .unset, .unset, .unset, .unset, .unset] [(.ref b284)])) _
        refine XS.astore X287.here hx rfl (hb hby at_51) rfl rfl (l' := #[.val (.int x1), .val (.int x2), .val (.int (1 : Int32)), .val (.int (0 : Int32)), .val (.int ((x2 &&& (255 : Int32)).toUInt32.toUInt16.toUInt32.toInt32)), .val (.ref b281), .val (.ref b284), .unset, .unset, .unset, .unset]) rfl ?_
        refine XS.iloadN X287.here hx rfl (hb hby at_53) rfl ?_
        refine XS.iloadN X287.here hx rfl (hb hby at_54) rfl ?_
        show Steps p.tables e below (T287.setTop (mkF m 55 #[.val (.int x1), .val (.int x2), .val (.int (1 : Int32)), .val (.int (0 : Int32)), .val (.int ((x2 &&& (255 : Int32)).toUInt32.toUInt16.toUInt32.toInt32)), .val (.ref b281), .val (.ref b284), .unset, .unset, .unset, .unset] [(.int (0 : Int32)), (.int (1 : Int32))])) _
        refine st289 _ ?_
        show Steps p.tables e below (T289.setTop (mkF m 58 #[.val (.int x1), .val (.int x2), .val (.int (1 : Int32)), .val (.int (0 : Int32)), .val (.int ((x2 &&& (255 : Int32)).toUInt32.toUInt16.toUInt32.toInt32)), .val (.ref b281), .val (.ref b284), .unset, .unset, .unset, .unset] [(.ref st_BEFORE)])) _
        refine XS.astore X289.here hx rfl (hb hby at_58) rfl rfl (l' := #[.val (.int x1), .val (.int x2), .val (.int (1 : Int32)), .val (.int (0 : Int32)), .val (.int ((x2 &&& (255 : Int32)).toUInt32.toUInt16.toUInt32.toInt32)), .val (.ref b281), .val (.ref b284), .val (.ref st_BEFORE), .unset, .unset, .unset]) rfl ?_
        refine XS.aload X289.here hx rfl (hb hby at_60) rfl rfl ?_
        refine XS.aload X289.here hx rfl (hb hby at_62) rfl rfl ?_
        show Steps p.tables e below (T289.setTop (mkF m 64 #[.val (.int x1), .val (.int x2), .val (.int (1 : Int32)), .val (.int (0 : Int32)), .val (.int ((x2 &&& (255 : Int32)).toUInt32.toUInt16.toUInt32.toInt32)), .val (.ref b281), .val (.ref b284), .val (.ref st_BEFORE), .unset, .unset, .unset] [(.ref b284), (.ref st_BEFORE)])) _
        refine st292.trans ?_
        show Steps p.tables e below (T292.setTop (mkF m 67 #[.val (.int x1), .val (.int x2), .val (.int (1 : Int32)), .val (.int (0 : Int32)), .val (.int ((x2 &&& (255 : Int32)).toUInt32.toUInt16.toUInt32.toInt32)), .val (.ref b281), .val (.ref b284), .val (.ref st_BEFORE), .unset, .unset, .unset] [(.ref b_292)])) _
        refine XS.astore X292.here hx rfl (hb hby at_67) rfl rfl (l' := #[.val (.int x1), .val (.int x2), .val (.int (1 : Int32)), .val (.int (0 : Int32)), .val (.int ((x2 &&& (255 : Int32)).toUInt32.toUInt16.toUInt32.toInt32)), .val (.ref b281), .val (.ref b284), .val (.ref st_BEFORE), .val (.ref b_292), .unset, .unset]) rfl ?_
        refine XS.iconst X292.here hx rfl (hb hby at_69) ?_
        refine XS.iloadN X292.here hx rfl (hb hby at_70) rfl ?_
        refine XS.ifNo X292.here hx rfl (hb hby at_71) rfl ((if0 _ _).trans (feq (by decide : ¬ ((1 : Int32) = (0 : Int32)))).1) ?_
        refine XS.iconst X292.here hx rfl (hb hby at_74) ?_
        refine XS.goto X292.here hx rfl (pc0 := 75) (pc' := 79) rfl (hb hby at_75) (by decide) (by decide) ?_
        show Steps p.tables e below (T292.setTop (mkF m 79 #[.val (.int x1), .val (.int x2), .val (.int (1 : Int32)), .val (.int (0 : Int32)), .val (.int ((x2 &&& (255 : Int32)).toUInt32.toUInt16.toUInt32.toInt32)), .val (.ref b281), .val (.ref b284), .val (.ref st_BEFORE), .val (.ref b_292), .unset, .unset] [(.int (1 : Int32)), (.int (1 : Int32))])) _
        refine XS.iadd X292.here hx rfl (hb hby at_79) rfl ?_
        refine XS.iloadN X292.here hx rfl (hb hby at_80) rfl ?_
        refine XS.ifYes X292.here hx rfl (pc0 := 81) (pc' := 88) rfl (hb hby at_81) rfl ((if0 _ _).trans (teq (by decide : (0 : Int32) = (0 : Int32))).1) (by decide) (by decide) ?_
        refine XS.iconst X292.here hx rfl (hb hby at_88) ?_
        refine XS.iadd X292.here hx rfl (hb hby at_89) rfl ?_
        refine XS.istore X292.here hx rfl (hb hby at_90) rfl (l' := #[.val (.int x1), .val (.int x2), .val (.int (1 : Int32)), .val (.int (0 : Int32)), .val (.int ((x2 &&& (255 : Int32)).toUInt32.toUInt16.toUInt32.toInt32)), .val (.ref b281), .val (.ref b284), .val (.ref st_BEFORE), .val (.ref b_292), .val (.int (((1 : Int32) + (1 : Int32)) + (0 : Int32))), .unset]) rfl ?_
        show Steps p.tables e below (T292.setTop (mkF m 92 #[.val (.int x1), .val (.int x2), .val (.int (1 : Int32)), .val (.int (0 : Int32)), .val (.int ((x2 &&& (255 : Int32)).toUInt32.toUInt16.toUInt32.toInt32)), .val (.ref b281), .val (.ref b284), .val (.ref st_BEFORE), .val (.ref b_292), .val (.int (((1 : Int32) + (1 : Int32)) + (0 : Int32))), .unset] [])) _
        refine XS.aload X292.here hx rfl (hb hby at_92) rfl rfl ?_
        show Steps p.tables e below (T292.setTop (mkF m 94 #[.val (.int x1), .val (.int x2), .val (.int (1 : Int32)), .val (.int (0 : Int32)), .val (.int ((x2 &&& (255 : Int32)).toUInt32.toUInt16.toUInt32.toInt32)), .val (.ref b281), .val (.ref b284), .val (.ref st_BEFORE), .val (.ref b_292), .val (.int (((1 : Int32) + (1 : Int32)) + (0 : Int32))), .unset] [(.ref b_292)])) _
        refine st296.trans ?_
        show Steps p.tables e below (T296.setTop (mkF m 97 #[.val (.int x1), .val (.int x2), .val (.int (1 : Int32)), .val (.int (0 : Int32)), .val (.int ((x2 &&& (255 : Int32)).toUInt32.toUInt16.toUInt32.toInt32)), .val (.ref b281), .val (.ref b284), .val (.ref st_BEFORE), .val (.ref b_292), .val (.int (((1 : Int32) + (1 : Int32)) + (0 : Int32))), .unset] [(.int (2 : Int32))])) _
        refine XS.iload X296.here hx rfl (hb hby at_97) rfl ?_
        refine XS.icmpYes X296.here hx rfl (pc0 := 99) (pc' := 104) rfl (hb hby at_99) rfl (teq (by decide : (2 : Int32) = (((1 : Int32) + (1 : Int32)) + (0 : Int32)))).1 (by decide) (by decide) ?_
        refine XS.iloadN X296.here hx rfl (hb hby at_104) rfl ?_
        refine XS.ifNo X296.here hx rfl (hb hby at_105) rfl ((if0 _ _).trans (feq (by decide : ¬ ((1 : Int32) = (0 : Int32)))).1) ?_
        refine XS.iconst X296.here hx rfl (hb hby at_108) ?_
        refine XS.goto X296.here hx rfl (pc0 := 109) (pc' := 113) rfl (hb hby at_109) (by decide) (by decide) ?_
        show Steps p.tables e below (T296.setTop (mkF m 113 #[.val (.int x1), .val (.int x2), .val (.int (1 : Int32)), .val (.int (0 : Int32)), .val (.int ((x2 &&& (255 : Int32)).toUInt32.toUInt16.toUInt32.toInt32)), .val (.ref b281), .val (.ref b284), .val (.ref st_BEFORE), .val (.ref b_292), .val (.int (((1 : Int32) + (1 : Int32)) + (0 : Int32))), .unset] [(.int (1 : Int32))])) _
        refine XS.istore X296.here hx rfl (hb hby at_113) rfl (l' := #[.val (.int x1), .val (.int x2), .val (.int (1 : Int32)), .val (.int (0 : Int32)), .val (.int ((x2 &&& (255 : Int32)).toUInt32.toUInt16.toUInt32.toInt32)), .val (.ref b281), .val (.ref b284), .val (.ref st_BEFORE), .val (.ref b_292), .val (.int (((1 : Int32) + (1 : Int32)) + (0 : Int32))), .val (.int (1 : Int32))]) rfl ?_
        refine XS.aload X296.here hx rfl (hb hby at_115) rfl rfl ?_
        refine XS.iload X296.here hx rfl (hb hby at_117) rfl ?_
        show Steps p.tables e below (T296.setTop (mkF m 119 #[.val (.int x1), .val (.int x2), .val (.int (1 : Int32)), .val (.int (0 : Int32)), .val (.int ((x2 &&& (255 : Int32)).toUInt32.toUInt16.toUInt32.toInt32)), .val (.ref b281), .val (.ref b284), .val (.ref st_BEFORE), .val (.ref b_292), .val (.int (((1 : Int32) + (1 : Int32)) + (0 : Int32))), .val (.int (1 : Int32))] [(.int (1 : Int32)), (.ref b_292)])) _
        refine st297.trans ?_
        show Steps p.tables e below (T297.setTop (mkF m 122 #[.val (.int x1), .val (.int x2), .val (.int (1 : Int32)), .val (.int (0 : Int32)), .val (.int ((x2 &&& (255 : Int32)).toUInt32.toUInt16.toUInt32.toInt32)), .val (.ref b281), .val (.ref b284), .val (.ref st_BEFORE), .val (.ref b_292), .val (.int (((1 : Int32) + (1 : Int32)) + (0 : Int32))), .val (.int (1 : Int32))] [(.int ((x2 &&& (255 : Int32)).toUInt32.toUInt16.toUInt32.toInt32).toUInt32.toUInt16.toUInt32.toInt32)])) _
        refine XS.iload X297.here hx rfl (hb hby at_122) rfl ?_
        refine XS.icmpYes X297.here hx rfl (pc0 := 124) (pc' := 129) rfl (hb hby at_124) rfl (teq (own_cc _)).1 (by decide) (by decide) ?_
        refine XS.iloadN X297.here hx rfl (hb hby at_129) rfl ?_
        refine XS.ifNo X297.here hx rfl (hb hby at_130) rfl ((if0 _ _).trans (feq (by decide : ¬ ((1 : Int32) = (0 : Int32)))).1) ?_
        refine XS.aload X297.here hx rfl (hb hby at_133) rfl rfl ?_
        refine XS.iconst X297.here hx rfl (hb hby at_135) ?_
        show Steps p.tables e below (T297.setTop (mkF m 136 #[.val (.int x1), .val (.int x2), .val (.int (1 : Int32)), .val (.int (0 : Int32)), .val (.int ((x2 &&& (255 : Int32)).toUInt32.toUInt16.toUInt32.toInt32)), .val (.ref b281), .val (.ref b284), .val (.ref st_BEFORE), .val (.ref b_292), .val (.int (((1 : Int32) + (1 : Int32)) + (0 : Int32))), .val (.int (1 : Int32))] [(.int (0 : Int32)), (.ref b_292)])) _
        refine st298.trans ?_
        show Steps p.tables e below (T298.setTop (mkF m 139 #[.val (.int x1), .val (.int x2), .val (.int (1 : Int32)), .val (.int (0 : Int32)), .val (.int ((x2 &&& (255 : Int32)).toUInt32.toUInt16.toUInt32.toInt32)), .val (.ref b281), .val (.ref b284), .val (.ref st_BEFORE), .val (.ref b_292), .val (.int (((1 : Int32) + (1 : Int32)) + (0 : Int32))), .val (.int (1 : Int32))] [(.int (37 : Int32))])) _
        refine XS.bipush X298.here hx rfl (hb hby at_139) ?_
        refine XS.icmpYes X298.here hx rfl (pc0 := 141) (pc' := 146) rfl (hb hby at_141) rfl (teq (by decide : (37 : Int32) = (37 : Int32))).1 (by decide) (by decide) ?_
        refine XS.iloadN X298.here hx rfl (hb hby at_146) rfl ?_
        refine XS.ifYes X298.here hx rfl (pc0 := 147) (pc' := 166) rfl (hb hby at_147) rfl ((if0 _ _).trans (teq (by decide : (0 : Int32) = (0 : Int32))).1) (by decide) (by decide) ?_
        refine XS.iconst X298.here hx rfl (hb hby at_166) ?_
        show Steps p.tables e below (T298.setTop (mkF m 167 #[.val (.int x1), .val (.int x2), .val (.int (1 : Int32)), .val (.int (0 : Int32)), .val (.int ((x2 &&& (255 : Int32)).toUInt32.toUInt16.toUInt32.toInt32)), .val (.ref b281), .val (.ref b284), .val (.ref st_BEFORE), .val (.ref b_292), .val (.int (((1 : Int32) + (1 : Int32)) + (0 : Int32))), .val (.int (1 : Int32))] [(.int (1 : Int32))])) _
        exact retN X298 hx (t := .boolean) Bd.returns (by simp) (hb hby at_167) hr
      · show Q0 Z x1 x2 st_NONE st_AFTER st_BEFORE st_AROUND st_COMPACT_STRINGS st_fm h0 n0 _ T298.heap _
        rw [eh298]
        exact ⟨rfl, N298, K292⟩
    · skip
      obtain ⟨T299, h299, k299, X299, e299, E299, A299, st299⟩ := newP X0 hx hZa (own_wd hw 0 rfl) e0 (g := (mkF m 33 #[.val (.int x1), .val (.int x2), .val (.int (1 : Int32)), .val (.int (1 : Int32)), .val (.int ((x2 &&& (255 : Int32)).toUInt32.toUInt16.toUInt32.toInt32)), .unset, .unset, .unset, .unset, .unset, .unset] [(.int (1 : Int32))])) rfl (hb hby at_33) rfl (by decide) (cap := 1) (by decide) (by decide) (by decide) (by decide)
      obtain ⟨b299, g299⟩ : ∃ z, z = h0.size := ⟨_, rfl⟩
      rw [← g299] at A299 st299
      have O299 : Old Z n0 h299 := O0.ext E299
      have Z299 : n0 ≤ h299.size := Nat.le_trans Z0 E299.1
      have K299 : Keep h0 h299 [] := K0.ext E299
      have CH299 : CHv Z own_EL s.vm h299 := CHv.ext E299 CH0
      have CR299 : CHr Z own_EL s.vm h0 s.vm h299 := CR0.trans (CHr.ext E299 CH0)
      have g_b299 : n0 ≤ b299 := Nat.le_trans Z0 (Nat.le_of_eq g299.symm)
      have sz_b299 : h0.size ≤ b299 := Nat.le_trans K0.1 (Nat.le_of_eq g299.symm)
      have V299 : Arv Z h299 b299 k299 .char (1 : Int32) [(.int (0 : Int32))] (.int (0 : Int32)) := (Arv.new A299 (by decide)).pad (pad_rep [] (.int (0 : Int32)) 1)
      obtain ⟨cl_a300, Ar_a300, q_a300, S_a300, N_a300, H_a300, G_a300⟩ := id V299
      have hin_a300 : ¬ ((0 : Int32) < 0 ∨ cl_a300.slots.size ≤ ((0 : Int32)).toNatClampNeg) := inb_of S_a300 ⟨by decide, by decide⟩
      obtain ⟨T301, h301, X301, e301, W301, st301⟩ := stC X299 hx hZa e299 Ar_a300 (j := (0 : Int32)) hin_a300 (g := (mkF m 39 #[.val (.int x1), .val (.int x2), .val (.int (1 : Int32)), .val (.int (1 : Int32)), .val (.int ((x2 &&& (255 : Int32)).toUInt32.toUInt16.toUInt32.toInt32)), .unset, .unset, .unset, .unset, .unset, .unset] [(.int ((x2 &&& (255 : Int32)).toUInt32.toUInt16.toUInt32.toInt32)), (.int (0 : Int32)), (.ref b299), (.ref b299)])) rfl rfl (hb hby at_39)
      have O301 : Old Z n0 h301 := O299.wr W301 g_b299
      have Z301 : n0 ≤ h301.size := Nat.le_trans Z299 (Keep.of_wr W301).1
      have K301 : Keep h0 h301 [] := K299.wr W301 (Or.inr sz_b299)
      have N301 := Fr.snoc X301 N0 g_b299
      have CH301 : CHv Z own_EL s.vm h301 := CHv.wr W301 (Safe.arv hZa.alike V299 (by decide)) CH299
      have CR301 : CHr Z own_EL s.vm h0 s.vm h301 := CR299.trans (CHr.wr W301 (Safe.arv hZa.alike V299 (by decide)) CH299)
      have V301 : Arv Z h301 b299 k299 .char (1 : Int32) [(.int ((x2 &&& (255 : Int32)).toUInt32.toUInt16.toUInt32.toInt32).toUInt32.toUInt16.toUInt32.toInt32)] (.int (0 : Int32)) := Arv.set Ar_a300 q_a300 S_a300 N_a300 H_a300 G_a300 (fits_nar_char _) W301 0 rfl (Nat.le_of_ble_eq_true rfl)
      obtain ⟨T302, h302, X302, e302, E302, A302, D302, U302, st302⟩ := newO X301 hx hZa howna (own_wd hw 1 rfl) (own_wd hw 2 rfl) (own_wd hw 3 rfl) e301 (g := (mkF m 42 #[.val (.int x1), .val (.int x2), .val (.int (1 : Int32)), .val (.int (1 : Int32)), .val (.int ((x2 &&& (255 : Int32)).toUInt32.toUInt16.toUInt32.toInt32)), .val (.ref b299), .unset, .unset, .unset, .unset, .unset] [])) rfl (hb hby at_42) (by decide) (by decide)
      obtain ⟨b302, g302⟩ : ∃ z, z = h301.size := ⟨_, rfl⟩
      rw [← g302] at A302 D302 st302
      have O302 : Old Z n0 h302 := O301.ext E302
      have Z302 : n0 ≤ h302.size := Nat.le_trans Z301 E302.1
      have K302 : Keep h0 h302 [] := K301.ext E302
      have CH302 : CHv Z own_EL s.vm h302 := CHv.ext E302 CH301
      have CR302 : CHr Z own_EL s.vm h0 s.vm h302 := CR301.trans (CHr.ext E302 CH301)
      have g_b302 : n0 ≤ b302 := Nat.le_trans Z301 (Nat.le_of_eq g302.symm)
      have sz_b302 : h0.size ≤ b302 := Nat.le_trans K301.1 (Nat.le_of_eq g302.symm)
      have F_b302_coder : Fld Z h302 b302 "java/lang/String" "coder" "B" (.int (0 : Int32)) := D302 (Or.inr (own_wd hw 27 rfl)) (ty := .byte) (by decide)
      have F_b302_value : Fld Z h302 b302 "java/lang/String" "value" "[B" .null := D302 (Or.inr (own_wd hw 29 rfl)) (ty := (.array .byte)) (by decide)
      have V303 : Arv Z h302 b299 k299 .char (1 : Int32) [(.int ((x2 &&& (255 : Int32)).toUInt32.toUInt16.toUInt32.toInt32).toUInt32.toUInt16.toUInt32.toInt32)] (.int (0 : Int32)) := (V301.ext E302)
      have hp304 : ∀ c ∈ ([((x2 &&& (255 : Int32)).toUInt32.toUInt16.toUInt32.toInt32).toUInt32.toUInt16.toUInt32.toInt32] : List Int32), ¬ c < 0 ∧ ¬ (255 : Int32) < c := by
        intro c hc
        simp only [List.mem_cons, List.not_mem_nil, or_false] at hc
        rcases hc with rfl
        · exact own_chr _
      obtain ⟨_, _, ⟨T305, L305, k305, n305⟩, -, X305, ⟨Lc305, hQ305, l305, y305, z305⟩, st305⟩ := X302.specialBack hx (y := (⟨"java/lang/String", "<init>", "([C)V"⟩ : MethodName)) rfl howna (mvT hZa (own_wd hw 4 rfl)) (mvT hZa (own_wd hw 5 rfl)) (mvT hZa (own_wd hw 6 rfl)) (by decide) (StrChars.Road.backV (W := 1) hZa (own_hws hw) (kI := 4) (own_wd hw 2 rfl) (cs := ([((x2 &&& (255 : Int32)).toUInt32.toUInt16.toUInt32.toInt32).toUInt32.toUInt16.toUInt32.toInt32] : List Int32)) (bs := ([((x2 &&& (255 : Int32)).toUInt32.toUInt16.toUInt32.toInt32).toUInt32.toUInt16.toUInt32.toInt32] : List Int32).map (fun c => c.toInt8.toInt32)) (n := 1) g_b302 Z302 A302 F_b302_value F_b302_coder V303 (S_COMPACT_STRINGS.ext O302.2) hcomp rfl rfl (by decide) (by decide) hp304 rfl (by decide) (by decide)) (g := (mkF m 48 #[.val (.int x1), .val (.int x2), .val (.int (1 : Int32)), .val (.int (1 : Int32)), .val (.int ((x2 &&& (255 : Int32)).toUInt32.toUInt16.toUInt32.toInt32)), .val (.ref b299), .unset, .unset, .unset, .unset, .unset] [(.ref b299), (.ref b302), (.ref b302)])) rfl (by rw [hml]; rfl) (Steps.refl _) (a := b302) (argsL := [(.ref b299)]) (rest := [(.ref b302)]) (lenOf pd_17 rfl) rfl (by show 2 * 0 + _ ≤ _; exact Nat.le_of_eq rfl) (hb hby at_48) (fun _ _ => ⟨rfl, e302, (by decide : 2 + 1 ≤ _), (by decide : 5 + 1 ≤ _)⟩)
      dsimp only [Pt.U, Pt.locs, Pt.cells, Pt.slots] at X305 l305 y305 z305 st305 hQ305
      subst l305 y305 z305
      obtain ⟨rfl, N305q, KK305, E305, C305, t305, kb305, g_t305, s305, ne305, V305, A305⟩ := hQ305
      have N305 := Fr.app N301 N305q
      have sf306 : Safe Z own_EL s.vm h302 b302 := (Safe.ext E302 CH301 (Safe.new (Nat.le_of_eq g302.symm)))
      have O305 : Old Z n0 T305.heap := O302.keep KK305 (allS g_b302 all0)
      have Z305 : n0 ≤ T305.heap.size := Nat.le_trans Z302 KK305.1
      have K305 : Keep h0 T305.heap [] := K302.trans KK305 (allS (Or.inr sz_b302) all0)
      have CH305 : CHv Z own_EL s.vm T305.heap := CHv.keep KK305 (sfS sf306 sf0) CH302
      have CR305 : CHr Z own_EL s.vm h0 s.vm T305.heap := CR302.trans (CHr.keep KK305 (sfS sf306 sf0) CH302)
      have sz_t305 : h0.size ≤ t305 := Nat.le_trans K302.1 s305
      have Ae305 : Arv Z T305.heap t305 kb305 .byte (1 : Int32) [(.int (((x2 &&& (255 : Int32)).toUInt32.toUInt16.toUInt32.toInt32).toUInt32.toUInt16.toUInt32.toInt32.toInt8.toInt32))] (.int 0) := A305
      obtain ⟨_, _, ⟨T307, L307, k307, n307⟩, -, X307, ⟨Lc307, hQ307, l307, y307, z307⟩, st307⟩ := Jvm.LawKit.callS X305 hx (y := (⟨"com/example/derive/derive/LikeWildcards", "of", "(ZZ)Lcom/example/derive/derive/LikeWildcards;"⟩ : MethodName)) howna (mvT hZa (own_wd hw 30 rfl)) (mvT hZa (own_wd hw 31 rfl)) (mvT hZa (own_wd hw 32 rfl)) (mvT hZa (own_wd hw 33 rfl)) (by decide) (backOf (W := 0) (rm7_11 l Z a0 hw [] st_AROUND T305.heap n0 Z305 O305 S_AROUND) hZa (own_wd hw 33 rfl) (own_wd hw 32 rfl) (by decide) (by decide)) (g := (mkF m 55 #[.val (.int x1), .val (.int x2), .val (.int (1 : Int32)), .val (.int (1 : Int32)), .val (.int ((x2 &&& (255 : Int32)).toUInt32.toUInt16.toUInt32.toInt32)), .val (.ref b299), .val (.ref b302), .unset, .unset, .unset, .unset] [(.int (1 : Int32)), (.int (1 : Int32))])) rfl (by rw [hml]; rfl) (argsL := [(.int (1 : Int32)), (.int (1 : Int32))]) (rest := []) (lenOf pd_18 rfl) rfl (by show 2 * 0 + _ ≤ _; exact Nat.le_of_eq rfl) (hb hby at_55) (fun _ _ => ⟨rfl, rfl, (by decide : 3 + 0 ≤ _), (by decide : 6 + 0 ≤ _)⟩)
      dsimp only [Pt.U, Pt.locs, Pt.cells, Pt.slots] at X307 l307 y307 z307 st307 hQ307
      subst l307 y307 z307
      obtain ⟨rfl, N307q, eh307⟩ := hQ307
      have N307 := Fr.app N305 N307q
      have F308 : Fld Z T305.heap st_AROUND "java/lang/Enum" "ordinal" "I" (.int (3 : Int32)) := (FZ_st_AROUND_ordinal.ext O305.2)
      have C309 : Exa Z T305.heap st_AROUND "com/example/derive/derive/LikeWildcards" := (EZ_st_AROUND.ext O305.2)
      obtain ⟨cq310, kq310, q310a, q310b, q310c⟩ := isOf hZa eh307 C309
      obtain ⟨_, _, ⟨T310, L310, k310, n310⟩, -, X310, hS310, hg310, ⟨Lc310, hQ310, l310, y310, z310, R310⟩, st310⟩ := X307.virtualBackS hx (y := (⟨"com/example/derive/derive/LikeWildcards", "addTo", "(Ljava/lang/String;)Ljava/lang/String;"⟩ : MethodName)) (z := (⟨"com/example/derive/derive/LikeWildcards", "addTo", "(Ljava/lang/String;)Ljava/lang/String;"⟩ : MethodName)) howna (mvT hZa (own_wd hw 36 rfl)) (mvT hZa (own_wd hw 37 rfl)) (notFace_of_selects (args := #[]) (mvT hZa (own_wd hw 39 rfl))) (mvT hZa (own_wd hw 39 rfl)) (mvT hZa (own_wd hw 38 rfl)) (by decide) (backOfSH (s := s) (vm0 := s.vm) (W := 0) (rm8_3 l Z a0 hw [] st_AROUND b302 t305 ((x2 &&& (255 : Int32)).toUInt32.toUInt16.toUInt32.toInt32).toUInt32.toUInt16.toUInt32.toInt32 kb305 st_COMPACT_STRINGS T305.heap n0 Z305 O305 C309 F308 E305 V305 C305 Ae305 hp304 S_COMPACT_STRINGS hcomp) hZa (own_wd hw 40 rfl) (own_wd hw 32 rfl) (by decide) (by decide) (own_EW hw) CH305) q310a q310c (g := (mkF m 64 #[.val (.int x1), .val (.int x2), .val (.int (1 : Int32)), .val (.int (1 : Int32)), .val (.int ((x2 &&& (255 : Int32)).toUInt32.toUInt16.toUInt32.toInt32)), .val (.ref b299), .val (.ref b302), .val (.ref st_AROUND), .unset, .unset, .unset] [(.ref b302), (.ref st_AROUND)])) rfl (by rw [hml]; rfl) (Steps.refl _) (argsL := [(.ref b302)]) (rest := []) (lenOf pd_19 rfl) rfl (by show 2 * 0 + _ ≤ _; exact Nat.le_of_eq rfl) (hb hby at_64) (fun _ _ => ⟨rfl, eh307, (by decide : 3 + 8 ≤ _), (by decide : 6 + 43 ≤ _)⟩)
      dsimp only [Pt.U, Pt.locs, Pt.cells, Pt.slots] at X310 l310 y310 z310 st310 hQ310 hS310 hg310 R310
      subst l310 y310 z310
      obtain ⟨X310, hS310, hZ310, hown310⟩ := rebS hS0 (Nat.le_trans (Nat.le_trans (Nat.le_trans (Nat.le_trans hk0 E299.1) (Keep.of_wr W301).1) E302.1) KK305.1) X310 hS310 (by rw [← eh307]; exact hg310) hZa howna
      obtain ⟨b_310, t_310, kk_310, rfl, N310q, KK310, Q310_0, Q310_1, Q310_2, Q310_3, Q310_4⟩ := hQ310
      have N310 := Fr.app N307 N310q
      have O310 : Old Z n0 T310.heap := O305.keep KK310 all0
      have Z310 : n0 ≤ T310.heap.size := Nat.le_trans Z305 KK310.1
      have K310 : Keep h0 T310.heap [] := K305.trans KK310 all0
      have CH310 : CHv Z own_EL T310.vm T310.heap := R310.1
      have CR310 : CHr Z own_EL s.vm h0 T310.vm T310.heap := CR305.trans R310
      have g_b_310 : n0 ≤ b_310 := Nat.le_trans (Nat.le_trans (Nat.le_trans (Nat.le_trans (Nat.le_trans Z0 E299.1) (Keep.of_wr W301).1) E302.1) KK305.1) Q310_0
      have sz_b_310 : h0.size ≤ b_310 := Nat.le_trans K305.1 Q310_0
      have hp311 : ∀ c ∈ ([(37 : Int32), ((x2 &&& (255 : Int32)).toUInt32.toUInt16.toUInt32.toInt32).toUInt32.toUInt16.toUInt32.toInt32, (37 : Int32)] : List Int32), ¬ c < 0 ∧ ¬ (255 : Int32) < c := by
        intro c hc
        simp only [List.mem_cons, List.not_mem_nil, or_false] at hc
        rcases hc with rfl | rfl | rfl
        · decide
        · exact own_chr _
        · decide
      have cd312 : StrChars.Road.CodA ([(37 : Int32), ((x2 &&& (255 : Int32)).toUInt32.toUInt16.toUInt32.toInt32).toUInt32.toUInt16.toUInt32.toInt32, (37 : Int32)] : List Int32) 0 (3 : Int32) [(.int (37 : Int32)), (.int (((x2 &&& (255 : Int32)).toUInt32.toUInt16.toUInt32.toInt32).toUInt32.toUInt16.toUInt32.toInt32.toInt8.toInt32)), (.int (37 : Int32))] := StrChars.Road.codOf (n := 3) rfl (fun c hc => (hp311 c hc).2)
      have hb313 : ∀ c ∈ ([(37 : Int32), ((x2 &&& (255 : Int32)).toUInt32.toUInt16.toUInt32.toInt32).toUInt32.toUInt16.toUInt32.toInt32, (37 : Int32)] : List Int32), ¬ c < 0 ∧ ¬ (65535 : Int32) < c := own_up _ hp311
      obtain ⟨cq314, kq314, q314a, q314b, q314c⟩ := isOf hZ310 rfl Q310_1
      obtain ⟨_, _, ⟨T314, L314, k314, n314⟩, -, X314, ⟨Lc314, hQ314, l314, y314, z314⟩, st314⟩ := X310.virtualBack hx (y := (⟨"java/lang/String", "length", "()I"⟩ : MethodName)) (z := (⟨"java/lang/String", "length", "()I"⟩ : MethodName)) hown310 (mvT hZ310 (own_wd hw 50 rfl)) (mvT hZ310 (own_wd hw 51 rfl)) (notFace_of_selects (args := #[]) (mvT hZ310 (own_wd hw 53 rfl))) (mvT hZ310 (own_wd hw 53 rfl)) (mvT hZ310 (own_wd hw 52 rfl)) (by decide) (StrChars.Road.lenW (W := 0) hZ310 (own_hln hw) (kI := 4) (own_wd hw 2 rfl) Q310_1 Q310_2 Q310_3 Q310_4 cd312 hb313 (S_COMPACT_STRINGS.ext O310.2) hcomp (Nat.le_of_ble_eq_true rfl) (by decide) (by decide)) q314a q314c (g := (mkF m 94 #[.val (.int x1), .val (.int x2), .val (.int (1 : Int32)), .val (.int (1 : Int32)), .val (.int ((x2 &&& (255 : Int32)).toUInt32.toUInt16.toUInt32.toInt32)), .val (.ref b299), .val (.ref b302), .val (.ref st_AROUND), .val (.ref b_310), .val (.int (((1 : Int32) + (1 : Int32)) + (1 : Int32))), .unset] [(.ref b_310)])) rfl (by rw [hml]; rfl) (Steps.refl _) (argsL := []) (rest := []) (lenOf pd_0 rfl) rfl (by show 2 * 0 + _ ≤ _; exact Nat.le_of_eq rfl) (hb hby at_94) (fun _ _ => ⟨rfl, rfl, (by decide : 11 + 0 ≤ _), (by decide : 49 + 0 ≤ _)⟩)
      dsimp only [Pt.U, Pt.locs, Pt.cells, Pt.slots] at X314 l314 y314 z314 st314 hQ314
      subst l314 y314 z314
      obtain ⟨hv314, rfl, eh314⟩ := hQ314
      obtain rfl : _ = some (Value.int (3 : Int32)) := hv314
      have N314 := Fr.app N310 (Fr.nil n0)
      obtain ⟨cq315, kq315, q315a, q315b, q315c⟩ := isOf hZ310 eh314 Q310_1
      obtain ⟨_, _, ⟨T315, L315, k315, n315⟩, -, X315, ⟨Lc315, hQ315, l315, y315, z315⟩, st315⟩ := X314.virtualBack hx (y := (⟨"java/lang/String", "charAt", "(I)C"⟩ : MethodName)) (z := (⟨"java/lang/String", "charAt", "(I)C"⟩ : MethodName)) hown310 (mvT hZ310 (own_wd hw 60 rfl)) (mvT hZ310 (own_wd hw 61 rfl)) (notFace_of_selects (args := #[]) (mvT hZ310 (own_wd hw 63 rfl))) (mvT hZ310 (own_wd hw 63 rfl)) (mvT hZ310 (own_wd hw 62 rfl)) (by decide) (StrChars.Road.chN (W := 0) hZ310 (own_hch hw) (kI := 4) (own_wd hw 2 rfl) Q310_1 Q310_2 Q310_3 Q310_4 cd312 hb313 (S_COMPACT_STRINGS.ext O310.2) hcomp (S_fm.ext O310.2) hfm (Nat.le_of_ble_eq_true rfl) (i := 1) (Nat.le_of_ble_eq_true rfl) (j := (1 : Int32)) (by decide) (by decide) (by decide)) q315a q315c (g := (mkF m 119 #[.val (.int x1), .val (.int x2), .val (.int (1 : Int32)), .val (.int (1 : Int32)), .val (.int ((x2 &&& (255 : Int32)).toUInt32.toUInt16.toUInt32.toInt32)), .val (.ref b299), .val (.ref b302), .val (.ref st_AROUND), .val (.ref b_310), .val (.int (((1 : Int32) + (1 : Int32)) + (1 : Int32))), .val (.int (1 : Int32))] [(.int (1 : Int32)), (.ref b_310)])) rfl (by rw [hml]; rfl) (Steps.refl _) (argsL := [(.int (1 : Int32))]) (rest := []) (lenOf pd_20 rfl) rfl (by show 2 * 0 + _ ≤ _; exact Nat.le_of_eq rfl) (hb hby at_119) (fun _ _ => ⟨rfl, eh314, (by decide : 11 + 0 ≤ _), (by decide : 49 + 0 ≤ _)⟩)
      dsimp only [Pt.U, Pt.locs, Pt.cells, Pt.slots] at X315 l315 y315 z315 st315 hQ315
      subst l315 y315 z315
      obtain ⟨hv315, rfl, eh315⟩ := hQ315
      obtain rfl : _ = some (Value.int ((x2 &&& (255 : Int32)).toUInt32.toUInt16.toUInt32.toInt32).toUInt32.toUInt16.toUInt32.toInt32) := hv315
      have N315 := Fr.app N314 (Fr.nil n0)
      obtain ⟨cq316, kq316, q316a, q316b, q316c⟩ := isOf hZ310 eh315 Q310_1
      obtain ⟨_, _, ⟨T316, L316, k316, n316⟩, -, X316, ⟨Lc316, hQ316, l316, y316, z316⟩, st316⟩ := X315.virtualBack hx (y := (⟨"java/lang/String", "charAt", "(I)C"⟩ : MethodName)) (z := (⟨"java/lang/String", "charAt", "(I)C"⟩ : MethodName)) hown310 (mvT hZ310 (own_wd hw 60 rfl)) (mvT hZ310 (own_wd hw 61 rfl)) (notFace_of_selects (args := #[]) (mvT hZ310 (own_wd hw 63 rfl))) (mvT hZ310 (own_wd hw 63 rfl)) (mvT hZ310 (own_wd hw 62 rfl)) (by decide) (StrChars.Road.chN (W := 0) hZ310 (own_hch hw) (kI := 4) (own_wd hw 2 rfl) Q310_1 Q310_2 Q310_3 Q310_4 cd312 hb313 (S_COMPACT_STRINGS.ext O310.2) hcomp (S_fm.ext O310.2) hfm (Nat.le_of_ble_eq_true rfl) (i := 0) (Nat.le_of_ble_eq_true rfl) (j := (0 : Int32)) (by decide) (by decide) (by decide)) q316a q316c (g := (mkF m 136 #[.val (.int x1), .val (.int x2), .val (.int (1 : Int32)), .val (.int (1 : Int32)), .val (.int ((x2 &&& (255 : Int32)).toUInt32.toUInt16.toUInt32.toInt32)), .val (.ref b299), .val (.ref b302), .val (.ref st_AROUND), .val (.ref b_310), .val (.int (((1 : Int32) + (1 : Int32)) + (1 : Int32))), .val (.int (1 : Int32))] [(.int (0 : Int32)), (.ref b_310)])) rfl (by rw [hml]; rfl) (Steps.refl _) (argsL := [(.int (0 : Int32))]) (rest := []) (lenOf pd_20 rfl) rfl (by show 2 * 0 + _ ≤ _; exact Nat.le_of_eq rfl) (hb hby at_136) (fun _ _ => ⟨rfl, eh315, (by decide : 11 + 0 ≤ _), (by decide : 49 + 0 ≤ _)⟩)
      dsimp only [Pt.U, Pt.locs, Pt.cells, Pt.slots] at X316 l316 y316 z316 st316 hQ316
      subst l316 y316 z316
      obtain ⟨hv316, rfl, eh316⟩ := hQ316
      obtain rfl : _ = some (Value.int (37 : Int32)) := hv316
      have N316 := Fr.app N315 (Fr.nil n0)
      obtain ⟨cq317, kq317, q317a, q317b, q317c⟩ := isOf hZ310 eh316 Q310_1
      obtain ⟨_, _, ⟨T317, L317, k317, n317⟩, -, X317, ⟨Lc317, hQ317, l317, y317, z317⟩, st317⟩ := X316.virtualBack hx (y := (⟨"java/lang/String", "charAt", "(I)C"⟩ : MethodName)) (z := (⟨"java/lang/String", "charAt", "(I)C"⟩ : MethodName)) hown310 (mvT hZ310 (own_wd hw 60 rfl)) (mvT hZ310 (own_wd hw 61 rfl)) (notFace_of_selects (args := #[]) (mvT hZ310 (own_wd hw 63 rfl))) (mvT hZ310 (own_wd hw 63 rfl)) (mvT hZ310 (own_wd hw 62 rfl)) (by decide) (StrChars.Road.chN (W := 0) hZ310 (own_hch hw) (kI := 4) (own_wd hw 2 rfl) Q310_1 Q310_2 Q310_3 Q310_4 cd312 hb313 (S_COMPACT_STRINGS.ext O310.2) hcomp (S_fm.ext O310.2) hfm (Nat.le_of_ble_eq_true rfl) (i := 2) (Nat.le_of_ble_eq_true rfl) (j := ((((1 : Int32) + (1 : Int32)) + (1 : Int32)) - (1 : Int32))) (by decide) (by decide) (by decide)) q317a q317c (g := (mkF m 156 #[.val (.int x1), .val (.int x2), .val (.int (1 : Int32)), .val (.int (1 : Int32)), .val (.int ((x2 &&& (255 : Int32)).toUInt32.toUInt16.toUInt32.toInt32)), .val (.ref b299), .val (.ref b302), .val (.ref st_AROUND), .val (.ref b_310), .val (.int (((1 : Int32) + (1 : Int32)) + (1 : Int32))), .val (.int (1 : Int32))] [(.int ((((1 : Int32) + (1 : Int32)) + (1 : Int32)) - (1 : Int32))), (.ref b_310)])) rfl (by rw [hml]; rfl) (Steps.refl _) (argsL := [(.int ((((1 : Int32) + (1 : Int32)) + (1 : Int32)) - (1 : Int32)))]) (rest := []) (lenOf pd_20 rfl) rfl (by show 2 * 0 + _ ≤ _; exact Nat.le_of_eq rfl) (hb hby at_156) (fun _ _ => ⟨rfl, eh316, (by decide : 11 + 0 ≤ _), (by decide : 49 + 0 ≤ _)⟩)
      dsimp only [Pt.U, Pt.locs, Pt.cells, Pt.slots] at X317 l317 y317 z317 st317 hQ317
      subst l317 y317 z317
      obtain ⟨hv317, rfl, eh317⟩ := hQ317
      obtain rfl : _ = some (Value.int (37 : Int32)) := hv317
      have N317 := Fr.app N316 (Fr.nil n0)
      obtain ⟨fs, hr, hrun, hended, hW, hsame⟩ := X317.leave (v := some (.int (1 : Int32))) (fun h => by rw [Bd.returns] at h; cases h)
      have hend := hS310.ended hW (show _ ≤ T317.heap.size from by rw [eh317]; exact (Nat.le_refl _)) hsame
      have hcr : CHr Z own_EL s.vm s.heap T317.vm T317.heap := by
        rw [hh, eh317]
        exact CR310.trans (CHv.at X317 hZ310 (own_EW hw) CH310)
      refine ⟨_, _, pre280 _ ?_, hrun, hended, _, _, rfl, ?_, hcr, ⟨_, rfl⟩, hend.1, hend.2.1, hend.2.2.mono (by decide) (by decide)⟩
      · show Steps p.tables e below (s₁.setTop (mkF m 15 #[.val (.int x1), .val (.int x2), .val (.int (1 : Int32)), .unset, .unset, .unset, .unset, .unset, .unset, .unset, .unset] [(.int (x1 &&& (2 : Int32)))])) _
        refine XS.ifNo X0.here hx rfl (hb hby at_15) rfl ((if0 _ _).trans (feq hc15).1) ?_
        refine XS.iconst X0.here hx rfl (hb hby at_18) ?_
        show Steps p.tables e below (s₁.setTop (mkF m 19 #[.val (.int x1), .val (.int x2), .val (.int (1 : Int32)), .unset, .unset, .unset, .unset, .unset, .unset, .unset, .unset] [(.int (1 : Int32))])) _
        refine XS.goto X0.here hx rfl (pc0 := 19) (pc' := 23) rfl (hb hby at_19) (by decide) (by decide) ?_
        refine XS.istoreN X0.here hx rfl (hb hby at_23) rfl (l' := #[.val (.int x1), .val (.int x2), .val (.int (1 : Int32)), .val (.int (1 : Int32)), .unset, .unset, .unset, .unset, .unset, .unset, .unset]) rfl ?_
        refine XS.iloadN X0.here hx rfl (hb hby at_24) rfl ?_
        refine XS.sipush X0.here hx rfl (hb hby at_25) ?_
        refine XS.iand X0.here hx rfl (hb hby at_28) rfl ?_
        refine XS.i2c X0.here hx rfl (hb hby at_29) rfl ?_
        show Steps p.tables e below (s₁.setTop (mkF m 30 #[.val (.int x1), .val (.int x2), .val (.int (1 : Int32)), .val (.int (1 : Int32)), .unset, .unset, .unset, .unset, .unset, .unset, .unset] [(.int ((x2 &&& (255 : Int32)).toUInt32.toUInt16.toUInt32.toInt32))])) _
        refine XS.istore X0.here hx rfl (hb hby at_30) rfl (l' := #[.val (.int x1), .val (.int x2), .val (.int (1 : Int32)), .val (.int (1 : Int32)), .val (.int ((x2 &&& (255 : Int32)).toUInt32.toUInt16.toUInt32.toInt32)), .unset, .unset, .unset, .unset, .unset, .unset]) rfl ?_
        refine XS.iconst X0.here hx rfl (hb hby at_32) ?_
        show Steps p.tables e below (s₁.setTop (mkF m 33 #[.val (.int x1), .val (.int x2), .val (.int (1 : Int32)), .val (.int (1 : Int32)), .val (.int ((x2 &&& (255 : Int32)).toUInt32.toUInt16.toUInt32.toInt32)), .unset, .unset, .unset, .unset, .unset, .unset] [(.int (1 : Int32))])) _
        refine st299 _ ?_
        show Steps p.tables e below (T299.setTop (mkF m 35 #[.val (.int x1), .val (.int x2), .val (.int (1 : Int32)), .val (.int (1 : Int32)), .val (.int ((x2 &&& (255 : Int32)).toUInt32.toUInt16.toUInt32.toInt32)), .unset, .unset, .unset, .unset, .unset, .unset] [(.ref b299)])) _
        refine XS.dup X299.here hx rfl (hb hby at_35) rfl rfl ?_
        refine XS.iconst X299.here hx rfl (hb hby at_36) ?_
        refine XS.iload X299.here hx rfl (hb hby at_37) rfl ?_
        show Steps p.tables e below (T299.setTop (mkF m 39 #[.val (.int x1), .val (.int x2), .val (.int (1 : Int32)), .val (.int (1 : Int32)), .val (.int ((x2 &&& (255 : Int32)).toUInt32.toUInt16.toUInt32.toInt32)), .unset, .unset, .unset, .unset, .unset, .unset] [(.int ((x2 &&& (255 : Int32)).toUInt32.toUInt16.toUInt32.toInt32)), (.int (0 : Int32)), (.ref b299), (.ref b299)])) _
        refine st301 _ ?_
        show Steps p.tables e below (T301.setTop (mkF m 40 #[.val (.int x1), .val (.int x2), .val (.int (1 : Int32)), .val (.int (1 : Int32)), .val (.int ((x2 &&& (255 : Int32)).toUInt32.toUInt16.toUInt32.toInt32)), .unset, .unset, .unset, .unset, .unset, .unset] [(.ref b299)])) _
        refine XS.astore X301.here hx rfl (hb hby at_40) rfl rfl (l' := #[.val (.int x1), .val (.int x2), .val (.int (1 : Int32)), .val (.int (1 : Int32)), .val (.int ((x2 &&& (255 : Int32)).toUInt32.toUInt16.toUInt32.toInt32)), .val (.ref b299), .unset, .unset, .unset, .unset, .unset]) rfl ?_
        show Steps p.tables e below (T301.setTop (mkF m 42 #[.val (.int x1), .val (.int x2), .val (.int (1 : Int32)), .val (.int (1 : Int32)), .val (.int ((x2 &&& (255 : Int32)).toUInt32.toUInt16.toUInt32.toInt32)), .val (.ref b299), .unset, .unset, .unset, .unset, .unset] [])) _
        refine st302 _ ?_
        show Steps p.tables e below (T302.setTop (mkF m 45 #[.val (.int x1), .val (.int x2), .val (.int (1 : Int32)), .val (.int (1 : Int32)), .val (.int ((x2 &&& (255 : Int32)).toUInt32.toUInt16.toUInt32.toInt32)), .val (.ref b299), .unset, .unset, .unset, .unset, .unset] [(.ref b302)])) _
        refine XS.dup X302.here hx rfl (hb hby at_45) rfl rfl ?_
        refine XS.aload X302.here hx rfl (hb hby at_46) rfl rfl ?_
        show Steps p.tables e below (T302.setTop (mkF m 48 #[.val (.int x1), .val (.int x2), .val (.int (1 : Int32)), .val (.int (1 : Int32)), .val (.int ((x2 &&& (255 : Int32)).toUInt32.toUInt16.toUInt32.toInt32)), .val (.ref b299), .unset, .unset, .unset, .unset, .unset] [(.ref b299), (.ref b302), (.ref b302)])) _
        refine st305.trans ?_
        show Steps p.tables e below (T305.setTop (mkF m 51 #[.val (.int x1), .val (.int x2), .val (.int (1 : Int32)), .val (.int (1 : Int32)), .val (.int ((x2 &&& (255 : Int32)).toUInt32.toUInt16.toUInt32.toInt32)), .val (.ref b299), .unset, .unset, .unset, .unset, .unset] [(.ref b302)])) _
        refine XS.astore X305.here hx rfl (hb hby at_51) rfl rfl (l' := #[.val (.int x1), .val (.int x2), .val (.int (1 : Int32)), .val (.int (1 : Int32)), .val (.int ((x2 &&& (255 : Int32)).toUInt32.toUInt16.toUInt32.toInt32)), .val (.ref b299), .val (.ref b302), .unset, .unset, .unset, .unset]) rfl ?_
        refine XS.iloadN X305.here hx rfl (hb hby at_53) rfl ?_
        refine XS.iloadN X305.here hx rfl (hb hby at_54) rfl ?_
        show Steps p.tables e below (T305.setTop (mkF m 55 #[.val (.int x1), .val (.int x2), .val (.int (1 : Int32)), .val (.int (1 : Int32)), .val (.int ((x2 &&& (255 : Int32)).toUInt32.toUInt16.toUInt32.toInt32)), .val (.ref b299), .val (.ref b302), .unset, .unset, .unset, .unset] [(.int (1 : Int32)), (.int (1 : Int32))])) _
        refine st307 _ ?_
        show Steps p.tables e below (T307.setTop (mkF m 58 #[.val (.int x1), .val (.int x2), .val (.int (1 : Int32)), .val (.int (1 : Int32)), .val (.int ((x2 &&& (255 : Int32)).toUInt32.toUInt16.toUInt32.toInt32)), .val (.ref b299), .val (.ref b302), .unset, .unset, .unset, .unset] [(.ref st_AROUND)])) _
        refine XS.astore X307.here hx rfl (hb hby at_58) rfl rfl (l' := #[.val (.int x1), .val (.int x2), .val (.int (1 : Int32)), .val (.int (1 : Int32)), .val (.int ((x2 &&& (255 : Int32)).toUInt32.toUInt16.toUInt32.toInt32)), .val (.ref b299), .val (.ref b302), .val (.ref st_AROUND), .unset, .unset, .unset]) rfl ?_
        refine XS.aload X307.here hx rfl (hb hby at_60) rfl rfl ?_
        refine XS.aload X307.here hx rfl (hb hby at_62) rfl rfl ?_
        show Steps p.tables e below (T307.setTop (mkF m 64 #[.val (.int x1), .val (.int x2), .val (.int (1 : Int32)), .val (.int (1 : Int32)), .val (.int ((x2 &&& (255 : Int32)).toUInt32.toUInt16.toUInt32.toInt32)), .val (.ref b299), .val (.ref b302), .val (.ref st_AROUND), .unset, .unset, .unset] [(.ref b302), (.ref st_AROUND)])) _
        refine st310.trans ?_
        show Steps p.tables e below (T310.setTop (mkF m 67 #[.val (.int x1), .val (.int x2), .val (.int (1 : Int32)), .val (.int (1 : Int32)), .val (.int ((x2 &&& (255 : Int32)).toUInt32.toUInt16.toUInt32.toInt32)), .val (.ref b299), .val (.ref b302), .val (.ref st_AROUND), .unset, .unset, .unset] [(.ref b_310)])) _
        refine XS.astore X310.here hx rfl (hb hby at_67) rfl rfl (l' := #[.val (.int x1), .val (.int x2), .val (.int (1 : Int32)), .val (.int (1 : Int32)), .val (.int ((x2 &&& (255 : Int32)).toUInt32.toUInt16.toUInt32.toInt32)), .val (.ref b299), .val (.ref b302), .val (.ref st_AROUND), .val (.ref b_310), .unset, .unset]) rfl ?_
        refine XS.iconst X310.here hx rfl (hb hby at_69) ?_
        refine XS.iloadN X310.here hx rfl (hb hby at_70) rfl ?_
        refine XS.ifNo X310.here hx rfl (hb hby at_71) rfl ((if0 _ _).trans (feq (by decide : ¬ ((1 : Int32) = (0 : Int32)))).1) ?_
        refine XS.iconst X310.here hx rfl (hb hby at_74) ?_
        refine XS.goto X310.here hx rfl (pc0 := 75) (pc' := 79) rfl (hb hby at_75) (by decide) (by decide) ?_
        show Steps p.tables e below (T310.setTop (mkF m 79 #[.val (.int x1), .val (.int x2), .val (.int (1 : Int32)), .val (.int (1 : Int32)), .val (.int ((x2 &&& (255 : Int32)).toUInt32.toUInt16.toUInt32.toInt32)), .val (.ref b299), .val (.ref b302), .val (.ref st_AROUND), .val (.ref b_310), .unset, .unset] [(.int (1 : Int32)), (.int (1 : Int32))])) _
        refine XS.iadd X310.here hx rfl (hb hby at_79) rfl ?_
        refine XS.iloadN X310.here hx rfl (hb hby at_80) rfl ?_
        refine XS.ifNo X310.here hx rfl (hb hby at_81) rfl ((if0 _ _).trans (feq (by decide : ¬ ((1 : Int32) = (0 : Int32)))).1) ?_
        refine XS.iconst X310.here hx rfl (hb hby at_84) ?_
        refine XS.goto X310.here hx rfl (pc0 := 85) (pc' := 89) rfl (hb hby at_85) (by decide) (by decide) ?_
        refine XS.iadd X310.here hx rfl (hb hby at_89) rfl ?_
        show Steps p.tables e below (T310.setTop (mkF m 90 #[.val (.int x1), .val (.int x2), .val (.int (1 : Int32)), .val (.int (1 : Int32)), .val (.int ((x2 &&& (255 : Int32)).toUInt32.toUInt16.toUInt32.toInt32)), .val (.ref b299), .val (.ref b302), .val (.ref st_AROUND), .val (.ref b_310), .unset, .unset] [(.int (((1 : Int32) + (1 : Int32)) + (1 : Int32)))])) _
        refine XS.istore X310.here hx rfl (hb hby at_90) rfl (l' := #[.val (.int x1), .val (.int x2), .val (.int (1 : Int32)), .val (.int (1 : Int32)), .val (.int ((x2 &&& (255 : Int32)).toUInt32.toUInt16.toUInt32.toInt32)), .val (.ref b299), .val (.ref b302), .val (.ref st_AROUND), .val (.ref b_310), .val (.int (((1 : Int32) + (1 : Int32)) + (1 : Int32))), .unset]) rfl ?_
        refine XS.aload X310.here hx rfl (hb hby at_92) rfl rfl ?_
        show Steps p.tables e below (T310.setTop (mkF m 94 #[.val (.int x1), .val (.int x2), .val (.int (1 : Int32)), .val (.int (1 : Int32)), .val (.int ((x2 &&& (255 : Int32)).toUInt32.toUInt16.toUInt32.toInt32)), .val (.ref b299), .val (.ref b302), .val (.ref st_AROUND), .val (.ref b_310), .val (.int (((1 : Int32) + (1 : Int32)) + (1 : Int32))), .unset] [(.ref b_310)])) _
        refine st314.trans ?_
        show Steps p.tables e below (T314.setTop (mkF m 97 #[.val (.int x1), .val (.int x2), .val (.int (1 : Int32)), .val (.int (1 : Int32)), .val (.int ((x2 &&& (255 : Int32)).toUInt32.toUInt16.toUInt32.toInt32)), .val (.ref b299), .val (.ref b302), .val (.ref st_AROUND), .val (.ref b_310), .val (.int (((1 : Int32) + (1 : Int32)) + (1 : Int32))), .unset] [(.int (3 : Int32))])) _
        refine XS.iload X314.here hx rfl (hb hby at_97) rfl ?_
        refine XS.icmpYes X314.here hx rfl (pc0 := 99) (pc' := 104) rfl (hb hby at_99) rfl (teq (by decide : (3 : Int32) = (((1 : Int32) + (1 : Int32)) + (1 : Int32)))).1 (by decide) (by decide) ?_
        refine XS.iloadN X314.here hx rfl (hb hby at_104) rfl ?_
        refine XS.ifNo X314.here hx rfl (hb hby at_105) rfl ((if0 _ _).trans (feq (by decide : ¬ ((1 : Int32) = (0 : Int32)))).1) ?_
        refine XS.iconst X314.here hx rfl (hb hby at_108) ?_
        refine XS.goto X314.here hx rfl (pc0 := 109) (pc' := 113) rfl (hb hby at_109) (by decide) (by decide) ?_
        show Steps p.tables e below (T314.setTop (mkF m 113 #[.val (.int x1), .val (.int x2), .val (.int (1 : Int32)), .val (.int (1 : Int32)), .val (.int ((x2 &&& (255 : Int32)).toUInt32.toUInt16.toUInt32.toInt32)), .val (.ref b299), .val (.ref b302), .val (.ref st_AROUND), .val (.ref b_310), .val (.int (((1 : Int32) + (1 : Int32)) + (1 : Int32))), .unset] [(.int (1 : Int32))])) _
        refine XS.istore X314.here hx rfl (hb hby at_113) rfl (l' := #[.val (.int x1), .val (.int x2), .val (.int (1 : Int32)), .val (.int (1 : Int32)), .val (.int ((x2 &&& (255 : Int32)).toUInt32.toUInt16.toUInt32.toInt32)), .val (.ref b299), .val (.ref b302), .val (.ref st_AROUND), .val (.ref b_310), .val (.int (((1 : Int32) + (1 : Int32)) + (1 : Int32))), .val (.int (1 : Int32))]) rfl ?_
        refine XS.aload X314.here hx rfl (hb hby at_115) rfl rfl ?_
        refine XS.iload X314.here hx rfl (hb hby at_117) rfl ?_
        show Steps p.tables e below (T314.setTop (mkF m 119 #[.val (.int x1), .val (.int x2), .val (.int (1 : Int32)), .val (.int (1 : Int32)), .val (.int ((x2 &&& (255 : Int32)).toUInt32.toUInt16.toUInt32.toInt32)), .val (.ref b299), .val (.ref b302), .val (.ref st_AROUND), .val (.ref b_310), .val (.int (((1 : Int32) + (1 : Int32)) + (1 : Int32))), .val (.int (1 : Int32))] [(.int (1 : Int32)), (.ref b_310)])) _
        refine st315.trans ?_
        show Steps p.tables e below (T315.setTop (mkF m 122 #[.val (.int x1), .val (.int x2), .val (.int (1 : Int32)), .val (.int (1 : Int32)), .val (.int ((x2 &&& (255 : Int32)).toUInt32.toUInt16.toUInt32.toInt32)), .val (.ref b299), .val (.ref b302), .val (.ref st_AROUND), .val (.ref b_310), .val (.int (((1 : Int32) + (1 : Int32)) + (1 : Int32))), .val (.int (1 : Int32))] [(.int ((x2 &&& (255 : Int32)).toUInt32.toUInt16.toUInt32.toInt32).toUInt32.toUInt16.toUInt32.toInt32)])) _
        refine XS.iload X315.here hx rfl (hb hby at_122) rfl ?_
        refine XS.icmpYes X315.here hx rfl (pc0 := 124) (pc' := 129) rfl (hb hby at_124) rfl (teq (own_cc _)).1 (by decide) (by decide) ?_
        refine XS.iloadN X315.here hx rfl (hb hby at_129) rfl ?_
        refine XS.ifNo X315.here hx rfl (hb hby at_130) rfl ((if0 _ _).trans (feq (by decide : ¬ ((1 : Int32) = (0 : Int32)))).1) ?_
        refine XS.aload X315.here hx rfl (hb hby at_133) rfl rfl ?_
        refine XS.iconst X315.here hx rfl (hb hby at_135) ?_
        show Steps p.tables e below (T315.setTop (mkF m 136 #[.val (.int x1), .val (.int x2), .val (.int (1 : Int32)), .val (.int (1 : Int32)), .val (.int ((x2 &&& (255 : Int32)).toUInt32.toUInt16.toUInt32.toInt32)), .val (.ref b299), .val (.ref b302), .val (.ref st_AROUND), .val (.ref b_310), .val (.int (((1 : Int32) + (1 : Int32)) + (1 : Int32))), .val (.int (1 : Int32))] [(.int (0 : Int32)), (.ref b_310)])) _
        refine st316.trans ?_
        show Steps p.tables e below (T316.setTop (mkF m 139 #[.val (.int x1), .val (.int x2), .val (.int (1 : Int32)), .val (.int (1 : Int32)), .val (.int ((x2 &&& (255 : Int32)).toUInt32.toUInt16.toUInt32.toInt32)), .val (.ref b299), .val (.ref b302), .val (.ref st_AROUND), .val (.ref b_310), .val (.int (((1 : Int32) + (1 : Int32)) + (1 : Int32))), .val (.int (1 : Int32))] [(.int (37 : Int32))])) _
        refine XS.bipush X316.here hx rfl (hb hby at_139) ?_
        refine XS.icmpYes X316.here hx rfl (pc0 := 141) (pc' := 146) rfl (hb hby at_141) rfl (teq (by decide : (37 : Int32) = (37 : Int32))).1 (by decide) (by decide) ?_
        refine XS.iloadN X316.here hx rfl (hb hby at_146) rfl ?_
        refine XS.ifNo X316.here hx rfl (hb hby at_147) rfl ((if0 _ _).trans (feq (by decide : ¬ ((1 : Int32) = (0 : Int32)))).1) ?_
        refine XS.aload X316.here hx rfl (hb hby at_150) rfl rfl ?_
        refine XS.iload X316.here hx rfl (hb hby at_152) rfl ?_
        show Steps p.tables e below (T316.setTop (mkF m 154 #[.val (.int x1), .val (.int x2), .val (.int (1 : Int32)), .val (.int (1 : Int32)), .val (.int ((x2 &&& (255 : Int32)).toUInt32.toUInt16.toUInt32.toInt32)), .val (.ref b299), .val (.ref b302), .val (.ref st_AROUND), .val (.ref b_310), .val (.int (((1 : Int32) + (1 : Int32)) + (1 : Int32))), .val (.int (1 : Int32))] [(.int (((1 : Int32) + (1 : Int32)) + (1 : Int32))), (.ref b_310)])) _
        refine XS.iconst X316.here hx rfl (hb hby at_154) ?_
        refine XS.isub X316.here hx rfl (hb hby at_155) rfl ?_
        show Steps p.tables e below (T316.setTop (mkF m 156 #[.val (.int x1), .val (.int x2), .val (.int (1 : Int32)), .val (.int (1 : Int32)), .val (.int ((x2 &&& (255 : Int32)).toUInt32.toUInt16.toUInt32.toInt32)), .val (.ref b299), .val (.ref b302), .val (.ref st_AROUND), .val (.ref b_310), .val (.int (((1 : Int32) + (1 : Int32)) + (1 : Int32))), .val (.int (1 : Int32))] [(.int ((((1 : Int32) + (1 : Int32)) + (1 : Int32)) - (1 : Int32))), (.ref b_310)])) _
        refine st317.trans ?_
        show Steps p.tables e below (T317.setTop (mkF m 159 #[.val (.int x1), .val (.int x2), .val (.int (1 : Int32)), .val (.int (1 : Int32)), .val (.int ((x2 &&& (255 : Int32)).toUInt32.toUInt16.toUInt32.toInt32)), .val (.ref b299), .val (.ref b302), .val (.ref st_AROUND), .val (.ref b_310), .val (.int (((1 : Int32) + (1 : Int32)) + (1 : Int32))), .val (.int (1 : Int32))] [(.int (37 : Int32))])) _
        refine XS.bipush X317.here hx rfl (hb hby at_159) ?_
        refine XS.icmpYes X317.here hx rfl (pc0 := 161) (pc' := 166) rfl (hb hby at_161) rfl (teq (by decide : (37 : Int32) = (37 : Int32))).1 (by decide) (by decide) ?_
        refine XS.iconst X317.here hx rfl (hb hby at_166) ?_
        show Steps p.tables e below (T317.setTop (mkF m 167 #[.val (.int x1), .val (.int x2), .val (.int (1 : Int32)), .val (.int (1 : Int32)), .val (.int ((x2 &&& (255 : Int32)).toUInt32.toUInt16.toUInt32.toInt32)), .val (.ref b299), .val (.ref b302), .val (.ref st_AROUND), .val (.ref b_310), .val (.int (((1 : Int32) + (1 : Int32)) + (1 : Int32))), .val (.int (1 : Int32))] [(.int (1 : Int32))])) _
        exact retN X317 hx (t := .boolean) Bd.returns (by simp) (hb hby at_167) hr
      · show Q0 Z x1 x2 st_NONE st_AFTER st_BEFORE st_AROUND st_COMPACT_STRINGS st_fm h0 n0 _ T317.heap _
        rw [eh317]
        exact ⟨rfl, N317, K310⟩
set_option maxRecDepth 65536 in
set_option maxHeartbeats 40000000 in
theorem comes_1 {Post : Tables → Env → Array Value → State → Outcome → State → Prop} (hpost : ∀ tb e args s v u, (limb_1_1.after args s (.returned v) u = true ∧ limb_1_2.after args s (.returned v) u = true ∧ True) → ReturnedEndW s (.returned v) u (Jvm.fieldLocs frame_1_writes args s ++ Jvm.arrayLocs frame_1_arrays args s ++ Jvm.staticLocs frame_1_statics s) 24 1216 → Post tb e args s (.returned v) u) :
    ArmFor flags0 classFile x code maxLocals ret World_1 tables_1 room_1 Calls_1 rest_1 Pre_1 Post := by
  intro l hfl _ _ p e ha hc hk s m args below hf hA hF happ hP
  obtain ⟨hcalls, hrest, hpre⟩ := hP
  obtain ⟨-, -, -, hnamed, -, -, -, hat⟩ := (Spec.applies_iff hf).mp happ
  obtain ⟨hg, hn⟩ := and_e (Cond.before_iff.mp (show (Jvm.Cond.and given_1 narrow_1).before args s = true from hpre))
  obtain ⟨gg1, gg2⟩ := and_e hg
  obtain ⟨gg3, gg4⟩ := and_e gg2
  obtain ⟨gg5, gg6⟩ := and_e hn
  obtain ⟨gg7, gg8⟩ := and_e gg6
  obtain ⟨gg9, gg10⟩ := and_e gg8
  obtain ⟨gg11, gg12⟩ := and_e gg10
  obtain ⟨gg13, gg14⟩ := and_e gg12
  obtain ⟨gg15, gg16⟩ := and_e gg14
  obtain ⟨gg17, gg18⟩ := and_e gg16
  obtain ⟨w0, w1, rfl⟩ : ∃ w0 w1 : Value, args = #[w0, w1] := by
    have hs : args.size = 2 := by simpa [Cond.value, given_1] using gg1
    obtain ⟨L⟩ := args
    match L, hs with
    | [w0, w1], _ => exact ⟨w0, w1, rfl⟩
  have hw := fun d (hd : d ∈ tables_1) => atoms_spec (ws := Jvm.Cond.code x code maxLocals ret :: tables_1) hat d (List.mem_cons_of_mem _ hd)
  have hfit : Fit s := fun {y c} hc i hi => by
    obtain ⟨ha, rfl⟩ := Array.getElem?_eq_some_iff.mp hc
    have q := List.all_eq_true.mp ((Array.all_eq_true_iff_forall_mem.mp hF) _ (Array.getElem_mem ha)) i (List.mem_range.mpr hi)
    simpa [Array.getElem?_eq_getElem hi] using q
  obtain ⟨hsets, hown0⟩ := atoms_of _ (rest_1_c_eq ▸ (show rest_1_c.before _ s = true from hrest))
  have hr0 := Cond.before_iff.mp hown0
  obtain ⟨i0, ei0⟩ := is_v gg3
  obtain rfl : w0 = (.int i0) := Option.some.inj ei0
  obtain ⟨i1, ei1⟩ := is_v gg4
  obtain rfl : w1 = (.int i1) := Option.some.inj ei1
  obtain ⟨st_COMPACT_STRINGS, ev_comp⟩ := is_v (Cond.before_iff.mp (hsets _ (List.mem_of_getElem? (i := 1) rfl)))
  have S_COMPACT_STRINGS : Sta s s.heap "java/lang/String" "COMPACT_STRINGS" "Z" (.int st_COMPACT_STRINGS) := Sta.start ev_comp (Or.inl (hsets _ (List.mem_of_getElem? (i := 0) rfl)))
  have hcomp : ¬ (st_COMPACT_STRINGS = (0 : Int32)) := gotF (Cond.eq_ints ev_comp (Term.int_eval 0)) (not_v (Cond.before_iff.mp (hsets _ (List.mem_of_getElem? (i := 2) rfl))))
  obtain ⟨st_fm, ev_fm, hfm⟩ := isR_v (Cond.before_iff.mp (hsets _ (List.mem_of_getElem? (i := 8) rfl)))
  have S_fm : Sta s s.heap "jdk/internal/util/Preconditions" "SIOOBE_FORMATTER" "Ljava/util/function/BiFunction;" st_fm := Sta.start ev_fm (Or.inl (hsets _ (List.mem_of_getElem? (i := 7) rfl)))
  obtain ⟨st_NONE, ev_st_NONE⟩ := exa_v gg5
  have S_NONE : Sta s s.heap "com/example/derive/derive/LikeWildcards" "NONE" "Lcom/example/derive/derive/LikeWildcards;" (.ref st_NONE) := Sta.start ev_st_NONE (Or.inr ⟨hw _ (List.mem_of_getElem? (i := 32) rfl), hw _ (List.mem_of_getElem? (i := 35) rfl)⟩)
  have EZ_st_NONE : Exa s s.heap st_NONE "com/example/derive/derive/LikeWildcards" := Exa.start ev_st_NONE gg5
  have FZ_st_NONE_ordinal : Fld s s.heap st_NONE "java/lang/Enum" "ordinal" "I" (.int (0 : Int32)) := Fld.start ((fld_at ev_st_NONE).symm.trans (own_eqI gg7))
  obtain ⟨st_AFTER, ev_st_AFTER⟩ := exa_v gg9
  have S_AFTER : Sta s s.heap "com/example/derive/derive/LikeWildcards" "AFTER" "Lcom/example/derive/derive/LikeWildcards;" (.ref st_AFTER) := Sta.start ev_st_AFTER (Or.inr ⟨hw _ (List.mem_of_getElem? (i := 32) rfl), hw _ (List.mem_of_getElem? (i := 83) rfl)⟩)
  have EZ_st_AFTER : Exa s s.heap st_AFTER "com/example/derive/derive/LikeWildcards" := Exa.start ev_st_AFTER gg9
  have FZ_st_AFTER_ordinal : Fld s s.heap st_AFTER "java/lang/Enum" "ordinal" "I" (.int (1 : Int32)) := Fld.start ((fld_at ev_st_AFTER).symm.trans (own_eqI gg11))
  obtain ⟨st_BEFORE, ev_st_BEFORE⟩ := exa_v gg13
  have S_BEFORE : Sta s s.heap "com/example/derive/derive/LikeWildcards" "BEFORE" "Lcom/example/derive/derive/LikeWildcards;" (.ref st_BEFORE) := Sta.start ev_st_BEFORE (Or.inr ⟨hw _ (List.mem_of_getElem? (i := 32) rfl), hw _ (List.mem_of_getElem? (i := 189) rfl)⟩)
  have EZ_st_BEFORE : Exa s s.heap st_BEFORE "com/example/derive/derive/LikeWildcards" := Exa.start ev_st_BEFORE gg13
  have FZ_st_BEFORE_ordinal : Fld s s.heap st_BEFORE "java/lang/Enum" "ordinal" "I" (.int (2 : Int32)) := Fld.start ((fld_at ev_st_BEFORE).symm.trans (own_eqI gg15))
  obtain ⟨st_AROUND, ev_st_AROUND⟩ := exa_v gg17
  have S_AROUND : Sta s s.heap "com/example/derive/derive/LikeWildcards" "AROUND" "Lcom/example/derive/derive/LikeWildcards;" (.ref st_AROUND) := Sta.start ev_st_AROUND (Or.inr ⟨hw _ (List.mem_of_getElem? (i := 32) rfl), hw _ (List.mem_of_getElem? (i := 191) rfl)⟩)
  have EZ_st_AROUND : Exa s s.heap st_AROUND "com/example/derive/derive/LikeWildcards" := Exa.start ev_st_AROUND gg17
  have FZ_st_AROUND_ordinal : Fld s s.heap st_AROUND "java/lang/Enum" "ordinal" "I" (.int (3 : Int32)) := Fld.start ((fld_at ev_st_AROUND).symm.trans (own_eqI gg18))
  have hch : CHv s own_EL s.vm s.heap := CHv.start (own_EW hw) (fun p hp => hcalls.1 p hp) (hsets _ (List.mem_of_getElem? (i := 2) rfl)) (own_wd hw 19 rfl) (own_wd hw 2 rfl)
  obtain ⟨n, o, h1, h2, h3, _, L, rfl, ⟨rfl, N, -⟩, -, hq⟩ := rm0 l s _ hw tables_1 i0 i1 st_NONE st_AFTER st_BEFORE st_AROUND st_COMPACT_STRINGS st_fm s.heap s.heap.size (Nat.le_refl _) (Old.start s) S_NONE EZ_st_NONE FZ_st_NONE_ordinal S_AFTER EZ_st_AFTER FZ_st_AFTER_ordinal S_BEFORE EZ_st_BEFORE FZ_st_BEFORE_ordinal S_AROUND EZ_st_AROUND FZ_st_AROUND_ordinal S_COMPACT_STRINGS hcomp S_fm hfm p e ha hc hk s m _ below hf ((Spec.applies_iff_loose hf).mp happ).1 ⟨rfl, State.Warmed39.refl s, rfl, hch⟩ trivial
  refine ⟨n, _, h1, h2, h3, hpost _ _ _ _ _ _ ⟨Cond.after_iff.mpr rfl, Cond.after_iff.mpr (eq_i res_at (Term.int_eval (1)) rfl), trivial⟩ ⟨hq.1, hq.2.1, hq.2.2.1, (hq.2.2.2.sift fun y hy => Or.inr (N y hy)).mono (by decide) (by decide)⟩⟩
theorem main_1_1 : Claimed_1_1 := comes_1 fun _ _ _ _ _ _ h hF => ⟨h.1, hF⟩
theorem main_1_2 : Claimed_1_2 := comes_1 fun _ _ _ _ _ _ h hF => ⟨h.2.1, hF⟩
end Jvm.Pilot.@@N@@
namespace Jvm.Pilot.@@N@@
open Jvm Jvm.ClassFile Sem Op Lib Jvm.Free Jvm.Stand Jvm.Pilot.@@N@@.Jvm.D
/-! MADE BY PROGRAM (witnessworld.py) out of the Statement's table words and the real class files: 27 classes; the members and pool entries that the words name. The judged class is class 1, her method 1. -/
namespace start1
open Jvm.ClassFile
def u (s : String) : CpInfo := .utf8 (stringToUtf16 s)
/-- a pool by its gaps: so many unusable entries, then the entry; so many at the end -/
def gap : Nat → List CpInfo → List CpInfo
  | 0, r => r
  | n + 1, r => .unusable :: gap n r
def poolList (es : List (Nat × CpInfo)) (last : Nat) : List CpInfo := es.foldr (fun e r => gap e.1 (e.2 :: r)) (gap last [])
def pool (es : List (Nat × CpInfo)) (last : Nat) : Array CpInfo := ⟨poolList es last⟩
def fileOf (pool : Array CpInfo) (this : Nat) (attrs : Array Attribute := #[]) (ms : Array MethodInfo := #[]) (fl : Nat := 33) (sup : Nat := 0) (ifs : Array Nat := #[]) (fds : Array FieldInfo := #[]) : ClassFile where
  minorVersion := 0
  majorVersion := 65
  constantPool := pool
  accessFlags := fl
  thisClass := this
  superClass := sup
  interfaces := ifs
  fields := fds
  methods := ms
  attributes := attrs
def plain (name : String) (sup : Option ClassId) : Class where
  name := name
  kind := .ordinary
  loader := none
  accessFlags := 33
  super := sup
  interfaces := #[]
  cf := none
  fields := #[]
  methods := #[]
  instanceTypes := #[]
  staticTypes := #[]
  resolved := #[]
  callSites := []
  init := .initialized
  statics := none
  mirror := none

def pool0 : Array CpInfo := pool [(5, u "<init>"), (0, u "()V"), (1, .class_ 10), (1, u "java/lang/Object")] 113

def k0c0 : Code := { maxStack := 0, maxLocals := 1, code := object_method_1_code, exceptionTable := #[], attributes := #[] }
def k0m0 : Method := { name := "<init>", desc := "()V", sig := { parameters := [], returnType := none }, accessFlags := 1, code := some k0c0 }
/-- java/lang/Object -/
def k0 : Class := { plain "java/lang/Object" none with
  accessFlags := 33
  interfaces := #[]
  cf := some (fileOf pool0 8 #[] #[{ accessFlags := 1, nameIndex := 5, descriptorIndex := 6, attributes := #[] }] 33 0 #[] #[])
  fields := #[]
  methods := #[k0m0]
  instanceTypes := #[]
  staticTypes := #[]
  resolved := Array.replicate 124 none
  statics := none }

def pool1 : Array CpInfo := pool [(2, .class_ 4), (1, u "java/lang/Object"), (0, u "<init>"), (0, u "()V"), (0, .class_ 8), (0, u "java/lang/String"), (0, .methodref 7 10), (0, .nameAndType 5 11), (0, u "([C)V"), (0, .methodref 13 14), (0, .class_ 15), (0, .nameAndType 16 17), (0, u "com/example/derive/derive/LikeWildcards"), (0, u "of"), (0, u "(ZZ)Lcom/example/derive/derive/LikeWildcards;"), (0, .methodref 13 19), (0, .nameAndType 20 21), (0, u "addTo"), (0, u "(Ljava/lang/String;)Ljava/lang/String;"), (0, .methodref 7 23), (0, .nameAndType 24 25), (0, u "length"), (0, u "()I"), (0, .methodref 7 27), (0, .nameAndType 28 29), (0, u "charAt"), (0, u "(I)C"), (0, .class_ 31), (0, u "com/example/derive/derive/LikeWildcardsOfPinLaw"), (2, u "law"), (0, u "(II)Z")] 5

def k1m0 : Method := { name := "<init>", desc := "()V", sig := { parameters := [], returnType := none }, accessFlags := 1, code := none }
def k1c1 : Code := { maxStack := 4, maxLocals := 11, code := code, exceptionTable := #[], attributes := #[] }
def k1m1 : Method := { name := "law", desc := "(II)Z", sig := { parameters := [.int, .int], returnType := some .boolean }, accessFlags := 9, code := some k1c1 }
/-- com/example/derive/derive/LikeWildcardsOfPinLaw -/
def k1 : Class := { plain "com/example/derive/derive/LikeWildcardsOfPinLaw" (some 0) with
  accessFlags := 49
  interfaces := #[]
  cf := some (fileOf pool1 30 #[] #[{ accessFlags := 1, nameIndex := 5, descriptorIndex := 6, attributes := #[] }, { accessFlags := 9, nameIndex := 34, descriptorIndex := 35, attributes := #[] }] 49 2 #[] #[])
  fields := #[]
  methods := #[k1m0, k1m1]
  instanceTypes := #[]
  staticTypes := #[]
  resolved := Array.replicate 41 none
  statics := none }

def pool2 : Array CpInfo := pool [(1, .class_ 2), (0, u "java/io/Serializable"), (0, .class_ 4), (0, u "java/lang/Object")] 2

/-- java/io/Serializable -/
def k2 : Class := { plain "java/io/Serializable" (some 0) with
  accessFlags := 1537
  interfaces := #[]
  cf := some (fileOf pool2 1 #[] #[] 1537 3 #[] #[])
  fields := #[]
  methods := #[]
  instanceTypes := #[]
  staticTypes := #[]
  resolved := Array.replicate 7 none
  statics := none }

def pool3 : Array CpInfo := pool [(1, .class_ 2), (0, u "java/lang/Comparable"), (0, .class_ 4), (0, u "java/lang/Object")] 7

/-- java/lang/Comparable -/
def k3 : Class := { plain "java/lang/Comparable" (some 0) with
  accessFlags := 1537
  interfaces := #[]
  cf := some (fileOf pool3 1 #[] #[] 1537 3 #[] #[])
  fields := #[]
  methods := #[]
  instanceTypes := #[]
  staticTypes := #[]
  resolved := Array.replicate 12 none
  statics := none }

def pool4 : Array CpInfo := pool [(2, .class_ 4), (1, u "java/lang/CharSequence"), (42, .class_ 48), (0, u "java/lang/CharSequence$1CodePointIterator"), (10, .class_ 60), (0, u "java/lang/CharSequence$1CharIterator"), (5, .class_ 67), (0, u "java/lang/Object")] 63

/-- java/lang/CharSequence -/
def k4 : Class := { plain "java/lang/CharSequence" (some 0) with
  accessFlags := 1537
  interfaces := #[]
  cf := some (fileOf pool4 2 #[.nestMembers #[47, 59]] #[] 1537 66 #[] #[])
  fields := #[]
  methods := #[]
  instanceTypes := #[]
  staticTypes := #[]
  resolved := Array.replicate 131 none
  statics := none }

def pool5 : Array CpInfo := pool [(1, .class_ 2), (0, u "java/lang/constant/Constable"), (0, .class_ 4), (0, u "java/lang/Object")] 6

/-- java/lang/constant/Constable -/
def k5 : Class := { plain "java/lang/constant/Constable" (some 0) with
  accessFlags := 1537
  interfaces := #[]
  cf := some (fileOf pool5 1 #[] #[] 1537 3 #[] #[])
  fields := #[]
  methods := #[]
  instanceTypes := #[]
  staticTypes := #[]
  resolved := Array.replicate 11 none
  statics := none }

def pool6 : Array CpInfo := pool [(1, .class_ 2), (0, u "java/lang/constant/ConstantDesc"), (0, .class_ 4), (0, u "java/lang/Object")] 32

/-- java/lang/constant/ConstantDesc -/
def k6 : Class := { plain "java/lang/constant/ConstantDesc" (some 0) with
  accessFlags := 1537
  interfaces := #[]
  cf := some (fileOf pool6 1 #[] #[] 1537 3 #[] #[])
  fields := #[]
  methods := #[]
  instanceTypes := #[]
  staticTypes := #[]
  resolved := Array.replicate 37 none
  statics := none }

def pool7 : Array CpInfo := pool [(1, .methodref 2 3), (0, .class_ 4), (0, .nameAndType 5 6), (0, u "java/lang/Object"), (0, u "<init>"), (0, u "()V"), (2, .fieldref 10 11), (0, .class_ 12), (0, .nameAndType 13 14), (0, u "java/lang/String"), (0, u "value"), (0, u "[B"), (0, .fieldref 10 16), (0, .nameAndType 17 18), (0, u "coder"), (0, u "B"), (2, u "hash"), (0, u "I"), (2, u "hashIsZero"), (0, u "Z"), (0, .methodref 10 28), (0, .nameAndType 5 29), (0, u "([CIILjava/lang/Void;)V"), (8, .fieldref 10 39), (0, .nameAndType 40 26), (0, u "COMPACT_STRINGS"), (1, .class_ 44), (1, u "java/lang/StringUTF16"), (0, u "compress"), (1, .methodref 42 48), (0, .nameAndType 49 50), (0, u "coderFromArrayLen"), (0, u "([BI)B"), (3, .methodref 55 56), (0, .class_ 57), (0, .nameAndType 58 59), (0, u "java/util/Arrays"), (0, u "copyOfRange"), (0, u "([BII)[B"), (47, .class_ 109), (1, u "java/lang/StringLatin1"), (32, u "()Z"), (34, .methodref 42 178), (0, .nameAndType 45 179), (0, u "([CII)[B"), (13, .class_ 195), (1, u "java/lang/System"), (16, .methodref 193 213), (0, .nameAndType 214 215), (0, u "arraycopy"), (0, u "(Ljava/lang/Object;ILjava/lang/Object;II)V"), (118, u "()I"), (0, .methodref 10 336), (0, .nameAndType 17 337), (0, u "()B"), (2, u "()[B"), (22, u "([BI)C"), (27, u "(II)V"), (35, u "(I)C"), (61, .methodref 10 490), (0, .nameAndType 5 491), (0, u "(Ljava/lang/AbstractStringBuilder;Ljava/lang/Void;)V"), (0, .methodref 10 493), (0, .nameAndType 494 142), (0, u "isLatin1"), (0, .methodref 107 496), (0, .nameAndType 497 363), (0, u "charAt"), (3, u "checkIndex"), (4, .nameAndType 507 334), (0, u "length"), (24, u "getBytes"), (16, .methodref 550 506), (0, .class_ 551), (0, u "java/lang/AbstractStringBuilder"), (0, .methodref 550 553), (0, .nameAndType 554 340), (0, u "getValue"), (20, .class_ 576), (0, u "java/lang/CharSequence"), (22, u "CASE_INSENSITIVE_ORDER"), (0, u "Ljava/util/Comparator;"), (220, u "([BIB)V"), (188, u "([C)V"), (36, .methodref 550 493), (5, .fieldref 1054 1055), (0, .class_ 1056), (0, .nameAndType 1057 1058), (0, u "jdk/internal/util/Preconditions"), (0, u "SIOOBE_FORMATTER"), (0, u "Ljava/util/function/BiFunction;"), (0, .methodref 1054 1060), (0, .nameAndType 501 1061), (0, u "(IILjava/util/function/BiFunction;)I"), (39, u "serialPersistentFields"), (0, u "[Ljava/io/ObjectStreamField;"), (0, .class_ 1104), (0, u "java/lang/String$CaseInsensitiveComparator"), (1, .class_ 1107), (0, u "java/io/Serializable"), (0, .class_ 1109), (0, u "java/lang/Comparable"), (0, .class_ 1111), (0, u "java/lang/constant/Constable"), (0, .class_ 1113), (0, u "java/lang/constant/ConstantDesc"), (2, u "serialVersionUID"), (0, u "J"), (3, u "REPL"), (0, u "C"), (2, u "LATIN1"), (1, u "UTF16"), (105, u "(Ljava/lang/StringBuilder;)V")] 217

def k7m0 : Method := { name := "<init>", desc := "()V", sig := { parameters := [], returnType := none }, accessFlags := 1, code := none }
def k7c1 : Code := { maxStack := 5, maxLocals := 2, code := jdk_42_method_3_code, exceptionTable := #[], attributes := #[] }
def k7m1 : Method := { name := "<init>", desc := "([C)V", sig := { parameters := [(.array .char)], returnType := none }, accessFlags := 1, code := some k7c1 }
def k7c2 : Code := { maxStack := 3, maxLocals := 2, code := jdk_42_method_53_code, exceptionTable := #[], attributes := #[] }
def k7m2 : Method := { name := "<init>", desc := "(Ljava/lang/StringBuilder;)V", sig := { parameters := [(.object "java/lang/StringBuilder")], returnType := none }, accessFlags := 1, code := some k7c2 }
def k7c3 : Code := { maxStack := 2, maxLocals := 1, code := jdk_42_method_54_code, exceptionTable := #[], attributes := #[] }
def k7m3 : Method := { name := "length", desc := "()I", sig := { parameters := [], returnType := some .int }, accessFlags := 1, code := some k7c3 }
def k7c4 : Code := { maxStack := 2, maxLocals := 2, code := jdk_42_method_56_code, exceptionTable := #[], attributes := #[] }
def k7m4 : Method := { name := "charAt", desc := "(I)C", sig := { parameters := [.int], returnType := some .char }, accessFlags := 1, code := some k7c4 }
def k7c5 : Code := { maxStack := 5, maxLocals := 4, code := jdk_42_method_147_code, exceptionTable := #[], attributes := #[] }
def k7m5 : Method := { name := "getBytes", desc := "([BIB)V", sig := { parameters := [(.array .byte), .int, .byte], returnType := none }, accessFlags := 0, code := some k7c5 }
def k7c6 : Code := { maxStack := 4, maxLocals := 6, code := jdk_42_method_149_code, exceptionTable := #[], attributes := #[] }
def k7m6 : Method := { name := "<init>", desc := "([CIILjava/lang/Void;)V", sig := { parameters := [(.array .char), .int, .int, (.object "java/lang/Void")], returnType := none }, accessFlags := 2, code := some k7c6 }
def k7c7 : Code := { maxStack := 5, maxLocals := 5, code := jdk_42_method_150_code, exceptionTable := #[], attributes := #[] }
def k7m7 : Method := { name := "<init>", desc := "(Ljava/lang/AbstractStringBuilder;Ljava/lang/Void;)V", sig := { parameters := [(.object "java/lang/AbstractStringBuilder"), (.object "java/lang/Void")], returnType := none }, accessFlags := 0, code := some k7c7 }
def k7c8 : Code := { maxStack := 1, maxLocals := 1, code := jdk_42_method_152_code, exceptionTable := #[], attributes := #[] }
def k7m8 : Method := { name := "coder", desc := "()B", sig := { parameters := [], returnType := some .byte }, accessFlags := 0, code := some k7c8 }
def k7c9 : Code := { maxStack := 1, maxLocals := 1, code := jdk_42_method_154_code, exceptionTable := #[], attributes := #[] }
def k7m9 : Method := { name := "isLatin1", desc := "()Z", sig := { parameters := [], returnType := some .boolean }, accessFlags := 0, code := some k7c9 }
def k7c10 : Code := { maxStack := 3, maxLocals := 2, code := jdk_42_method_155_code, exceptionTable := #[], attributes := #[] }
def k7m10 : Method := { name := "checkIndex", desc := "(II)V", sig := { parameters := [.int, .int], returnType := none }, accessFlags := 8, code := some k7c10 }
/-- java/lang/String -/
def k7 : Class := { plain "java/lang/String" (some 0) with
  accessFlags := 49
  interfaces := #[2, 3, 4, 5, 6]
  cf := some (fileOf pool7 10 #[.nestMembers #[1103]] #[{ accessFlags := 1, nameIndex := 5, descriptorIndex := 6, attributes := #[] }, { accessFlags := 1, nameIndex := 5, descriptorIndex := 1010, attributes := #[] }, { accessFlags := 1, nameIndex := 5, descriptorIndex := 1233, attributes := #[] }, { accessFlags := 1, nameIndex := 507, descriptorIndex := 334, attributes := #[] }, { accessFlags := 1, nameIndex := 497, descriptorIndex := 427, attributes := #[] }, { accessFlags := 0, nameIndex := 532, descriptorIndex := 821, attributes := #[] }, { accessFlags := 2, nameIndex := 5, descriptorIndex := 29, attributes := #[] }, { accessFlags := 0, nameIndex := 5, descriptorIndex := 491, attributes := #[] }, { accessFlags := 0, nameIndex := 17, descriptorIndex := 337, attributes := #[] }, { accessFlags := 0, nameIndex := 494, descriptorIndex := 142, attributes := #[] }, { accessFlags := 8, nameIndex := 501, descriptorIndex := 391, attributes := #[] }] 49 2 #[1106, 1108, 575, 1110, 1112] #[{ accessFlags := 18, nameIndex := 13, descriptorIndex := 14, attributes := #[] }, { accessFlags := 18, nameIndex := 17, descriptorIndex := 18, attributes := #[] }, { accessFlags := 2, nameIndex := 21, descriptorIndex := 22, attributes := #[] }, { accessFlags := 2, nameIndex := 25, descriptorIndex := 26, attributes := #[] }, { accessFlags := 26, nameIndex := 1116, descriptorIndex := 1117, attributes := #[] }, { accessFlags := 24, nameIndex := 40, descriptorIndex := 26, attributes := #[] }, { accessFlags := 26, nameIndex := 1101, descriptorIndex := 1102, attributes := #[] }, { accessFlags := 26, nameIndex := 1121, descriptorIndex := 1122, attributes := #[] }, { accessFlags := 25, nameIndex := 599, descriptorIndex := 600, attributes := #[] }, { accessFlags := 24, nameIndex := 1125, descriptorIndex := 18, attributes := #[] }, { accessFlags := 24, nameIndex := 1127, descriptorIndex := 18, attributes := #[] }])
  fields := #[{ name := "value", type := (.array .byte), accessFlags := 18, slot := 0, constantValue := 0 }, { name := "coder", type := .byte, accessFlags := 18, slot := 1, constantValue := 0 }, { name := "hash", type := .int, accessFlags := 2, slot := 2, constantValue := 0 }, { name := "hashIsZero", type := .boolean, accessFlags := 2, slot := 3, constantValue := 0 }, { name := "serialVersionUID", type := .long, accessFlags := 26, slot := 0, constantValue := 0 }, { name := "COMPACT_STRINGS", type := .boolean, accessFlags := 24, slot := 1, constantValue := 0 }, { name := "serialPersistentFields", type := (.array (.object "java/io/ObjectStreamField")), accessFlags := 26, slot := 2, constantValue := 0 }, { name := "REPL", type := .char, accessFlags := 26, slot := 3, constantValue := 0 }, { name := "CASE_INSENSITIVE_ORDER", type := (.object "java/util/Comparator"), accessFlags := 25, slot := 4, constantValue := 0 }, { name := "LATIN1", type := .byte, accessFlags := 24, slot := 5, constantValue := 0 }, { name := "UTF16", type := .byte, accessFlags := 24, slot := 6, constantValue := 0 }]
  methods := #[k7m0, k7m1, k7m2, k7m3, k7m4, k7m5, k7m6, k7m7, k7m8, k7m9, k7m10]
  instanceTypes := #[(.array .byte), .byte, .int, .boolean]
  staticTypes := #[.long, .boolean, (.array (.object "java/io/ObjectStreamField")), .char, (.object "java/util/Comparator"), .byte, .byte]
  resolved := Array.replicate 1451 none
  statics := some 0 }

def pool8 : Array CpInfo := pool [(6, .class_ 8), (1, u "java/lang/Object"), (0, u "<init>"), (0, u "()V"), (1, .class_ 14), (1, u "java/lang/StringUTF16"), (31, u "$assertionsDisabled"), (0, u "Z"), (13, u "HI_BYTE_SHIFT"), (0, u "I"), (2, u "LO_BYTE_SHIFT"), (49, .methodref 12 116), (0, .nameAndType 117 118), (0, u "compress"), (0, u "([CI[BII)I"), (3, u "([CII)[B"), (138, u "coderFromArrayLen"), (0, u "([BI)B"), (106, .class_ 371), (1, u "java/lang/StringUTF16$LinesSpliterator"), (58, u "MAX_LENGTH"), (196, .class_ 628), (0, u "java/lang/StringUTF16$CodePointsSpliterator"), (0, .class_ 630), (0, u "java/lang/StringUTF16$CharsSpliterator")] 4

def k8m0 : Method := { name := "<init>", desc := "()V", sig := { parameters := [], returnType := none }, accessFlags := 0, code := none }
def k8c1 : Code := { maxStack := 2, maxLocals := 2, code := jdk_52_method_15_code, exceptionTable := #[], attributes := #[] }
def k8m1 : Method := { name := "coderFromArrayLen", desc := "([BI)B", sig := { parameters := [(.array .byte), .int], returnType := some .byte }, accessFlags := 8, code := some k8c1 }
def k8c2 : Code := { maxStack := 5, maxLocals := 6, code := jdk_52_method_16_code, exceptionTable := #[], attributes := #[] }
def k8m2 : Method := { name := "compress", desc := "([CII)[B", sig := { parameters := [(.array .char), .int, .int], returnType := some (.array .byte) }, accessFlags := 9, code := some k8c2 }
def k8c3 : Code := { maxStack := 3, maxLocals := 7, code := jdk_52_method_21_code, exceptionTable := #[], attributes := #[] }
def k8m3 : Method := { name := "compress", desc := "([CI[BII)I", sig := { parameters := [(.array .char), .int, (.array .byte), .int, .int], returnType := some .int }, accessFlags := 9, code := some k8c3 }
/-- java/lang/StringUTF16 -/
def k8 : Class := { plain "java/lang/StringUTF16" (some 0) with
  accessFlags := 48
  interfaces := #[]
  cf := some (fileOf pool8 12 #[.nestMembers #[627, 629, 369]] #[{ accessFlags := 0, nameIndex := 9, descriptorIndex := 10, attributes := #[] }, { accessFlags := 8, nameIndex := 261, descriptorIndex := 262, attributes := #[] }, { accessFlags := 9, nameIndex := 117, descriptorIndex := 122, attributes := #[] }, { accessFlags := 9, nameIndex := 117, descriptorIndex := 118, attributes := #[] }] 48 6 #[] #[{ accessFlags := 26, nameIndex := 61, descriptorIndex := 62, attributes := #[] }, { accessFlags := 26, nameIndex := 65, descriptorIndex := 62, attributes := #[] }, { accessFlags := 24, nameIndex := 430, descriptorIndex := 62, attributes := #[] }, { accessFlags := 4120, nameIndex := 46, descriptorIndex := 47, attributes := #[] }])
  fields := #[{ name := "HI_BYTE_SHIFT", type := .int, accessFlags := 26, slot := 0, constantValue := 0 }, { name := "LO_BYTE_SHIFT", type := .int, accessFlags := 26, slot := 1, constantValue := 0 }, { name := "MAX_LENGTH", type := .int, accessFlags := 24, slot := 2, constantValue := 0 }, { name := "$assertionsDisabled", type := .boolean, accessFlags := 4120, slot := 3, constantValue := 0 }]
  methods := #[k8m0, k8m1, k8m2, k8m3]
  instanceTypes := #[]
  staticTypes := #[.int, .int, .int, .boolean]
  resolved := Array.replicate 635 none
  statics := none }

def pool9 : Array CpInfo := pool [(2, .class_ 4), (1, u "java/lang/Enum"), (0, u "name"), (0, u "Ljava/lang/String;"), (0, .fieldref 2 8), (0, .nameAndType 9 10), (0, u "ordinal"), (0, u "I"), (1, .class_ 14), (1, u "java/lang/Object"), (4, u "hash"), (86, .class_ 108), (1, u "java/lang/Enum$EnumDesc"), (2, .class_ 112), (0, u "java/lang/constant/Constable"), (0, .class_ 114), (0, u "java/lang/Comparable"), (0, .class_ 116), (0, u "java/io/Serializable"), (9, u "()I")] 77

def k9c0 : Code := { maxStack := 1, maxLocals := 1, code := jdk_37_method_2_code, exceptionTable := #[], attributes := #[] }
def k9m0 : Method := { name := "ordinal", desc := "()I", sig := { parameters := [], returnType := some .int }, accessFlags := 17, code := some k9c0 }
/-- java/lang/Enum -/
def k9 : Class := { plain "java/lang/Enum" (some 0) with
  accessFlags := 1057
  interfaces := #[5, 3, 2]
  cf := some (fileOf pool9 2 #[.nestMembers #[106]] #[{ accessFlags := 17, nameIndex := 9, descriptorIndex := 126, attributes := #[] }] 1057 12 #[111, 113, 115] #[{ accessFlags := 18, nameIndex := 5, descriptorIndex := 6, attributes := #[] }, { accessFlags := 18, nameIndex := 9, descriptorIndex := 10, attributes := #[] }, { accessFlags := 2, nameIndex := 19, descriptorIndex := 10, attributes := #[] }])
  fields := #[{ name := "name", type := (.object "java/lang/String"), accessFlags := 18, slot := 0, constantValue := 0 }, { name := "ordinal", type := .int, accessFlags := 18, slot := 1, constantValue := 0 }, { name := "hash", type := .int, accessFlags := 2, slot := 2, constantValue := 0 }]
  methods := #[k9m0]
  instanceTypes := #[(.object "java/lang/String"), .int, .int]
  staticTypes := #[]
  resolved := Array.replicate 204 none
  statics := none }

def pool10 : Array CpInfo := pool [(1, .class_ 2), (0, u "com/example/derive/derive/LikeWildcards"), (0, .fieldref 1 4), (0, .nameAndType 5 6), (0, u "NONE"), (0, u "Lcom/example/derive/derive/LikeWildcards;"), (0, .fieldref 1 8), (0, .nameAndType 9 6), (0, u "AFTER"), (0, .fieldref 1 11), (0, .nameAndType 12 6), (0, u "BEFORE"), (0, .fieldref 1 14), (0, .nameAndType 15 6), (0, u "AROUND"), (2, u "$VALUES"), (0, u "[Lcom/example/derive/derive/LikeWildcards;"), (6, .class_ 28), (1, u "java/lang/Enum"), (4, u "<init>"), (1, .methodref 1 36), (0, .nameAndType 37 38), (0, u "ordinal"), (0, u "()I"), (5, .class_ 45), (0, u "java/lang/StringBuilder"), (0, .methodref 44 47), (0, .nameAndType 33 48), (0, u "()V"), (0, .methodref 44 50), (0, .nameAndType 51 52), (0, u "append"), (0, u "(Ljava/lang/String;)Ljava/lang/StringBuilder;"), (0, .string 54), (0, u "%"), (0, .methodref 44 56), (0, .nameAndType 57 58), (0, u "toString"), (0, u "()Ljava/lang/String;"), (15, u "of"), (0, u "(ZZ)Lcom/example/derive/derive/LikeWildcards;"), (1, u "addTo"), (0, u "(Ljava/lang/String;)Ljava/lang/String;")] 6

def k10c0 : Code := { maxStack := 1, maxLocals := 2, code := prog_8_method_4_code, exceptionTable := #[], attributes := #[] }
def k10m0 : Method := { name := "of", desc := "(ZZ)Lcom/example/derive/derive/LikeWildcards;", sig := { parameters := [.boolean, .boolean], returnType := some (.object "com/example/derive/derive/LikeWildcards") }, accessFlags := 8, code := some k10c0 }
def k10c1 : Code := { maxStack := 4, maxLocals := 2, code := prog_8_method_5_code, exceptionTable := #[], attributes := #[] }
def k10m1 : Method := { name := "addTo", desc := "(Ljava/lang/String;)Ljava/lang/String;", sig := { parameters := [(.object "java/lang/String")], returnType := some (.object "java/lang/String") }, accessFlags := 0, code := some k10c1 }
/-- com/example/derive/derive/LikeWildcards -/
def k10 : Class := { plain "com/example/derive/derive/LikeWildcards" (some 9) with
  accessFlags := 16432
  interfaces := #[]
  cf := some (fileOf pool10 1 #[] #[{ accessFlags := 8, nameIndex := 74, descriptorIndex := 75, attributes := #[] }, { accessFlags := 0, nameIndex := 77, descriptorIndex := 78, attributes := #[] }] 16432 26 #[] #[{ accessFlags := 16409, nameIndex := 5, descriptorIndex := 6, attributes := #[] }, { accessFlags := 16409, nameIndex := 9, descriptorIndex := 6, attributes := #[] }, { accessFlags := 16409, nameIndex := 12, descriptorIndex := 6, attributes := #[] }, { accessFlags := 16409, nameIndex := 15, descriptorIndex := 6, attributes := #[] }, { accessFlags := 4122, nameIndex := 18, descriptorIndex := 19, attributes := #[] }])
  fields := #[{ name := "NONE", type := (.object "com/example/derive/derive/LikeWildcards"), accessFlags := 16409, slot := 0, constantValue := 0 }, { name := "AFTER", type := (.object "com/example/derive/derive/LikeWildcards"), accessFlags := 16409, slot := 1, constantValue := 0 }, { name := "BEFORE", type := (.object "com/example/derive/derive/LikeWildcards"), accessFlags := 16409, slot := 2, constantValue := 0 }, { name := "AROUND", type := (.object "com/example/derive/derive/LikeWildcards"), accessFlags := 16409, slot := 3, constantValue := 0 }, { name := "$VALUES", type := (.array (.object "com/example/derive/derive/LikeWildcards")), accessFlags := 4122, slot := 4, constantValue := 0 }]
  methods := #[k10m0, k10m1]
  instanceTypes := #[(.object "java/lang/String"), .int, .int]
  staticTypes := #[(.object "com/example/derive/derive/LikeWildcards"), (.object "com/example/derive/derive/LikeWildcards"), (.object "com/example/derive/derive/LikeWildcards"), (.object "com/example/derive/derive/LikeWildcards"), (.array (.object "com/example/derive/derive/LikeWildcards"))]
  resolved := Array.replicate 85 none
  statics := some 1 }

def pool11 : Array CpInfo := pool [(1, .class_ 2), (0, u "java/lang/String"), (1, .class_ 6), (1, u "java/lang/Object"), (0, u "<init>"), (0, u "()V"), (0, .methodref 1 10), (0, .nameAndType 11 12), (0, u "checkIndex"), (0, u "(II)V"), (1, .class_ 16), (1, u "java/lang/StringLatin1"), (36, u "([BI)C"), (67, u "$assertionsDisabled"), (0, u "Z"), (98, .class_ 223), (1, u "java/lang/StringLatin1$LinesSpliterator"), (28, u "charAt"), (137, .class_ 391), (0, u "java/lang/StringLatin1$CharsSpliterator")] 3

def k11m0 : Method := { name := "<init>", desc := "()V", sig := { parameters := [], returnType := none }, accessFlags := 0, code := none }
def k11c1 : Code := { maxStack := 2, maxLocals := 2, code := jdk_43_method_2_code, exceptionTable := #[], attributes := #[] }
def k11m1 : Method := { name := "charAt", desc := "([BI)C", sig := { parameters := [(.array .byte), .int], returnType := some .char }, accessFlags := 9, code := some k11c1 }
/-- java/lang/StringLatin1 -/
def k11 : Class := { plain "java/lang/StringLatin1" (some 0) with
  accessFlags := 48
  interfaces := #[]
  cf := some (fileOf pool11 14 #[.nestMembers #[390, 221]] #[{ accessFlags := 0, nameIndex := 7, descriptorIndex := 8, attributes := #[] }, { accessFlags := 9, nameIndex := 252, descriptorIndex := 53, attributes := #[] }] 48 4 #[] #[{ accessFlags := 4120, nameIndex := 121, descriptorIndex := 122, attributes := #[] }])
  fields := #[{ name := "$assertionsDisabled", type := .boolean, accessFlags := 4120, slot := 0, constantValue := 0 }]
  methods := #[k11m0, k11m1]
  instanceTypes := #[]
  staticTypes := #[.boolean]
  resolved := Array.replicate 395 none
  statics := none }

def pool12 : Array CpInfo := pool [(2, .class_ 4), (1, u "java/lang/Object"), (0, u "<init>"), (0, u "()V"), (17, .class_ 26), (1, u "jdk/internal/util/Preconditions"), (6, u "checkIndex"), (21, .class_ 56), (0, u "jdk/internal/util/Preconditions$4"), (57, .class_ 115), (0, u "jdk/internal/util/Preconditions$1"), (7, u "SIOOBE_FORMATTER"), (0, u "Ljava/util/function/BiFunction;"), (0, .class_ 126), (0, u "jdk/internal/util/Preconditions$2"), (3, u "AIOOBE_FORMATTER"), (0, .class_ 132), (0, u "jdk/internal/util/Preconditions$3"), (3, u "IOOBE_FORMATTER"), (41, u "(IILjava/util/function/BiFunction;)I")] 15

def k12m0 : Method := { name := "<init>", desc := "()V", sig := { parameters := [], returnType := none }, accessFlags := 1, code := none }
def k12c1 : Code := { maxStack := 3, maxLocals := 3, code := jdk_41_method_11_code, exceptionTable := #[], attributes := #[] }
def k12m1 : Method := { name := "checkIndex", desc := "(IILjava/util/function/BiFunction;)I", sig := { parameters := [.int, .int, (.object "java/util/function/BiFunction")], returnType := some .int }, accessFlags := 9, code := some k12c1 }
/-- jdk/internal/util/Preconditions -/
def k12 : Class := { plain "jdk/internal/util/Preconditions" (some 0) with
  accessFlags := 33
  interfaces := #[]
  cf := some (fileOf pool12 24 #[.nestMembers #[55, 131, 125, 114]] #[{ accessFlags := 1, nameIndex := 5, descriptorIndex := 6, attributes := #[] }, { accessFlags := 9, nameIndex := 33, descriptorIndex := 178, attributes := #[] }] 33 2 #[] #[{ accessFlags := 25, nameIndex := 123, descriptorIndex := 124, attributes := #[] }, { accessFlags := 25, nameIndex := 130, descriptorIndex := 124, attributes := #[] }, { accessFlags := 25, nameIndex := 136, descriptorIndex := 124, attributes := #[] }])
  fields := #[{ name := "SIOOBE_FORMATTER", type := (.object "java/util/function/BiFunction"), accessFlags := 25, slot := 0, constantValue := 0 }, { name := "AIOOBE_FORMATTER", type := (.object "java/util/function/BiFunction"), accessFlags := 25, slot := 1, constantValue := 0 }, { name := "IOOBE_FORMATTER", type := (.object "java/util/function/BiFunction"), accessFlags := 25, slot := 2, constantValue := 0 }]
  methods := #[k12m0, k12m1]
  instanceTypes := #[]
  staticTypes := #[(.object "java/util/function/BiFunction"), (.object "java/util/function/BiFunction"), (.object "java/util/function/BiFunction")]
  resolved := Array.replicate 194 none
  statics := some 2 }

def pool13 : Array CpInfo := pool [(1, .class_ 2), (0, u "java/lang/Appendable"), (0, .class_ 4), (0, u "java/lang/Object")] 9

/-- java/lang/Appendable -/
def k13 : Class := { plain "java/lang/Appendable" (some 0) with
  accessFlags := 1537
  interfaces := #[]
  cf := some (fileOf pool13 1 #[] #[] 1537 3 #[] #[])
  fields := #[]
  methods := #[]
  instanceTypes := #[]
  staticTypes := #[]
  resolved := Array.replicate 14 none
  statics := none }

def pool14 : Array CpInfo := pool [(1, .class_ 2), (0, u "java/lang/String"), (0, .methodref 4 5), (0, .class_ 6), (0, .nameAndType 7 8), (0, u "java/lang/Object"), (0, u "<init>"), (0, u "()V"), (1, .class_ 12), (1, u "java/lang/AbstractStringBuilder"), (0, u "EMPTYVALUE"), (0, u "[B"), (0, .fieldref 10 16), (0, .nameAndType 17 14), (0, u "value"), (0, .fieldref 1 19), (0, .nameAndType 20 21), (0, u "COMPACT_STRINGS"), (0, u "Z"), (0, .fieldref 10 23), (0, .nameAndType 24 25), (0, u "coder"), (0, u "B"), (6, .methodref 1 33), (0, .nameAndType 34 35), (0, u "length"), (0, u "()I"), (4, .methodref 1 41), (0, .nameAndType 24 42), (0, u "()B"), (2, u "append"), (0, u "(Ljava/lang/String;)Ljava/lang/AbstractStringBuilder;"), (1, .class_ 49), (0, u "java/lang/CharSequence"), (19, u "(Ljava/lang/String;)V"), (5, u "maybeLatin1"), (3, .fieldref 10 80), (0, .nameAndType 81 82), (0, u "count"), (0, u "I"), (2, u "isLatin1"), (0, u "()Z"), (13, .methodref 10 101), (0, .nameAndType 102 103), (0, u "ensureCapacityInternal"), (0, u "(I)V"), (104, .methodref 10 209), (0, .nameAndType 210 211), (0, u "putStringAt"), (0, u "(ILjava/lang/String;)V"), (5, u "inflateIfNeededFor"), (2, .nameAndType 221 222), (0, u "getBytes"), (0, u "([BIB)V"), (174, .methodref 10 398), (0, .nameAndType 217 69), (0, .methodref 1 220), (3, u "()[B"), (40, .class_ 445), (0, u "java/lang/Appendable"), (106, u "getValue")] 56

def k14m0 : Method := { name := "<init>", desc := "()V", sig := { parameters := [], returnType := none }, accessFlags := 0, code := none }
def k14c1 : Code := { maxStack := 2, maxLocals := 2, code := jdk_68_method_2_code, exceptionTable := #[], attributes := #[] }
def k14m1 : Method := { name := "<init>", desc := "(I)V", sig := { parameters := [.int], returnType := none }, accessFlags := 0, code := some k14c1 }
def k14c2 : Code := { maxStack := 1, maxLocals := 1, code := jdk_68_method_6_code, exceptionTable := #[], attributes := #[] }
def k14m2 : Method := { name := "length", desc := "()I", sig := { parameters := [], returnType := some .int }, accessFlags := 1, code := some k14c2 }
def k14c3 : Code := { maxStack := 4, maxLocals := 3, code := jdk_68_method_9_code, exceptionTable := #[], attributes := #[] }
def k14m3 : Method := { name := "ensureCapacityInternal", desc := "(I)V", sig := { parameters := [.int], returnType := none }, accessFlags := 2, code := some k14c3 }
def k14c4 : Code := { maxStack := 3, maxLocals := 3, code := jdk_68_method_22_code, exceptionTable := #[], attributes := #[] }
def k14m4 : Method := { name := "append", desc := "(Ljava/lang/String;)Ljava/lang/AbstractStringBuilder;", sig := { parameters := [(.object "java/lang/String")], returnType := some (.object "java/lang/AbstractStringBuilder") }, accessFlags := 1, code := some k14c4 }
def k14c5 : Code := { maxStack := 1, maxLocals := 1, code := jdk_68_method_64_code, exceptionTable := #[], attributes := #[] }
def k14m5 : Method := { name := "getValue", desc := "()[B", sig := { parameters := [], returnType := some (.array .byte) }, accessFlags := 16, code := some k14c5 }
def k14c6 : Code := { maxStack := 1, maxLocals := 1, code := jdk_68_method_68_code, exceptionTable := #[], attributes := #[] }
def k14m6 : Method := { name := "isLatin1", desc := "()Z", sig := { parameters := [], returnType := some .boolean }, accessFlags := 16, code := some k14c6 }
def k14c7 : Code := { maxStack := 2, maxLocals := 2, code := jdk_68_method_71_code, exceptionTable := #[], attributes := #[] }
def k14m7 : Method := { name := "inflateIfNeededFor", desc := "(Ljava/lang/String;)V", sig := { parameters := [(.object "java/lang/String")], returnType := none }, accessFlags := 2, code := some k14c7 }
def k14c8 : Code := { maxStack := 4, maxLocals := 3, code := jdk_68_method_73_code, exceptionTable := #[], attributes := #[] }
def k14m8 : Method := { name := "putStringAt", desc := "(ILjava/lang/String;)V", sig := { parameters := [.int, (.object "java/lang/String")], returnType := none }, accessFlags := 2, code := some k14c8 }
/-- java/lang/AbstractStringBuilder -/
def k14 : Class := { plain "java/lang/AbstractStringBuilder" (some 0) with
  accessFlags := 1056
  interfaces := #[13, 4]
  cf := some (fileOf pool14 10 #[] #[{ accessFlags := 0, nameIndex := 7, descriptorIndex := 8, attributes := #[] }, { accessFlags := 0, nameIndex := 7, descriptorIndex := 103, attributes := #[] }, { accessFlags := 1, nameIndex := 34, descriptorIndex := 35, attributes := #[] }, { accessFlags := 2, nameIndex := 102, descriptorIndex := 103, attributes := #[] }, { accessFlags := 1, nameIndex := 45, descriptorIndex := 46, attributes := #[] }, { accessFlags := 16, nameIndex := 552, descriptorIndex := 403, attributes := #[] }, { accessFlags := 16, nameIndex := 85, descriptorIndex := 86, attributes := #[] }, { accessFlags := 2, nameIndex := 217, descriptorIndex := 69, attributes := #[] }, { accessFlags := 2, nameIndex := 210, descriptorIndex := 211, attributes := #[] }] 1056 4 #[444, 48] #[{ accessFlags := 0, nameIndex := 17, descriptorIndex := 14, attributes := #[] }, { accessFlags := 0, nameIndex := 24, descriptorIndex := 25, attributes := #[] }, { accessFlags := 0, nameIndex := 75, descriptorIndex := 21, attributes := #[] }, { accessFlags := 0, nameIndex := 81, descriptorIndex := 82, attributes := #[] }, { accessFlags := 26, nameIndex := 13, descriptorIndex := 14, attributes := #[] }])
  fields := #[{ name := "value", type := (.array .byte), accessFlags := 0, slot := 0, constantValue := 0 }, { name := "coder", type := .byte, accessFlags := 0, slot := 1, constantValue := 0 }, { name := "maybeLatin1", type := .boolean, accessFlags := 0, slot := 2, constantValue := 0 }, { name := "count", type := .int, accessFlags := 0, slot := 3, constantValue := 0 }, { name := "EMPTYVALUE", type := (.array .byte), accessFlags := 26, slot := 0, constantValue := 0 }]
  methods := #[k14m0, k14m1, k14m2, k14m3, k14m4, k14m5, k14m6, k14m7, k14m8]
  instanceTypes := #[(.array .byte), .byte, .boolean, .int]
  staticTypes := #[(.array .byte)]
  resolved := Array.replicate 609 none
  statics := none }

def pool15 : Array CpInfo := pool [(1, .methodref 2 3), (0, .class_ 4), (0, .nameAndType 5 6), (0, u "java/lang/AbstractStringBuilder"), (0, u "<init>"), (0, u "(I)V"), (11, .class_ 20), (1, u "java/lang/String"), (3, .class_ 26), (1, u "java/lang/StringBuilder"), (0, u "append"), (0, u "(Ljava/lang/String;)Ljava/lang/StringBuilder;"), (0, .methodref 2 30), (0, .nameAndType 27 31), (0, u "(Ljava/lang/String;)Ljava/lang/AbstractStringBuilder;"), (105, .methodref 18 138), (0, .nameAndType 5 139), (0, u "(Ljava/lang/StringBuilder;)V"), (5, u "()V"), (10, u "()I"), (186, .methodref 2 344), (0, .nameAndType 345 156), (0, u "length"), (3, .class_ 350), (0, u "java/lang/Appendable"), (0, .class_ 352), (0, u "java/io/Serializable"), (0, .class_ 354), (0, u "java/lang/Comparable"), (0, .class_ 356), (0, u "java/lang/CharSequence"), (0, u "serialVersionUID"), (0, u "J"), (40, u "toString"), (0, u "()Ljava/lang/String;")] 21

def k15c0 : Code := { maxStack := 2, maxLocals := 1, code := jdk_67_method_1_code, exceptionTable := #[], attributes := #[] }
def k15m0 : Method := { name := "<init>", desc := "()V", sig := { parameters := [], returnType := none }, accessFlags := 1, code := some k15c0 }
def k15c1 : Code := { maxStack := 2, maxLocals := 2, code := jdk_67_method_7_code, exceptionTable := #[], attributes := #[] }
def k15m1 : Method := { name := "append", desc := "(Ljava/lang/String;)Ljava/lang/StringBuilder;", sig := { parameters := [(.object "java/lang/String")], returnType := some (.object "java/lang/StringBuilder") }, accessFlags := 1, code := some k15c1 }
def k15c2 : Code := { maxStack := 3, maxLocals := 1, code := jdk_67_method_42_code, exceptionTable := #[], attributes := #[] }
def k15m2 : Method := { name := "toString", desc := "()Ljava/lang/String;", sig := { parameters := [], returnType := some (.object "java/lang/String") }, accessFlags := 1, code := some k15c2 }
def k15c3 : Code := { maxStack := 1, maxLocals := 1, code := jdk_67_method_93_code, exceptionTable := #[], attributes := #[] }
def k15m3 : Method := { name := "length", desc := "()I", sig := { parameters := [], returnType := some .int }, accessFlags := 4161, code := some k15c3 }
/-- java/lang/StringBuilder -/
def k15 : Class := { plain "java/lang/StringBuilder" (some 14) with
  accessFlags := 49
  interfaces := #[13, 2, 3, 4]
  cf := some (fileOf pool15 24 #[] #[{ accessFlags := 1, nameIndex := 5, descriptorIndex := 145, attributes := #[] }, { accessFlags := 1, nameIndex := 27, descriptorIndex := 28, attributes := #[] }, { accessFlags := 1, nameIndex := 399, descriptorIndex := 400, attributes := #[] }, { accessFlags := 4161, nameIndex := 345, descriptorIndex := 156, attributes := #[] }] 49 2 #[349, 351, 353, 355] #[{ accessFlags := 24, nameIndex := 357, descriptorIndex := 358, attributes := #[] }])
  fields := #[{ name := "serialVersionUID", type := .long, accessFlags := 24, slot := 0, constantValue := 0 }]
  methods := #[k15m0, k15m1, k15m2, k15m3]
  instanceTypes := #[(.array .byte), .byte, .boolean, .int]
  staticTypes := #[.long]
  resolved := Array.replicate 422 none
  statics := none }

def pool16 : Array CpInfo := pool [(2, .class_ 4), (1, u "java/lang/Object"), (0, u "<init>"), (0, u "()V"), (1, .class_ 10), (1, u "java/lang/System"), (0, u "allowSecurityManager"), (0, u "I"), (16, u "cons"), (0, u "Ljava/io/Console;"), (77, .class_ 110), (1, u "java/lang/System$CallersHolder"), (43, u "initialErrStream"), (0, u "Ljava/io/PrintStream;"), (19, u "security"), (0, u "Ljava/lang/SecurityManager;"), (31, .class_ 209), (0, u "java/lang/System$1"), (7, u "props"), (0, u "Ljava/util/Properties;"), (2, u "lineSeparator"), (0, u "Ljava/lang/String;"), (96, .class_ 321), (1, u "java/lang/System$LoggerFinder"), (5, .class_ 328), (0, u "java/lang/System$Logger"), (67, u "err"), (2, u "out"), (91, u "notSupportedJnuEncoding"), (15, u "in"), (17, u "initialIn"), (0, u "Ljava/io/InputStream;"), (35, u "bootLayer"), (0, u "Ljava/lang/ModuleLayer;"), (99, .class_ 664), (0, u "java/lang/System$2"), (9, u "NEVER"), (2, u "MAYBE"), (49, u "arraycopy"), (0, u "(Ljava/lang/Object;ILjava/lang/Object;II)V"), (72, .class_ 802), (0, u "java/lang/System$Logger$Level")] 31

def k16m0 : Method := { name := "<init>", desc := "()V", sig := { parameters := [], returnType := none }, accessFlags := 2, code := none }
def k16m1 : Method := { name := "arraycopy", desc := "(Ljava/lang/Object;ILjava/lang/Object;II)V", sig := { parameters := [(.object "java/lang/Object"), .int, (.object "java/lang/Object"), .int, .int], returnType := none }, accessFlags := 265, code := none }
/-- java/lang/System -/
def k16 : Class := { plain "java/lang/System" (some 0) with
  accessFlags := 49
  interfaces := #[]
  cf := some (fileOf pool16 8 #[.nestMembers #[319, 327, 801, 108, 663, 208]] #[{ accessFlags := 2, nameIndex := 5, descriptorIndex := 6, attributes := #[] }, { accessFlags := 265, nameIndex := 727, descriptorIndex := 728, attributes := #[] }] 49 2 #[] #[{ accessFlags := 25, nameIndex := 507, descriptorIndex := 526, attributes := #[] }, { accessFlags := 25, nameIndex := 399, descriptorIndex := 155, attributes := #[] }, { accessFlags := 25, nameIndex := 396, descriptorIndex := 155, attributes := #[] }, { accessFlags := 10, nameIndex := 525, descriptorIndex := 526, attributes := #[] }, { accessFlags := 26, nameIndex := 674, descriptorIndex := 12, attributes := #[] }, { accessFlags := 26, nameIndex := 677, descriptorIndex := 12, attributes := #[] }, { accessFlags := 10, nameIndex := 11, descriptorIndex := 12, attributes := #[] }, { accessFlags := 74, nameIndex := 175, descriptorIndex := 176, attributes := #[] }, { accessFlags := 10, nameIndex := 491, descriptorIndex := 222, attributes := #[] }, { accessFlags := 74, nameIndex := 29, descriptorIndex := 30, attributes := #[] }, { accessFlags := 74, nameIndex := 154, descriptorIndex := 155, attributes := #[] }, { accessFlags := 10, nameIndex := 217, descriptorIndex := 218, attributes := #[] }, { accessFlags := 10, nameIndex := 221, descriptorIndex := 222, attributes := #[] }, { accessFlags := 8, nameIndex := 562, descriptorIndex := 563, attributes := #[] }])
  fields := #[{ name := "in", type := (.object "java/io/InputStream"), accessFlags := 25, slot := 0, constantValue := 0 }, { name := "out", type := (.object "java/io/PrintStream"), accessFlags := 25, slot := 1, constantValue := 0 }, { name := "err", type := (.object "java/io/PrintStream"), accessFlags := 25, slot := 2, constantValue := 0 }, { name := "initialIn", type := (.object "java/io/InputStream"), accessFlags := 10, slot := 3, constantValue := 0 }, { name := "NEVER", type := .int, accessFlags := 26, slot := 4, constantValue := 0 }, { name := "MAYBE", type := .int, accessFlags := 26, slot := 5, constantValue := 0 }, { name := "allowSecurityManager", type := .int, accessFlags := 10, slot := 6, constantValue := 0 }, { name := "security", type := (.object "java/lang/SecurityManager"), accessFlags := 74, slot := 7, constantValue := 0 }, { name := "notSupportedJnuEncoding", type := (.object "java/lang/String"), accessFlags := 10, slot := 8, constantValue := 0 }, { name := "cons", type := (.object "java/io/Console"), accessFlags := 74, slot := 9, constantValue := 0 }, { name := "initialErrStream", type := (.object "java/io/PrintStream"), accessFlags := 74, slot := 10, constantValue := 0 }, { name := "props", type := (.object "java/util/Properties"), accessFlags := 10, slot := 11, constantValue := 0 }, { name := "lineSeparator", type := (.object "java/lang/String"), accessFlags := 10, slot := 12, constantValue := 0 }, { name := "bootLayer", type := (.object "java/lang/ModuleLayer"), accessFlags := 8, slot := 13, constantValue := 0 }]
  methods := #[k16m0, k16m1]
  instanceTypes := #[]
  staticTypes := #[(.object "java/io/InputStream"), (.object "java/io/PrintStream"), (.object "java/io/PrintStream"), (.object "java/io/InputStream"), .int, .int, .int, (.object "java/lang/SecurityManager"), (.object "java/lang/String"), (.object "java/io/Console"), (.object "java/io/PrintStream"), (.object "java/util/Properties"), (.object "java/lang/String"), (.object "java/lang/ModuleLayer")]
  resolved := Array.replicate 834 none
  statics := none }

def pool17 : Array CpInfo := pool [(2, .class_ 4), (1, u "java/lang/Object"), (0, u "<init>"), (0, u "()V"), (7, .class_ 16), (1, u "java/util/Arrays"), (57, .class_ 76), (1, u "java/util/Arrays$NaturalOrder"), (36, .class_ 115), (1, u "java/util/Arrays$LegacyMergeSort"), (1, u "Z"), (21, u "copyOfRange"), (10, .methodref 151 152), (0, .class_ 153), (0, .nameAndType 154 155), (0, u "java/lang/System"), (0, u "arraycopy"), (0, u "(Ljava/lang/Object;ILjava/lang/Object;II)V"), (148, .methodref 305 306), (0, .class_ 307), (0, .nameAndType 308 309), (0, u "java/lang/Math"), (0, u "min"), (0, u "(II)I"), (29, .methodref 14 340), (0, .nameAndType 341 342), (0, u "copyOfRangeByte"), (0, u "([BII)[B"), (0, .methodref 14 344), (0, .nameAndType 345 346), (0, u "checkLength"), (0, u "(II)V"), (28, .class_ 376), (0, u "java/util/Arrays$ArrayList"), (68, u "$assertionsDisabled"), (269, u "MIN_ARRAY_SORT_GRAN"), (0, u "I"), (2, u "INSERTIONSORT_THRESHOLD"), (255, .class_ 976), (0, u "java/util/Arrays$ArrayItr")] 52

def k17m0 : Method := { name := "<init>", desc := "()V", sig := { parameters := [], returnType := none }, accessFlags := 2, code := none }
def k17c1 : Code := { maxStack := 4, maxLocals := 2, code := jdk_65_method_131_code, exceptionTable := #[], attributes := #[] }
def k17m1 : Method := { name := "checkLength", desc := "(II)V", sig := { parameters := [.int, .int], returnType := none }, accessFlags := 10, code := some k17c1 }
def k17c2 : Code := { maxStack := 3, maxLocals := 3, code := jdk_65_method_132_code, exceptionTable := #[], attributes := #[] }
def k17m2 : Method := { name := "copyOfRange", desc := "([BII)[B", sig := { parameters := [(.array .byte), .int, .int], returnType := some (.array .byte) }, accessFlags := 9, code := some k17c2 }
def k17c3 : Code := { maxStack := 6, maxLocals := 5, code := jdk_65_method_133_code, exceptionTable := #[], attributes := #[] }
def k17m3 : Method := { name := "copyOfRangeByte", desc := "([BII)[B", sig := { parameters := [(.array .byte), .int, .int], returnType := some (.array .byte) }, accessFlags := 10, code := some k17c3 }
/-- java/util/Arrays -/
def k17 : Class := { plain "java/util/Arrays" (some 0) with
  accessFlags := 49
  interfaces := #[]
  cf := some (fileOf pool17 14 #[.nestMembers #[975, 375, 113, 74]] #[{ accessFlags := 2, nameIndex := 5, descriptorIndex := 6, attributes := #[] }, { accessFlags := 10, nameIndex := 345, descriptorIndex := 346, attributes := #[] }, { accessFlags := 9, nameIndex := 139, descriptorIndex := 342, attributes := #[] }, { accessFlags := 10, nameIndex := 341, descriptorIndex := 342, attributes := #[] }] 49 2 #[] #[{ accessFlags := 26, nameIndex := 715, descriptorIndex := 716, attributes := #[] }, { accessFlags := 26, nameIndex := 719, descriptorIndex := 716, attributes := #[] }, { accessFlags := 4120, nameIndex := 445, descriptorIndex := 117, attributes := #[] }])
  fields := #[{ name := "MIN_ARRAY_SORT_GRAN", type := .int, accessFlags := 26, slot := 0, constantValue := 0 }, { name := "INSERTIONSORT_THRESHOLD", type := .int, accessFlags := 26, slot := 1, constantValue := 0 }, { name := "$assertionsDisabled", type := .boolean, accessFlags := 4120, slot := 2, constantValue := 0 }]
  methods := #[k17m0, k17m1, k17m2, k17m3]
  instanceTypes := #[]
  staticTypes := #[.int, .int, .boolean]
  resolved := Array.replicate 1029 none
  statics := none }

def pool18 : Array CpInfo := pool [(1, .class_ 2), (0, u "java/lang/Math"), (1, .class_ 6), (1, u "java/lang/Object"), (0, u "<init>"), (0, u "()V"), (89, .class_ 100), (1, u "java/lang/Math$RandomNumberGeneratorHolder"), (71, u "negativeZeroFloatBits"), (0, u "J"), (2, u "negativeZeroDoubleBits"), (24, u "min"), (43, u "$assertionsDisabled"), (0, u "Z"), (88, u "(II)I"), (2, u "twoToTheDoubleScaleDown"), (0, u "D"), (4, u "twoToTheDoubleScaleUp"), (9, u "E"), (3, u "PI"), (2, u "TAU"), (2, u "DEGREES_TO_RADIANS"), (0, u "RADIANS_TO_DEGREES")] 94

def k18m0 : Method := { name := "<init>", desc := "()V", sig := { parameters := [], returnType := none }, accessFlags := 2, code := none }
def k18c1 : Code := { maxStack := 2, maxLocals := 2, code := jdk_29_method_69_code, exceptionTable := #[], attributes := #[] }
def k18m1 : Method := { name := "min", desc := "(II)I", sig := { parameters := [.int, .int], returnType := some .int }, accessFlags := 9, code := some k18c1 }
/-- java/lang/Math -/
def k18 : Class := { plain "java/lang/Math" (some 0) with
  accessFlags := 49
  interfaces := #[]
  cf := some (fileOf pool18 1 #[.nestMembers #[98]] #[{ accessFlags := 2, nameIndex := 7, descriptorIndex := 8, attributes := #[] }, { accessFlags := 9, nameIndex := 201, descriptorIndex := 335, attributes := #[] }] 49 4 #[] #[{ accessFlags := 25, nameIndex := 354, descriptorIndex := 339, attributes := #[] }, { accessFlags := 25, nameIndex := 358, descriptorIndex := 339, attributes := #[] }, { accessFlags := 25, nameIndex := 361, descriptorIndex := 339, attributes := #[] }, { accessFlags := 26, nameIndex := 364, descriptorIndex := 339, attributes := #[] }, { accessFlags := 26, nameIndex := 365, descriptorIndex := 339, attributes := #[] }, { accessFlags := 26, nameIndex := 172, descriptorIndex := 173, attributes := #[] }, { accessFlags := 26, nameIndex := 176, descriptorIndex := 173, attributes := #[] }, { accessFlags := 8, nameIndex := 344, descriptorIndex := 339, attributes := #[] }, { accessFlags := 8, nameIndex := 338, descriptorIndex := 339, attributes := #[] }, { accessFlags := 4120, nameIndex := 245, descriptorIndex := 246, attributes := #[] }])
  fields := #[{ name := "E", type := .double, accessFlags := 25, slot := 0, constantValue := 0 }, { name := "PI", type := .double, accessFlags := 25, slot := 1, constantValue := 0 }, { name := "TAU", type := .double, accessFlags := 25, slot := 2, constantValue := 0 }, { name := "DEGREES_TO_RADIANS", type := .double, accessFlags := 26, slot := 3, constantValue := 0 }, { name := "RADIANS_TO_DEGREES", type := .double, accessFlags := 26, slot := 4, constantValue := 0 }, { name := "negativeZeroFloatBits", type := .long, accessFlags := 26, slot := 5, constantValue := 0 }, { name := "negativeZeroDoubleBits", type := .long, accessFlags := 26, slot := 6, constantValue := 0 }, { name := "twoToTheDoubleScaleUp", type := .double, accessFlags := 8, slot := 7, constantValue := 0 }, { name := "twoToTheDoubleScaleDown", type := .double, accessFlags := 8, slot := 8, constantValue := 0 }, { name := "$assertionsDisabled", type := .boolean, accessFlags := 4120, slot := 9, constantValue := 0 }]
  methods := #[k18m0, k18m1]
  instanceTypes := #[]
  staticTypes := #[.double, .double, .double, .double, .double, .long, .long, .double, .double, .boolean]
  resolved := Array.replicate 460 none
  statics := none }

def pool19 : Array CpInfo := pool [(9, u "<init>"), (6, .class_ 18), (1, u "java/lang/Object"), (0, u "()V"), (1, .class_ 23), (1, u "jdk/internal/util/ArraysSupport"), (0, u "LOG2_ARRAY_LONG_INDEX_SCALE"), (0, u "I"), (2, u "U"), (0, u "Ljdk/internal/misc/Unsafe;"), (8, u "BIG_ENDIAN"), (0, u "Z"), (8, u "LOG2_BYTE_BIT_SIZE"), (4, u "LOG2_ARRAY_INT_INDEX_SCALE"), (54, u "JLA"), (0, u "Ljdk/internal/access/JavaLangAccess;"), (11, u "LOG2_ARRAY_BOOLEAN_INDEX_SCALE"), (9, u "LOG2_ARRAY_BYTE_INDEX_SCALE"), (5, u "LOG2_ARRAY_CHAR_INDEX_SCALE"), (5, u "LOG2_ARRAY_SHORT_INDEX_SCALE"), (18, u "LOG2_ARRAY_FLOAT_INDEX_SCALE"), (24, u "LOG2_ARRAY_DOUBLE_INDEX_SCALE"), (89, u "T_BOOLEAN"), (2, u "T_CHAR"), (1, u "T_FLOAT"), (1, u "T_DOUBLE"), (1, u "T_BYTE"), (1, u "T_SHORT"), (1, u "T_INT"), (1, u "T_LONG"), (1, u "SOFT_MAX_ARRAY_LENGTH")] 83

def k19m0 : Method := { name := "<init>", desc := "()V", sig := { parameters := [], returnType := none }, accessFlags := 2, code := none }
/-- jdk/internal/util/ArraysSupport -/
def k19 : Class := { plain "jdk/internal/util/ArraysSupport" (some 0) with
  accessFlags := 33
  interfaces := #[]
  cf := some (fileOf pool19 21 #[] #[{ accessFlags := 2, nameIndex := 9, descriptorIndex := 19, attributes := #[] }] 33 16 #[] #[{ accessFlags := 24, nameIndex := 28, descriptorIndex := 29, attributes := #[] }, { accessFlags := 26, nameIndex := 38, descriptorIndex := 39, attributes := #[] }, { accessFlags := 25, nameIndex := 121, descriptorIndex := 25, attributes := #[] }, { accessFlags := 25, nameIndex := 131, descriptorIndex := 25, attributes := #[] }, { accessFlags := 25, nameIndex := 137, descriptorIndex := 25, attributes := #[] }, { accessFlags := 25, nameIndex := 143, descriptorIndex := 25, attributes := #[] }, { accessFlags := 25, nameIndex := 53, descriptorIndex := 25, attributes := #[] }, { accessFlags := 25, nameIndex := 24, descriptorIndex := 25, attributes := #[] }, { accessFlags := 25, nameIndex := 162, descriptorIndex := 25, attributes := #[] }, { accessFlags := 25, nameIndex := 187, descriptorIndex := 25, attributes := #[] }, { accessFlags := 26, nameIndex := 48, descriptorIndex := 25, attributes := #[] }, { accessFlags := 25, nameIndex := 277, descriptorIndex := 25, attributes := #[] }, { accessFlags := 25, nameIndex := 280, descriptorIndex := 25, attributes := #[] }, { accessFlags := 25, nameIndex := 282, descriptorIndex := 25, attributes := #[] }, { accessFlags := 25, nameIndex := 284, descriptorIndex := 25, attributes := #[] }, { accessFlags := 25, nameIndex := 286, descriptorIndex := 25, attributes := #[] }, { accessFlags := 25, nameIndex := 288, descriptorIndex := 25, attributes := #[] }, { accessFlags := 25, nameIndex := 290, descriptorIndex := 25, attributes := #[] }, { accessFlags := 25, nameIndex := 292, descriptorIndex := 25, attributes := #[] }, { accessFlags := 26, nameIndex := 108, descriptorIndex := 109, attributes := #[] }, { accessFlags := 25, nameIndex := 294, descriptorIndex := 25, attributes := #[] }])
  fields := #[{ name := "U", type := (.object "jdk/internal/misc/Unsafe"), accessFlags := 24, slot := 0, constantValue := 0 }, { name := "BIG_ENDIAN", type := .boolean, accessFlags := 26, slot := 1, constantValue := 0 }, { name := "LOG2_ARRAY_BOOLEAN_INDEX_SCALE", type := .int, accessFlags := 25, slot := 2, constantValue := 0 }, { name := "LOG2_ARRAY_BYTE_INDEX_SCALE", type := .int, accessFlags := 25, slot := 3, constantValue := 0 }, { name := "LOG2_ARRAY_CHAR_INDEX_SCALE", type := .int, accessFlags := 25, slot := 4, constantValue := 0 }, { name := "LOG2_ARRAY_SHORT_INDEX_SCALE", type := .int, accessFlags := 25, slot := 5, constantValue := 0 }, { name := "LOG2_ARRAY_INT_INDEX_SCALE", type := .int, accessFlags := 25, slot := 6, constantValue := 0 }, { name := "LOG2_ARRAY_LONG_INDEX_SCALE", type := .int, accessFlags := 25, slot := 7, constantValue := 0 }, { name := "LOG2_ARRAY_FLOAT_INDEX_SCALE", type := .int, accessFlags := 25, slot := 8, constantValue := 0 }, { name := "LOG2_ARRAY_DOUBLE_INDEX_SCALE", type := .int, accessFlags := 25, slot := 9, constantValue := 0 }, { name := "LOG2_BYTE_BIT_SIZE", type := .int, accessFlags := 26, slot := 10, constantValue := 0 }, { name := "T_BOOLEAN", type := .int, accessFlags := 25, slot := 11, constantValue := 0 }, { name := "T_CHAR", type := .int, accessFlags := 25, slot := 12, constantValue := 0 }, { name := "T_FLOAT", type := .int, accessFlags := 25, slot := 13, constantValue := 0 }, { name := "T_DOUBLE", type := .int, accessFlags := 25, slot := 14, constantValue := 0 }, { name := "T_BYTE", type := .int, accessFlags := 25, slot := 15, constantValue := 0 }, { name := "T_SHORT", type := .int, accessFlags := 25, slot := 16, constantValue := 0 }, { name := "T_INT", type := .int, accessFlags := 25, slot := 17, constantValue := 0 }, { name := "T_LONG", type := .int, accessFlags := 25, slot := 18, constantValue := 0 }, { name := "JLA", type := (.object "jdk/internal/access/JavaLangAccess"), accessFlags := 26, slot := 19, constantValue := 0 }, { name := "SOFT_MAX_ARRAY_LENGTH", type := .int, accessFlags := 25, slot := 20, constantValue := 0 }]
  methods := #[k19m0]
  instanceTypes := #[]
  staticTypes := #[(.object "jdk/internal/misc/Unsafe"), .boolean, .int, .int, .int, .int, .int, .int, .int, .int, .int, .int, .int, .int, .int, .int, .int, .int, .int, (.object "jdk/internal/access/JavaLangAccess"), .int]
  resolved := Array.replicate 378 none
  statics := none }

def pool20 : Array CpInfo := pool [(1, u "java/lang/Cloneable"), (0, .class_ 1), (0, u "java/lang/Object"), (0, .class_ 3)] 3

/-- java/lang/Cloneable -/
def k20 : Class := { plain "java/lang/Cloneable" (some 0) with
  accessFlags := 1537
  interfaces := #[]
  cf := some (fileOf pool20 2 #[] #[] 1537 4 #[] #[])
  fields := #[]
  methods := #[]
  instanceTypes := #[]
  staticTypes := #[]
  resolved := Array.replicate 8 none
  statics := none }

/-- the primitive byte -/
def k21 : Class := { plain "byte" none with kind := .primitive 'B', accessFlags := 0x411 }
/-- [B -/
def k22 : Class := { plain "[B" (some 0) with kind := .array 21 .byte, interfaces := #[20, 2], accessFlags := 1041 }

/-- the primitive char -/
def k23 : Class := { plain "char" none with kind := .primitive 'C', accessFlags := 0x411 }
/-- [C -/
def k24 : Class := { plain "[C" (some 0) with kind := .array 23 .char, interfaces := #[20, 2], accessFlags := 1041 }

/-- the primitive int -/
def k25 : Class := { plain "int" none with kind := .primitive 'I', accessFlags := 0x411 }
/-- [I -/
def k26 : Class := { plain "[I" (some 0) with kind := .array 25 .int, interfaces := #[20, 2], accessFlags := 1041 }

def heap : Heap := #[{ cls := 7, slots := #[.long 0, .int 1, .null, .int 0, .null, .int 0, .int 0], vm := .statics 7 },
  { cls := 10, slots := #[.ref 3, .ref 4, .ref 5, .ref 6, .null], vm := .statics 10 },
  { cls := 12, slots := #[.null, .null, .null], vm := .statics 12 },
  { cls := 10, slots := #[.null, .int 0, .int 0], vm := .none },
  { cls := 10, slots := #[.null, .int 1, .int 0], vm := .none },
  { cls := 10, slots := #[.null, .int 2, .int 0], vm := .none },
  { cls := 10, slots := #[.null, .int 3, .int 0], vm := .none }]
def classes : Array Class := #[k0, k1, k2, k3, k4, k5, k6, k7, k8, k9, k10, k11, k12, k13, k14, k15, k16, k17, k18, k19, k20, k21, k22, k23, k24, k25, k26]
def interned : List (Array UInt16 × Addr) := []
def slotsUsed : Nat := 27
def theMethod : MethodId := ⟨1, 1⟩
def args0 : Array Value := #[.int 5, .int 5]
def aboutOver (below : List Frame) : State where
  vm := { classes := classes, interned := interned.toArray }
  heap := heap
  slotsUsed := slotsUsed
  threads := #[{ frames := .invoking theMethod args0 :: below }]
def below0 : List Frame := [.native { method := ⟨0, 0⟩, args := #[] }]
def about1 : State := aboutOver below0
def p0 : Program := .bare "" "" ""
def e0 : Env := launch0.env 0 0 0
theorem w_frames : about1.frames = Frame.invoking theMethod args0 :: below0 := rfl
set_option maxRecDepth 65536 in
theorem w_args : argsFit about1.vm theMethod args0 = true := by decide +kernel
set_option maxRecDepth 65536 in
theorem w_heap : heapFits about1 = true := by decide +kernel
set_option maxRecDepth 65536 in
theorem w_runnable : about1.curStatus? = some .runnable := by decide +kernel
set_option maxRecDepth 65536 in
theorem w_alone : about1.alone = true := by decide +kernel
set_option maxRecDepth 65536 in
theorem w_named : about1.methodNamed? x = some theMethod := by decide +kernel
set_option maxRecDepth 65536 in
theorem w_hears : about1.hears theMethod below0 = true := by decide +kernel
set_option maxRecDepth 65536 in
theorem w_ripe : about1.ripe theMethod args0 below0 = true := by decide +kernel
theorem w_running : about1.status = .running := rfl
set_option maxRecDepth 65536 in
theorem w_room : about1.hasRoom e0.platform room_1 = true :=
  launch0.hasRoom_least _ room_1 (by decide +kernel) (by decide +kernel) (by decide +kernel) (by decide +kernel) (by decide +kernel) (by decide +kernel)
theorem allAtoms_all (ts : List Jvm.Cond) (a : Array Jvm.Value) (st : Jvm.State) : (allAtoms ts).before a st = ts.all (fun c => c.before a st) := by
  induction ts with
  | nil => rfl
  | cons c t ih =>
    show (Jvm.Cond.and c (allAtoms t)).before a st = _
    rw [Jvm.Cond.before_and, ih, List.all_cons]
def words1 : List Jvm.Cond := Jvm.Cond.code x code maxLocals ret :: tables_1
/-- a 'code' word, met by the world's own term for the bytes: nothing is compared byte by byte -/
theorem code_word {y : MethodName} {bytes : ByteArray} {mx : Nat} {rt : Option FieldType} {a : Array Value} {s : State} {m : MethodId} {meth : Method} {c : Code} (h1 : s.methodNamed? y = some m) (h2 : s.vm.method? m = some meth) (h3 : meth.code = some c) (h4 : c.code = bytes)
    (h5 : (c.maxLocals == mx && c.exceptionTable.isEmpty && decide (c.maxStack ≤ mostOperands) && decide (meth.sig.returnType = rt) && !meth.locks && decide (parseMethodDescriptor y.desc = some meth.sig)) = true) : (Jvm.Cond.code y bytes mx rt).before a s = true := by
  simp only [Bool.and_eq_true, beq_iff_eq, Bool.not_eq_true', decide_eq_true_eq] at h5
  obtain ⟨⟨⟨⟨⟨g1, g2⟩, g3⟩, g4⟩, g5⟩, g6⟩ := h5
  simp [Cond.before, Cond.holds, Cond.value, h1, h2, h3, h4, g1, g2, g3, g4, g5, g6]
def isCode : Jvm.Cond → Bool
  | .code _ _ _ _ => true
  | _ => false
theorem all_split {L : List Jvm.Cond} {P : Jvm.Cond → Bool} (h1 : L.all (fun c => isCode c || P c) = true) (h2 : ∀ c ∈ L.filter isCode, P c = true) : L.all P = true := by
  refine List.all_eq_true.mpr fun c hc => ?_
  have h := List.all_eq_true.mp h1 c hc
  rcases Bool.eq_false_or_eq_true (isCode c) with hi | hi
  · exact h2 c (List.mem_filter.mpr ⟨hc, hi⟩)
  · simpa [hi] using h
set_option maxRecDepth 65536 in
theorem w_c0 : (Jvm.Cond.code x code maxLocals ret).before args0 about1 = true := code_word (m := ⟨1, 1⟩) (meth := k1m1) (c := k1c1) (by decide +kernel) rfl rfl rfl (by decide +kernel)
set_option maxRecDepth 65536 in
theorem w_c1 : (Jvm.Cond.code ({ cls := "java/lang/String", name := "<init>", desc := "([C)V" } : Jvm.MethodName) jdk_42_method_3_code (2 : Nat) (Option.none : Option Jvm.ClassFile.FieldType)).before args0 about1 = true := code_word (m := ⟨7, 1⟩) (meth := k7m1) (c := k7c1) (by decide +kernel) rfl rfl rfl (by decide +kernel)
set_option maxRecDepth 65536 in
theorem w_c2 : (Jvm.Cond.code ({ cls := "java/lang/String", name := "<init>", desc := "([CIILjava/lang/Void;)V" } : Jvm.MethodName) jdk_42_method_149_code (6 : Nat) (Option.none : Option Jvm.ClassFile.FieldType)).before args0 about1 = true := code_word (m := ⟨7, 6⟩) (meth := k7m6) (c := k7c6) (by decide +kernel) rfl rfl rfl (by decide +kernel)
set_option maxRecDepth 65536 in
theorem w_c3 : (Jvm.Cond.code ({ cls := "java/lang/Object", name := "<init>", desc := "()V" } : Jvm.MethodName) object_method_1_code (1 : Nat) (Option.none : Option Jvm.ClassFile.FieldType)).before args0 about1 = true := code_word (m := ⟨0, 0⟩) (meth := k0m0) (c := k0c0) (by decide +kernel) rfl rfl rfl (by decide +kernel)
set_option maxRecDepth 65536 in
theorem w_c4 : (Jvm.Cond.code ({ cls := "java/lang/StringUTF16", name := "compress", desc := "([CII)[B" } : Jvm.MethodName) jdk_52_method_16_code (6 : Nat) (Option.some (Jvm.ClassFile.FieldType.array Jvm.ClassFile.FieldType.byte))).before args0 about1 = true := code_word (m := ⟨8, 2⟩) (meth := k8m2) (c := k8c2) (by decide +kernel) rfl rfl rfl (by decide +kernel)
set_option maxRecDepth 65536 in
theorem w_c5 : (Jvm.Cond.code ({ cls := "java/lang/StringUTF16", name := "compress", desc := "([CI[BII)I" } : Jvm.MethodName) jdk_52_method_21_code (7 : Nat) (Option.some Jvm.ClassFile.FieldType.int)).before args0 about1 = true := code_word (m := ⟨8, 3⟩) (meth := k8m3) (c := k8c3) (by decide +kernel) rfl rfl rfl (by decide +kernel)
set_option maxRecDepth 65536 in
theorem w_c6 : (Jvm.Cond.code ({ cls := "java/lang/StringUTF16", name := "coderFromArrayLen", desc := "([BI)B" } : Jvm.MethodName) jdk_52_method_15_code (2 : Nat) (Option.some Jvm.ClassFile.FieldType.byte)).before args0 about1 = true := code_word (m := ⟨8, 1⟩) (meth := k8m1) (c := k8c1) (by decide +kernel) rfl rfl rfl (by decide +kernel)
set_option maxRecDepth 65536 in
theorem w_c7 : (Jvm.Cond.code ({ cls := "com/example/derive/derive/LikeWildcards", name := "of", desc := "(ZZ)Lcom/example/derive/derive/LikeWildcards;" } : Jvm.MethodName) prog_8_method_4_code (2 : Nat) (Option.some (Jvm.ClassFile.FieldType.object "com/example/derive/derive/LikeWildcards"))).before args0 about1 = true := code_word (m := ⟨10, 0⟩) (meth := k10m0) (c := k10c0) (by decide +kernel) rfl rfl rfl (by decide +kernel)
set_option maxRecDepth 65536 in
theorem w_c8 : (Jvm.Cond.code ({ cls := "com/example/derive/derive/LikeWildcards", name := "addTo", desc := "(Ljava/lang/String;)Ljava/lang/String;" } : Jvm.MethodName) prog_8_method_5_code (2 : Nat) (Option.some (Jvm.ClassFile.FieldType.object "java/lang/String"))).before args0 about1 = true := code_word (m := ⟨10, 1⟩) (meth := k10m1) (c := k10c1) (by decide +kernel) rfl rfl rfl (by decide +kernel)
set_option maxRecDepth 65536 in
theorem w_c9 : (Jvm.Cond.code ({ cls := "java/lang/Enum", name := "ordinal", desc := "()I" } : Jvm.MethodName) jdk_37_method_2_code (1 : Nat) (Option.some Jvm.ClassFile.FieldType.int)).before args0 about1 = true := code_word (m := ⟨9, 0⟩) (meth := k9m0) (c := k9c0) (by decide +kernel) rfl rfl rfl (by decide +kernel)
set_option maxRecDepth 65536 in
theorem w_c10 : (Jvm.Cond.code ({ cls := "java/lang/String", name := "length", desc := "()I" } : Jvm.MethodName) jdk_42_method_54_code (1 : Nat) (Option.some Jvm.ClassFile.FieldType.int)).before args0 about1 = true := code_word (m := ⟨7, 3⟩) (meth := k7m3) (c := k7c3) (by decide +kernel) rfl rfl rfl (by decide +kernel)
set_option maxRecDepth 65536 in
theorem w_c11 : (Jvm.Cond.code ({ cls := "java/lang/String", name := "coder", desc := "()B" } : Jvm.MethodName) jdk_42_method_152_code (1 : Nat) (Option.some Jvm.ClassFile.FieldType.byte)).before args0 about1 = true := code_word (m := ⟨7, 8⟩) (meth := k7m8) (c := k7c8) (by decide +kernel) rfl rfl rfl (by decide +kernel)
set_option maxRecDepth 65536 in
theorem w_c12 : (Jvm.Cond.code ({ cls := "java/lang/String", name := "charAt", desc := "(I)C" } : Jvm.MethodName) jdk_42_method_56_code (2 : Nat) (Option.some Jvm.ClassFile.FieldType.char)).before args0 about1 = true := code_word (m := ⟨7, 4⟩) (meth := k7m4) (c := k7c4) (by decide +kernel) rfl rfl rfl (by decide +kernel)
set_option maxRecDepth 65536 in
theorem w_c13 : (Jvm.Cond.code ({ cls := "java/lang/String", name := "isLatin1", desc := "()Z" } : Jvm.MethodName) jdk_42_method_154_code (1 : Nat) (Option.some Jvm.ClassFile.FieldType.boolean)).before args0 about1 = true := code_word (m := ⟨7, 9⟩) (meth := k7m9) (c := k7c9) (by decide +kernel) rfl rfl rfl (by decide +kernel)
set_option maxRecDepth 65536 in
theorem w_c14 : (Jvm.Cond.code ({ cls := "java/lang/StringLatin1", name := "charAt", desc := "([BI)C" } : Jvm.MethodName) jdk_43_method_2_code (2 : Nat) (Option.some Jvm.ClassFile.FieldType.char)).before args0 about1 = true := code_word (m := ⟨11, 1⟩) (meth := k11m1) (c := k11c1) (by decide +kernel) rfl rfl rfl (by decide +kernel)
set_option maxRecDepth 65536 in
theorem w_c15 : (Jvm.Cond.code ({ cls := "java/lang/String", name := "checkIndex", desc := "(II)V" } : Jvm.MethodName) jdk_42_method_155_code (2 : Nat) (Option.none : Option Jvm.ClassFile.FieldType)).before args0 about1 = true := code_word (m := ⟨7, 10⟩) (meth := k7m10) (c := k7c10) (by decide +kernel) rfl rfl rfl (by decide +kernel)
set_option maxRecDepth 65536 in
theorem w_c16 : (Jvm.Cond.code ({ cls := "jdk/internal/util/Preconditions", name := "checkIndex", desc := "(IILjava/util/function/BiFunction;)I" } : Jvm.MethodName) jdk_41_method_11_code (3 : Nat) (Option.some Jvm.ClassFile.FieldType.int)).before args0 about1 = true := code_word (m := ⟨12, 1⟩) (meth := k12m1) (c := k12c1) (by decide +kernel) rfl rfl rfl (by decide +kernel)
set_option maxRecDepth 65536 in
theorem w_c17 : (Jvm.Cond.code ({ cls := "java/lang/StringBuilder", name := "<init>", desc := "()V" } : Jvm.MethodName) jdk_67_method_1_code (1 : Nat) (Option.none : Option Jvm.ClassFile.FieldType)).before args0 about1 = true := code_word (m := ⟨15, 0⟩) (meth := k15m0) (c := k15c0) (by decide +kernel) rfl rfl rfl (by decide +kernel)
set_option maxRecDepth 65536 in
theorem w_c18 : (Jvm.Cond.code ({ cls := "java/lang/AbstractStringBuilder", name := "<init>", desc := "(I)V" } : Jvm.MethodName) jdk_68_method_2_code (2 : Nat) (Option.none : Option Jvm.ClassFile.FieldType)).before args0 about1 = true := code_word (m := ⟨14, 1⟩) (meth := k14m1) (c := k14c1) (by decide +kernel) rfl rfl rfl (by decide +kernel)
set_option maxRecDepth 65536 in
theorem w_c19 : (Jvm.Cond.code ({ cls := "java/lang/StringBuilder", name := "append", desc := "(Ljava/lang/String;)Ljava/lang/StringBuilder;" } : Jvm.MethodName) jdk_67_method_7_code (2 : Nat) (Option.some (Jvm.ClassFile.FieldType.object "java/lang/StringBuilder"))).before args0 about1 = true := code_word (m := ⟨15, 1⟩) (meth := k15m1) (c := k15c1) (by decide +kernel) rfl rfl rfl (by decide +kernel)
set_option maxRecDepth 65536 in
theorem w_c20 : (Jvm.Cond.code ({ cls := "java/lang/AbstractStringBuilder", name := "append", desc := "(Ljava/lang/String;)Ljava/lang/AbstractStringBuilder;" } : Jvm.MethodName) jdk_68_method_22_code (3 : Nat) (Option.some (Jvm.ClassFile.FieldType.object "java/lang/AbstractStringBuilder"))).before args0 about1 = true := code_word (m := ⟨14, 4⟩) (meth := k14m4) (c := k14c4) (by decide +kernel) rfl rfl rfl (by decide +kernel)
set_option maxRecDepth 65536 in
theorem w_c21 : (Jvm.Cond.code ({ cls := "java/lang/AbstractStringBuilder", name := "ensureCapacityInternal", desc := "(I)V" } : Jvm.MethodName) jdk_68_method_9_code (3 : Nat) (Option.none : Option Jvm.ClassFile.FieldType)).before args0 about1 = true := code_word (m := ⟨14, 3⟩) (meth := k14m3) (c := k14c3) (by decide +kernel) rfl rfl rfl (by decide +kernel)
set_option maxRecDepth 65536 in
theorem w_c22 : (Jvm.Cond.code ({ cls := "java/lang/AbstractStringBuilder", name := "putStringAt", desc := "(ILjava/lang/String;)V" } : Jvm.MethodName) jdk_68_method_73_code (3 : Nat) (Option.none : Option Jvm.ClassFile.FieldType)).before args0 about1 = true := code_word (m := ⟨14, 8⟩) (meth := k14m8) (c := k14c8) (by decide +kernel) rfl rfl rfl (by decide +kernel)
set_option maxRecDepth 65536 in
theorem w_c23 : (Jvm.Cond.code ({ cls := "java/lang/AbstractStringBuilder", name := "inflateIfNeededFor", desc := "(Ljava/lang/String;)V" } : Jvm.MethodName) jdk_68_method_71_code (2 : Nat) (Option.none : Option Jvm.ClassFile.FieldType)).before args0 about1 = true := code_word (m := ⟨14, 7⟩) (meth := k14m7) (c := k14c7) (by decide +kernel) rfl rfl rfl (by decide +kernel)
set_option maxRecDepth 65536 in
theorem w_c24 : (Jvm.Cond.code ({ cls := "java/lang/String", name := "getBytes", desc := "([BIB)V" } : Jvm.MethodName) jdk_42_method_147_code (4 : Nat) (Option.none : Option Jvm.ClassFile.FieldType)).before args0 about1 = true := code_word (m := ⟨7, 5⟩) (meth := k7m5) (c := k7c5) (by decide +kernel) rfl rfl rfl (by decide +kernel)
set_option maxRecDepth 65536 in
theorem w_c25 : (Jvm.Cond.code ({ cls := "java/lang/StringBuilder", name := "toString", desc := "()Ljava/lang/String;" } : Jvm.MethodName) jdk_67_method_42_code (1 : Nat) (Option.some (Jvm.ClassFile.FieldType.object "java/lang/String"))).before args0 about1 = true := code_word (m := ⟨15, 2⟩) (meth := k15m2) (c := k15c2) (by decide +kernel) rfl rfl rfl (by decide +kernel)
set_option maxRecDepth 65536 in
theorem w_c26 : (Jvm.Cond.code ({ cls := "java/lang/String", name := "<init>", desc := "(Ljava/lang/StringBuilder;)V" } : Jvm.MethodName) jdk_42_method_53_code (2 : Nat) (Option.none : Option Jvm.ClassFile.FieldType)).before args0 about1 = true := code_word (m := ⟨7, 2⟩) (meth := k7m2) (c := k7c2) (by decide +kernel) rfl rfl rfl (by decide +kernel)
set_option maxRecDepth 65536 in
theorem w_c27 : (Jvm.Cond.code ({ cls := "java/lang/String", name := "<init>", desc := "(Ljava/lang/AbstractStringBuilder;Ljava/lang/Void;)V" } : Jvm.MethodName) jdk_42_method_150_code (5 : Nat) (Option.none : Option Jvm.ClassFile.FieldType)).before args0 about1 = true := code_word (m := ⟨7, 7⟩) (meth := k7m7) (c := k7c7) (by decide +kernel) rfl rfl rfl (by decide +kernel)
set_option maxRecDepth 65536 in
theorem w_c28 : (Jvm.Cond.code ({ cls := "java/lang/AbstractStringBuilder", name := "getValue", desc := "()[B" } : Jvm.MethodName) jdk_68_method_64_code (1 : Nat) (Option.some (Jvm.ClassFile.FieldType.array Jvm.ClassFile.FieldType.byte))).before args0 about1 = true := code_word (m := ⟨14, 5⟩) (meth := k14m5) (c := k14c5) (by decide +kernel) rfl rfl rfl (by decide +kernel)
set_option maxRecDepth 65536 in
theorem w_c29 : (Jvm.Cond.code ({ cls := "java/lang/StringBuilder", name := "length", desc := "()I" } : Jvm.MethodName) jdk_67_method_93_code (1 : Nat) (Option.some Jvm.ClassFile.FieldType.int)).before args0 about1 = true := code_word (m := ⟨15, 3⟩) (meth := k15m3) (c := k15c3) (by decide +kernel) rfl rfl rfl (by decide +kernel)
set_option maxRecDepth 65536 in
theorem w_c30 : (Jvm.Cond.code ({ cls := "java/lang/AbstractStringBuilder", name := "length", desc := "()I" } : Jvm.MethodName) jdk_68_method_6_code (1 : Nat) (Option.some Jvm.ClassFile.FieldType.int)).before args0 about1 = true := code_word (m := ⟨14, 2⟩) (meth := k14m2) (c := k14c2) (by decide +kernel) rfl rfl rfl (by decide +kernel)
set_option maxRecDepth 65536 in
theorem w_c31 : (Jvm.Cond.code ({ cls := "java/lang/AbstractStringBuilder", name := "isLatin1", desc := "()Z" } : Jvm.MethodName) jdk_68_method_68_code (1 : Nat) (Option.some Jvm.ClassFile.FieldType.boolean)).before args0 about1 = true := code_word (m := ⟨14, 6⟩) (meth := k14m6) (c := k14c6) (by decide +kernel) rfl rfl rfl (by decide +kernel)
set_option maxRecDepth 65536 in
theorem w_c32 : (Jvm.Cond.code ({ cls := "java/util/Arrays", name := "copyOfRange", desc := "([BII)[B" } : Jvm.MethodName) jdk_65_method_132_code (3 : Nat) (Option.some (Jvm.ClassFile.FieldType.array Jvm.ClassFile.FieldType.byte))).before args0 about1 = true := code_word (m := ⟨17, 2⟩) (meth := k17m2) (c := k17c2) (by decide +kernel) rfl rfl rfl (by decide +kernel)
set_option maxRecDepth 65536 in
theorem w_c33 : (Jvm.Cond.code ({ cls := "java/util/Arrays", name := "copyOfRangeByte", desc := "([BII)[B" } : Jvm.MethodName) jdk_65_method_133_code (5 : Nat) (Option.some (Jvm.ClassFile.FieldType.array Jvm.ClassFile.FieldType.byte))).before args0 about1 = true := code_word (m := ⟨17, 3⟩) (meth := k17m3) (c := k17c3) (by decide +kernel) rfl rfl rfl (by decide +kernel)
set_option maxRecDepth 65536 in
theorem w_c34 : (Jvm.Cond.code ({ cls := "java/util/Arrays", name := "checkLength", desc := "(II)V" } : Jvm.MethodName) jdk_65_method_131_code (2 : Nat) (Option.none : Option Jvm.ClassFile.FieldType)).before args0 about1 = true := code_word (m := ⟨17, 1⟩) (meth := k17m1) (c := k17c1) (by decide +kernel) rfl rfl rfl (by decide +kernel)
set_option maxRecDepth 65536 in
theorem w_c35 : (Jvm.Cond.code ({ cls := "java/lang/Math", name := "min", desc := "(II)I" } : Jvm.MethodName) jdk_29_method_69_code (2 : Nat) (Option.some Jvm.ClassFile.FieldType.int)).before args0 about1 = true := code_word (m := ⟨18, 1⟩) (meth := k18m1) (c := k18c1) (by decide +kernel) rfl rfl rfl (by decide +kernel)
def codes1 : List Jvm.Cond := [Jvm.Cond.code x code maxLocals ret, Jvm.Cond.code ({ cls := "java/lang/String", name := "<init>", desc := "([C)V" } : Jvm.MethodName) jdk_42_method_3_code (2 : Nat) (Option.none : Option Jvm.ClassFile.FieldType), Jvm.Cond.code ({ cls := "java/lang/String", name := "<init>", desc := "([CIILjava/lang/Void;)V" } : Jvm.MethodName) jdk_42_method_149_code (6 : Nat) (Option.none : Option Jvm.ClassFile.FieldType), Jvm.Cond.code ({ cls := "java/lang/Object", name := "<init>", desc := "()V" } : Jvm.MethodName) object_method_1_code (1 : Nat) (Option.none : Option Jvm.ClassFile.FieldType), Jvm.Cond.code ({ cls := "java/lang/StringUTF16", name := "compress", desc := "([CII)[B" } : Jvm.MethodName) jdk_52_method_16_code (6 : Nat) (Option.some (Jvm.ClassFile.FieldType.array Jvm.ClassFile.FieldType.byte)), Jvm.Cond.code ({ cls := "java/lang/StringUTF16", name := "compress", desc := "([CI[BII)I" } : Jvm.MethodName) jdk_52_method_21_code (7 : Nat) (Option.some Jvm.ClassFile.FieldType.int), Jvm.Cond.code ({ cls := "java/lang/StringUTF16", name := "coderFromArrayLen", desc := "([BI)B" } : Jvm.MethodName) jdk_52_method_15_code (2 : Nat) (Option.some Jvm.ClassFile.FieldType.byte), Jvm.Cond.code ({ cls := "com/example/derive/derive/LikeWildcards", name := "of", desc := "(ZZ)Lcom/example/derive/derive/LikeWildcards;" } : Jvm.MethodName) prog_8_method_4_code (2 : Nat) (Option.some (Jvm.ClassFile.FieldType.object "com/example/derive/derive/LikeWildcards")), Jvm.Cond.code ({ cls := "com/example/derive/derive/LikeWildcards", name := "addTo", desc := "(Ljava/lang/String;)Ljava/lang/String;" } : Jvm.MethodName) prog_8_method_5_code (2 : Nat) (Option.some (Jvm.ClassFile.FieldType.object "java/lang/String")), Jvm.Cond.code ({ cls := "java/lang/Enum", name := "ordinal", desc := "()I" } : Jvm.MethodName) jdk_37_method_2_code (1 : Nat) (Option.some Jvm.ClassFile.FieldType.int), Jvm.Cond.code ({ cls := "java/lang/String", name := "length", desc := "()I" } : Jvm.MethodName) jdk_42_method_54_code (1 : Nat) (Option.some Jvm.ClassFile.FieldType.int), Jvm.Cond.code ({ cls := "java/lang/String", name := "coder", desc := "()B" } : Jvm.MethodName) jdk_42_method_152_code (1 : Nat) (Option.some Jvm.ClassFile.FieldType.byte), Jvm.Cond.code ({ cls := "java/lang/String", name := "charAt", desc := "(I)C" } : Jvm.MethodName) jdk_42_method_56_code (2 : Nat) (Option.some Jvm.ClassFile.FieldType.char), Jvm.Cond.code ({ cls := "java/lang/String", name := "isLatin1", desc := "()Z" } : Jvm.MethodName) jdk_42_method_154_code (1 : Nat) (Option.some Jvm.ClassFile.FieldType.boolean), Jvm.Cond.code ({ cls := "java/lang/StringLatin1", name := "charAt", desc := "([BI)C" } : Jvm.MethodName) jdk_43_method_2_code (2 : Nat) (Option.some Jvm.ClassFile.FieldType.char), Jvm.Cond.code ({ cls := "java/lang/String", name := "checkIndex", desc := "(II)V" } : Jvm.MethodName) jdk_42_method_155_code (2 : Nat) (Option.none : Option Jvm.ClassFile.FieldType), Jvm.Cond.code ({ cls := "jdk/internal/util/Preconditions", name := "checkIndex", desc := "(IILjava/util/function/BiFunction;)I" } : Jvm.MethodName) jdk_41_method_11_code (3 : Nat) (Option.some Jvm.ClassFile.FieldType.int), Jvm.Cond.code ({ cls := "java/lang/StringBuilder", name := "<init>", desc := "()V" } : Jvm.MethodName) jdk_67_method_1_code (1 : Nat) (Option.none : Option Jvm.ClassFile.FieldType), Jvm.Cond.code ({ cls := "java/lang/AbstractStringBuilder", name := "<init>", desc := "(I)V" } : Jvm.MethodName) jdk_68_method_2_code (2 : Nat) (Option.none : Option Jvm.ClassFile.FieldType), Jvm.Cond.code ({ cls := "java/lang/StringBuilder", name := "append", desc := "(Ljava/lang/String;)Ljava/lang/StringBuilder;" } : Jvm.MethodName) jdk_67_method_7_code (2 : Nat) (Option.some (Jvm.ClassFile.FieldType.object "java/lang/StringBuilder")), Jvm.Cond.code ({ cls := "java/lang/AbstractStringBuilder", name := "append", desc := "(Ljava/lang/String;)Ljava/lang/AbstractStringBuilder;" } : Jvm.MethodName) jdk_68_method_22_code (3 : Nat) (Option.some (Jvm.ClassFile.FieldType.object "java/lang/AbstractStringBuilder")), Jvm.Cond.code ({ cls := "java/lang/AbstractStringBuilder", name := "ensureCapacityInternal", desc := "(I)V" } : Jvm.MethodName) jdk_68_method_9_code (3 : Nat) (Option.none : Option Jvm.ClassFile.FieldType), Jvm.Cond.code ({ cls := "java/lang/AbstractStringBuilder", name := "putStringAt", desc := "(ILjava/lang/String;)V" } : Jvm.MethodName) jdk_68_method_73_code (3 : Nat) (Option.none : Option Jvm.ClassFile.FieldType), Jvm.Cond.code ({ cls := "java/lang/AbstractStringBuilder", name := "inflateIfNeededFor", desc := "(Ljava/lang/String;)V" } : Jvm.MethodName) jdk_68_method_71_code (2 : Nat) (Option.none : Option Jvm.ClassFile.FieldType), Jvm.Cond.code ({ cls := "java/lang/String", name := "getBytes", desc := "([BIB)V" } : Jvm.MethodName) jdk_42_method_147_code (4 : Nat) (Option.none : Option Jvm.ClassFile.FieldType), Jvm.Cond.code ({ cls := "java/lang/StringBuilder", name := "toString", desc := "()Ljava/lang/String;" } : Jvm.MethodName) jdk_67_method_42_code (1 : Nat) (Option.some (Jvm.ClassFile.FieldType.object "java/lang/String")), Jvm.Cond.code ({ cls := "java/lang/String", name := "<init>", desc := "(Ljava/lang/StringBuilder;)V" } : Jvm.MethodName) jdk_42_method_53_code (2 : Nat) (Option.none : Option Jvm.ClassFile.FieldType), Jvm.Cond.code ({ cls := "java/lang/String", name := "<init>", desc := "(Ljava/lang/AbstractStringBuilder;Ljava/lang/Void;)V" } : Jvm.MethodName) jdk_42_method_150_code (5 : Nat) (Option.none : Option Jvm.ClassFile.FieldType), Jvm.Cond.code ({ cls := "java/lang/AbstractStringBuilder", name := "getValue", desc := "()[B" } : Jvm.MethodName) jdk_68_method_64_code (1 : Nat) (Option.some (Jvm.ClassFile.FieldType.array Jvm.ClassFile.FieldType.byte)), Jvm.Cond.code ({ cls := "java/lang/StringBuilder", name := "length", desc := "()I" } : Jvm.MethodName) jdk_67_method_93_code (1 : Nat) (Option.some Jvm.ClassFile.FieldType.int), Jvm.Cond.code ({ cls := "java/lang/AbstractStringBuilder", name := "length", desc := "()I" } : Jvm.MethodName) jdk_68_method_6_code (1 : Nat) (Option.some Jvm.ClassFile.FieldType.int), Jvm.Cond.code ({ cls := "java/lang/AbstractStringBuilder", name := "isLatin1", desc := "()Z" } : Jvm.MethodName) jdk_68_method_68_code (1 : Nat) (Option.some Jvm.ClassFile.FieldType.boolean), Jvm.Cond.code ({ cls := "java/util/Arrays", name := "copyOfRange", desc := "([BII)[B" } : Jvm.MethodName) jdk_65_method_132_code (3 : Nat) (Option.some (Jvm.ClassFile.FieldType.array Jvm.ClassFile.FieldType.byte)), Jvm.Cond.code ({ cls := "java/util/Arrays", name := "copyOfRangeByte", desc := "([BII)[B" } : Jvm.MethodName) jdk_65_method_133_code (5 : Nat) (Option.some (Jvm.ClassFile.FieldType.array Jvm.ClassFile.FieldType.byte)), Jvm.Cond.code ({ cls := "java/util/Arrays", name := "checkLength", desc := "(II)V" } : Jvm.MethodName) jdk_65_method_131_code (2 : Nat) (Option.none : Option Jvm.ClassFile.FieldType), Jvm.Cond.code ({ cls := "java/lang/Math", name := "min", desc := "(II)I" } : Jvm.MethodName) jdk_29_method_69_code (2 : Nat) (Option.some Jvm.ClassFile.FieldType.int)]
set_option maxRecDepth 65536 in
theorem codes_eq : words1.filter isCode = codes1 := rfl
theorem w_codes : ∀ c ∈ words1.filter isCode, c.before args0 about1 = true := by
  rw [codes_eq]
  intro c hc
  simp only [codes1, List.mem_cons, List.not_mem_nil, or_false] at hc
  rcases hc with rfl | rfl | rfl | rfl | rfl | rfl | rfl | rfl | rfl | rfl | rfl | rfl | rfl | rfl | rfl | rfl | rfl | rfl | rfl | rfl | rfl | rfl | rfl | rfl | rfl | rfl | rfl | rfl | rfl | rfl | rfl | rfl | rfl | rfl | rfl | rfl
  · exact w_c0
  · exact w_c1
  · exact w_c2
  · exact w_c3
  · exact w_c4
  · exact w_c5
  · exact w_c6
  · exact w_c7
  · exact w_c8
  · exact w_c9
  · exact w_c10
  · exact w_c11
  · exact w_c12
  · exact w_c13
  · exact w_c14
  · exact w_c15
  · exact w_c16
  · exact w_c17
  · exact w_c18
  · exact w_c19
  · exact w_c20
  · exact w_c21
  · exact w_c22
  · exact w_c23
  · exact w_c24
  · exact w_c25
  · exact w_c26
  · exact w_c27
  · exact w_c28
  · exact w_c29
  · exact w_c30
  · exact w_c31
  · exact w_c32
  · exact w_c33
  · exact w_c34
  · exact w_c35
set_option maxRecDepth 65536 in
theorem w_t1 : (words1.take 24).all (fun c => isCode c || c.before args0 about1) = true := by decide +kernel
set_option maxRecDepth 65536 in
theorem w_t2 : ((words1.drop 24).take 24).all (fun c => isCode c || c.before args0 about1) = true := by decide +kernel
set_option maxRecDepth 65536 in
theorem w_t3 : (((words1.drop 24).drop 24).take 24).all (fun c => isCode c || c.before args0 about1) = true := by decide +kernel
set_option maxRecDepth 65536 in
theorem w_t4 : ((((words1.drop 24).drop 24).drop 24).take 24).all (fun c => isCode c || c.before args0 about1) = true := by decide +kernel
set_option maxRecDepth 65536 in
theorem w_t5 : (((((words1.drop 24).drop 24).drop 24).drop 24).take 24).all (fun c => isCode c || c.before args0 about1) = true := by decide +kernel
set_option maxRecDepth 65536 in
theorem w_t6 : ((((((words1.drop 24).drop 24).drop 24).drop 24).drop 24).take 24).all (fun c => isCode c || c.before args0 about1) = true := by decide +kernel
set_option maxRecDepth 65536 in
theorem w_t7 : (((((((words1.drop 24).drop 24).drop 24).drop 24).drop 24).drop 24).take 24).all (fun c => isCode c || c.before args0 about1) = true := by decide +kernel
set_option maxRecDepth 65536 in
theorem w_t8 : ((((((((words1.drop 24).drop 24).drop 24).drop 24).drop 24).drop 24).drop 24).take 24).all (fun c => isCode c || c.before args0 about1) = true := by decide +kernel
set_option maxRecDepth 65536 in
theorem w_t9 : ((((((((words1.drop 24).drop 24).drop 24).drop 24).drop 24).drop 24).drop 24).drop 24).all (fun c => isCode c || c.before args0 about1) = true := by decide +kernel
theorem w_tables : (allAtoms (Jvm.Cond.code x code maxLocals ret :: tables_1)).before args0 about1 = true := by
  rw [allAtoms_all]
  show words1.all (fun c => c.before args0 about1) = true
  refine all_split ?_ w_codes
  rw [← List.take_append_drop 24 words1, List.all_append, w_t1, ← List.take_append_drop 24 (words1.drop 24), List.all_append, w_t2, ← List.take_append_drop 24 ((words1.drop 24).drop 24), List.all_append, w_t3, ← List.take_append_drop 24 (((words1.drop 24).drop 24).drop 24), List.all_append, w_t4, ← List.take_append_drop 24 ((((words1.drop 24).drop 24).drop 24).drop 24), List.all_append, w_t5, ← List.take_append_drop 24 (((((words1.drop 24).drop 24).drop 24).drop 24).drop 24), List.all_append, w_t6, ← List.take_append_drop 24 ((((((words1.drop 24).drop 24).drop 24).drop 24).drop 24).drop 24), List.all_append, w_t7, ← List.take_append_drop 24 (((((((words1.drop 24).drop 24).drop 24).drop 24).drop 24).drop 24).drop 24), List.all_append, w_t8, w_t9]
  rfl
set_option maxRecDepth 65536 in
theorem w_rest : rest_1_c.before args0 about1 = true := by decide +kernel
set_option maxRecDepth 65536 in
theorem w_case : (Jvm.Cond.and given_1 narrow_1).before args0 about1 = true := by decide +kernel
set_option maxRecDepth 65536 in
theorem w_consts : constsHeld consts_1 about1 := Jvm.Lit.constsHeldB_iff.mp (by decide +kernel)
theorem w_applies : (headSpec (Jvm.Cond.code x code maxLocals ret :: tables_1) room_1).applies x e0.platform about1 = true :=
  (Spec.applies_iff w_frames).mpr ⟨w_running, w_runnable, w_alone, w_named, w_hears, w_ripe, w_room, w_tables⟩
theorem atStart : AtStart classFile x code maxLocals ret World_1 tables_1 room_1 Calls_1 rest_1 Pre_1 launch0 p0 e0 about1 theMethod args0 below0 :=
  ⟨lists_1, trivial, launch0.admits_env _ _ _, launch0.least_env, fairChoices_fair.cas, fairChoices_fair.clock, w_frames, w_args, w_heap, w_applies, ⟨w_consts, trivial⟩, w_rest, w_case⟩
end start1
theorem witness_1 : WitnessClaimed_1 := ⟨start1.p0, start1.e0, start1.about1, start1.theMethod, start1.args0, start1.below0, start1.atStart⟩
end Jvm.Pilot.@@N@@
