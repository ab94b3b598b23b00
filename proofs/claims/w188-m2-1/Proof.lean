import JvmDerived
import JvmDerived.Pilot.@@N@@Statement
import JvmDerived.Pilot.@@N@@Code
set_option linter.unusedVariables false
set_option linter.unusedSimpArgs false
namespace Jvm.RoadKit
open Sem ClassFile Op Lib Jvm.Stand Jvm.Free Jvm.LawKit
section New
variable {p : Program} {l : Launch} {e : Env} {R : Room} {s : State} {m : MethodId} {args : Array Value} {below : List Frame} {meth : Method} {c : Code} {T : State} {locs : List Loc} {cells slots : Nat}
theorem retI (X : Stand p l e R s m args below meth c T locs cells slots) (hx : p.tables.exec = Jvm.exec) {pc : Nat} {Ls : Array Slot} {z : Int32} {rest : List Value} (hret : meth.sig.returnType = some .int) (hd : decode c.code pc = .ok (.ireturn, 1)) {fs : List Frame}
    (hl : ∀ (f : JFrame) (acts : List Action), f.method = m → f.locked = none → f.entered = [] → (doReturn e (T.setTop f) acts (some (.int z))).1 = T.setFrames fs) : Steps p.tables e below (T.setTop (mkF m pc Ls (.int z :: rest))) (T.setFrames fs) :=
  retOut X hx hret rfl (Or.inl ⟨rfl, Or.inl rfl, z, rfl⟩) hd hl
end New
end Jvm.RoadKit
/- laws to paste: Road.backV (cut by pick.py; bodies as the Statement names them) -/
namespace Jvm.Pilot.@@N@@
namespace StrChars
open Jvm Sem ClassFile Op Lib Jvm.Stand Jvm.Free.XT Jvm.Free.ALB Jvm.Free.JM Jvm.Free
open Jvm.Lib.Cold (StaticIs)
/-- a char array whose places are chars -/
def Ch (a : Addr) (A : Cell) (U : State) : Prop := Arr .char a A U ∧ Typed .char A
theorem Ch.mv {a : Addr} {A : Cell} {U U' : State} (h : Ch a A U) (hal : U.vm.Alike U'.vm) (hh : U'.heap = U.heap) : Ch a A U' := ⟨h.1.mv hal hh, h.2⟩
theorem Ch.keep {a : Addr} {A : Cell} {U U' : State} (h : Ch a A U) (hal : U.vm.Alike U'.vm) (hk : U'.heap[a]? = some A) : Ch a A U' := ⟨h.1.keep hal hk, h.2⟩
/-- what place i of a char[]'s cell holds -/
def cv (A : Cell) (i : Nat) : Int32 := match A.slots[i]? with | some (.int x) => x | _ => 0
theorem Ch.get {a : Addr} {A : Cell} {U : State} (h : Ch a A U) {i : Nat} (hi : i < A.slots.size) : A.slots[i]? = some (.int (cv A i)) := by
  have e := Array.getElem?_eq_getElem hi
  have f := h.2 i _ e
  unfold cv; rw [e]
  generalize A.slots[i] = v at f
  cases v <;> simp [fits] at f ⊢
/-- the byte that i2b leaves of a char -/
def lo8 (x : Int32) : Int32 := x.toInt8.toInt32
theorem fits_lo8 (y : Int32) : fits .byte (.int (lo8 y)) = true := by
  have h1 := y.toInt8.le_toInt
  have h2 := y.toInt8.toInt_lt
  simp only [lo8, fits, Bool.and_eq_true, decide_eq_true_eq, Int32.le_iff_toInt_le, Int8.toInt_toInt32, show (-128 : Int32).toInt = -128 from by decide, show (127 : Int32).toInt = 127 from by decide]
  omega
/-- A' is A but that each place j of lo .. hi - 1 holds f j -/
def Laid (A A' : Cell) (lo hi : Nat) (f : Nat → Value) : Prop := A'.cls = A.cls ∧ A'.vm = A.vm ∧ A'.slots.size = A.slots.size ∧ ∀ i, A'.slots[i]? = if lo ≤ i ∧ i < hi then some (f i) else A.slots[i]?
theorem Laid.zero (A : Cell) (lo : Nat) (f : Nat → Value) : Laid A A lo (lo + 0) f := ⟨rfl, rfl, rfl, fun i => by rw [if_neg (by omega)]⟩
theorem Laid.step {A Ak : Cell} {lo k : Nat} {f : Nat → Value} {v : Value} (h : Laid A Ak lo k f) (hlo : lo ≤ k) (hk : k < Ak.slots.size) (hv : v = f k) : Laid A (Ak.setSlot k v) lo (k + 1) f := by
  refine ⟨h.1, h.2.1, by simpa [Cell.setSlot] using h.2.2.1, fun i => ?_⟩
  by_cases e : k = i
  · subst e; rw [Cell.slots_setSlot_self v hk, if_pos (by omega), hv]
  · rw [Cell.slots_setSlot_ne v e, h.2.2.2 i]
    by_cases q : lo ≤ i ∧ i < k
    · rw [if_pos q, if_pos (by omega)]
    · rw [if_neg q, if_neg (by omega)]
def U16 : String := "java/lang/StringUTF16"
namespace Cmp5
def yN : MethodName := ⟨"java/lang/StringUTF16", "compress", "([CI[BII)I"⟩
abbrev yB : ByteArray := jdk_52_method_21_code
theorem d0 : decode yB 0 = .ok (.iconst 0, 1) := by decide +kernel
theorem d1 : decode yB 1 = .ok (.istore 5, 2) := by decide +kernel
theorem d3 : decode yB 3 = .ok (.iload 5, 2) := by decide +kernel
theorem d5 : decode yB 5 = .ok (.iload 4, 2) := by decide +kernel
theorem d7 : decode yB 7 = .ok (.if_icmp (.ge) 37, 3) := by decide +kernel
theorem d10 : decode yB 10 = .ok (.aload_n 0, 1) := by decide +kernel
theorem d11 : decode yB 11 = .ok (.iload_n 1, 1) := by decide +kernel
theorem d12 : decode yB 12 = .ok (.caload, 1) := by decide +kernel
theorem d13 : decode yB 13 = .ok (.istore 6, 2) := by decide +kernel
theorem d15 : decode yB 15 = .ok (.iload 6, 2) := by decide +kernel
theorem d17 : decode yB 17 = .ok (.sipush 255, 3) := by decide +kernel
theorem d20 : decode yB 20 = .ok (.if_icmp (.le) 6, 3) := by decide +kernel
theorem d26 : decode yB 26 = .ok (.aload_n 2, 1) := by decide +kernel
theorem d27 : decode yB 27 = .ok (.iload_n 3, 1) := by decide +kernel
theorem d28 : decode yB 28 = .ok (.iload 6, 2) := by decide +kernel
theorem d30 : decode yB 30 = .ok (.i2b, 1) := by decide +kernel
theorem d31 : decode yB 31 = .ok (.bastore, 1) := by decide +kernel
theorem d32 : decode yB 32 = .ok (.iinc 1 1, 3) := by decide +kernel
theorem d35 : decode yB 35 = .ok (.iinc 3 1, 3) := by decide +kernel
theorem d38 : decode yB 38 = .ok (.iinc 5 1, 3) := by decide +kernel
theorem d41 : decode yB 41 = .ok (.goto (-38), 3) := by decide +kernel
theorem d44 : decode yB 44 = .ok (.iload 4, 2) := by decide +kernel
theorem d46 : decode yB 46 = .ok (.ireturn, 1) := by decide +kernel
def site : List Cond := []
def tab : Cond := tabOf yN yB 7 (some .int) site
def P (b : Addr) (A : Cell) (d : Addr) (B : Cell) (o q len : Nat) (args : Array Value) (s : State) : Prop := args = #[.ref b, .int (Int32.ofNat o), .ref d, .int (Int32.ofNat q), .int (Int32.ofNat len)] ∧ Ch b A s ∧ Arr .byte d B s ∧ b ≠ d ∧ o + len ≤ A.slots.size ∧ q + len ≤ B.slots.size ∧ ∀ i, i < len → ¬ 255 < cv A (o + i)
def E (b : Addr) (A : Cell) (d : Addr) (B : Cell) (o q len : Nat) (r : Option Value) (s u : State) : Prop := r = some (.int (Int32.ofNat len)) ∧ ∃ B', Put d B' s u ∧ Laid B B' q (q + len) (fun j => Value.int (lo8 (cv A (o + (j - q)))))
/-- no char of the range above 255: len; the places written hold each char's low byte -/
theorem law (l : Launch) (b : Addr) (A : Cell) (d : Addr) (B : Cell) (o q len : Nat) : Law l yN 5 5 0 0 yB 7 (some .int) site (P b A d B o q len) (E b A d B o q len) (copyLocs d q len) 0 0 := by
  refine Law.of_walk (plainFor_of_name (by decide +kernel)) (by decide +kernel) (by decide +kernel) (by decide) (fun _ _ h => by rw [h.1]; rfl) (fun _ U U' hal hh h => ⟨h.1, h.2.1.mv hal hh, h.2.2.1.mv hal hh, h.2.2.2⟩) (fun r U U' V V' h1 hal h2 h => ⟨h.1, h.2.elim fun B' q => ⟨B', q.1.mv h1 h2, q.2⟩⟩) ?_
  intro p e s m args below meth c s₁ X0 hexec hbytes hml hret hlk hnm hown hh0 W hP
  obtain ⟨rfl, hA, hB, hne, l1, l2, hp⟩ := hP
  have c1 : Steps p.tables e below (s₁.setTop (entryFrame m #[.ref b, .int (Int32.ofNat o), .ref d, .int (Int32.ofNat q), .int (Int32.ofNat len)] 7)) (s₁.setTop (mkF m 0 #[.val (.ref b), .val (.int (Int32.ofNat o)), .val (.ref d), .val (.int (Int32.ofNat q)), .val (.int (Int32.ofNat len)), .unset, .unset] [])) := entry rfl
  have hA0 := hA.1.mv X0.warmed.alike hh0
  have hB0 := hB.mv X0.warmed.alike hh0
  have a31 := hA.1.2.2.2
  have c2 : Steps p.tables e below (s₁.setTop (entryFrame m #[.ref b, .int (Int32.ofNat o), .ref d, .int (Int32.ofNat q), .int (Int32.ofNat len)] 7)) (s₁.setTop (mkF m 3 #[.val (.ref b), .val (.int (Int32.ofNat o)), .val (.ref d), .val (.int (Int32.ofNat q)), .val (.int (Int32.ofNat len)), .val (.int 0), .unset] [])) := c1.trans (by
    refine iconstV X0.here hexec rfl 0 (hb hbytes d0) (by decide) ?_
    refine XS.istore X0.here hexec rfl (hb hbytes d1) rfl rfl ?_
    exact Steps.refl _)
  have loop : ∀ (r i : Nat), i + r = len → ∀ (z : Slot), (z = .unset ∨ ∃ w, z = .val w ∧ w.category = 1) → ∀ (Tl : State) (Bk : Cell), Stand p l e { frames := 0, locals := 0, cells := 0, slots := 0 } s m #[.ref b, .int (Int32.ofNat o), .ref d, .int (Int32.ofNat q), .int (Int32.ofNat len)] below meth c Tl ([] ++ copyLocs d q i) 0 0 → Put d Bk s₁ Tl → Laid B Bk q (q + i) (fun j => Value.int (lo8 (cv A (o + (j - q))))) →
      Steps p.tables e below (s₁.setTop (entryFrame m #[.ref b, .int (Int32.ofNat o), .ref d, .int (Int32.ofNat q), .int (Int32.ofNat len)] 7)) (Tl.setTop (mkF m 3 #[.val (.ref b), .val (.int (Int32.ofNat (o + i))), .val (.ref d), .val (.int (Int32.ofNat (q + i))), .val (.int (Int32.ofNat len)), .val (.int (Int32.ofNat i)), z] [])) → ∃ (T' : State) (B' : Cell) (z' : Slot), Stand p l e { frames := 0, locals := 0, cells := 0, slots := 0 } s m #[.ref b, .int (Int32.ofNat o), .ref d, .int (Int32.ofNat q), .int (Int32.ofNat len)] below meth c T' ([] ++ copyLocs d q len) 0 0 ∧ Put d B' s₁ T' ∧ Laid B B' q (q + len) (fun j => Value.int (lo8 (cv A (o + (j - q))))) ∧
      Steps p.tables e below (s₁.setTop (entryFrame m #[.ref b, .int (Int32.ofNat o), .ref d, .int (Int32.ofNat q), .int (Int32.ofNat len)] 7)) (T'.setTop (mkF m 3 #[.val (.ref b), .val (.int (Int32.ofNat (o + len))), .val (.ref d), .val (.int (Int32.ofNat (q + len))), .val (.int (Int32.ofNat len)), .val (.int (Int32.ofNat len)), z'] [])) := by
    intro r
    induction r with
    | zero =>
      intro i hi z hz Tl Bk Xl pl fl cl
      have hil : i = len := by omega
      rw [hil] at Xl fl cl
      exact ⟨Tl, Bk, z, Xl, pl, fl, cl⟩
    | succ r ih =>
      intro i hi z hz Tl Bk Xl pl fl cl
      have all := X0.warmed.alike.symm.trans Xl.warmed.alike
      have hAl := hA0.keep all (pl.other hne hA0.1)
      have hBk := hB0.like all pl.1 fl.1 fl.2.1 fl.2.2.1
      have hlt : q + i < Bk.slots.size := by rw [fl.2.2.1]; omega
      have c3 : Steps p.tables e below (s₁.setTop (entryFrame m #[.ref b, .int (Int32.ofNat o), .ref d, .int (Int32.ofNat q), .int (Int32.ofNat len)] 7)) (Tl.setTop (mkF m 12 #[.val (.ref b), .val (.int (Int32.ofNat (o + i))), .val (.ref d), .val (.int (Int32.ofNat (q + i))), .val (.int (Int32.ofNat len)), .val (.int (Int32.ofNat i)), z] [.int (Int32.ofNat (o + i)), .ref b])) := cl.trans (by
        refine XS.iload Xl.here hexec rfl (hb hbytes d3) rfl ?_
        refine XS.iload Xl.here hexec rfl (hb hbytes d5) rfl ?_
        refine XS.icmpNo Xl.here hexec rfl (hb hbytes d7) rfl (ii_ge_f (lt32 (by omega) (by omega))) ?_
        refine XS.aloadN Xl.here hexec rfl (hb hbytes d10) rfl rfl ?_
        refine XS.iloadN Xl.here hexec rfl (hb hbytes d11) rfl ?_
        exact Steps.refl _)
      have c4 : Steps p.tables e below (s₁.setTop (entryFrame m #[.ref b, .int (Int32.ofNat o), .ref d, .int (Int32.ofNat q), .int (Int32.ofNat len)] 7)) (Tl.setTop (mkF m 13 #[.val (.ref b), .val (.int (Int32.ofNat (o + i))), .val (.ref d), .val (.int (Int32.ofNat (q + i))), .val (.int (Int32.ofNat len)), .val (.int (Int32.ofNat i)), z] [.int (cv A (o + i))])) := c3.trans (by
        refine Xl.aget hexec hAl rfl (hA.get (i := o + i) (by omega)) rfl rfl (hb hbytes d12) ?_
        exact Steps.refl _)
      have c5 : Steps p.tables e below (s₁.setTop (entryFrame m #[.ref b, .int (Int32.ofNat o), .ref d, .int (Int32.ofNat q), .int (Int32.ofNat len)] 7)) (Tl.setTop (mkF m 15 #[.val (.ref b), .val (.int (Int32.ofNat (o + i))), .val (.ref d), .val (.int (Int32.ofNat (q + i))), .val (.int (Int32.ofNat len)), .val (.int (Int32.ofNat i)), .val (.int (cv A (o + i)))] [])) := c4.trans (by
        refine XS.istoreS Xl.here hexec rfl (hb hbytes d13) rfl rfl hz ?_
        exact Steps.refl _)
      have c6 : Steps p.tables e below (s₁.setTop (entryFrame m #[.ref b, .int (Int32.ofNat o), .ref d, .int (Int32.ofNat q), .int (Int32.ofNat len)] 7)) (Tl.setTop (mkF m 31 #[.val (.ref b), .val (.int (Int32.ofNat (o + i))), .val (.ref d), .val (.int (Int32.ofNat (q + i))), .val (.int (Int32.ofNat len)), .val (.int (Int32.ofNat i)), .val (.int (cv A (o + i)))] [.int (lo8 (cv A (o + i))), .int (Int32.ofNat (q + i)), .ref d])) := c5.trans (by
        refine XS.iload Xl.here hexec rfl (hb hbytes d15) rfl ?_
        refine sipushV Xl.here hexec rfl 255 (hb hbytes d17) (by decide) ?_
        refine XS.icmpYes Xl.here hexec rfl (pc0 := 20) rfl (hb hbytes d20) rfl (ii_le_t (hp i (by omega))) (by decide) rfl ?_
        refine XS.aloadN Xl.here hexec rfl (hb hbytes d26) rfl rfl ?_
        refine XS.iloadN Xl.here hexec rfl (hb hbytes d27) rfl ?_
        refine XS.iload Xl.here hexec rfl (hb hbytes d28) rfl ?_
        refine i2b Xl.here hexec rfl (hb hbytes d30) rfl ?_
        exact Steps.refl _)
      obtain ⟨T7, X7, p7, st7⟩ := Xl.aput hexec hBk rfl hlt rfl (fits_lo8 (cv A (o + i))) (g := (mkF m 31 #[.val (.ref b), .val (.int (Int32.ofNat (o + i))), .val (.ref d), .val (.int (Int32.ofNat (q + i))), .val (.int (Int32.ofNat len)), .val (.int (Int32.ofNat i)), .val (.int (cv A (o + i)))] [.int (lo8 (cv A (o + i))), .int (Int32.ofNat (q + i)), .ref d])) rfl (rest := []) rfl (hb hbytes d31)
      have c8 : Steps p.tables e below (s₁.setTop (entryFrame m #[.ref b, .int (Int32.ofNat o), .ref d, .int (Int32.ofNat q), .int (Int32.ofNat len)] 7)) (T7.setTop (mkF m 32 #[.val (.ref b), .val (.int (Int32.ofNat (o + i))), .val (.ref d), .val (.int (Int32.ofNat (q + i))), .val (.int (Int32.ofNat len)), .val (.int (Int32.ofNat i)), .val (.int (cv A (o + i)))] [])) := c6.trans (st7 _ (Steps.refl _))
      have c9 : Steps p.tables e below (s₁.setTop (entryFrame m #[.ref b, .int (Int32.ofNat o), .ref d, .int (Int32.ofNat q), .int (Int32.ofNat len)] 7)) (T7.setTop (mkF m 3 #[.val (.ref b), .val (.int (Int32.ofNat (o + i) + 1)), .val (.ref d), .val (.int (Int32.ofNat (q + i) + 1)), .val (.int (Int32.ofNat len)), .val (.int (Int32.ofNat i + 1)), .val (.int (cv A (o + i)))] [])) := c8.trans (by
        refine iincV X7.here hexec rfl 1 (hb hbytes d32) (by decide) rfl rfl ?_
        refine iincV X7.here hexec rfl 1 (hb hbytes d35) (by decide) rfl rfl ?_
        refine iincV X7.here hexec rfl 1 (hb hbytes d38) (by decide) rfl rfl ?_
        refine XS.goto X7.here hexec rfl (pc0 := 41) rfl (hb hbytes d41) (by decide) rfl ?_
        exact Steps.refl _)
      have c10 : Steps p.tables e below (s₁.setTop (entryFrame m #[.ref b, .int (Int32.ofNat o), .ref d, .int (Int32.ofNat q), .int (Int32.ofNat len)] 7)) (T7.setTop (mkF m 3 #[.val (.ref b), .val (.int (Int32.ofNat (o + (i + 1)))), .val (.ref d), .val (.int (Int32.ofNat (q + (i + 1)))), .val (.int (Int32.ofNat len)), .val (.int (Int32.ofNat (i + 1))), .val (.int (cv A (o + i)))] [])) := by
        have := c9
        rw [succ32, succ32, succ32] at this
        exact this
      exact ih (i + 1) (by omega) _ (Or.inr ⟨_, rfl, rfl⟩) T7 _ (by rw [copyLocs_step, ← List.append_assoc]; exact X7) (pl.trans p7) (fl.step (by omega) hlt (by simp)) c10
  obtain ⟨T9, B9, z9, X9, p9, f9, g9⟩ := loop len 0 (by omega) .unset (Or.inl rfl) s₁ B (by simpa [copyLocs] using X0) ⟨hB0.1, fun _ _ => rfl, rfl⟩ (Laid.zero _ _ _) c2
  have c11 : Steps p.tables e below (s₁.setTop (entryFrame m #[.ref b, .int (Int32.ofNat o), .ref d, .int (Int32.ofNat q), .int (Int32.ofNat len)] 7)) (T9.setTop (mkF m 46 #[.val (.ref b), .val (.int (Int32.ofNat (o + len))), .val (.ref d), .val (.int (Int32.ofNat (q + len))), .val (.int (Int32.ofNat len)), .val (.int (Int32.ofNat len)), z9] [.int (Int32.ofNat len)])) := g9.trans (by
    refine XS.iload X9.here hexec rfl (hb hbytes d3) rfl ?_
    refine XS.iload X9.here hexec rfl (hb hbytes d5) rfl ?_
    refine XS.icmpYes X9.here hexec rfl (pc0 := 7) rfl (hb hbytes d7) rfl (ii_ge_t (nlt32 (by omega) (Nat.le_refl _))) (by decide) rfl ?_
    refine XS.iload X9.here hexec rfl (hb hbytes d44) rfl ?_
    exact Steps.refl _)
  exact ⟨T9, some (.int (Int32.ofNat len)), _, _, _, X9, by simp, rfl, rfl, (fun h => by cases h), ⟨rfl, B9, p9.from hh0, f9⟩, fun fs hl => c11.trans (X9.ireturnOut hexec hret rfl (Or.inl rfl) (hb hbytes d46) hl)⟩
end Cmp5
namespace Cmp3
def yN : MethodName := ⟨"java/lang/StringUTF16", "compress", "([CII)[B"⟩
abbrev yB : ByteArray := jdk_52_method_16_code
theorem d0 : decode yB 0 = .ok (.iload_n 2, 1) := by decide +kernel
theorem d1 : decode yB 1 = .ok (.newarray .byte, 2) := by decide +kernel
theorem d3 : decode yB 3 = .ok (.astore_n 3, 1) := by decide +kernel
theorem d4 : decode yB 4 = .ok (.aload_n 0, 1) := by decide +kernel
theorem d5 : decode yB 5 = .ok (.iload_n 1, 1) := by decide +kernel
theorem d6 : decode yB 6 = .ok (.aload_n 3, 1) := by decide +kernel
theorem d7 : decode yB 7 = .ok (.iconst 0, 1) := by decide +kernel
theorem d8 : decode yB 8 = .ok (.iload_n 2, 1) := by decide +kernel
theorem d9 : decode yB 9 = .ok (.invokestatic 115, 3) := by decide +kernel
theorem d12 : decode yB 12 = .ok (.istore 4, 2) := by decide +kernel
theorem d14 : decode yB 14 = .ok (.iload 4, 2) := by decide +kernel
theorem d16 : decode yB 16 = .ok (.iload_n 2, 1) := by decide +kernel
theorem d17 : decode yB 17 = .ok (.if_icmp (.eq) 40, 3) := by decide +kernel
theorem d57 : decode yB 57 = .ok (.aload_n 3, 1) := by decide +kernel
theorem d58 : decode yB 58 = .ok (.areturn, 1) := by decide +kernel
def site : List Cond := [.arrayClass .byte, Cmp5.tab] ++ staticW U16 115 Cmp5.yN
def tab : Cond := tabOf yN yB 6 (some (.array .byte)) site
def P (b : Addr) (A : Cell) (o len : Nat) (args : Array Value) (s : State) : Prop := args = #[.ref b, .int (Int32.ofNat o), .int (Int32.ofNat len)] ∧ Ch b A s ∧ o + len ≤ A.slots.size ∧ len ≤ 536870912 ∧ ∀ i, i < len → ¬ 255 < cv A (o + i)
def E (b : Addr) (A : Cell) (o len : Nat) (r : Option Value) (s u : State) : Prop := NewArr .byte "[B" len (fun j => .int (lo8 (cv A (o + j)))) r s u ∧ u.heap.size = s.heap.size + 1
/-- no char of the range above 255: a new byte[] of their low bytes -/
theorem law (l : Launch) (b : Addr) (A : Cell) (o len : Nat) : Law l yN 3 3 1 18 yB 6 (some (.array .byte)) site (P b A o len) (E b A o len) [] 1 len := by
  refine Law.of_walk (plainFor_of_name (by decide +kernel)) (by decide +kernel) (by decide +kernel) (by decide) (fun _ _ h => by rw [h.1]; rfl) (fun _ U U' hal hh h => ⟨h.1, h.2.1.mv hal hh, h.2.2⟩) (fun r U U' V V' h1 hal h2 h => ⟨NewArr.mv r U U' V V' h1 hal h2 h.1, by rw [h1, h2]; exact h.2⟩) ?_
  intro p e s m args below meth c s₁ X0 hexec hbytes hml hret hlk hnm hown hh0 W hP
  obtain ⟨rfl, hA, l1, l2, hp⟩ := hP
  have a31 := hA.1.2.2.2
  have c1 : Steps p.tables e below (s₁.setTop (entryFrame m #[.ref b, .int (Int32.ofNat o), .int (Int32.ofNat len)] 6)) (s₁.setTop (mkF m 0 #[.val (.ref b), .val (.int (Int32.ofNat o)), .val (.int (Int32.ofNat len)), .unset, .unset, .unset] [])) := entry rfl
  have c2 : Steps p.tables e below (s₁.setTop (entryFrame m #[.ref b, .int (Int32.ofNat o), .int (Int32.ofNat len)] 6)) (s₁.setTop (mkF m 1 #[.val (.ref b), .val (.int (Int32.ofNat o)), .val (.int (Int32.ofNat len)), .unset, .unset, .unset] [.int (Int32.ofNat len)])) := c1.trans (by
    refine XS.iloadN X0.here hexec rfl (hb hbytes d0) rfl ?_
    exact Steps.refl _)
  obtain ⟨T3, B3, X3, ba3, bs3, bv3, bh3, bf3, st3⟩ := X0.anew hexec (atype := .byte) (wk W (.arrayClass .byte)) rfl (by show len * 1 ≤ _; omega) (by omega) (g := (mkF m 1 #[.val (.ref b), .val (.int (Int32.ofNat o)), .val (.int (Int32.ofNat len)), .unset, .unset, .unset] [.int (Int32.ofNat len)])) rfl (hb hbytes d1) (rest := []) rfl (Nat.le_refl _) (by show 0 + len ≤ len; omega)
  rw [hh0] at ba3 st3
  have kp3 : XT.Kept s T3 := (XT.Kept.of_eq hh0).push bh3
  have hA3 := hA.keep X3.warmed.alike (kp3 _ _ hA.1.1)
  have hne : b ≠ s.heap.size := hA.1.ne
  have c4 : Steps p.tables e below (s₁.setTop (entryFrame m #[.ref b, .int (Int32.ofNat o), .int (Int32.ofNat len)] 6)) (T3.setTop (mkF m 3 #[.val (.ref b), .val (.int (Int32.ofNat o)), .val (.int (Int32.ofNat len)), .unset, .unset, .unset] [.ref s.heap.size])) := c2.trans (st3 _ (Steps.refl _))
  have c5 : Steps p.tables e below (s₁.setTop (entryFrame m #[.ref b, .int (Int32.ofNat o), .int (Int32.ofNat len)] 6)) (T3.setTop (mkF m 9 #[.val (.ref b), .val (.int (Int32.ofNat o)), .val (.int (Int32.ofNat len)), .val (.ref s.heap.size), .unset, .unset] [.int (Int32.ofNat len), .int 0, .ref s.heap.size, .int (Int32.ofNat o), .ref b])) := c4.trans (by
    refine XS.astoreN X3.here hexec rfl (hb hbytes d3) rfl rfl rfl ?_
    refine XS.aloadN X3.here hexec rfl (hb hbytes d4) rfl rfl ?_
    refine XS.iloadN X3.here hexec rfl (hb hbytes d5) rfl ?_
    refine XS.aloadN X3.here hexec rfl (hb hbytes d6) rfl rfl ?_
    refine iconstV X3.here hexec rfl 0 (hb hbytes d7) (by decide) ?_
    refine XS.iloadN X3.here hexec rfl (hb hbytes d8) rfl ?_
    exact Steps.refl _)
  obtain ⟨v6, T6, X6, E6, g6⟩ := X3.callS hexec (Cmp5.law l b A s.heap.size B3 o 0 len) hown (wks W (staticW U16 115 Cmp5.yN)) (wk W Cmp5.tab) (W := 0) (Nat.le_of_ble_eq_true rfl) (Nat.le_of_ble_eq_true rfl) (Nat.le_refl _) (by show 0 + len + 0 ≤ len; omega) (g := (mkF m 9 #[.val (.ref b), .val (.int (Int32.ofNat o)), .val (.int (Int32.ofNat len)), .val (.ref s.heap.size), .unset, .unset] [.int (Int32.ofNat len), .int (Int32.ofNat 0), .ref s.heap.size, .int (Int32.ofNat o), .ref b])) rfl (by rw [hml]; rfl) c5 (argsL := [.ref b, .int (Int32.ofNat o), .ref s.heap.size, .int (Int32.ofNat 0), .int (Int32.ofNat len)]) (rest := []) rfl rfl (by show 2 * 0 + 0 ≤ _; decide) (hb hbytes d9) (⟨rfl, hA3, ba3, hne, l1, by rw [bs3]; simp, hp⟩)
  obtain ⟨rfl, B6, p6, f6⟩ := E6
  have c7 : Steps p.tables e below (s₁.setTop (entryFrame m #[.ref b, .int (Int32.ofNat o), .int (Int32.ofNat len)] 6)) (T6.setTop (mkF m 12 #[.val (.ref b), .val (.int (Int32.ofNat o)), .val (.int (Int32.ofNat len)), .val (.ref s.heap.size), .unset, .unset] [.int (Int32.ofNat len)])) := g6
  have c8 : Steps p.tables e below (s₁.setTop (entryFrame m #[.ref b, .int (Int32.ofNat o), .int (Int32.ofNat len)] 6)) (T6.setTop (mkF m 58 #[.val (.ref b), .val (.int (Int32.ofNat o)), .val (.int (Int32.ofNat len)), .val (.ref s.heap.size), .val (.int (Int32.ofNat len)), .unset] [.ref s.heap.size])) := c7.trans (by
    refine XS.istore X6.here hexec rfl (hb hbytes d12) rfl rfl ?_
    refine XS.iload X6.here hexec rfl (hb hbytes d14) rfl ?_
    refine XS.iloadN X6.here hexec rfl (hb hbytes d16) rfl ?_
    refine XS.icmpYes X6.here hexec rfl (pc0 := 17) rfl (hb hbytes d17) rfl (ii_eq_t rfl) (by decide) rfl ?_
    refine XS.aloadN X6.here hexec rfl (hb hbytes d57) rfl rfl ?_
    exact Steps.refl _)
  have X8 := X6.wide (L' := []) (cells' := 1) (slots' := len) (fun x hx hlt => by
    simp only [List.nil_append, copyLocs, List.mem_map, List.mem_range] at hx
    obtain ⟨i, -, rfl⟩ := hx
    exact absurd hlt (Nat.lt_irrefl _)) (Nat.le_refl _) (by omega)
  exact ⟨T6, some (.ref s.heap.size), _, _, _, X8, rfl, rfl, rfl, (fun h => by cases h), ⟨⟨rfl, B6, ba3.like (X3.warmed.alike.symm.trans X6.warmed.alike) p6.1 f6.1 f6.2.1 f6.2.2.1, f6.2.1.trans bv3, by rw [X6.warmed.alike.findClass, f6.1]; exact bf3, by rw [f6.2.2.1, bs3]; simp, fun j hj => by rw [f6.2.2.2 j, if_pos (by omega)]; rfl, kp3.put p6 (Nat.le_refl _)⟩, by rw [p6.2.2, bh3, hh0]; simp⟩, fun fs hl => c8.trans (X8.areturnOut hexec rfl hret rfl (hb hbytes d58) hl)⟩
end Cmp3
namespace CodL
def yN : MethodName := ⟨"java/lang/StringUTF16", "coderFromArrayLen", "([BI)B"⟩
abbrev yB : ByteArray := jdk_52_method_15_code
theorem d0 : decode yB 0 = .ok (.iload_n 1, 1) := by decide +kernel
theorem d1 : decode yB 1 = .ok (.aload_n 0, 1) := by decide +kernel
theorem d2 : decode yB 2 = .ok (.arraylength, 1) := by decide +kernel
theorem d3 : decode yB 3 = .ok (.isub, 1) := by decide +kernel
theorem d4 : decode yB 4 = .ok (.bipush 31, 2) := by decide +kernel
theorem d6 : decode yB 6 = .ok (.iushr, 1) := by decide +kernel
theorem d7 : decode yB 7 = .ok (.i2b, 1) := by decide +kernel
theorem d8 : decode yB 8 = .ok (.ireturn, 1) := by decide +kernel
def site : List Cond := []
def tab : Cond := tabOf yN yB 2 (some .byte) site
def P (d : Addr) (B : Cell) (args : Array Value) (s : State) : Prop := args = #[.ref d, .int (Int32.ofNat B.slots.size)] ∧ Arr .byte d B s
def E (r : Option Value) (s u : State) : Prop := XT.PureE (some (.int 0)) r s u
/-- an array as long as the number of chars: LATIN1 -/
theorem law (l : Launch) (d : Addr) (B : Cell) : Law l yN 2 2 0 0 yB 2 (some .byte) site (P d B) E [] 0 0 := by
  refine Law.of_walk (plainFor_of_name (by decide +kernel)) (by decide +kernel) (by decide +kernel) (by decide) (fun _ _ h => by rw [h.1]; rfl) (fun _ U U' hal hh h => ⟨h.1, h.2.mv hal hh⟩) (fun r U U' V V' h1 hal h2 h => XT.PureE.mv r U U' V V' h1 hal h2 h) ?_
  intro p e s m args below meth c s₁ X0 hexec hbytes hml hret hlk hnm hown hh0 W hP
  obtain ⟨rfl, hB⟩ := hP
  have hB0 := hB.mv X0.warmed.alike hh0
  have c1 : Steps p.tables e below (s₁.setTop (entryFrame m #[.ref d, .int (Int32.ofNat B.slots.size)] 2)) (s₁.setTop (mkF m 0 #[.val (.ref d), .val (.int (Int32.ofNat B.slots.size))] [])) := entry rfl
  have c2 : Steps p.tables e below (s₁.setTop (entryFrame m #[.ref d, .int (Int32.ofNat B.slots.size)] 2)) (s₁.setTop (mkF m 2 #[.val (.ref d), .val (.int (Int32.ofNat B.slots.size))] [.ref d, .int (Int32.ofNat B.slots.size)])) := c1.trans (by
    refine XS.iloadN X0.here hexec rfl (hb hbytes d0) rfl ?_
    refine XS.aloadN X0.here hexec rfl (hb hbytes d1) rfl rfl ?_
    exact Steps.refl _)
  have c3 : Steps p.tables e below (s₁.setTop (entryFrame m #[.ref d, .int (Int32.ofNat B.slots.size)] 2)) (s₁.setTop (mkF m 8 #[.val (.ref d), .val (.int (Int32.ofNat B.slots.size))] [.int (lo8 (ushr (Int32.ofNat B.slots.size - Int32.ofNat B.slots.size) 31))])) := c2.trans (by
    refine X0.alen hexec hB0 rfl rfl (hb hbytes d2) ?_
    refine XS.isub X0.here hexec rfl (hb hbytes d3) rfl ?_
    refine bipushV X0.here hexec rfl 31 (hb hbytes d4) (by decide) ?_
    refine iushr X0.here hexec rfl (hb hbytes d6) rfl ?_
    refine i2b X0.here hexec rfl (hb hbytes d7) rfl ?_
    exact Steps.refl _)
  have e0 : lo8 (ushr (Int32.ofNat B.slots.size - Int32.ofNat B.slots.size) 31) = 0 := by rw [Int32.sub_self]; decide
  rw [e0] at c3
  exact ⟨s₁, some (.int 0), _, _, _, X0, rfl, rfl, rfl, (fun h => by cases h), ⟨rfl, hh0⟩, fun fs hl => c3.trans (X0.ireturnOut hexec hret rfl (Or.inr (Or.inr (Or.inl rfl))) (hb hbytes d8) hl)⟩
end CodL
/-- the String at a is Latin-1 over a new byte[] (the heap's one new cell): the low bytes of the len chars of A from o on; every cell but a is kept -/
def Got (a : Addr) (D : Cell) (fV fC : Field) (A : Cell) (o len : Nat) (r : Option Value) (s u : State) : Prop := r = none ∧ ∃ D' V : Cell, Blank "java/lang/String" a D' u ∧ Same D D' [fV.slot, fC.slot] ∧ D'.slots[fV.slot]? = some (.ref s.heap.size) ∧ D'.slots[fC.slot]? = some (.int 0) ∧ Arr .byte s.heap.size V u ∧ V.vm = .none ∧ u.vm.findClass "[B" = some V.cls ∧ V.slots.size = len ∧ (∀ j, j < len → V.slots[j]? = some (.int (lo8 (cv A (o + j))))) ∧ (∀ (y : Addr) (c : Cell), y ≠ a → s.heap[y]? = some c → u.heap[y]? = some c) ∧ u.heap.size = s.heap.size + 1
theorem Got.mv {a : Addr} {D A : Cell} {fV fC : Field} {o len : Nat} : ∀ r (U U' V V' : State), U'.heap = U.heap → V.vm.Alike V'.vm → V'.heap = V.heap → Got a D fV fC A o len r U V → Got a D fV fC A o len r U' V' :=
  fun r U U' V V' h1 hal h2 ⟨e0, D', X, a1, a2, a3, a4, a5, a6, a7, a8, a9, a10, a11⟩ => ⟨e0, D', X, a1.mv hal h2, a2, by rw [h1]; exact a3, a4, by rw [h1]; exact a5.mv hal h2, a6, by rw [hal.findClass]; exact a7, a8, a9, by rw [h1, h2]; exact a10, by rw [h1, h2]; exact a11⟩
namespace New4
def yN : MethodName := ⟨"java/lang/String", "<init>", "([CIILjava/lang/Void;)V"⟩
abbrev yB : ByteArray := jdk_42_method_149_code
theorem d0 : decode yB 0 = .ok (.aload_n 0, 1) := by decide +kernel
theorem d1 : decode yB 1 = .ok (.invokespecial 1, 3) := by decide +kernel
theorem d4 : decode yB 4 = .ok (.iload_n 3, 1) := by decide +kernel
theorem d5 : decode yB 5 = .ok (.ifCond (.ne) 22, 3) := by decide +kernel
theorem d27 : decode yB 27 = .ok (.getstatic 38, 3) := by decide +kernel
theorem d30 : decode yB 30 = .ok (.ifCond (.eq) 28, 3) := by decide +kernel
theorem d33 : decode yB 33 = .ok (.aload_n 1, 1) := by decide +kernel
theorem d34 : decode yB 34 = .ok (.iload_n 2, 1) := by decide +kernel
theorem d35 : decode yB 35 = .ok (.iload_n 3, 1) := by decide +kernel
theorem d36 : decode yB 36 = .ok (.invokestatic 177, 3) := by decide +kernel
theorem d39 : decode yB 39 = .ok (.astore 5, 2) := by decide +kernel
theorem d41 : decode yB 41 = .ok (.aload_n 0, 1) := by decide +kernel
theorem d42 : decode yB 42 = .ok (.aload 5, 2) := by decide +kernel
theorem d44 : decode yB 44 = .ok (.iload_n 3, 1) := by decide +kernel
theorem d45 : decode yB 45 = .ok (.invokestatic 47, 3) := by decide +kernel
theorem d48 : decode yB 48 = .ok (.putfield 15, 3) := by decide +kernel
theorem d51 : decode yB 51 = .ok (.aload_n 0, 1) := by decide +kernel
theorem d52 : decode yB 52 = .ok (.aload 5, 2) := by decide +kernel
theorem d54 : decode yB 54 = .ok (.putfield 9, 3) := by decide +kernel
theorem d57 : decode yB 57 = .ok (.return_, 1) := by decide +kernel
def site : List Cond := [.fieldLink "java/lang/String" 38 "java/lang/String" "COMPACT_STRINGS" "Z", Cmp3.tab, CodL.tab, .laysFinal "java/lang/String" "java/lang/String" "value" "[B", .fieldLink "java/lang/String" 9 "java/lang/String" "value" "[B", .laysFinal "java/lang/String" "java/lang/String" "coder" "B", .fieldLink "java/lang/String" 15 "java/lang/String" "coder" "B"] ++ objW "java/lang/String" 1 ++ staticW "java/lang/String" 177 Cmp3.yN ++ staticW "java/lang/String" 47 CodL.yN
def tab : Cond := tabOf yN yB 6 none site
def P (a : Addr) (D : Cell) (fV fC : Field) (b : Addr) (A : Cell) (z : Int32) (o len : Nat) (args : Array Value) (s : State) : Prop := args = #[.ref a, .ref b, .int (Int32.ofNat o), .int (Int32.ofNat len), .null] ∧ Blank "java/lang/String" a D s ∧ Found "java/lang/String" "value" "[B" fV s ∧ Found "java/lang/String" "coder" "B" fC s ∧ Ch b A s ∧ StaticIs s "java/lang/String" "COMPACT_STRINGS" "Z" (.int z) ∧ ¬ z = 0 ∧ 0 < len ∧ o + len ≤ A.slots.size ∧ len ≤ 536870912 ∧ ∀ i, i < len → ¬ 255 < cv A (o + i)
def E (a : Addr) (D : Cell) (fV fC : Field) (A : Cell) (o len : Nat) (r : Option Value) (s u : State) : Prop := Got a D fV fC A o len r s u
/-- len > 0, no char of the range above 255: a Latin-1 String of their low bytes -/
theorem law (l : Launch) (a : Addr) (D : Cell) (fV fC : Field) (b : Addr) (A : Cell) (z : Int32) (o len : Nat) : Law l yN 5 4 2 35 yB 6 none site (P a D fV fC b A z o len) (E a D fV fC A o len) [⟨a, fC.slot⟩, ⟨a, fV.slot⟩] 1 len := by
  refine Law.of_walk (plainFor_of_name (by decide +kernel)) (by decide +kernel) (by decide +kernel) (by decide) (fun _ _ h => by rw [h.1]; rfl) (fun _ U U' hal hh h => ⟨h.1, h.2.1.mv hal hh, h.2.2.1.al hal, h.2.2.2.1.al hal, h.2.2.2.2.1.mv hal hh, h.2.2.2.2.2.1.there hal hh, h.2.2.2.2.2.2⟩) (fun r U U' V V' h1 hal h2 h => Got.mv r U U' V V' h1 hal h2 h) ?_
  intro p e s m args below meth c s₁ X0 hexec hbytes hml hret hlk hnm hown hh0 W hP
  obtain ⟨rfl, hB, f1, f2, hA, s1, hz, l0, l1, l2, hp⟩ := hP
  have a31 := hA.1.2.2.2
  have c1 : Steps p.tables e below (s₁.setTop (entryFrame m #[.ref a, .ref b, .int (Int32.ofNat o), .int (Int32.ofNat len), .null] 6)) (s₁.setTop (mkF m 0 #[.val (.ref a), .val (.ref b), .val (.int (Int32.ofNat o)), .val (.int (Int32.ofNat len)), .val .null, .unset] [])) := entry rfl
  have c2 : Steps p.tables e below (s₁.setTop (entryFrame m #[.ref a, .ref b, .int (Int32.ofNat o), .int (Int32.ofNat len), .null] 6)) (s₁.setTop (mkF m 1 #[.val (.ref a), .val (.ref b), .val (.int (Int32.ofNat o)), .val (.int (Int32.ofNat len)), .val .null, .unset] [.ref a])) := c1.trans (by
    refine XS.aloadN X0.here hexec rfl (hb hbytes d0) rfl rfl ?_
    exact Steps.refl _)
  obtain ⟨T3, X3, q3, st3⟩ := X0.oinit hexec hown (wks W (objW "java/lang/String" 1)) (g := (mkF m 1 #[.val (.ref a), .val (.ref b), .val (.int (Int32.ofNat o)), .val (.int (Int32.ofNat len)), .val .null, .unset] [.ref a])) rfl (by rw [hml]; rfl) (rest := []) rfl (hb hbytes d1) (W := 0) (by show 2 * 0 + 0 ≤ _; decide) (Nat.le_of_ble_eq_true rfl) (Nat.le_of_ble_eq_true rfl)
  have hh3 := q3.trans hh0
  have c4 : Steps p.tables e below (s₁.setTop (entryFrame m #[.ref a, .ref b, .int (Int32.ofNat o), .int (Int32.ofNat len), .null] 6)) (T3.setTop (mkF m 27 #[.val (.ref a), .val (.ref b), .val (.int (Int32.ofNat o)), .val (.int (Int32.ofNat len)), .val .null, .unset] [])) := (c2.trans (st3 _ (Steps.refl _))).trans (by
    refine XS.iloadN X3.here hexec rfl (hb hbytes d4) rfl ?_
    refine XS.ifYes X3.here hexec rfl (pc0 := 5) rfl (hb hbytes d5) rfl (i0_ne_t (nz32 (by omega) l0)) (by decide) rfl ?_
    exact Steps.refl _)
  obtain ⟨T5, X5, q5, st5⟩ := X3.sget hexec hown (wk W (.fieldLink "java/lang/String" 38 "java/lang/String" "COMPACT_STRINGS" "Z")) s1 (fun _ _ h => by rw [hh3]; exact h) (g := (mkF m 27 #[.val (.ref a), .val (.ref b), .val (.int (Int32.ofNat o)), .val (.int (Int32.ofNat len)), .val .null, .unset] [])) rfl (hb hbytes d27)
  have hh5 := q5.trans hh3
  have c6 : Steps p.tables e below (s₁.setTop (entryFrame m #[.ref a, .ref b, .int (Int32.ofNat o), .int (Int32.ofNat len), .null] 6)) (T5.setTop (mkF m 30 #[.val (.ref a), .val (.ref b), .val (.int (Int32.ofNat o)), .val (.int (Int32.ofNat len)), .val .null, .unset] [.int z])) := c4.trans (st5 _ (Steps.refl _))
  have c7 : Steps p.tables e below (s₁.setTop (entryFrame m #[.ref a, .ref b, .int (Int32.ofNat o), .int (Int32.ofNat len), .null] 6)) (T5.setTop (mkF m 36 #[.val (.ref a), .val (.ref b), .val (.int (Int32.ofNat o)), .val (.int (Int32.ofNat len)), .val .null, .unset] [.int (Int32.ofNat len), .int (Int32.ofNat o), .ref b])) := c6.trans (by
    refine XS.ifNo X5.here hexec rfl (hb hbytes d30) rfl (i0_eq_f hz) ?_
    refine XS.aloadN X5.here hexec rfl (hb hbytes d33) rfl rfl ?_
    refine XS.iloadN X5.here hexec rfl (hb hbytes d34) rfl ?_
    refine XS.iloadN X5.here hexec rfl (hb hbytes d35) rfl ?_
    exact Steps.refl _)
  obtain ⟨v8, T8, X8, E8, g8⟩ := X5.callS hexec (Cmp3.law l b A o len) hown (wks W (staticW "java/lang/String" 177 Cmp3.yN)) (wk W Cmp3.tab) (W := 0) (Nat.le_of_ble_eq_true rfl) (Nat.le_of_ble_eq_true rfl) (Nat.le_refl _) (by show 0 + len ≤ len; omega) (g := (mkF m 36 #[.val (.ref a), .val (.ref b), .val (.int (Int32.ofNat o)), .val (.int (Int32.ofNat len)), .val .null, .unset] [.int (Int32.ofNat len), .int (Int32.ofNat o), .ref b])) rfl (by rw [hml]; rfl) c7 (argsL := [.ref b, .int (Int32.ofNat o), .int (Int32.ofNat len)]) (rest := []) rfl rfl (by show 2 * 0 + 0 ≤ _; decide) (hb hbytes d36) (⟨rfl, hA.mv X5.warmed.alike hh5, l1, l2, hp⟩)
  obtain ⟨e8, z8⟩ := E8
  obtain ⟨rfl, N, n1, n2, n3, n4, n5, n6⟩ := NewArr.mv _ T5 s _ _ hh5.symm (Vm.Alike.refl _) rfl e8
  rw [hh5] at z8
  have hB1 := hB.keep X8.warmed.alike (n6 _ _ hB.1)
  have hne : s.heap.size ≠ a := (Nat.ne_of_lt (Array.getElem?_eq_some_iff.mp hB.1).1).symm
  have c9 : Steps p.tables e below (s₁.setTop (entryFrame m #[.ref a, .ref b, .int (Int32.ofNat o), .int (Int32.ofNat len), .null] 6)) (T8.setTop (mkF m 39 #[.val (.ref a), .val (.ref b), .val (.int (Int32.ofNat o)), .val (.int (Int32.ofNat len)), .val .null, .unset] [.ref s.heap.size])) := g8
  have c10 : Steps p.tables e below (s₁.setTop (entryFrame m #[.ref a, .ref b, .int (Int32.ofNat o), .int (Int32.ofNat len), .null] 6)) (T8.setTop (mkF m 45 #[.val (.ref a), .val (.ref b), .val (.int (Int32.ofNat o)), .val (.int (Int32.ofNat len)), .val .null, .val (.ref s.heap.size)] [.int (Int32.ofNat N.slots.size), .ref s.heap.size, .ref a])) := by
    have hc : Steps p.tables e below (s₁.setTop (entryFrame m #[.ref a, .ref b, .int (Int32.ofNat o), .int (Int32.ofNat len), .null] 6)) (T8.setTop (mkF m 45 #[.val (.ref a), .val (.ref b), .val (.int (Int32.ofNat o)), .val (.int (Int32.ofNat len)), .val .null, .val (.ref s.heap.size)] [.int (Int32.ofNat len), .ref s.heap.size, .ref a])) := c9.trans (by
      refine XS.astore X8.here hexec rfl (hb hbytes d39) rfl rfl rfl ?_
      refine XS.aloadN X8.here hexec rfl (hb hbytes d41) rfl rfl ?_
      refine XS.aload X8.here hexec rfl (hb hbytes d42) rfl rfl ?_
      refine XS.iloadN X8.here hexec rfl (hb hbytes d44) rfl ?_
      exact Steps.refl _)
    rw [n4]; exact hc
  obtain ⟨v11, T11, X11, E11, g11⟩ := X8.callS hexec (CodL.law l s.heap.size N) hown (wks W (staticW "java/lang/String" 47 CodL.yN)) (wk W CodL.tab) (W := 1) (Nat.le_of_ble_eq_true rfl) (Nat.le_of_ble_eq_true rfl) (Nat.le_refl _) (by show 0 + len + 0 ≤ len; omega) (g := (mkF m 45 #[.val (.ref a), .val (.ref b), .val (.int (Int32.ofNat o)), .val (.int (Int32.ofNat len)), .val .null, .val (.ref s.heap.size)] [.int (Int32.ofNat N.slots.size), .ref s.heap.size, .ref a])) rfl (by rw [hml]; rfl) c10 (argsL := [.ref s.heap.size, .int (Int32.ofNat N.slots.size)]) (rest := [.ref a]) rfl rfl (by show 2 * 0 + (1 + 0) ≤ _; decide) (hb hbytes d45) (⟨rfl, n1⟩)
  obtain ⟨rfl, q11⟩ := E11
  have hB11 := hB1.mv (X8.warmed.alike.symm.trans X11.warmed.alike) q11
  have c12 : Steps p.tables e below (s₁.setTop (entryFrame m #[.ref a, .ref b, .int (Int32.ofNat o), .int (Int32.ofNat len), .null] 6)) (T11.setTop (mkF m 48 #[.val (.ref a), .val (.ref b), .val (.int (Int32.ofNat o)), .val (.int (Int32.ofNat len)), .val .null, .val (.ref s.heap.size)] [.int 0, .ref a])) := g11
  obtain ⟨T13, X13, p13, bl13, sl13, st13⟩ := X11.finit hexec hown (wk W (.fieldLink "java/lang/String" 15 "java/lang/String" "coder" "B")) (Or.inr ⟨_, (wk W (.laysFinal "java/lang/String" "java/lang/String" "coder" "B"))⟩) (Or.inl ⟨rfl, hnm⟩) f2 (Or.inl rfl) hB11 (t := .byte) (by decide +kernel) rfl (g := (mkF m 48 #[.val (.ref a), .val (.ref b), .val (.int (Int32.ofNat o)), .val (.int (Int32.ofNat len)), .val .null, .val (.ref s.heap.size)] [.int 0, .ref a])) rfl (rest := []) rfl (hb hbytes d48)
  have c14 : Steps p.tables e below (s₁.setTop (entryFrame m #[.ref a, .ref b, .int (Int32.ofNat o), .int (Int32.ofNat len), .null] 6)) (T13.setTop (mkF m 54 #[.val (.ref a), .val (.ref b), .val (.int (Int32.ofNat o)), .val (.int (Int32.ofNat len)), .val .null, .val (.ref s.heap.size)] [.ref s.heap.size, .ref a])) := (c12.trans (st13 _ (Steps.refl _))).trans (by
    refine XS.aloadN X13.here hexec rfl (hb hbytes d51) rfl rfl ?_
    refine XS.aload X13.here hexec rfl (hb hbytes d52) rfl rfl ?_
    exact Steps.refl _)
  obtain ⟨T15, X15, p15, bl15, sl15, st15⟩ := X13.finit hexec hown (wk W (.fieldLink "java/lang/String" 9 "java/lang/String" "value" "[B")) (Or.inr ⟨_, (wk W (.laysFinal "java/lang/String" "java/lang/String" "value" "[B"))⟩) (Or.inl ⟨rfl, hnm⟩) f1 (Or.inl rfl) bl13 (t := (.array .byte)) (by decide +kernel) rfl (g := (mkF m 54 #[.val (.ref a), .val (.ref b), .val (.int (Int32.ofNat o)), .val (.int (Int32.ofNat len)), .val .null, .val (.ref s.heap.size)] [.ref s.heap.size, .ref a])) rfl (rest := []) rfl (hb hbytes d54)
  have c16 : Steps p.tables e below (s₁.setTop (entryFrame m #[.ref a, .ref b, .int (Int32.ofNat o), .int (Int32.ofNat len), .null] 6)) (T15.setTop (mkF m 57 #[.val (.ref a), .val (.ref b), .val (.int (Int32.ofNat o)), .val (.int (Int32.ofNat len)), .val .null, .val (.ref s.heap.size)] [])) := c14.trans (st15 _ (Steps.refl _))
  have ap := apart (Or.inr ⟨_, (wk W (.laysFinal "java/lang/String" "java/lang/String" "value" "[B"))⟩) (Or.inr ⟨_, (wk W (.laysFinal "java/lang/String" "java/lang/String" "coder" "B"))⟩) f1 f2 (t₁ := .array .byte) (t₂ := .byte) (by decide +kernel) (by decide +kernel) (by decide)
  have al := X8.warmed.alike.symm.trans X15.warmed.alike
  have n7 : T11.heap[s.heap.size]? = some N := by rw [q11]; exact n1.1
  exact ⟨T15, none, _, _, _, X15, by simp, rfl, by omega, (fun _ => rfl), ⟨rfl, _, N, bl15, ((Same.refl D _).set _ (by simp)).set _ (by simp), sl15, (Cell.slots_setSlot_ne _ ap).trans sl13, n1.keep al (p15.other hne (p13.other hne n7)), n2, by rw [al.findClass]; exact n3, n4, n5, fun y c h1 h2 => p15.other h1 (p13.other h1 (by rw [q11]; exact n6 y c h2)), by rw [p15.2.2, p13.2.2, q11]; exact z8⟩, fun fs hl => c16.trans (X15.returnOut hexec hret (hb hbytes d57) hl)⟩
end New4
namespace New1
def yN : MethodName := ⟨"java/lang/String", "<init>", "([C)V"⟩
abbrev yB : ByteArray := jdk_42_method_3_code
theorem d0 : decode yB 0 = .ok (.aload_n 0, 1) := by decide +kernel
theorem d1 : decode yB 1 = .ok (.aload_n 1, 1) := by decide +kernel
theorem d2 : decode yB 2 = .ok (.iconst 0, 1) := by decide +kernel
theorem d3 : decode yB 3 = .ok (.aload_n 1, 1) := by decide +kernel
theorem d4 : decode yB 4 = .ok (.arraylength, 1) := by decide +kernel
theorem d5 : decode yB 5 = .ok (.aconst_null, 1) := by decide +kernel
theorem d6 : decode yB 6 = .ok (.invokespecial 27, 3) := by decide +kernel
theorem d9 : decode yB 9 = .ok (.return_, 1) := by decide +kernel
def site : List Cond := [New4.tab] ++ initW "java/lang/String" 27 New4.yN
def tab : Cond := tabOf yN yB 2 none site
def P (a : Addr) (D : Cell) (fV fC : Field) (b : Addr) (A : Cell) (z : Int32) (args : Array Value) (s : State) : Prop := args = #[.ref a, .ref b] ∧ Blank "java/lang/String" a D s ∧ Found "java/lang/String" "value" "[B" fV s ∧ Found "java/lang/String" "coder" "B" fC s ∧ Ch b A s ∧ StaticIs s "java/lang/String" "COMPACT_STRINGS" "Z" (.int z) ∧ ¬ z = 0 ∧ 0 < A.slots.size ∧ A.slots.size ≤ 536870912 ∧ ∀ i, i < A.slots.size → ¬ 255 < cv A i
def E (a : Addr) (D : Cell) (fV fC : Field) (A : Cell) (r : Option Value) (s u : State) : Prop := Got a D fV fC A 0 A.slots.size r s u
/-- new String(chars), not empty, no char above 255: a Latin-1 String of their low bytes -/
theorem law (l : Launch) (a : Addr) (D : Cell) (fV fC : Field) (b : Addr) (A : Cell) (z : Int32) : Law l yN 2 1 3 52 yB 2 none site (P a D fV fC b A z) (E a D fV fC A) [⟨a, fC.slot⟩, ⟨a, fV.slot⟩] 1 A.slots.size := by
  refine Law.of_walk (plainFor_of_name (by decide +kernel)) (by decide +kernel) (by decide +kernel) (by decide) (fun _ _ h => by rw [h.1]; rfl) (fun _ U U' hal hh h => ⟨h.1, h.2.1.mv hal hh, h.2.2.1.al hal, h.2.2.2.1.al hal, h.2.2.2.2.1.mv hal hh, h.2.2.2.2.2.1.there hal hh, h.2.2.2.2.2.2⟩) (fun r U U' V V' h1 hal h2 h => Got.mv r U U' V V' h1 hal h2 h) ?_
  intro p e s m args below meth c s₁ X0 hexec hbytes hml hret hlk hnm hown hh0 W hP
  obtain ⟨rfl, hB, f1, f2, hA, s1, hz, l0, l2, hp⟩ := hP
  have c1 : Steps p.tables e below (s₁.setTop (entryFrame m #[.ref a, .ref b] 2)) (s₁.setTop (mkF m 0 #[.val (.ref a), .val (.ref b)] [])) := entry rfl
  have c2 : Steps p.tables e below (s₁.setTop (entryFrame m #[.ref a, .ref b] 2)) (s₁.setTop (mkF m 6 #[.val (.ref a), .val (.ref b)] [.null, .int (Int32.ofNat A.slots.size), .int 0, .ref b, .ref a])) := c1.trans (by
    refine XS.aloadN X0.here hexec rfl (hb hbytes d0) rfl rfl ?_
    refine XS.aloadN X0.here hexec rfl (hb hbytes d1) rfl rfl ?_
    refine iconstV X0.here hexec rfl 0 (hb hbytes d2) (by decide) ?_
    refine XS.aloadN X0.here hexec rfl (hb hbytes d3) rfl rfl ?_
    refine X0.alen hexec (hA.1.mv X0.warmed.alike hh0) rfl rfl (hb hbytes d4) ?_
    refine XS.aconstNull X0.here hexec rfl (hb hbytes d5) ?_
    exact Steps.refl _)
  obtain ⟨v3, T3, X3, E3, g3⟩ := X0.callN hexec (New4.law l a D fV fC b A z 0 A.slots.size) rfl hown (wks W (initW "java/lang/String" 27 New4.yN)) (W New4.tab (by simp only [site, List.mem_cons, List.mem_append, true_or, or_true])) (W := 0) (Nat.le_of_ble_eq_true rfl) (Nat.le_of_ble_eq_true rfl) (Nat.le_refl _) (by show 0 + A.slots.size ≤ A.slots.size; omega) (g := (mkF m 6 #[.val (.ref a), .val (.ref b)] [.null, .int (Int32.ofNat A.slots.size), .int (Int32.ofNat 0), .ref b, .ref a])) rfl (by rw [hml]; rfl) c2 (argsL := [.ref b, .int (Int32.ofNat 0), .int (Int32.ofNat A.slots.size), .null]) (rest := []) rfl rfl (by show 2 * 0 + 0 ≤ _; decide) (hb hbytes d6) (⟨rfl, hB.mv X0.warmed.alike hh0, f1.al X0.warmed.alike, f2.al X0.warmed.alike, hA.mv X0.warmed.alike hh0, s1.there X0.warmed.alike hh0, hz, l0, by omega, l2, fun i hi => by rw [Nat.zero_add]; exact hp i hi⟩)
  have e0 := Got.mv _ s₁ s _ _ hh0.symm (Vm.Alike.refl _) rfl E3
  obtain rfl := e0.1
  have c4 : Steps p.tables e below (s₁.setTop (entryFrame m #[.ref a, .ref b] 2)) (T3.setTop (mkF m 9 #[.val (.ref a), .val (.ref b)] [])) := g3
  exact ⟨T3, none, _, _, _, X3, by simp, rfl, by omega, (fun _ => rfl), e0, fun fs hl => c4.trans (X3.returnOut hexec hret (hb hbytes d9) hl)⟩
theorem pays {l : Launch} {R : Room} {p : Program} {e : Env} {below : List Frame} {s : State} {sargs : Array Value} {len W : Nat} (a : Addr) (D : Cell) (fV fC : Field) (b : Addr) (A : Cell) (z : Int32) (htab : tab.before sargs s = true) (hfr : 4 ≤ R.frames) (hlo : W + 65 ≤ R.locals) :
    Back l R p e below s sargs yN len W (fun A₁ a₁ => A₁.cells + 1 ≤ R.cells ∧ A₁.slots + A.slots.size ≤ R.slots ∧ P a D fV fC b A z a₁ A₁.U) (fun A₁ _ v₁ B₁ => E a D fV fC A v₁ A₁.U B₁.U ∧ B₁.locs = A₁.locs ++ [⟨a, fC.slot⟩, ⟨a, fV.slot⟩] ∧ B₁.cells = A₁.cells + 1 ∧ B₁.slots = A₁.slots + A.slots.size) :=
  (law l a D fV fC b A z).pays htab hfr (by omega)
end New1
end StrChars
namespace StrChars.Road
open Jvm Sem ClassFile Op Lib Jvm.Stand Jvm.Free Jvm.Free.XT
open Jvm.Lib.Cold (StaticIs)
abbrev ST : String := "java/lang/String"
/-- every table word that New1's law asks, flat -/
abbrev words : List Jvm.Cond := [.code New1.yN New1.yB 2 none, .initialized ST, .methodLink ST 27 New4.yN, .instanceMethod New4.yN,
  .code New4.yN New4.yB 6 none, .fieldLink ST 38 ST "COMPACT_STRINGS" "Z", .laysFinal ST ST "value" "[B", .fieldLink ST 9 ST "value" "[B", .laysFinal ST ST "coder" "B", .fieldLink ST 15 ST "coder" "B",
  .methodLink ST 1 Lib.objectInit, .instanceMethod Lib.objectInit, .code Lib.objectInit ⟨#[0xb1]⟩ 1 none, .methodLink ST 177 Cmp3.yN, .static Cmp3.yN, .methodLink ST 47 CodL.yN, .static CodL.yN,
  .code Cmp3.yN Cmp3.yB 6 (some (.array .byte)), .initialized U16, .arrayClass .byte, .methodLink U16 115 Cmp5.yN, .static Cmp5.yN, .code Cmp5.yN Cmp5.yB 7 (some .int), .code CodL.yN CodL.yB 2 (some .byte)]
theorem tab_of {a : Array Value} {s : State} (h : ∀ w ∈ words, w.before a s = true) : New1.tab.before a s = true := by
  have h5 : Cmp5.tab.before a s = true := unparts (wk h (.code Cmp5.yN Cmp5.yB 7 (some .int))) (wks h (.initialized Cmp5.yN.cls :: Cmp5.site))
  have hc : CodL.tab.before a s = true := unparts (wk h (.code CodL.yN CodL.yB 2 (some .byte))) (wks h (.initialized CodL.yN.cls :: CodL.site))
  have q5 : ∀ w ∈ Cmp5.tab :: words, w.before a s = true := fun w hw => (List.mem_cons.mp hw).elim (fun e => e ▸ h5) (h w)
  have h3 : Cmp3.tab.before a s = true := unparts (wk q5 (.code Cmp3.yN Cmp3.yB 6 (some (.array .byte)))) (wks q5 (.initialized Cmp3.yN.cls :: Cmp3.site))
  have q3 : ∀ w ∈ Cmp3.tab :: CodL.tab :: words, w.before a s = true := fun w hw => (List.mem_cons.mp hw).elim (fun e => e ▸ h3) fun hw => (List.mem_cons.mp hw).elim (fun e => e ▸ hc) (h w)
  have h4 : New4.tab.before a s = true := unparts (wk q3 (.code New4.yN New4.yB 6 none)) (wks q3 (.initialized New4.yN.cls :: New4.site))
  have q4 : ∀ w ∈ New4.tab :: words, w.before a s = true := fun w hw => (List.mem_cons.mp hw).elim (fun e => e ▸ h4) (h w)
  exact unparts (wk q4 (.code New1.yN New1.yB 2 none)) (wks q4 (.initialized New1.yN.cls :: New1.site))
/-- the words ride from the start Z to the walk's own state -/
theorem moved {Z s : State} {a0 args : Array Value} (hZ : Z.Warmed39 s.vm) (hw : ∀ d ∈ words, d.before a0 Z = true) : ∀ d ∈ words, d.before args s = true := fun d hd => by
  have q := hw d hd
  have t : ∀ d ∈ words, d = .arrayClass .byte ∨ (d.onTables && d.keepsFace) = true := by decide +kernel
  rcases t d hd with rfl | t
  · exact RoadKit.mvA hZ q
  · exact RoadKit.mv hZ q t
/-- WHAT COMES BACK, over the tables of the start Z: h the heap at the call, h' behind it -/
def Q (Z : State) (x : Addr) (A : Cell) (h : Heap) (v : Option Value) (h' : Heap) (L : List Loc) : Prop := v = none ∧ (∀ y ∈ L, y.base = x) ∧ RoadKit.Keep h h' [x] ∧ h'.size = h.size + 1 ∧ RoadKit.Exa Z h' x ST ∧ RoadKit.Fld Z h' x ST "value" "[B" (.ref h.size) ∧ RoadKit.Fld Z h' x ST "coder" "B" (.int 0) ∧
  (∃ V : Cell, RoadKit.Arr Z h' h.size V .byte ∧ V.vm = .none ∧ Z.vm.findClass "[B" = some V.cls ∧ V.slots.size = A.slots.size ∧ ∀ j, j < A.slots.size → V.slots[j]? = some (.int (lo8 (cv A j)))) ∧
  ∀ (O n d : String) (w : Value), RoadKit.Fld Z h x O n d w → RoadKit.slotOf Z O n d ≠ RoadKit.slotOf Z ST "value" "[B" → RoadKit.slotOf Z O n d ≠ RoadKit.slotOf Z ST "coder" "B" → RoadKit.Fld Z h' x O n d w
/-- **new String(chars) AT A CALL, IN THE ROAD'S FORM**: for specialBack behind newO: x the fresh String, b the char[] with the cell A -/
theorem back {p : Program} {l : Launch} {e : Env} {R : Room} {s : State} {args : Array Value} {below : List Frame} {len W : Nat} {Z : State} {a0 : Array Value} {h : Heap} (hZ : Z.Warmed39 s.vm) (hw : ∀ d ∈ words, d.before a0 Z = true) {kI : Nat} (wi : (Jvm.Cond.instantiable ST kI).before a0 Z = true)
    {x b : Addr} {A : Cell} {z : Int32} {v0 c0 : Value} (E : RoadKit.Exa Z h x ST) (V : RoadKit.Fld Z h x ST "value" "[B" v0) (C : RoadKit.Fld Z h x ST "coder" "B" c0) (K : RoadKit.Arr Z h b A .char) (hty : Typed .char A) (S : RoadKit.Sta Z h ST "COMPACT_STRINGS" "Z" (.int z)) (hz : ¬ z = 0)
    (l0 : 0 < A.slots.size) (l2 : A.slots.size ≤ 536870912) (hp : ∀ i, i < A.slots.size → ¬ 255 < cv A i) (hfr : 4 ≤ R.frames) (hlo : W + 65 ≤ R.locals) :
    Back l R p e below s args New1.yN len W (fun P a => a = #[.ref x, .ref b] ∧ P.U.heap = h ∧ P.cells + 1 ≤ R.cells ∧ P.slots + A.slots.size ≤ R.slots)
      (fun P _ v B => ∃ L, Q Z x A h v B.U.heap L ∧ B.locs = P.locs ++ L ∧ B.cells = P.cells + 1 ∧ B.slots = P.slots + A.slots.size) := by
  intro m meth c P g ig mk a X hg hsize hdg hW hn hp'
  obtain ⟨rfl, rfl, r1, r2⟩ := hp'
  have al : Z.vm.Alike P.U.vm := hZ.alike.trans X.warmed.alike
  obtain ⟨D, cfV, kV, iV, fV, hD, gV, stV, knV, obV, asV, slV⟩ := id V
  obtain ⟨D', cfC, kC, iC, fC, hD', gC, stC, -, -, asC, slC⟩ := id C
  cases hD.symm.trans hD'
  obtain ⟨D2, kD, e1, e2, e3, e4, e5⟩ := id E
  cases hD.symm.trans e1
  obtain ⟨c2, k2, i1, i2, i3, -⟩ := Cond.instantiable_spec wi
  cases e2.symm.trans i1
  cases e3.symm.trans i2
  obtain ⟨kU, u1, u2⟩ := al.2.2 _ _ e3
  have hB : Blank ST x D P.U := ⟨hD, ⟨knV, fun q hq => by rw [hq] at obV; cases obV⟩, by rw [al.findClass]; exact e2, kU, u1, by rw [u2]; exact i3, by rw [u2]; exact e5 i3⟩
  have F1 : Found ST "value" "[B" fV P.U := ⟨SBG.found_only al ⟨cfV, kV, iV, gV⟩, stV⟩
  have F2 : Found ST "coder" "B" fC P.U := ⟨SBG.found_only al ⟨cfC, kC, iC, gC⟩, stC⟩
  have hA : Ch b A P.U := ⟨⟨K.1, State.isArrayOf_alike al K.2.1, K.2.2, by omega⟩, hty⟩
  have hS : StaticIs P.U ST "COMPACT_STRINGS" "Z" (.int z) := by
    obtain ⟨cfS, iS, kS, fS, st, cS, t1, t2, t3, t4, t5, t6, t7⟩ := S
    exact StaticIs.there (s := { Z with heap := P.U.heap }) ⟨cfS, iS, kS, fS, st, cS, t1, t2, t3, t4, t5, (fun q => by rw [q] at t6; cases t6), t7⟩ al rfl
  obtain ⟨v, B, X', ⟨⟨hv, E', V', q1, q2, q3, q4, q5, q6, q7, q8, q9, q10, q11⟩, hl, hc, hs⟩, st⟩ := New1.pays x D fV fC b A z (tab_of (moved hZ hw)) hfr hlo m meth c P g ig mk _ X hg hsize hdg hW hn ⟨r1, r2, rfl, hB, F1, F2, hA, hS, hz, l0, l2, hp⟩
  have al' : Z.vm.Alike B.U.vm := hZ.alike.trans X'.warmed.alike
  have hsz : E'.slots.size = D.slots.size := by
    obtain ⟨-, -, -, kB, w1, w2, w3⟩ := q1
    obtain ⟨kB', y1, y2⟩ := al'.2.2 _ _ e3
    rw [q2.2.1] at w1
    cases w1.symm.trans y1
    rw [w3, e5 i3, y2]
  refine ⟨v, B, X', ⟨_, ⟨hv, ?_, ⟨by omega, fun y cy hy hn' => q10 y cy (by simpa using hn') hy, fun y cy hy => ?_⟩, q11, ⟨E', _, q1.1, by rw [q2.2.1]; exact e2, by rw [q2.2.1]; exact e3, by rw [q2.1]; exact obV, fun _ => by rw [hsz]; exact e5 i3⟩,
    ⟨E', cfV, kV, iV, fV, q1.1, gV, stV, by rw [q2.1]; exact knV, by rw [q2.1]; exact obV, by rw [q2.2.1]; exact asV, q3⟩, ⟨E', cfC, kC, iC, fC, q1.1, gC, stC, by rw [q2.1]; exact knV, by rw [q2.1]; exact obV, by rw [q2.2.1]; exact asC, q4⟩,
    ⟨V', ⟨q5.1, State.isArrayOf_alike al'.symm q5.2.1, q5.2.2.1⟩, q6, by rw [← al'.findClass]; exact q7, q8, fun j hj => by have := q9 j hj; rwa [Nat.zero_add] at this⟩, fun O n d w F n1 n2 => ?_⟩, hl, hc, hs⟩, st⟩
  · intro y hy
    simp only [List.mem_cons, List.not_mem_nil, or_false] at hy
    rcases hy with rfl | rfl <;> rfl
  · by_cases q : y = x
    · subst q
      cases hD.symm.trans hy
      exact ⟨E', q1.1, q2.2.1, q2.1, hsz⟩
    · exact ⟨cy, q10 y cy q hy, rfl, rfl, rfl⟩
  · obtain ⟨D3, cf, k, i, f, g1, g2, g3, g4, g5, g6, g7⟩ := F
    cases hD.symm.trans g1
    simp only [RoadKit.slotOf, g2, gV, gC, Option.map_some, Option.getD_some] at n1 n2
    exact ⟨E', cf, k, i, f, q1.1, g2, g3, by rw [q2.1]; exact g4, by rw [q2.1]; exact g5, by rw [q2.2.1]; exact g6, by rw [q2.2.2 f.slot (by simp [n1, n2])]; exact g7⟩
end StrChars.Road
namespace StrChars.Road
open Jvm Sem ClassFile Op Lib Jvm.Stand Jvm.Free Jvm.Free.XT
/-- WHAT COMES BACK, the byte[] as a list of values -/
def QA (Z : State) (x : Addr) (zn : Int32) (cs : List Int32) (h : Heap) (v : Option Value) (h' : Heap) (L : List Loc) : Prop := v = none ∧ (∀ y ∈ L, y.base = x) ∧ RoadKit.Keep h h' [x] ∧ h'.size = h.size + 1 ∧ RoadKit.Exa Z h' x ST ∧ RoadKit.Fld Z h' x ST "value" "[B" (.ref h.size) ∧ RoadKit.Fld Z h' x ST "coder" "B" (.int 0) ∧
  (∃ kb, Z.vm.findClass "[B" = some kb ∧ RoadKit.Arv Z h' h.size kb .byte zn (cs.map fun c => .int (lo8 c)) (.int 0)) ∧
  ∀ (O n d : String) (w : Value), RoadKit.Fld Z h x O n d w → RoadKit.slotOf Z O n d ≠ RoadKit.slotOf Z ST "value" "[B" → RoadKit.slotOf Z O n d ≠ RoadKit.slotOf Z ST "coder" "B" → RoadKit.Fld Z h' x O n d w
/-- **new String(chars) AT A CALL, THE ARRAYS AS LISTS**: the char[] at b holds cs, not empty, no char above 255 -/
theorem backArv {p : Program} {l : Launch} {e : Env} {R : Room} {s : State} {args : Array Value} {below : List Frame} {len W : Nat} {Z : State} {a0 : Array Value} {h : Heap} (hZ : Z.Warmed39 s.vm) (hw : ∀ d ∈ words, d.before a0 Z = true) {kI : Nat} (wi : (Jvm.Cond.instantiable ST kI).before a0 Z = true)
    {x b : Addr} {k : ClassId} {zn z : Int32} {cs : List Int32} {dv v0 c0 : Value} (E : RoadKit.Exa Z h x ST) (V : RoadKit.Fld Z h x ST "value" "[B" v0) (C : RoadKit.Fld Z h x ST "coder" "B" c0) (K : RoadKit.Arv Z h b k .char zn (cs.map Value.int) dv) (S : RoadKit.Sta Z h ST "COMPACT_STRINGS" "Z" (.int z)) (hz : ¬ z = 0)
    (hlen : zn.toNatClampNeg = cs.length) (h0 : 0 < cs.length) (hbig : cs.length ≤ 536870912) (hall : ∀ c ∈ cs, ¬ 255 < c) (hfr : 4 ≤ R.frames) (hlo : W + 65 ≤ R.locals) :
    Back l R p e below s args New1.yN len W (fun P a => a = #[.ref x, .ref b] ∧ P.U.heap = h ∧ P.cells + 1 ≤ R.cells ∧ P.slots + cs.length ≤ R.slots)
      (fun P _ v B => ∃ L, QA Z x zn cs h v B.U.heap L ∧ B.locs = P.locs ++ L ∧ B.cells = P.cells + 1 ∧ B.slots = P.slots + cs.length) := by
  obtain ⟨A, K1, K2, K3, K4, K5, K6⟩ := K
  have e : A.slots.size = cs.length := K3.trans hlen
  have hat : ∀ (i : Nat) (hi : i < cs.length), A.slots[i]? = some (.int cs[i]) := fun i hi => by rw [K5 i (by omega)]; simp [List.getD_eq_getElem?_getD, hi]
  have hcv : ∀ (i : Nat) (hi : i < cs.length), cv A i = cs[i] := fun i hi => by unfold cv; rw [hat i hi]
  have hty : Typed .char A := fun i v hv => by
    have hi : i < A.slots.size := (Array.getElem?_eq_some_iff.mp hv).1
    have q := K5 i hi
    rw [hv] at q
    rw [Option.some.inj q]
    exact K6 i hi
  refine Back.mono (back hZ hw wi E V C K1 hty S hz (by omega) (by omega) (fun i hi => by rw [hcv i (by omega)]; exact hall _ (List.getElem_mem _)) hfr hlo) (fun P a hp => ⟨hp.1, hp.2.1, hp.2.2.1, by rw [e]; exact hp.2.2.2⟩) (fun P a v B hp hq => ?_)
  obtain ⟨L, ⟨q1, q2, q3, q4, q5, q6, q7, ⟨V', v1, v2, v3, v4, v5⟩, q9⟩, hl, hc, hs⟩ := hq
  refine ⟨L, ⟨q1, q2, q3, q4, q5, q6, q7, ⟨V'.cls, v3, V', v1, rfl, by rw [v4, e, hlen], K4, fun i hi => ?_, fun i hi => ?_⟩, q9⟩, hl, hc, by rw [hs, e]⟩
  · have hi' : i < cs.length := by omega
    rw [v5 i (by omega), hcv i hi']; simp [List.getD_eq_getElem?_getD, hi']
  · have hi' : i < cs.length := by omega
    simp only [List.getD_eq_getElem?_getD, List.getElem?_map, List.getElem?_eq_getElem hi', Option.map_some, Option.getD_some]
    exact fits_lo8 _
end StrChars.Road
namespace StrChars.Road
open Jvm Sem ClassFile Op Lib Jvm.Stand Jvm.Free Jvm.Free.XT
/-- WHAT COMES BACK, in the writer's own shape -/
def QV (Z : State) (x : Addr) (N : Int32) (bs : List Int32) (h : Heap) (n0 : Nat) (v : Option Value) (h' : Heap) (L : List Loc) : Prop := v = none ∧ RoadKit.Fr n0 L ∧ RoadKit.Keep h h' [x] ∧ RoadKit.Exa Z h' x ST ∧ RoadKit.Fld Z h' x ST "coder" "B" (.int 0) ∧
  ∃ (t : Addr) (kb : ClassId), n0 ≤ t ∧ h.size ≤ t ∧ ¬ t = x ∧ RoadKit.Fld Z h' x ST "value" "[B" (.ref t) ∧ RoadKit.Arv Z h' t kb .byte N (bs.map Value.int) (.int 0)
/-- **new String(chars) AT A CALL, FOR THE WRITER**: a char[] of n known ints, each 0 to 255 -/
theorem backV {p : Program} {l : Launch} {e : Env} {R : Room} {s : State} {args : Array Value} {below : List Frame} {len W : Nat} {Z : State} {a0 : Array Value} {h : Heap} (hZ : Z.Warmed39 s.vm) (hw : ∀ d ∈ words, d.before a0 Z = true) {kI : Nat} (wi : (Jvm.Cond.instantiable ST kI).before a0 Z = true)
    {x b : Addr} {kC : ClassId} {cs bs : List Int32} {d v0 c0 : Value} {z N : Int32} {n n0 : Nat} (hx0 : n0 ≤ x) (hh0 : n0 ≤ h.size) (E : RoadKit.Exa Z h x ST) (V : RoadKit.Fld Z h x ST "value" "[B" v0) (C : RoadKit.Fld Z h x ST "coder" "B" c0) (K : RoadKit.Arv Z h b kC .char N (cs.map Value.int) d) (S : RoadKit.Sta Z h ST "COMPACT_STRINGS" "Z" (.int z)) (hz : ¬ z = 0)
    (hn : cs.length = n) (hN : N = Int32.ofNat n) (l0 : 0 < n) (l2 : n ≤ 4000) (hp : ∀ c ∈ cs, ¬ c < 0 ∧ ¬ (255 : Int32) < c) (hb : bs = cs.map (fun c => c.toInt8.toInt32)) (hfr : 4 ≤ R.frames) (hlo : W + 65 ≤ R.locals) :
    Back l R p e below s args (⟨"java/lang/String", "<init>", "([C)V"⟩ : MethodName) len W (fun P a => a = #[.ref x, .ref b] ∧ P.U.heap = h ∧ P.cells + 1 ≤ R.cells ∧ P.slots + n ≤ R.slots)
      (fun P _ v B => ∃ L, QV Z x N bs h n0 v B.U.heap L ∧ B.locs = P.locs ++ L ∧ B.cells = P.cells + 1 ∧ B.slots = P.slots + n) := by
  subst hn hN hb
  refine Back.mono (backArv hZ hw wi E V C K S hz (n32 (by omega)) l0 (by omega) (fun c hc => (hp c hc).2) hfr hlo) (fun P a hp => hp) (fun P a v B hp hq => ?_)
  obtain ⟨L, ⟨q1, q2, q3, q4, q5, q6, q7, ⟨kb, v1, v2⟩, q9⟩, hl, hc, hs⟩ := hq
  exact ⟨L, ⟨q1, fun y hy => by rw [q2 y hy]; exact hx0, q3, q5, q7, h.size, kb, hh0, Nat.le_refl _, Nat.ne_of_gt E.lt, q6, by rw [List.map_map]; exact v2⟩, hl, hc, hs⟩
end StrChars.Road
end Jvm.Pilot.@@N@@
namespace Jvm.Pilot.@@N@@
open Jvm Jvm.ClassFile Sem Op Lib Jvm.Free Jvm.Stand Jvm.LawKit Jvm.RoadKit Bundle Jvm.Pilot.@@N@@.Jvm.D
theorem own_selp {s : State} {args : Array Value} {C : String} {y : MethodName} (h : (Cond.selects C y y).before args s = true) (hpriv : s.PrivateAt y) (hinst : (Cond.instanceMethod y).before args s = true) (hy : y.cls ≠ "java/lang/invoke/MethodHandle" ∧ y.cls ≠ "java/lang/invoke/VarHandle") :
    (Cond.selects y.cls y y).before args s = true := by
  obtain ⟨c, r, mm, -, hr, hm, -, mk, hmk, hni⟩ := Cond.selects_spec h
  obtain ⟨mk', methM, hnamed, hmethM, -, -⟩ := Cond.instanceMethod_spec hinst
  cases hm.symm.trans hnamed
  have hfound : s.methodFound? y.cls y.name y.desc = some mm := State.methodFound?_of_named hnamed hy
  have hsel : selectMethod {} s.vm mm.cls mm = .method mm := selectMethod_private hmethM (hpriv mm methM hnamed hmethM)
  simp only [Cond.before, Cond.holds, Cond.value, findClass_of_methodNamed hnamed, hfound, hnamed, hsel, hmk]
  simp; exact hni
theorem own_nf {s : State} {a0 : Array Value} {y y' : MethodName} (h : NotFace s y) (hd : (Jvm.Cond.declares y).before a0 s = true) (e : y.cls = y'.cls) : NotFace s y' := fun r0 h0 => by
  obtain ⟨m, meth, hn, -, -, -⟩ := Cond.declares_spec hd
  obtain ⟨kr, hk, hi⟩ := h m hn
  have a := findClass_of_methodNamed hn
  have b := findClass_of_methodNamed h0
  rw [e] at a
  have c := Option.some.inj (a.symm.trans b)
  exact ⟨kr, by rw [← c]; exact hk, hi⟩
theorem own_same {Z : State} {a0 : Array Value} {y : MethodName} (hf : NotFace Z y) (h : (Jvm.Cond.declares y).before a0 Z = true) (hy : y.cls ≠ "java/lang/invoke/MethodHandle" ∧ y.cls ≠ "java/lang/invoke/VarHandle") : (Jvm.Cond.sameMethod y.cls y.cls y.name y.desc).before a0 Z = true := by
  obtain ⟨m, meth, hn, hm, -, -⟩ := Cond.declares_spec h
  have hfc := findClass_of_methodNamed hn
  have hfo := State.methodFound?_of_named hn hy
  have hn' : Z.methodNamed? ⟨y.cls, y.name, y.desc⟩ = some m := hn
  obtain ⟨kr, hk, hi⟩ := hf m hn
  simp [Cond.before, Cond.holds, Cond.value, hfc, hfo, hn', hk, hi]
theorem own_wd {Z : State} {a0 : Array Value} (hw : ∀ d ∈ tables_1, d.before a0 Z = true) (i : Nat) {d : Jvm.Cond} (h : tables_1[i]? = some d) : d.before a0 Z = true := hw _ (List.mem_of_getElem? h)
def own_b (P : Prop) [Decidable P] : Int32 := if P then (1 : Int32) else (0 : Int32)
theorem own_bt {P : Prop} [Decidable P] (h : P) : own_b P = (1 : Int32) := if_pos h
theorem own_bf {P : Prop} [Decidable P] (h : ¬ P) : own_b P = (0 : Int32) := if_neg h
theorem own_btn {P : Prop} [Decidable P] (h : P) : ¬ (own_b P = (0 : Int32)) := by rw [own_bt h]; decide
theorem own_bfn {P : Prop} [Decidable P] (h : ¬ P) : ¬ (own_b P = (1 : Int32)) := by rw [own_bf h]; decide
theorem own_b_congr {P Q : Prop} [Decidable P] [Decidable Q] (h : P ↔ Q) : own_b P = own_b Q := by
  by_cases q : P
  · rw [own_bt q, own_bt (h.mp q)]
  · rw [own_bf q, own_bf fun z => q (h.mpr z)]
theorem own_eqI {args : Array Value} {s : State} {t : Term} {k : Int32} (h : (Jvm.Cond.eq t (.int k)).value args s none s [] = some true) : t.eval args s none [] s = some (.int k) := by
  obtain ⟨x, y, h1, h2, -, h4⟩ := cmp_v (Or.inl h)
  cases Option.some.inj (h2.symm.trans (Term.int_eval k))
  obtain ⟨z, rfl⟩ := h4
  rw [h1, gotT (Cond.eq_ints h1 h2) h]
theorem own_eqR {args : Array Value} {s : State} {t u : Term} {y : Addr} (hu : u.eval args s none [] s = some (.ref y)) (h : (Jvm.Cond.eq t u).value args s none s [] = some true) : t.eval args s none [] s = some (.ref y) := by
  obtain ⟨x, y', h1, h2, -, h4⟩ := cmp_v (Or.inl h)
  cases Option.some.inj (h2.symm.trans hu)
  rw [h1, gotT (eq_R h1 h2 h4.2 rfl) h]
theorem own_len {args : Array Value} {s : State} {t : Term} {a : Addr} {cl : Cell} {ty : FieldType} {k : Int32} (ev : t.eval args s none [] s = some (.ref a)) (A : Arr s s.heap a cl ty) (h : (Term.length t).eval args s none [] s = some (.int k)) : cl.slots.size < 2 ^ 31 ∧ cl.slots.size.toInt32 = k := by
  have ha : s.arrayAt? a = some cl := A.fin (Vm.Alike.refl _)
  by_cases hl : cl.slots.size < 2 ^ 31
  · rw [len_f ev ha hl] at h
    exact ⟨hl, by simpa using h⟩
  · simp [Term.eval, ev, ha, hl] at h
theorem own_eqL {args : Array Value} {s : State} {t : Term} {k : Int64} (h : (Jvm.Cond.eq t (.long k)).value args s none s [] = some true) : t.eval args s none [] s = some (.long k) := by
  obtain ⟨x, y, h1, h2, -, h4⟩ := cmp_v (Or.inl h)
  cases Option.some.inj (h2.symm.trans (long_at k))
  obtain ⟨z, rfl⟩ := h4
  rw [h1, gotT (eq_L h1 h2) h]
def own_EL : List (String × Nat) := [("java/lang/StringLatin1", 151), ("java/lang/StringLatin1", 168), ("java/lang/StringLatin1", 170), ("java/lang/StringLatin1", 172)]
theorem own_EW {Z : State} {a0 : Array Value} (hw : ∀ d ∈ tables_1, d.before a0 Z = true) : EW Z a0 own_EL := (EW.cons (hw _ (List.mem_of_getElem? (i := 96) rfl)) (by decide +kernel) (EW.cons (hw _ (List.mem_of_getElem? (i := 181) rfl)) (by decide +kernel) (EW.cons (hw _ (List.mem_of_getElem? (i := 182) rfl)) (by decide +kernel) (EW.cons (hw _ (List.mem_of_getElem? (i := 183) rfl)) (by decide +kernel) EW.nil))))
set_option maxRecDepth 65536 in
theorem own_wS {Z : State} {a0 : Array Value} (hw : ∀ d ∈ tables_1, d.before a0 Z = true) : ∀ d ∈ Bundle.stringAtoms, d.before a0 Z = true := fun d hd => hw d ((by decide +kernel : ∀ d ∈ Bundle.stringAtoms, d ∈ tables_1) d hd)
theorem own_chr (x : Int32) : ¬ ((x &&& (255 : Int32)).toUInt32.toUInt16.toUInt32.toInt32).toUInt32.toUInt16.toUInt32.toInt32 < 0 ∧ ¬ (255 : Int32) < ((x &&& (255 : Int32)).toUInt32.toUInt16.toUInt32.toInt32).toUInt32.toUInt16.toUInt32.toInt32 := by
  have h1 := c_and x 255 (by decide)
  have h2 := c_i2c (x &&& (255 : Int32))
  have h3 := c_i2c ((x &&& (255 : Int32)).toUInt32.toUInt16.toUInt32.toInt32)
  have e1 : (255 : Int32).toInt = 255 := by decide
  have e0 : (0 : Int32).toInt = 0 := by decide
  simp only [Int32.lt_iff_toInt_lt, e1, e0] at *
  omega
theorem own_up (cs : List Int32) (h : ∀ c ∈ cs, ¬ c < 0 ∧ ¬ (255 : Int32) < c) : ∀ c ∈ cs, ¬ c < 0 ∧ ¬ (65535 : Int32) < c := fun c hc => ⟨(h c hc).1, fun q => (h c hc).2 (by rw [Int32.lt_iff_toInt_lt] at q ⊢; have e1 : (65535 : Int32).toInt = 65535 := rfl; have e2 : (255 : Int32).toInt = 255 := rfl; omega)⟩
set_option maxRecDepth 65536 in
theorem own_hws {Z : State} {a0 : Array Value} (hw : ∀ d ∈ tables_1, d.before a0 Z = true) : ∀ d ∈ StrChars.Road.words, d.before a0 Z = true := fun d hd => hw d ((by decide +kernel : ∀ d ∈ StrChars.Road.words, d ∈ tables_1) d hd)
theorem own_b_of {P : Prop} [Decidable P] (h : ¬ (own_b P = (0 : Int32))) : P := Decidable.byContradiction fun q => h (own_bf q)
theorem own_b_not {P : Prop} [Decidable P] (h : own_b P = (0 : Int32)) : ¬ P := fun q => own_btn q h
theorem own_safe_blank {Z : State} {EL : List (String × Nat)} {vm : Vm} {h : Heap} {x : Addr} (hal : Z.vm.Alike vm) (E : Exa Z h x "java/lang/String") (F : Fld Z h x "java/lang/String" "value" "[B" .null) : Safe Z EL vm h x := fun B => by
  obtain ⟨p, -, u, a, -, q, -, G, rfl | rfl⟩ := B
  · obtain ⟨cell, cf, k, i, f, e1, e2, -, -, -, -, e7⟩ := F
    cases (show h[q.sa]? = some q.sC from G.ha).symm.trans e1
    obtain ⟨cS, ⟨⟨-, -, -, ⟨c1, k1, i1, f1, -⟩, -, -, -, v1, -⟩, -⟩, -⟩ := G
    obtain ⟨k3, e3, -⟩ := State.fieldFound?_setVm (s := ({ Z with heap := h } : State)) hal (show ({ Z with heap := h } : State).fieldFound? _ _ _ = _ from e2)
    have e4 := (show (Wst Z vm h).fieldFound? _ _ _ = _ from e3).symm.trans f1
    simp only [Option.some.injEq, Prod.mk.injEq] at e4
    rw [← e4.2.2.2, e7] at v1
    simp at v1
  · obtain ⟨cell, k, e1, e2, e3, -, -⟩ := E
    cases (show h[q.sd]? = some q.SA from G.hd).symm.trans e1
    obtain ⟨cS, -, -, f, -⟩ := G
    have f' : vm.findClass "[B" = some q.SA.cls := f
    rw [hal.findClass] at f'
    obtain ⟨k1, q1, q2⟩ := Vm.findClass_spec f'
    obtain ⟨k2, q3, q4⟩ := Vm.findClass_spec e2
    cases q1.symm.trans q3
    exact absurd (q2.symm.trans q4) (by decide)
theorem own_i2c {x : Int32} (h0 : ¬ (x < (0 : Int32))) (h1 : ¬ ((255 : Int32) < x)) : x.toUInt32.toUInt16.toUInt32.toInt32 = x := by
  have h2 := c_i2c x
  have e1 : (255 : Int32).toInt = 255 := by decide
  have e0 : (0 : Int32).toInt = 0 := by decide
  simp only [Int32.lt_iff_toInt_lt, ← Int32.toInt_inj, e1, e0] at *
  omega
theorem own_ind {G : Prop} {A : Type} (mu : A → Nat) (P : A → State → List Loc → Heap → Prop) (step : ∀ a T L h, P a T L h → (∀ b T' L' h', mu b < mu a → P b T' L' h' → G) → G) (a : A) (T : State) (L : List Loc) (h : Heap) (ha : P a T L h) : G := by
  have H : ∀ (k : Nat) (a : A) (T : State) (L : List Loc) (h : Heap), mu a = k → P a T L h → G := by
    intro k
    induction k using Nat.strongRecOn with
    | _ k ih =>
      intro a T L h hk hp
      exact step a T L h hp (fun b T' L' h' hb hp' => ih (mu b) (by omega) b T' L' h' rfl hp')
  exact H _ a T L h rfl ha
def own_by (c : Int32) : Int32 := c.toInt8.toInt32
def own_fv (f : Nat → Int32) (n : Nat) : List Value := (List.range n).map fun j => .int (own_by (f j))
def own_zf : Nat → Int32 := fun _ => 0
theorem own_fvlen (f : Nat → Int32) (n : Nat) : (own_fv f n).length = n := by simp [own_fv]
theorem own_fvget (f : Nat → Int32) (n j : Nat) (d : Value) (h : j < n) : (own_fv f n).getD j d = .int (own_by (f j)) := by simp [own_fv, List.getD_eq_getElem?_getD, h]
theorem own_fvout (f : Nat → Int32) (n j : Nat) (d : Value) (h : ¬ j < n) : (own_fv f n).getD j d = d := by rw [List.getD_eq_getElem?_getD, List.getElem?_eq_none (by rw [own_fvlen]; omega)]; rfl
theorem own_fvcongr {f g : Nat → Int32} {n : Nat} (h : ∀ j, j < n → f j = g j) : own_fv f n = own_fv g n := by
  unfold own_fv; apply List.map_congr_left; intro j hj; rw [h j (List.mem_range.mp hj)]
theorem own_int {n : Nat} (h : n < 2147483648) : (Int32.ofNat n).toInt = n := Int32.toInt_ofNat_of_lt (by omega)
theorem own_nat {n : Nat} (h : n < 2147483648) : (Int32.ofNat n).toNatClampNeg = n := by rw [Int32.toNatClampNeg, own_int h]; rfl
theorem own_lt {i n : Nat} (hi : i < 2147483648) (hn : n < 2147483648) : Int32.ofNat i < Int32.ofNat n ↔ i < n := by rw [Int32.lt_iff_toInt_lt, own_int hi, own_int hn]; omega
theorem own_eq {i n : Nat} (hi : i < 2147483648) (hn : n < 2147483648) : Int32.ofNat i = Int32.ofNat n ↔ i = n := by rw [← Int32.toInt_inj, own_int hi, own_int hn]; omega
theorem own_nn {n : Nat} (h : n < 2147483648) : ¬ Int32.ofNat n < 0 := by rw [Int32.lt_iff_toInt_lt, own_int h, show (0 : Int32).toInt = 0 from rfl]; omega
theorem own_add (a b : Nat) : Int32.ofNat a + Int32.ofNat b = Int32.ofNat (a + b) := (Int32.ofNat_add a b).symm
theorem own_one (i : Nat) : Int32.ofNat i + (1 : Int32) = Int32.ofNat (i + 1) := own_add i 1
theorem own_sub {a b : Nat} (h : b ≤ a) : Int32.ofNat a - Int32.ofNat b = Int32.ofNat (a - b) := by
  have e : Int32.ofNat a = Int32.ofNat (a - b) + Int32.ofNat b := by rw [own_add, Nat.sub_add_cancel h]
  rw [e, Int32.add_sub_cancel]
theorem own_pred {a : Nat} (h : 1 ≤ a) : Int32.ofNat a - (1 : Int32) = Int32.ofNat (a - 1) := own_sub h
theorem own_predm {a : Nat} (h : 1 ≤ a) : Int32.ofNat a + (-1 : Int32) = Int32.ofNat (a - 1) := by rw [← own_pred h, Int32.sub_eq_add_neg]
theorem own_in {c : Cell} {n i : Nat} (S : c.slots.size = (Int32.ofNat n).toNatClampNeg) (h : i < n) (hn : n < 2147483648) : ¬ (Int32.ofNat i < 0 ∨ c.slots.size ≤ (Int32.ofNat i).toNatClampNeg) := by
  rw [S, own_nat hn, own_nat (by omega)]; exact fun q => q.elim (own_nn (by omega)) (fun q => by omega)
theorem own_rd {c : Cell} {n i : Nat} {j : Int32} {f : Nat → Int32} {d : Value} (S : c.slots.size = (Int32.ofNat n).toNatClampNeg) (H : Has c (own_fv f n) d) (e : j = Int32.ofNat i) (h : i < n) (hn : n < 2147483648) : (¬ (j < 0 ∨ c.slots.size ≤ j.toNatClampNeg)) ∧ c.slots[j.toNatClampNeg]? = some (.int (own_by (f i))) := by
  subst e
  exact ⟨own_in S h hn, H.at (own_in S h hn) (by rw [own_nat (by omega), own_fvget _ _ _ _ h])⟩
theorem own_fv0 (n : Nat) : ∀ i, (own_fv own_zf n).getD i (.int (0 : Int32)) = ([] : List Value).getD i (.int (0 : Int32)) := fun i => by
  by_cases h : i < n
  · rw [own_fvget _ _ _ _ h]; rfl
  · rw [own_fvout _ _ _ _ h]; rfl
theorem own_setfv {f g : Nat → Int32} {n i : Nat} {x : Int32} {d : Value} (hx : i < n) (h1 : own_by (g i) = own_by x) (h2 : ∀ j, j < n → j ≠ i → g j = f j) : ∀ j, (own_fv g n).getD j d = ((own_fv f n).set i (.int (own_by x))).getD j d := fun j => by
  by_cases hj : j < n
  · by_cases e : j = i
    · subst e; rw [own_fvget _ _ _ _ hj, h1]; simp [List.getD_eq_getElem?_getD, own_fvlen, hj]
    · rw [own_fvget _ _ _ _ hj, h2 j hj e, ← own_fvget f n j d hj]; simp [List.getD_eq_getElem?_getD, Ne.symm e]
  · rw [own_fvout _ _ _ _ hj, List.getD_eq_getElem?_getD, List.getElem?_eq_none (by rw [List.length_set, own_fvlen]; omega)]; rfl
theorem own_cpfv {F G H : Nat → Int32} {N M sp dp nn : Nat} {d d' : Value} (h1 : sp + nn ≤ N) (h2 : dp + nn ≤ M) (hH : ∀ j, j < M → H j = if dp ≤ j ∧ j < dp + nn then F (sp + (j - dp)) else G j) : ∀ i, (own_fv H M).getD i d' = ((own_fv G M).take dp ++ ((List.range nn).map fun i => (own_fv F N).getD (sp + i) d) ++ (own_fv G M).drop (dp + nn)).getD i d' := fun i => by
  have e : own_fv H M = (own_fv G M).take dp ++ ((List.range nn).map fun i => (own_fv F N).getD (sp + i) d) ++ (own_fv G M).drop (dp + nn) := by
    apply List.ext_getElem?
    intro j
    by_cases hj : j < M
    · have hL : (own_fv H M)[j]? = some (.int (own_by (H j))) := by simp [own_fv, hj]
      rw [hL, hH j hj]
      by_cases q1 : j < dp
      · rw [if_neg (by omega), List.append_assoc, List.getElem?_append_left (by simp [own_fvlen]; omega)]; simp [own_fv, q1, hj]
      · by_cases q2 : j < dp + nn
        · rw [if_pos ⟨by omega, q2⟩, List.append_assoc, List.getElem?_append_right (by simp [own_fvlen]; omega)]
          have el : ((own_fv G M).take dp).length = dp := by simp [own_fvlen]; omega
          rw [el, List.getElem?_append_left (by simp; omega)]
          simp only [List.getElem?_map, List.getElem?_range (show j - dp < nn by omega), Option.map_some]
          rw [own_fvget _ _ _ _ (by omega)]
        · rw [if_neg (by omega), List.getElem?_append_right (by simp [own_fvlen]; omega)]
          have el : ((own_fv G M).take dp ++ (List.range nn).map fun i => (own_fv F N).getD (sp + i) d).length = dp + nn := by simp [own_fvlen]; omega
          rw [el, List.getElem?_drop, show dp + nn + (j - (dp + nn)) = j by omega]; simp [own_fv, hj]
    · rw [List.getElem?_eq_none (by rw [own_fvlen]; omega), List.getElem?_eq_none (by simp [own_fvlen]; omega)]
  rw [e]
theorem own_cp {p : Program} {l : Launch} {e : Env} {R : Room} {s : State} {m : MethodId} {args : Array Value} {below : List Frame} {meth : Method} {c : Code} {T : State} {locs : List Loc} {cells slots : Nat} {Z : State} {h : Heap} {a b : Addr} {k k' : ClassId} {dv dd : Value}
    (X : Stand p l e R s m args below meth c T locs cells slots) (hx : p.tables.exec = Jvm.exec) (hZ : Z.Warmed39 s.vm) {a0 : Array Value} {own : String} {index : Nat} (hown : s.vm.findClass own = some m.cls)
    (w1 : (Cond.methodLink own index Jvm.Stand.acN).before a0 Z = true) (w2 : (Cond.native Jvm.Stand.acN).before a0 Z = true) (w3 : (Cond.static Jvm.Stand.acN).before a0 Z = true) (w4 : (Cond.initialized "java/lang/System").before a0 Z = true) (eT : T.heap = h)
    {sp dp nn N M : Nat} {F G H : Nat → Int32} (A : Arv Z h a k .byte (Int32.ofNat N) (own_fv F N) dv) (B : Arv Z h b k' .byte (Int32.ofNat M) (own_fv G M) dd)
    (h1 : sp + nn ≤ N) (h2 : dp + nn ≤ M) (hN : N < 2147483648) (hM : M < 2147483648) (hnn : nn < 2147483648) (hH : ∀ j, j < M → H j = if dp ≤ j ∧ j < dp + nn then F (sp + (j - dp)) else G j) {n0 : Nat} (Nf : Fr n0 locs) (ge : n0 ≤ b)
    {g : JFrame} (hg : g.method = m) (hsize : g.locals.size = c.maxLocals) {rest : List Value} (hs : g.stack = .int (Int32.ofNat nn) :: .int (Int32.ofNat dp) :: .ref b :: .int (Int32.ofNat sp) :: .ref a :: rest) (hd : decode c.code g.pc = .ok (.invokestatic index, 3))
    (hf : 1 ≤ R.frames) {W : Nat} (hW : 2 * g.monitorRoom + (rest.map fun v => v.category).sum ≤ W) (hlo : W + (nativeFrameWords "java/lang/System" "arraycopy" 5 + 11) ≤ R.locals) :
    ∃ T' h' L, Stand p l e R s m args below meth c T' L cells slots ∧ T'.heap = h' ∧ Fr n0 L ∧ Keep h h' [b] ∧ Arv Z h' b k' .byte (Int32.ofNat M) (own_fv H M) dd ∧
      ∀ target, Steps p.tables e below (T'.setTop { g with pc := g.pc + 3, stack := rest }) target → Steps p.tables e below (T.setTop g) target := by
  obtain ⟨T', h', L, X', e', N', K', A', st⟩ := cpA X hx hZ hown w1 w2 w3 w4 eT A B (Or.inl ⟨rfl, rfl⟩) (own_nn (by omega)) (own_nn (by omega)) (own_nn hnn) (by rw [own_nat (by omega), own_nat hnn, own_nat hN]; exact h1) (by rw [own_nat (by omega), own_nat hnn, own_nat hM]; exact h2) rfl (by rw [own_nat (by omega), own_nat hnn, own_fvlen]; exact h2) Nf ge hg hsize hs hd hf hW hlo
  rw [own_nat (show dp < 2147483648 by omega), own_nat hnn, own_nat (show sp < 2147483648 by omega)] at A'
  exact ⟨T', h', L, X', e', N', K', A'.pad (own_cpfv h1 h2 hH), st⟩
theorem own_isref {v : Value} (h : v.isRef = true) : (∃ a, v = .ref a) ∨ v = .null := by cases v <;> first | exact Or.inl ⟨_, rfl⟩ | exact Or.inr rfl | cases h
def own_sh (f : Nat → Int32) (s : Nat) : Nat → Int32 := fun j => f (s + j)
theorem own_sh0 (f : Nat → Int32) : own_sh f 0 = f := by funext j; simp [own_sh]
def own_low (c : Int32) : Int32 := if c < (65 : Int32) then c else if (122 : Int32) < (c ||| (32 : Int32)) then (if (c ||| (32 : Int32)) < (224 : Int32) then c else if (254 : Int32) < (c ||| (32 : Int32)) then c else if (c ||| (32 : Int32)) = (247 : Int32) then c else (c ||| (32 : Int32))) else (c ||| (32 : Int32))
def own_lw (f : Nat → Int32) : Nat → Int32 := fun j => own_low (f j)
def own_mxf (f : Nat → Int32) (i : Nat) : Nat → Int32 := fun j => if j < i then own_low (f j) else 0
def own_ix (f : Nat → Int32) (n : Nat) (r : Int32) : Prop := (∃ k, k < n ∧ r = Int32.ofNat k ∧ f k = 59 ∧ ∀ j, j < k → ¬ f j = 59) ∨ (r = (-1 : Int32) ∧ ∀ j, j < n → ¬ f j = 59)
def own_tr (f : Nat → Int32) (n u e : Nat) : Prop := u ≤ e ∧ e ≤ n ∧ (∀ j, j < u → ¬ (32 : Int32) < f j) ∧ (∀ j, e ≤ j → j < n → ¬ (32 : Int32) < f j) ∧ ((u < e ∧ (32 : Int32) < f u ∧ (32 : Int32) < f (e - 1)) ∨ (u = n ∧ e = n))
def own_whole (f : Nat → Int32) (n : Nat) : Prop := n = 0 ∨ ((32 : Int32) < f 0 ∧ (32 : Int32) < f (n - 1))
def own_mt (f : Nat → Int32) (n k u e : Nat) : Prop := (k ≤ n ∧ (∀ j, j < k → ¬ f j = 59) ∧ (k < n → f k = 59)) ∧ own_tr f k u e
def own_min (a b : Int32) : Int32 := if b < a then b else a
theorem own_minself (a : Int32) : own_min a a = a := ite_self _
theorem own_minle {a b : Nat} (h : b ≤ a) (ha : a < 2147483648) : own_min (Int32.ofNat a) (Int32.ofNat b) = Int32.ofNat b := by
  unfold own_min
  by_cases q : b < a
  · rw [if_pos ((own_lt (by omega) ha).mpr q)]
  · rw [if_neg (fun z => q ((own_lt (by omega) ha).mp z)), show a = b by omega]
theorem own_le {a b : Nat} (h : a ≤ b) (hb : b < 2147483648) : ¬ (Int32.ofNat b < Int32.ofNat a) := fun q => by have := (own_lt hb (by omega)).mp q; omega
theorem own_subm (s m : Nat) : Int32.ofNat (s + m) - Int32.ofNat s = Int32.ofNat m := by rw [own_sub (by omega), Nat.add_sub_cancel_left]
theorem own_shr0 (c : Int32) : c >>> ((0 : Int32) &&& 31) = c := by
  have e : ((0 : Int32) &&& 31) = 0 := by decide
  rw [e]; simp
theorem own_byte {P : Int32 → Prop} [DecidablePred P] (H : ∀ k : Fin 256, P (Int32.ofNat k.val)) {c : Int32} (h : ¬ c < 0 ∧ ¬ (255 : Int32) < c) : P c := by
  obtain ⟨h1, h2⟩ := h
  rw [Int32.lt_iff_toInt_lt] at h1 h2
  have e0 : (0 : Int32).toInt = 0 := rfl
  have e1 : (255 : Int32).toInt = 255 := rfl
  have e : c = Int32.ofNat c.toInt.toNat := by rw [← Int32.toInt_inj, own_int (by omega)]; omega
  rw [e]; exact H ⟨c.toInt.toNat, by omega⟩
theorem own_b255 {c : Int32} (h : ¬ c < 0 ∧ ¬ (255 : Int32) < c) : own_by c &&& (255 : Int32) = c := own_byte (P := fun c => own_by c &&& (255 : Int32) = c) (by decide +kernel) h
theorem own_by59 {c : Int32} (h : ¬ c < 0 ∧ ¬ (255 : Int32) < c) : own_by c = ((59 : Int32).toInt8.toInt32) → c = 59 := own_byte (P := fun c => own_by c = ((59 : Int32).toInt8.toInt32) → c = 59) (by decide +kernel) h
theorem own_lowr {c : Int32} (h : ¬ c < 0 ∧ ¬ (255 : Int32) < c) : ¬ own_low c < 0 ∧ ¬ (255 : Int32) < own_low c := own_byte (P := fun c => ¬ own_low c < 0 ∧ ¬ (255 : Int32) < own_low c) (by decide +kernel) h
theorem own_all {P : Nat → Prop} {i : Nat} (h : ∀ j, j < i → P j) (q : P i) : ∀ j, j < i + 1 → P j := fun j hj => by
  by_cases e : j = i
  · subst e; exact q
  · exact h j (by omega)
theorem own_allr {P : Nat → Prop} {n i : Nat} (h : ∀ j, i ≤ j → j < n → P j) (hi : 1 ≤ i) (q : P (i - 1)) : ∀ j, i - 1 ≤ j → j < n → P j := fun j h1 h2 => by
  by_cases e : j = i - 1
  · subst e; exact q
  · exact h j (by omega) h2
theorem own_tr_of {f : Nat → Int32} {n : Nat} (h : own_whole f n) : own_tr f n 0 n := by
  rcases h with h | ⟨h1, h2⟩
  · exact ⟨by omega, by omega, fun j hj => absurd hj (by omega), fun j h1 h2 => absurd h2 (by omega), Or.inr ⟨by omega, rfl⟩⟩
  · by_cases q : n = 0
    · exact ⟨by omega, by omega, fun j hj => absurd hj (by omega), fun j h1 h2 => absurd h2 (by omega), Or.inr ⟨by omega, rfl⟩⟩
    · exact ⟨by omega, by omega, fun j hj => absurd hj (by omega), fun j h1 h2 => absurd h2 (by omega), Or.inl ⟨by omega, h1, h2⟩⟩
theorem own_whole_tr {f : Nat → Int32} {n u e : Nat} (h : own_whole f n) (t : own_tr f n u e) : u = 0 ∧ e = n := by
  obtain ⟨h1, h2, h3, h4, h5⟩ := t
  rcases h with h | ⟨q1, q2⟩
  · omega
  · by_cases z : n = 0
    · omega
    · have a : u = 0 := by
        by_cases w : u = 0
        · exact w
        · exact absurd q1 (h3 0 (by omega))
      have b : e = n := by
        by_cases w : e = n
        · exact w
        · exact absurd q2 (h4 (n - 1) (by omega) (by omega))
      exact ⟨a, b⟩
theorem own_tr_whole {f : Nat → Int32} {n : Nat} (t : own_tr f n 0 n) : own_whole f n := by
  obtain ⟨h1, h2, h3, h4, h5⟩ := t
  rcases h5 with ⟨a, b, c⟩ | ⟨a, b⟩
  · exact Or.inr ⟨b, c⟩
  · exact Or.inl (by omega)
theorem own_strict {f : Nat → Int32} {n u e : Nat} (h : ¬ own_whole f n) (t : own_tr f n u e) : ¬ (u = 0 ∧ e - u = n) := fun q => h (own_tr_whole (by
  obtain ⟨q1, q2⟩ := q; subst q1; have : e = n := by omega
  subst this; exact t))
theorem own_hpsh {f : Nat → Int32} {n u e k : Nat} (hp : ∀ j, j < n → ¬ f j < 0 ∧ ¬ (255 : Int32) < f j) (t : own_tr f k u e) (hk : k ≤ n) : ∀ j, j < e - u → ¬ own_sh f u j < 0 ∧ ¬ (255 : Int32) < own_sh f u j := fun j hj => hp (u + j) (by have := t.2.1; omega)
theorem own_arvne {Z : State} {h : Heap} {a b : Addr} {k k' : ClassId} {z z' : Int32} {vs vs' : List Value} {d d' : Value} (A : Arv Z h a k .byte z vs d) (B : Arv Z h b k' .byte z' vs' d') (q : z.toNatClampNeg ≠ z'.toNatClampNeg) : a ≠ b := fun e => by
  subst e
  obtain ⟨c, A1, -, S, -⟩ := A
  obtain ⟨c', B1, -, S', -⟩ := B
  cases A1.1.symm.trans B1.1
  exact q (S.symm.trans S')
theorem own_cplow {f : Nat → Int32} {i n : Nat} (h : ∀ j, j < i → own_low (f j) = f j) : ∀ j, j < n → own_mxf f i j = if 0 ≤ j ∧ j < 0 + i then f (0 + (j - 0)) else own_zf j := fun j _ => by
  unfold own_mxf
  by_cases q : j < i
  · rw [if_pos q, if_pos ⟨Nat.zero_le _, by omega⟩, h j q, Nat.zero_add, Nat.sub_zero]
  · rw [if_neg q, if_neg (by omega)]; rfl
theorem own_byby (x : Int32) : own_by (x.toInt8.toInt32) = own_by x := by unfold own_by; rw [Int8.toInt8_toInt32]
theorem own_mxs (f : Nat → Int32) (i : Nat) : own_by (own_mxf f (i + 1) i) = own_by ((own_low (f i)).toInt8.toInt32) := by rw [own_byby]; unfold own_mxf; rw [if_pos (by omega)]
theorem own_mxo (f : Nat → Int32) (i : Nat) {n : Nat} : ∀ j, j < n → j ≠ i → own_mxf f (i + 1) j = own_mxf f i j := fun j _ hj => by
  unfold own_mxf
  by_cases q : j < i
  · rw [if_pos (by omega), if_pos q]
  · rw [if_neg (by omega), if_neg q]
def own_max (a b : Int32) : Int32 := if a < b then b else a
def own_cv (f : Nat → Int32) (n : Nat) : List Value := (List.range n).map fun j => .int (f j)
theorem own_rdc {c : Cell} {n i : Nat} {j : Int32} {f : Nat → Int32} {d : Value} (S : c.slots.size = (Int32.ofNat n).toNatClampNeg) (H : Has c (own_cv f n) d) (e : j = Int32.ofNat i) (h : i < n) (hn : n < 2147483648) : (¬ (j < 0 ∨ c.slots.size ≤ j.toNatClampNeg)) ∧ c.slots[j.toNatClampNeg]? = some (.int (f i)) := by
  subst e
  exact ⟨own_in S h hn, H.at (own_in S h hn) (by rw [own_nat (by omega)]; simp [own_cv, List.getD_eq_getElem?_getD, h])⟩
def own_lowA (c : Int32) : Int32 := (((c + (32 : Int32)).toUInt32.toUInt16.toUInt32.toInt32).toUInt32.toUInt16.toUInt32.toInt32)
def own_lower (c : Int32) : Int32 := if c < (65 : Int32) then (if c < (192 : Int32) then (c.toUInt32.toUInt16.toUInt32.toInt32) else if (222 : Int32) < c then (c.toUInt32.toUInt16.toUInt32.toInt32) else if c = (215 : Int32) then (c.toUInt32.toUInt16.toUInt32.toInt32) else own_lowA c) else if (90 : Int32) < c then (if c < (192 : Int32) then (c.toUInt32.toUInt16.toUInt32.toInt32) else if (222 : Int32) < c then (c.toUInt32.toUInt16.toUInt32.toInt32) else if c = (215 : Int32) then (c.toUInt32.toUInt16.toUInt32.toInt32) else own_lowA c) else own_lowA c
def own_l4 (c0 c1 c2 c3 : Int32) : Nat → Int32
  | 0 => c0
  | 1 => c1
  | 2 => c2
  | _ => c3
theorem own_c16 {c : Int32} (h : ¬ c < 0 ∧ ¬ (255 : Int32) < c) : c.toUInt32.toUInt16.toUInt32.toInt32 = c := own_byte (P := fun c => c.toUInt32.toUInt16.toUInt32.toInt32 = c) (by decide +kernel) h
theorem own_lowlower {c : Int32} (h : ¬ c < 0 ∧ ¬ (255 : Int32) < c) : own_low c = own_lower c := own_byte (P := fun c => own_low c = own_lower c) (by decide +kernel) h
theorem own_and255 (x : Int32) : ¬ (x &&& (255 : Int32)) < 0 ∧ ¬ (255 : Int32) < (x &&& (255 : Int32)) := by
  have h1 := c_and x 255 (by decide)
  have e1 : (255 : Int32).toInt = 255 := by decide
  have e0 : (0 : Int32).toInt = 0 := by decide
  simp only [Int32.lt_iff_toInt_lt, e1, e0] at *
  omega
theorem own_draw30 (x : Int32) : ¬ (((((x &&& (255 : Int32)) % (33 : Int32)).toUInt32.toUInt16.toUInt32.toInt32).toUInt32.toUInt16.toUInt32.toInt32)) < 0 ∧ ¬ (255 : Int32) < (((((x &&& (255 : Int32)) % (33 : Int32)).toUInt32.toUInt16.toUInt32.toInt32).toUInt32.toUInt16.toUInt32.toInt32)) := own_byte (P := fun y => ¬ ((((y % (33 : Int32)).toUInt32.toUInt16.toUInt32.toInt32).toUInt32.toUInt16.toUInt32.toInt32)) < 0 ∧ ¬ (255 : Int32) < ((((y % (33 : Int32)).toUInt32.toUInt16.toUInt32.toInt32).toUInt32.toUInt16.toUInt32.toInt32))) (by decide +kernel) (own_and255 x)
theorem own_draw44 (x : Int32) : ¬ (((((65 : Int32) + ((x &&& (255 : Int32)) % (26 : Int32))).toUInt32.toUInt16.toUInt32.toInt32).toUInt32.toUInt16.toUInt32.toInt32)) < 0 ∧ ¬ (255 : Int32) < (((((65 : Int32) + ((x &&& (255 : Int32)) % (26 : Int32))).toUInt32.toUInt16.toUInt32.toInt32).toUInt32.toUInt16.toUInt32.toInt32)) := own_byte (P := fun y => ¬ (((((65 : Int32) + (y % (26 : Int32))).toUInt32.toUInt16.toUInt32.toInt32).toUInt32.toUInt16.toUInt32.toInt32)) < 0 ∧ ¬ (255 : Int32) < (((((65 : Int32) + (y % (26 : Int32))).toUInt32.toUInt16.toUInt32.toInt32).toUInt32.toUInt16.toUInt32.toInt32))) (by decide +kernel) (own_and255 x)
theorem own_draw47 (x : Int32) : ¬ ((((x &&& (255 : Int32)).toUInt32.toUInt16.toUInt32.toInt32).toUInt32.toUInt16.toUInt32.toInt32)) < 0 ∧ ¬ (255 : Int32) < ((((x &&& (255 : Int32)).toUInt32.toUInt16.toUInt32.toInt32).toUInt32.toUInt16.toUInt32.toInt32)) := own_byte (P := fun y => ¬ (((y.toUInt32.toUInt16.toUInt32.toInt32).toUInt32.toUInt16.toUInt32.toInt32)) < 0 ∧ ¬ (255 : Int32) < (((y.toUInt32.toUInt16.toUInt32.toInt32).toUInt32.toUInt16.toUInt32.toInt32))) (by decide +kernel) (own_and255 x)
theorem own_hp4 {c0 c1 c2 c3 : Int32} (h0 : ¬ c0 < 0 ∧ ¬ (255 : Int32) < c0) (h1 : ¬ c1 < 0 ∧ ¬ (255 : Int32) < c1) (h2 : ¬ c2 < 0 ∧ ¬ (255 : Int32) < c2) (h3 : ¬ c3 < 0 ∧ ¬ (255 : Int32) < c3) : ∀ j, j < 4 → ¬ own_l4 c0 c1 c2 c3 j < 0 ∧ ¬ (255 : Int32) < own_l4 c0 c1 c2 c3 j := fun j _ => by
  match j with
  | 0 => exact h0
  | 1 => exact h1
  | 2 => exact h2
  | _ + 3 => exact h3
theorem own_hpmt {f : Nat → Int32} {n k u e : Nat} (hp : ∀ j, j < n → ¬ f j < 0 ∧ ¬ (255 : Int32) < f j) (t : own_mt f n k u e) : ∀ j, j < e - u → ¬ own_lw (own_sh f u) j < 0 ∧ ¬ (255 : Int32) < own_lw (own_sh f u) j := fun j hj => own_lowr (hp (u + j) (by have := t.1.1; have := t.2.2.1; omega))
theorem own_eqc {f : Nat → Int32} {n k u e i : Nat} (hp : ∀ j, j < n → ¬ f j < 0 ∧ ¬ (255 : Int32) < f j) (t : own_mt f n k u e) (hi : i < e - u) : own_lw (own_sh f u) i = own_lower (f (u + i)) := own_lowlower (hp (u + i) (by have := t.1.1; have := t.2.2.1; omega))
theorem own_k {c0 c1 c2 c3 : Int32} {ka : Nat} (h : ka ≤ 4) (h59 : ∀ j, j < ka → ¬ own_l4 c0 c1 c2 c3 j = 59) (hk : ka < 4 → own_l4 c0 c1 c2 c3 ka = 59) : (if c0 = (59 : Int32) then (0 : Int32) else if c1 = (59 : Int32) then (1 : Int32) else if c2 = (59 : Int32) then (2 : Int32) else if c3 = (59 : Int32) then (3 : Int32) else (4 : Int32)) = Int32.ofNat ka := by
  have a0 := h59 0; have a1 := h59 1; have a2 := h59 2; have a3 := h59 3
  clear h59
  rcases (by omega : ka = 0 ∨ ka = 1 ∨ ka = 2 ∨ ka = 3 ∨ ka = 4) with rfl | rfl | rfl | rfl | rfl <;> simp [own_l4] at a0 a1 a2 a3 hk <;> simp [*] <;> rfl
def own_bl (p : Bool) : Int32 := if p = true then (1 : Int32) else (0 : Int32)
def own_p4 (p0 p1 p2 p3 : Bool) : Nat → Bool
  | 0 => p0
  | 1 => p1
  | 2 => p2
  | _ => p3
theorem own_p4l (c0 c1 c2 c3 : Int32) (j : Nat) : own_p4 (decide ((32 : Int32) < c0)) (decide ((32 : Int32) < c1)) (decide ((32 : Int32) < c2)) (decide ((32 : Int32) < c3)) j = decide ((32 : Int32) < own_l4 c0 c1 c2 c3 j) := by
  match j with
  | 0 => rfl
  | 1 => rfl
  | 2 => rfl
  | _ + 3 => rfl
def own_sv (ka : Nat) (g0 g1 g2 g3 : Int32) : Int32 := if g0 = (0 : Int32) then (if g1 = (0 : Int32) then (if g2 = (0 : Int32) then (if g3 = (0 : Int32) then Int32.ofNat ka else (3 : Int32)) else (2 : Int32)) else (1 : Int32)) else (0 : Int32)
def own_ev (g0 g1 g2 g3 : Int32) : Int32 := if g3 = (0 : Int32) then (if g2 = (0 : Int32) then (if g1 = (0 : Int32) then (if g0 = (0 : Int32) then (0 : Int32) else (1 : Int32)) else (2 : Int32)) else (3 : Int32)) else (4 : Int32)
set_option maxRecDepth 65536 in
theorem own_table : ∀ (ka ua ub : Fin 5) (p0 p1 p2 p3 : Bool), ua.val ≤ ub.val → ub.val ≤ ka.val → (∀ j : Fin 4, j.val < ua.val → own_p4 p0 p1 p2 p3 j.val = false) → (∀ j : Fin 4, ub.val ≤ j.val → j.val < ka.val → own_p4 p0 p1 p2 p3 j.val = false) → ((ua.val < ub.val ∧ own_p4 p0 p1 p2 p3 ua.val = true ∧ own_p4 p0 p1 p2 p3 (ub.val - 1) = true) ∨ (ua.val = ka.val ∧ ub.val = ka.val)) →
    own_max (0 : Int32) (own_ev (own_bl (decide (0 < ka.val) && p0)) (own_bl (decide (1 < ka.val) && p1)) (own_bl (decide (2 < ka.val) && p2)) (own_bl (decide (3 < ka.val) && p3)) - own_sv ka.val (own_bl (decide (0 < ka.val) && p0)) (own_bl (decide (1 < ka.val) && p1)) (own_bl (decide (2 < ka.val) && p2)) (own_bl (decide (3 < ka.val) && p3))) = Int32.ofNat (ub.val - ua.val) ∧
    (ua.val < ub.val → own_sv ka.val (own_bl (decide (0 < ka.val) && p0)) (own_bl (decide (1 < ka.val) && p1)) (own_bl (decide (2 < ka.val) && p2)) (own_bl (decide (3 < ka.val) && p3)) = Int32.ofNat ua.val) := by decide +kernel
theorem own_gv {i ka : Nat} {c : Int32} (hi : i < 2147483648) (hk : ka < 2147483648) : own_b (Int32.ofNat i < Int32.ofNat ka ∧ (32 : Int32) < c) = own_bl (decide (i < ka) && decide ((32 : Int32) < c)) := by
  unfold own_b own_bl
  simp only [own_lt hi hk, Bool.and_eq_true, decide_eq_true_eq]
theorem own_fin {c0 c1 c2 c3 k0 k1 k2 k3 g0 g1 g2 g3 s0 s1 s2 s3 e0 e1 e2 e3 : Int32} {ka ua ub : Nat} (mt : own_mt (own_l4 c0 c1 c2 c3) 4 ka ua ub) (q0 : k0 = if c0 = (59 : Int32) then (0 : Int32) else k1) (q1 : k1 = if c1 = (59 : Int32) then (1 : Int32) else k2) (q2 : k2 = if c2 = (59 : Int32) then (2 : Int32) else k3) (q3 : k3 = if c3 = (59 : Int32) then (3 : Int32) else (4 : Int32))
    (r0 : g0 = own_b ((0 : Int32) < k0 ∧ (32 : Int32) < c0)) (r1 : g1 = own_b ((1 : Int32) < k0 ∧ (32 : Int32) < c1)) (r2 : g2 = own_b ((2 : Int32) < k0 ∧ (32 : Int32) < c2)) (r3 : g3 = own_b ((3 : Int32) < k0 ∧ (32 : Int32) < c3))
    (t0 : s0 = if g0 = (0 : Int32) then s1 else (0 : Int32)) (t1 : s1 = if g1 = (0 : Int32) then s2 else (1 : Int32)) (t2 : s2 = if g2 = (0 : Int32) then s3 else (2 : Int32)) (t3 : s3 = if g3 = (0 : Int32) then k0 else (3 : Int32))
    (u3 : e3 = if g3 = (0 : Int32) then e2 else (4 : Int32)) (u2 : e2 = if g2 = (0 : Int32) then e1 else (3 : Int32)) (u1 : e1 = if g1 = (0 : Int32) then e0 else (2 : Int32)) (u0 : e0 = if g0 = (0 : Int32) then (0 : Int32) else (1 : Int32)) : own_max (0 : Int32) (e3 - s0) = Int32.ofNat (ub - ua) ∧ (ua < ub → s0 = Int32.ofNat ua) := by
  obtain ⟨⟨hk, h59, hk59⟩, h1, h2, h3, h4, h5⟩ := mt
  have hK : k0 = Int32.ofNat ka := by rw [q0, q1, q2, q3]; exact own_k hk h59 hk59
  clear q0 q1 q2 q3 h59 hk59
  have G0 : g0 = own_bl (decide (0 < ka) && decide ((32 : Int32) < c0)) := by rw [r0, hK]; exact own_gv (i := 0) (by omega) (by omega)
  have G1 : g1 = own_bl (decide (1 < ka) && decide ((32 : Int32) < c1)) := by rw [r1, hK]; exact own_gv (i := 1) (by omega) (by omega)
  have G2 : g2 = own_bl (decide (2 < ka) && decide ((32 : Int32) < c2)) := by rw [r2, hK]; exact own_gv (i := 2) (by omega) (by omega)
  have G3 : g3 = own_bl (decide (3 < ka) && decide ((32 : Int32) < c3)) := by rw [r3, hK]; exact own_gv (i := 3) (by omega) (by omega)
  have T := own_table ⟨ka, by omega⟩ ⟨ua, by omega⟩ ⟨ub, by omega⟩ (decide ((32 : Int32) < c0)) (decide ((32 : Int32) < c1)) (decide ((32 : Int32) < c2)) (decide ((32 : Int32) < c3)) h1 h2 (fun j hj => by rw [own_p4l]; exact decide_eq_false (h3 j.val hj)) (fun j hj hk => by rw [own_p4l]; exact decide_eq_false (h4 j.val hj hk)) (h5.imp (fun q => ⟨q.1, by rw [own_p4l]; exact decide_eq_true q.2.1, by rw [own_p4l]; exact decide_eq_true q.2.2⟩) id)
  dsimp only at T
  rw [← G0, ← G1, ← G2, ← G3] at T
  have S : s0 = own_sv ka g0 g1 g2 g3 := by rw [t0, t1, t2, t3, hK]; rfl
  have E : e3 = own_ev g0 g1 g2 g3 := by rw [u3, u2, u1, u0]; rfl
  rw [S, E]; exact T
theorem own_mtle {f : Nat → Int32} {n k u e : Nat} (t : own_mt f n k u e) : u ≤ e ∧ e ≤ n := ⟨t.2.1, Nat.le_trans t.2.2.1 t.1.1⟩

theorem d13_0 : decode jdk_42_method_152_code 0 = .ok (.getstatic 38, 3) := by decide +kernel
theorem d13_3 : decode jdk_42_method_152_code 3 = .ok (.ifCond .eq 10, 3) := by decide +kernel
theorem d13_6 : decode jdk_42_method_152_code 6 = .ok (.aload_n 0, 1) := by decide +kernel
theorem d13_7 : decode jdk_42_method_152_code 7 = .ok (.getfield 15, 3) := by decide +kernel
theorem d13_10 : decode jdk_42_method_152_code 10 = .ok (.goto 4, 3) := by decide +kernel
theorem d13_14 : decode jdk_42_method_152_code 14 = .ok (.ireturn, 1) := by decide +kernel
theorem pn_java_lang_String : plainName "java/lang/String" = true := by first | (simp [plainName, overriddenIn]; done) | decide +kernel
theorem ef13 (m : MethodId) (tz : Addr) : entryFrame m #[(.ref tz)] 1 = mkF m 0 #[.val (.ref tz)] [] := by first | (simp [entryFrame, mkF, argsToLocals, Value.category]; done) | rfl
def Q13 (Z : State) (tz : Addr) (st_COMPACT_STRINGS : Int32) (h0 : Heap) (n0 : Nat) (v : Option Value) (h : Heap) (L : List Loc) : Prop := v = some (.int (0 : Int32)) ∧ Fr n0 L ∧ h = h0
set_option maxRecDepth 65536 in
set_option maxHeartbeats 40000000 in
theorem rm13 (l : Launch) (Z : State) (a0 : Array Value) (hw : ∀ d ∈ tables_1, d.before a0 Z = true) (ws : List Jvm.Cond) (tz : Addr) (st_COMPACT_STRINGS : Int32) (h0 : Heap) (n0 : Nat) (Z0 : n0 ≤ h0.size) (O0 : Old Z n0 h0) (F_tz_coder : Fld Z h0 tz "java/lang/String" "coder" "B" (.int (0 : Int32))) (S_COMPACT_STRINGS : Sta Z Z.heap "java/lang/String" "COMPACT_STRINGS" "Z" (.int st_COMPACT_STRINGS)) (hcomp : ¬ (st_COMPACT_STRINGS = (0 : Int32))) :
    MetFree l (⟨"java/lang/String", "coder", "()B"⟩ : MethodName) (head1 (Jvm.Cond.code (⟨"java/lang/String", "coder", "()B"⟩ : MethodName) jdk_42_method_152_code 1 (some .byte) :: ws) ({ frames := 0, cells := 0, slots := 0, locals := 0 } : Room)) (fun a U => a = #[(.ref tz)] ∧ Z.Warmed39 U.vm ∧ U.heap = h0) (fun _ _ _ _ _ => True) (fun _ U o U' => ∃ v L, o = .returned v ∧ Q13 Z tz st_COMPACT_STRINGS h0 n0 v U'.heap L ∧ FrameEnd U o U' L ({ frames := 0, cells := 0, slots := 0, locals := 0 } : Room).cells ({ frames := 0, cells := 0, slots := 0, locals := 0 } : Room).slots) := by
  refine MetFree.of_bodySF (plainFor_of_name pn_java_lang_String) hisR ?_
  intro p e s m args below meth c s₁ Bd hml0 hP hK
  obtain ⟨rfl, hZ, hh⟩ := hP
  have hx := Bd.exec
  have hby := Bd.bytes
  have hml : c.maxLocals = 1 := hml0
  have hown : s.vm.findClass "java/lang/String" = some m.cls := findClass_of_methodNamed Bd.named
  have hnm := (name_of_methodNamed Bd.named Bd.method).1
  have X0 : Stand p l e ({ frames := 0, cells := 0, slots := 0, locals := 0 } : Room) s m #[(.ref tz)] below meth c s₁ [] 0 0 := Stand.of_body Bd
  have e0 : s₁.heap = h0 := by rw [← hh, Bd.state]; rfl
  have N0 := Fr.nil n0
  have K0 : Keep h0 h0 [] := Keep.refl _ _
  have pre0 : ∀ t, Steps p.tables e below (s₁.setTop (mkF m 0 #[.val (.ref tz)] [])) t → Steps p.tables e below (s₁.setTop (entryFrame m #[(.ref tz)] 1)) t := fun t k => castTop (ef13 m tz) k
  obtain ⟨T1, X1, e1, st1⟩ := getS2 X0 hx hZ hown (host := "") (Or.inl (own_wd hw 18 rfl)) Via.refl e0 (S_COMPACT_STRINGS.ext O0.2) (g := (mkF m 0 #[.val (.ref tz)] [])) rfl (hb hby d13_0)
  obtain ⟨T2, X2, e2, st2⟩ := getF X1 hx hZ hown (host := "") (Or.inl (own_wd hw 30 rfl)) Via.refl e1 F_tz_coder (g := (mkF m 7 #[.val (.ref tz)] [(.ref tz)])) rfl rfl (hb hby d13_7)
  obtain ⟨fs, hr, hrun, hended, hW, hsame⟩ := X2.leave (v := some (.int (0 : Int32))) (fun h => by rw [Bd.returns] at h; cases h)
  refine ⟨_, _, pre0 _ ?_, hrun, hended, _, _, rfl, ?_, ⟨_, rfl⟩, hW, hsame.mono (by decide) (by decide)⟩
  · show Steps p.tables e below (s₁.setTop (mkF m 0 #[.val (.ref tz)] [])) _
    refine st1 _ ?_
    show Steps p.tables e below (T1.setTop (mkF m 3 #[.val (.ref tz)] [(.int st_COMPACT_STRINGS)])) _
    refine XS.ifNo X1.here hx rfl (hb hby d13_3) rfl ((if0 _ _).trans (feq hcomp).1) ?_
    refine XS.aloadN X1.here hx rfl (hb hby d13_6) rfl rfl ?_
    show Steps p.tables e below (T1.setTop (mkF m 7 #[.val (.ref tz)] [(.ref tz)])) _
    refine st2 _ ?_
    show Steps p.tables e below (T2.setTop (mkF m 10 #[.val (.ref tz)] [(.int (0 : Int32))])) _
    refine XS.goto X2.here hx rfl (pc0 := 10) (pc' := 14) rfl (hb hby d13_10) (by decide) (by decide) ?_
    show Steps p.tables e below (T2.setTop (mkF m 14 #[.val (.ref tz)] [(.int (0 : Int32))])) _
    exact retN X2 hx (t := .byte) Bd.returns (by simp) (hb hby d13_14) hr
  · show Q13 Z tz st_COMPACT_STRINGS h0 n0 _ T2.heap _
    rw [e2]
    exact ⟨rfl, N0, rfl⟩
theorem d11_0 : decode jdk_42_method_154_code 0 = .ok (.getstatic 38, 3) := by decide +kernel
theorem d11_3 : decode jdk_42_method_154_code 3 = .ok (.ifCond .eq 14, 3) := by decide +kernel
theorem d11_6 : decode jdk_42_method_154_code 6 = .ok (.aload_n 0, 1) := by decide +kernel
theorem d11_7 : decode jdk_42_method_154_code 7 = .ok (.getfield 15, 3) := by decide +kernel
theorem d11_10 : decode jdk_42_method_154_code 10 = .ok (.ifCond .ne 7, 3) := by decide +kernel
theorem d11_13 : decode jdk_42_method_154_code 13 = .ok (.iconst 1, 1) := by decide +kernel
theorem d11_14 : decode jdk_42_method_154_code 14 = .ok (.goto 4, 3) := by decide +kernel
theorem d11_18 : decode jdk_42_method_154_code 18 = .ok (.ireturn, 1) := by decide +kernel
theorem ef11 (m : MethodId) (tz : Addr) : entryFrame m #[(.ref tz)] 1 = mkF m 0 #[.val (.ref tz)] [] := by first | (simp [entryFrame, mkF, argsToLocals, Value.category]; done) | rfl
def Q11 (Z : State) (tz : Addr) (st_COMPACT_STRINGS : Int32) (h0 : Heap) (n0 : Nat) (v : Option Value) (h : Heap) (L : List Loc) : Prop := v = some (.int (1 : Int32)) ∧ Fr n0 L ∧ h = h0
set_option maxRecDepth 65536 in
set_option maxHeartbeats 40000000 in
theorem rm11 (l : Launch) (Z : State) (a0 : Array Value) (hw : ∀ d ∈ tables_1, d.before a0 Z = true) (ws : List Jvm.Cond) (tz : Addr) (st_COMPACT_STRINGS : Int32) (h0 : Heap) (n0 : Nat) (Z0 : n0 ≤ h0.size) (O0 : Old Z n0 h0) (F_tz_coder : Fld Z h0 tz "java/lang/String" "coder" "B" (.int (0 : Int32))) (S_COMPACT_STRINGS : Sta Z Z.heap "java/lang/String" "COMPACT_STRINGS" "Z" (.int st_COMPACT_STRINGS)) (hcomp : ¬ (st_COMPACT_STRINGS = (0 : Int32))) :
    MetFree l (⟨"java/lang/String", "isLatin1", "()Z"⟩ : MethodName) (head1 (Jvm.Cond.code (⟨"java/lang/String", "isLatin1", "()Z"⟩ : MethodName) jdk_42_method_154_code 1 (some .boolean) :: ws) ({ frames := 0, cells := 0, slots := 0, locals := 0 } : Room)) (fun a U => a = #[(.ref tz)] ∧ Z.Warmed39 U.vm ∧ U.heap = h0) (fun _ _ _ _ _ => True) (fun _ U o U' => ∃ v L, o = .returned v ∧ Q11 Z tz st_COMPACT_STRINGS h0 n0 v U'.heap L ∧ FrameEnd U o U' L ({ frames := 0, cells := 0, slots := 0, locals := 0 } : Room).cells ({ frames := 0, cells := 0, slots := 0, locals := 0 } : Room).slots) := by
  refine MetFree.of_bodySF (plainFor_of_name pn_java_lang_String) hisR ?_
  intro p e s m args below meth c s₁ Bd hml0 hP hK
  obtain ⟨rfl, hZ, hh⟩ := hP
  have hx := Bd.exec
  have hby := Bd.bytes
  have hml : c.maxLocals = 1 := hml0
  have hown : s.vm.findClass "java/lang/String" = some m.cls := findClass_of_methodNamed Bd.named
  have hnm := (name_of_methodNamed Bd.named Bd.method).1
  have X0 : Stand p l e ({ frames := 0, cells := 0, slots := 0, locals := 0 } : Room) s m #[(.ref tz)] below meth c s₁ [] 0 0 := Stand.of_body Bd
  have e0 : s₁.heap = h0 := by rw [← hh, Bd.state]; rfl
  have N0 := Fr.nil n0
  have K0 : Keep h0 h0 [] := Keep.refl _ _
  have pre0 : ∀ t, Steps p.tables e below (s₁.setTop (mkF m 0 #[.val (.ref tz)] [])) t → Steps p.tables e below (s₁.setTop (entryFrame m #[(.ref tz)] 1)) t := fun t k => castTop (ef11 m tz) k
  obtain ⟨T3, X3, e3, st3⟩ := getS2 X0 hx hZ hown (host := "") (Or.inl (own_wd hw 18 rfl)) Via.refl e0 (S_COMPACT_STRINGS.ext O0.2) (g := (mkF m 0 #[.val (.ref tz)] [])) rfl (hb hby d11_0)
  obtain ⟨T4, X4, e4, st4⟩ := getF X3 hx hZ hown (host := "") (Or.inl (own_wd hw 30 rfl)) Via.refl e3 F_tz_coder (g := (mkF m 7 #[.val (.ref tz)] [(.ref tz)])) rfl rfl (hb hby d11_7)
  obtain ⟨fs, hr, hrun, hended, hW, hsame⟩ := X4.leave (v := some (.int (1 : Int32))) (fun h => by rw [Bd.returns] at h; cases h)
  refine ⟨_, _, pre0 _ ?_, hrun, hended, _, _, rfl, ?_, ⟨_, rfl⟩, hW, hsame.mono (by decide) (by decide)⟩
  · show Steps p.tables e below (s₁.setTop (mkF m 0 #[.val (.ref tz)] [])) _
    refine st3 _ ?_
    show Steps p.tables e below (T3.setTop (mkF m 3 #[.val (.ref tz)] [(.int st_COMPACT_STRINGS)])) _
    refine XS.ifNo X3.here hx rfl (hb hby d11_3) rfl ((if0 _ _).trans (feq hcomp).1) ?_
    refine XS.aloadN X3.here hx rfl (hb hby d11_6) rfl rfl ?_
    show Steps p.tables e below (T3.setTop (mkF m 7 #[.val (.ref tz)] [(.ref tz)])) _
    refine st4 _ ?_
    show Steps p.tables e below (T4.setTop (mkF m 10 #[.val (.ref tz)] [(.int (0 : Int32))])) _
    refine XS.ifNo X4.here hx rfl (hb hby d11_10) rfl ((if0 _ _).trans (teq (by decide : (0 : Int32) = (0 : Int32))).2) ?_
    refine XS.iconst X4.here hx rfl (hb hby d11_13) ?_
    refine XS.goto X4.here hx rfl (pc0 := 14) (pc' := 18) rfl (hb hby d11_14) (by decide) (by decide) ?_
    show Steps p.tables e below (T4.setTop (mkF m 18 #[.val (.ref tz)] [(.int (1 : Int32))])) _
    exact retN X4 hx (t := .boolean) Bd.returns (by simp) (hb hby d11_18) hr
  · show Q11 Z tz st_COMPACT_STRINGS h0 n0 _ T4.heap _
    rw [e4]
    exact ⟨rfl, N0, rfl⟩
theorem d12_0 : decode jdk_42_method_54_code 0 = .ok (.aload_n 0, 1) := by decide +kernel
theorem d12_1 : decode jdk_42_method_54_code 1 = .ok (.getfield 9, 3) := by decide +kernel
theorem d12_4 : decode jdk_42_method_54_code 4 = .ok (.arraylength, 1) := by decide +kernel
theorem d12_5 : decode jdk_42_method_54_code 5 = .ok (.aload_n 0, 1) := by decide +kernel
theorem pd_0 : parseMethodDescriptor "()B" = some ⟨[], some .byte⟩ := by decide +kernel
theorem d12_6 : decode jdk_42_method_54_code 6 = .ok (.invokevirtual 335, 3) := by decide +kernel
theorem d12_9 : decode jdk_42_method_54_code 9 = .ok (.ishr, 1) := by decide +kernel
theorem d12_10 : decode jdk_42_method_54_code 10 = .ok (.ireturn, 1) := by decide +kernel
theorem ef12 (m : MethodId) (tz : Addr) : entryFrame m #[(.ref tz)] 1 = mkF m 0 #[.val (.ref tz)] [] := by first | (simp [entryFrame, mkF, argsToLocals, Value.category]; done) | rfl
def Q12 (Z : State) (tz : Addr) (tz_value : Addr) (ks : ClassId) (f : Nat → Int32) (n : Nat) (st_COMPACT_STRINGS : Int32) (h0 : Heap) (n0 : Nat) (v : Option Value) (h : Heap) (L : List Loc) : Prop := v = some (.int (Int32.ofNat n)) ∧ Fr n0 L ∧ h = h0
set_option maxRecDepth 65536 in
set_option maxHeartbeats 40000000 in
theorem rm12 (l : Launch) (Z : State) (a0 : Array Value) (hw : ∀ d ∈ tables_1, d.before a0 Z = true) (ws : List Jvm.Cond) (tz : Addr) (tz_value : Addr) (ks : ClassId) (f : Nat → Int32) (n : Nat) (st_COMPACT_STRINGS : Int32) (h0 : Heap) (n0 : Nat) (Z0 : n0 ≤ h0.size) (O0 : Old Z n0 h0) (E_tz : Exa Z h0 tz "java/lang/String") (F_tz_value : Fld Z h0 tz "java/lang/String" "value" "[B" (.ref tz_value)) (F_tz_coder : Fld Z h0 tz "java/lang/String" "coder" "B" (.int (0 : Int32))) (V_tz_value : Arv Z h0 tz_value ks .byte (Int32.ofNat n) (own_fv f n) (.int 0)) (S_COMPACT_STRINGS : Sta Z Z.heap "java/lang/String" "COMPACT_STRINGS" "Z" (.int st_COMPACT_STRINGS)) (hcomp : ¬ (st_COMPACT_STRINGS = (0 : Int32))) :
    MetFree l (⟨"java/lang/String", "length", "()I"⟩ : MethodName) (head1 (Jvm.Cond.code (⟨"java/lang/String", "length", "()I"⟩ : MethodName) jdk_42_method_54_code 1 (some .int) :: ws) ({ frames := 1, cells := 0, slots := 0, locals := 13 } : Room)) (fun a U => a = #[(.ref tz)] ∧ Z.Warmed39 U.vm ∧ U.heap = h0) (fun _ _ _ _ _ => True) (fun _ U o U' => ∃ v L, o = .returned v ∧ Q12 Z tz tz_value ks f n st_COMPACT_STRINGS h0 n0 v U'.heap L ∧ FrameEnd U o U' L ({ frames := 1, cells := 0, slots := 0, locals := 13 } : Room).cells ({ frames := 1, cells := 0, slots := 0, locals := 13 } : Room).slots) := by
  refine MetFree.of_bodySF (plainFor_of_name pn_java_lang_String) hisR ?_
  intro p e s m args below meth c s₁ Bd hml0 hP hK
  obtain ⟨rfl, hZ, hh⟩ := hP
  have hx := Bd.exec
  have hby := Bd.bytes
  have hml : c.maxLocals = 1 := hml0
  have hown : s.vm.findClass "java/lang/String" = some m.cls := findClass_of_methodNamed Bd.named
  have hnm := (name_of_methodNamed Bd.named Bd.method).1
  have X0 : Stand p l e ({ frames := 1, cells := 0, slots := 0, locals := 13 } : Room) s m #[(.ref tz)] below meth c s₁ [] 0 0 := Stand.of_body Bd
  have e0 : s₁.heap = h0 := by rw [← hh, Bd.state]; rfl
  have N0 := Fr.nil n0
  have K0 : Keep h0 h0 [] := Keep.refl _ _
  have pre0 : ∀ t, Steps p.tables e below (s₁.setTop (mkF m 0 #[.val (.ref tz)] [])) t → Steps p.tables e below (s₁.setTop (entryFrame m #[(.ref tz)] 1)) t := fun t k => castTop (ef12 m tz) k
  obtain ⟨T5, X5, e5, st5⟩ := getF X0 hx hZ hown (host := "") (Or.inl (own_wd hw 32 rfl)) Via.refl e0 F_tz_value (g := (mkF m 1 #[.val (.ref tz)] [(.ref tz)])) rfl rfl (hb hby d12_1)
  obtain ⟨cl_a6, Ar_a6, -, S_a6, N_a6, -, -⟩ := id V_tz_value
  obtain ⟨cq7, kq7, q7a, q7b, q7c⟩ := isOf hZ e5 E_tz
  obtain ⟨_, _, ⟨T7, L7, k7, n7⟩, -, X7, ⟨Lc7, hQ7, l7, y7, z7⟩, st7⟩ := X5.virtualBack hx (y := (⟨"java/lang/String", "coder", "()B"⟩ : MethodName)) (z := (⟨"java/lang/String", "coder", "()B"⟩ : MethodName)) hown (mvT hZ (own_wd hw 58 rfl)) (mvT hZ (own_wd hw 59 rfl)) (notFace_of_selects (args := #[]) (mvT hZ (own_wd hw 61 rfl))) (mvT hZ (own_wd hw 61 rfl)) (mvT hZ (own_wd hw 60 rfl)) (by decide) (backOf (W := 1) (rm13 l Z a0 hw [] tz st_COMPACT_STRINGS h0 n0 Z0 O0 F_tz_coder S_COMPACT_STRINGS hcomp) hZ (own_wd hw 62 rfl) (own_wd hw 7 rfl) (by decide) (by decide)) q7a q7c (g := (mkF m 6 #[.val (.ref tz)] [(.ref tz), (.int (Int32.ofNat n))])) rfl (by rw [hml]; rfl) (Steps.refl _) (argsL := []) (rest := [(.int (Int32.ofNat n))]) (lenOf pd_0 rfl) rfl (by show 2 * 0 + _ ≤ _; exact Nat.le_of_eq rfl) (hb hby d12_6) (fun _ _ => ⟨rfl, e5, (by decide : 0 + 0 ≤ _), (by decide : 0 + 0 ≤ _)⟩)
  dsimp only [Pt.U, Pt.locs, Pt.cells, Pt.slots] at X7 l7 y7 z7 st7 hQ7
  subst l7 y7 z7
  obtain ⟨rfl, N7q, eh7⟩ := hQ7
  have N7 := Fr.app N0 N7q
  have rn8 : ((Int32.ofNat n) >>> ((0 : Int32) &&& 31)) = (Int32.ofNat n) := own_shr0 _
  obtain ⟨fs, hr, hrun, hended, hW, hsame⟩ := X7.leave (v := some (.int (Int32.ofNat n))) (fun h => by rw [Bd.returns] at h; cases h)
  refine ⟨_, _, pre0 _ ?_, hrun, hended, _, _, rfl, ?_, ⟨_, rfl⟩, hW, hsame.mono (by decide) (by decide)⟩
  · show Steps p.tables e below (s₁.setTop (mkF m 0 #[.val (.ref tz)] [])) _
    refine XS.aloadN X0.here hx rfl (hb hby d12_0) rfl rfl ?_
    show Steps p.tables e below (s₁.setTop (mkF m 1 #[.val (.ref tz)] [(.ref tz)])) _
    refine st5 _ ?_
    show Steps p.tables e below (T5.setTop (mkF m 4 #[.val (.ref tz)] [(.ref tz_value)])) _
    refine X5.arraylength hx (by rw [e5]; exact Ar_a6.1) (State.isArrayOf_alike hZ.alike Ar_a6.2.1) (g := (mkF m 4 #[.val (.ref tz)] [(.ref tz_value)])) rfl rfl (hb hby d12_4) _ ?_
    rw [len_of S_a6 N_a6]
    refine XS.aloadN X5.here hx rfl (hb hby d12_5) rfl rfl ?_
    show Steps p.tables e below (T5.setTop (mkF m 6 #[.val (.ref tz)] [(.ref tz), (.int (Int32.ofNat n))])) _
    refine st7.trans ?_
    show Steps p.tables e below (T7.setTop (mkF m 9 #[.val (.ref tz)] [(.int (0 : Int32)), (.int (Int32.ofNat n))])) _
    refine XS.ishr X7.here hx rfl (hb hby d12_9) rfl ?_
    show Steps p.tables e below (T7.setTop (mkF m 10 #[.val (.ref tz)] [(.int ((Int32.ofNat n) >>> ((0 : Int32) &&& 31)))])) _
    rw [rn8]
    show Steps p.tables e below (T7.setTop (mkF m 10 #[.val (.ref tz)] [(.int (Int32.ofNat n))])) _
    exact retI X7 hx Bd.returns (hb hby d12_10) hr
  · show Q12 Z tz tz_value ks f n st_COMPACT_STRINGS h0 n0 _ T7.heap _
    rw [eh7]
    exact ⟨rfl, N7, rfl⟩
theorem d15_0 : decode jdk_43_method_4_code 0 = .ok (.iload_n 0, 1) := by decide +kernel
theorem d15_1 : decode jdk_43_method_4_code 1 = .ok (.ifCond .lt 14, 3) := by decide +kernel
theorem d15_4 : decode jdk_43_method_4_code 4 = .ok (.iload_n 0, 1) := by decide +kernel
theorem d15_5 : decode jdk_43_method_4_code 5 = .ok (.sipush 255, 3) := by decide +kernel
theorem d15_8 : decode jdk_43_method_4_code 8 = .ok (.if_icmp .gt 7, 3) := by decide +kernel
theorem d15_11 : decode jdk_43_method_4_code 11 = .ok (.iconst 1, 1) := by decide +kernel
theorem d15_12 : decode jdk_43_method_4_code 12 = .ok (.goto 4, 3) := by decide +kernel
theorem d15_16 : decode jdk_43_method_4_code 16 = .ok (.ireturn, 1) := by decide +kernel
theorem pn_java_lang_StringLatin1 : plainName "java/lang/StringLatin1" = true := by first | (simp [plainName, overriddenIn]; done) | decide +kernel
theorem ef15 (m : MethodId) (x1 : Int32) : entryFrame m #[(.int x1)] 1 = mkF m 0 #[.val (.int x1)] [] := by first | (simp [entryFrame, mkF, argsToLocals, Value.category]; done) | rfl
def Q15 (Z : State) (x1 : Int32) (h0 : Heap) (n0 : Nat) (v : Option Value) (h : Heap) (L : List Loc) : Prop := v = some (.int (1 : Int32)) ∧ Fr n0 L ∧ h = h0
set_option maxRecDepth 65536 in
set_option maxHeartbeats 40000000 in
theorem rm15 (l : Launch) (Z : State) (a0 : Array Value) (hw : ∀ d ∈ tables_1, d.before a0 Z = true) (ws : List Jvm.Cond) (x1 : Int32) (h0 : Heap) (n0 : Nat) (Z0 : n0 ≤ h0.size) (O0 : Old Z n0 h0) (h0c : ¬ (x1 < (0 : Int32))) (h1c : ¬ ((255 : Int32) < x1)) :
    MetFree l (⟨"java/lang/StringLatin1", "canEncode", "(I)Z"⟩ : MethodName) (head1 (Jvm.Cond.code (⟨"java/lang/StringLatin1", "canEncode", "(I)Z"⟩ : MethodName) jdk_43_method_4_code 1 (some .boolean) :: ws) ({ frames := 0, cells := 0, slots := 0, locals := 0 } : Room)) (fun a U => a = #[(.int x1)] ∧ Z.Warmed39 U.vm ∧ U.heap = h0) (fun _ _ _ _ _ => True) (fun _ U o U' => ∃ v L, o = .returned v ∧ Q15 Z x1 h0 n0 v U'.heap L ∧ FrameEnd U o U' L ({ frames := 0, cells := 0, slots := 0, locals := 0 } : Room).cells ({ frames := 0, cells := 0, slots := 0, locals := 0 } : Room).slots) := by
  refine MetFree.of_bodySF (plainFor_of_name pn_java_lang_StringLatin1) hisR ?_
  intro p e s m args below meth c s₁ Bd hml0 hP hK
  obtain ⟨rfl, hZ, hh⟩ := hP
  have hx := Bd.exec
  have hby := Bd.bytes
  have hml : c.maxLocals = 1 := hml0
  have hown : s.vm.findClass "java/lang/StringLatin1" = some m.cls := findClass_of_methodNamed Bd.named
  have hnm := (name_of_methodNamed Bd.named Bd.method).1
  have X0 : Stand p l e ({ frames := 0, cells := 0, slots := 0, locals := 0 } : Room) s m #[(.int x1)] below meth c s₁ [] 0 0 := Stand.of_body Bd
  have e0 : s₁.heap = h0 := by rw [← hh, Bd.state]; rfl
  have N0 := Fr.nil n0
  have K0 : Keep h0 h0 [] := Keep.refl _ _
  have pre0 : ∀ t, Steps p.tables e below (s₁.setTop (mkF m 0 #[.val (.int x1)] [])) t → Steps p.tables e below (s₁.setTop (entryFrame m #[(.int x1)] 1)) t := fun t k => castTop (ef15 m x1) k
  obtain ⟨fs, hr, hrun, hended, hW, hsame⟩ := X0.leave (v := some (.int (1 : Int32))) (fun h => by rw [Bd.returns] at h; cases h)
  refine ⟨_, _, pre0 _ ?_, hrun, hended, _, _, rfl, ?_, ⟨_, rfl⟩, hW, hsame.mono (by decide) (by decide)⟩
  · show Steps p.tables e below (s₁.setTop (mkF m 0 #[.val (.int x1)] [])) _
    refine XS.iloadN X0.here hx rfl (hb hby d15_0) rfl ?_
    refine XS.ifNo X0.here hx rfl (hb hby d15_1) rfl ((if0 _ _).trans (flt h0c).1) ?_
    refine XS.iloadN X0.here hx rfl (hb hby d15_4) rfl ?_
    refine XS.sipush X0.here hx rfl (hb hby d15_5) ?_
    refine XS.icmpNo X0.here hx rfl (hb hby d15_8) rfl (flt h1c).2.2.1 ?_
    refine XS.iconst X0.here hx rfl (hb hby d15_11) ?_
    show Steps p.tables e below (s₁.setTop (mkF m 12 #[.val (.int x1)] [(.int (1 : Int32))])) _
    refine XS.goto X0.here hx rfl (pc0 := 12) (pc' := 16) rfl (hb hby d15_12) (by decide) (by decide) ?_
    show Steps p.tables e below (s₁.setTop (mkF m 16 #[.val (.int x1)] [(.int (1 : Int32))])) _
    exact retN X0 hx (t := .boolean) Bd.returns (by simp) (hb hby d15_16) hr
  · show Q15 Z x1 h0 n0 _ s₁.heap _
    rw [e0]
    exact ⟨rfl, N0, rfl⟩
theorem d16_0 : decode jdk_29_method_65_code 0 = .ok (.iload_n 0, 1) := by decide +kernel
theorem d16_1 : decode jdk_29_method_65_code 1 = .ok (.iload_n 1, 1) := by decide +kernel
theorem d16_2 : decode jdk_29_method_65_code 2 = .ok (.if_icmp .lt 7, 3) := by decide +kernel
theorem d16_5 : decode jdk_29_method_65_code 5 = .ok (.iload_n 0, 1) := by decide +kernel
theorem d16_6 : decode jdk_29_method_65_code 6 = .ok (.goto 4, 3) := by decide +kernel
theorem d16_10 : decode jdk_29_method_65_code 10 = .ok (.ireturn, 1) := by decide +kernel
-- java/lang/Math
theorem ef16_0 (m : MethodId)  : entryFrame m #[(.int (0 : Int32)), (.int (0 : Int32))] 2 = mkF m 0 #[.val (.int (0 : Int32)), .val (.int (0 : Int32))] [] := by first | (simp [entryFrame, mkF, argsToLocals, Value.category]; done) | rfl
def Q16_0 (Z : State)  (h0 : Heap) (n0 : Nat) (v : Option Value) (h : Heap) (L : List Loc) : Prop := v = some (.int (0 : Int32)) ∧ Fr n0 L ∧ h = h0
set_option maxRecDepth 65536 in
set_option maxHeartbeats 40000000 in
theorem rm16_0 (l : Launch) (Z : State) (a0 : Array Value) (hw : ∀ d ∈ tables_1, d.before a0 Z = true) (ws : List Jvm.Cond)  (h0 : Heap) (n0 : Nat) (Z0 : n0 ≤ h0.size) (O0 : Old Z n0 h0) :
    MetFree l (⟨"java/lang/Math", "max", "(II)I"⟩ : MethodName) (head1 (Jvm.Cond.code (⟨"java/lang/Math", "max", "(II)I"⟩ : MethodName) jdk_29_method_65_code 2 (some .int) :: ws) ({ frames := 0, cells := 0, slots := 0, locals := 0 } : Room)) (fun a U => a = #[(.int (0 : Int32)), (.int (0 : Int32))] ∧ Z.Warmed39 U.vm ∧ U.heap = h0) (fun _ _ _ _ _ => True) (fun _ U o U' => ∃ v L, o = .returned v ∧ Q16_0 Z  h0 n0 v U'.heap L ∧ FrameEnd U o U' L ({ frames := 0, cells := 0, slots := 0, locals := 0 } : Room).cells ({ frames := 0, cells := 0, slots := 0, locals := 0 } : Room).slots) := by
  refine MetFree.of_bodySF (Jvm.Free.JP.mathPlain rfl (by decide +kernel)) hisR ?_
  intro p e s m args below meth c s₁ Bd hml0 hP hK
  obtain ⟨rfl, hZ, hh⟩ := hP
  have hx := Bd.exec
  have hby := Bd.bytes
  have hml : c.maxLocals = 2 := hml0
  have hown : s.vm.findClass "java/lang/Math" = some m.cls := findClass_of_methodNamed Bd.named
  have hnm := (name_of_methodNamed Bd.named Bd.method).1
  have X0 : Stand p l e ({ frames := 0, cells := 0, slots := 0, locals := 0 } : Room) s m #[(.int (0 : Int32)), (.int (0 : Int32))] below meth c s₁ [] 0 0 := Stand.of_body Bd
  have e0 : s₁.heap = h0 := by rw [← hh, Bd.state]; rfl
  have N0 := Fr.nil n0
  have K0 : Keep h0 h0 [] := Keep.refl _ _
  have pre0 : ∀ t, Steps p.tables e below (s₁.setTop (mkF m 0 #[.val (.int (0 : Int32)), .val (.int (0 : Int32))] [])) t → Steps p.tables e below (s₁.setTop (entryFrame m #[(.int (0 : Int32)), (.int (0 : Int32))] 2)) t := fun t k => castTop (ef16_0 m ) k
  obtain ⟨fs, hr, hrun, hended, hW, hsame⟩ := X0.leave (v := some (.int (0 : Int32))) (fun h => by rw [Bd.returns] at h; cases h)
  refine ⟨_, _, pre0 _ ?_, hrun, hended, _, _, rfl, ?_, ⟨_, rfl⟩, hW, hsame.mono (by decide) (by decide)⟩
  · show Steps p.tables e below (s₁.setTop (mkF m 0 #[.val (.int (0 : Int32)), .val (.int (0 : Int32))] [])) _
    refine XS.iloadN X0.here hx rfl (hb hby d16_0) rfl ?_
    refine XS.iloadN X0.here hx rfl (hb hby d16_1) rfl ?_
    refine XS.icmpNo X0.here hx rfl (hb hby d16_2) rfl (flt (by decide : ¬ ((0 : Int32) < (0 : Int32)))).1 ?_
    refine XS.iloadN X0.here hx rfl (hb hby d16_5) rfl ?_
    refine XS.goto X0.here hx rfl (pc0 := 6) (pc' := 10) rfl (hb hby d16_6) (by decide) (by decide) ?_
    show Steps p.tables e below (s₁.setTop (mkF m 10 #[.val (.int (0 : Int32)), .val (.int (0 : Int32))] [(.int (0 : Int32))])) _
    exact retI X0 hx Bd.returns (hb hby d16_10) hr
  · show Q16_0 Z  h0 n0 _ s₁.heap _
    rw [e0]
    exact ⟨rfl, N0, rfl⟩
theorem d17_0 : decode jdk_29_method_69_code 0 = .ok (.iload_n 0, 1) := by decide +kernel
theorem d17_1 : decode jdk_29_method_69_code 1 = .ok (.iload_n 1, 1) := by decide +kernel
theorem d17_2 : decode jdk_29_method_69_code 2 = .ok (.if_icmp .gt 7, 3) := by decide +kernel
theorem d17_9 : decode jdk_29_method_69_code 9 = .ok (.iload_n 1, 1) := by decide +kernel
theorem d17_10 : decode jdk_29_method_69_code 10 = .ok (.ireturn, 1) := by decide +kernel
theorem d17_5 : decode jdk_29_method_69_code 5 = .ok (.iload_n 0, 1) := by decide +kernel
theorem d17_6 : decode jdk_29_method_69_code 6 = .ok (.goto 4, 3) := by decide +kernel
theorem ef17 (m : MethodId) (x1 : Int32) (x2 : Int32) : entryFrame m #[(.int x1), (.int x2)] 2 = mkF m 0 #[.val (.int x1), .val (.int x2)] [] := by first | (simp [entryFrame, mkF, argsToLocals, Value.category]; done) | rfl
def Q17 (Z : State) (x1 : Int32) (x2 : Int32) (h0 : Heap) (n0 : Nat) (v : Option Value) (h : Heap) (L : List Loc) : Prop := v = some (.int (own_min x1 x2)) ∧ Fr n0 L ∧ h = h0
set_option maxRecDepth 65536 in
set_option maxHeartbeats 40000000 in
theorem rm17 (l : Launch) (Z : State) (a0 : Array Value) (hw : ∀ d ∈ tables_1, d.before a0 Z = true) (ws : List Jvm.Cond) (x1 : Int32) (x2 : Int32) (h0 : Heap) (n0 : Nat) (Z0 : n0 ≤ h0.size) (O0 : Old Z n0 h0) :
    MetFree l (⟨"java/lang/Math", "min", "(II)I"⟩ : MethodName) (head1 (Jvm.Cond.code (⟨"java/lang/Math", "min", "(II)I"⟩ : MethodName) jdk_29_method_69_code 2 (some .int) :: ws) ({ frames := 0, cells := 0, slots := 0, locals := 0 } : Room)) (fun a U => a = #[(.int x1), (.int x2)] ∧ Z.Warmed39 U.vm ∧ U.heap = h0) (fun _ _ _ _ _ => True) (fun _ U o U' => ∃ v L, o = .returned v ∧ Q17 Z x1 x2 h0 n0 v U'.heap L ∧ FrameEnd U o U' L ({ frames := 0, cells := 0, slots := 0, locals := 0 } : Room).cells ({ frames := 0, cells := 0, slots := 0, locals := 0 } : Room).slots) := by
  refine MetFree.of_bodySF (Jvm.Free.JP.mathPlain rfl (by decide +kernel)) hisR ?_
  intro p e s m args below meth c s₁ Bd hml0 hP hK
  obtain ⟨rfl, hZ, hh⟩ := hP
  have hx := Bd.exec
  have hby := Bd.bytes
  have hml : c.maxLocals = 2 := hml0
  have hown : s.vm.findClass "java/lang/Math" = some m.cls := findClass_of_methodNamed Bd.named
  have hnm := (name_of_methodNamed Bd.named Bd.method).1
  have X0 : Stand p l e ({ frames := 0, cells := 0, slots := 0, locals := 0 } : Room) s m #[(.int x1), (.int x2)] below meth c s₁ [] 0 0 := Stand.of_body Bd
  have e0 : s₁.heap = h0 := by rw [← hh, Bd.state]; rfl
  have N0 := Fr.nil n0
  have K0 : Keep h0 h0 [] := Keep.refl _ _
  have pre0 : ∀ t, Steps p.tables e below (s₁.setTop (mkF m 0 #[.val (.int x1), .val (.int x2)] [])) t → Steps p.tables e below (s₁.setTop (entryFrame m #[(.int x1), (.int x2)] 2)) t := fun t k => castTop (ef17 m x1 x2) k
  have pre9 : ∀ t, Steps p.tables e below (s₁.setTop (mkF m 2 #[.val (.int x1), .val (.int x2)] [(.int x2), (.int x1)])) t → Steps p.tables e below (s₁.setTop (entryFrame m #[(.int x1), (.int x2)] 2)) t := by
    intro t kt
    refine pre0 t ?_
    show Steps p.tables e below (s₁.setTop (mkF m 0 #[.val (.int x1), .val (.int x2)] [])) _
    refine XS.iloadN X0.here hx rfl (hb hby d17_0) rfl ?_
    refine XS.iloadN X0.here hx rfl (hb hby d17_1) rfl ?_
    exact kt
  by_cases hc2 : x2 < x1
  · skip
    obtain ⟨fs, hr, hrun, hended, hW, hsame⟩ := X0.leave (v := some (.int x2)) (fun h => by rw [Bd.returns] at h; cases h)
    refine ⟨_, _, pre9 _ ?_, hrun, hended, _, _, rfl, ?_, ⟨_, rfl⟩, hW, hsame.mono (by decide) (by decide)⟩
    · show Steps p.tables e below (s₁.setTop (mkF m 2 #[.val (.int x1), .val (.int x2)] [(.int x2), (.int x1)])) _
      refine XS.icmpYes X0.here hx rfl (pc0 := 2) (pc' := 9) rfl (hb hby d17_2) rfl (tlt hc2).2.2.1 (by decide) (by decide) ?_
      refine XS.iloadN X0.here hx rfl (hb hby d17_9) rfl ?_
      show Steps p.tables e below (s₁.setTop (mkF m 10 #[.val (.int x1), .val (.int x2)] [(.int x2)])) _
      exact retI X0 hx Bd.returns (hb hby d17_10) hr
    · show Q17 Z x1 x2 h0 n0 _ s₁.heap _
      rw [e0]
      exact ⟨(by unfold own_min; first | rw [if_pos (by assumption)] | rw [if_neg (by assumption)]), N0, rfl⟩
  · skip
    obtain ⟨fs, hr, hrun, hended, hW, hsame⟩ := X0.leave (v := some (.int x1)) (fun h => by rw [Bd.returns] at h; cases h)
    refine ⟨_, _, pre9 _ ?_, hrun, hended, _, _, rfl, ?_, ⟨_, rfl⟩, hW, hsame.mono (by decide) (by decide)⟩
    · show Steps p.tables e below (s₁.setTop (mkF m 2 #[.val (.int x1), .val (.int x2)] [(.int x2), (.int x1)])) _
      refine XS.icmpNo X0.here hx rfl (hb hby d17_2) rfl (flt hc2).2.2.1 ?_
      refine XS.iloadN X0.here hx rfl (hb hby d17_5) rfl ?_
      refine XS.goto X0.here hx rfl (pc0 := 6) (pc' := 10) rfl (hb hby d17_6) (by decide) (by decide) ?_
      show Steps p.tables e below (s₁.setTop (mkF m 10 #[.val (.int x1), .val (.int x2)] [(.int x1)])) _
      exact retI X0 hx Bd.returns (hb hby d17_10) hr
    · show Q17 Z x1 x2 h0 n0 _ s₁.heap _
      rw [e0]
      exact ⟨(by unfold own_min; first | rw [if_pos (by assumption)] | rw [if_neg (by assumption)]), N0, rfl⟩
theorem d18_0 : decode jdk_43_method_23_code 0 = .ok (.iload_n 1, 1) := by decide +kernel
theorem d18_1 : decode jdk_43_method_23_code 1 = .ok (.i2b, 1) := by decide +kernel
theorem d18_2 : decode jdk_43_method_23_code 2 = .ok (.istore 4, 2) := by decide +kernel
theorem d18_4 : decode jdk_43_method_23_code 4 = .ok (.iload_n 2, 1) := by decide +kernel
theorem d18_5 : decode jdk_43_method_23_code 5 = .ok (.istore 5, 2) := by decide +kernel
theorem d18_7 : decode jdk_43_method_23_code 7 = .ok (.iload 5, 2) := by decide +kernel
theorem d18_9 : decode jdk_43_method_23_code 9 = .ok (.iload_n 3, 1) := by decide +kernel
theorem d18_10 : decode jdk_43_method_23_code 10 = .ok (.if_icmp .ge 21, 3) := by decide +kernel
theorem d18_13 : decode jdk_43_method_23_code 13 = .ok (.aload_n 0, 1) := by decide +kernel
theorem d18_14 : decode jdk_43_method_23_code 14 = .ok (.iload 5, 2) := by decide +kernel
theorem d18_16 : decode jdk_43_method_23_code 16 = .ok (.baload, 1) := by decide +kernel
theorem d18_17 : decode jdk_43_method_23_code 17 = .ok (.iload 4, 2) := by decide +kernel
theorem d18_19 : decode jdk_43_method_23_code 19 = .ok (.if_icmp .ne 6, 3) := by decide +kernel
theorem d18_22 : decode jdk_43_method_23_code 22 = .ok (.iload 5, 2) := by decide +kernel
theorem d18_24 : decode jdk_43_method_23_code 24 = .ok (.ireturn, 1) := by decide +kernel
theorem d18_25 : decode jdk_43_method_23_code 25 = .ok (.iinc 5 1, 3) := by decide +kernel
theorem d18_28 : decode jdk_43_method_23_code 28 = .ok (.goto (-21), 3) := by decide +kernel
theorem d18_31 : decode jdk_43_method_23_code 31 = .ok (.iconst (-1), 1) := by decide +kernel
theorem d18_32 : decode jdk_43_method_23_code 32 = .ok (.ireturn, 1) := by decide +kernel
theorem ef18 (m : MethodId) (x1 : Addr) : entryFrame m #[(.ref x1), (.int (59 : Int32)), (.int (0 : Int32)), (.int (Int32.ofNat n))] 6 = mkF m 0 #[.val (.ref x1), .val (.int (59 : Int32)), .val (.int (0 : Int32)), .val (.int (Int32.ofNat n)), .unset, .unset] [] := by first | (simp [entryFrame, mkF, argsToLocals, Value.category]; done) | rfl
def Q18 (Z : State) (x1 : Addr) (ks : ClassId) (f : Nat → Int32) (n : Nat) (h0 : Heap) (n0 : Nat) (v : Option Value) (h : Heap) (L : List Loc) : Prop := ∃ (r : Int32), v = some (.int r) ∧ Fr n0 L ∧ h = h0 ∧ (own_ix f n r)
set_option maxRecDepth 65536 in
set_option maxHeartbeats 40000000 in
theorem rm18 (l : Launch) (Z : State) (a0 : Array Value) (hw : ∀ d ∈ tables_1, d.before a0 Z = true) (ws : List Jvm.Cond) (x1 : Addr) (ks : ClassId) (f : Nat → Int32) (n : Nat) (h0 : Heap) (n0 : Nat) (Z0 : n0 ≤ h0.size) (O0 : Old Z n0 h0) (V_x1 : Arv Z h0 x1 ks .byte (Int32.ofNat n) (own_fv f n) (.int 0)) (hp : ∀ j, j < n → ¬ f j < 0 ∧ ¬ (255 : Int32) < f j) (hn : n ≤ 24) :
    MetFree l (⟨"java/lang/StringLatin1", "indexOfChar", "([BIII)I"⟩ : MethodName) (head1 (Jvm.Cond.code (⟨"java/lang/StringLatin1", "indexOfChar", "([BIII)I"⟩ : MethodName) jdk_43_method_23_code 6 (some .int) :: ws) ({ frames := 0, cells := 0, slots := 0, locals := 0 } : Room)) (fun a U => a = #[(.ref x1), (.int (59 : Int32)), (.int (0 : Int32)), (.int (Int32.ofNat n))] ∧ Z.Warmed39 U.vm ∧ U.heap = h0) (fun _ _ _ _ _ => True) (fun _ U o U' => ∃ v L, o = .returned v ∧ Q18 Z x1 ks f n h0 n0 v U'.heap L ∧ FrameEnd U o U' L ({ frames := 0, cells := 0, slots := 0, locals := 0 } : Room).cells ({ frames := 0, cells := 0, slots := 0, locals := 0 } : Room).slots) := by
  refine MetFree.of_bodySF (plainFor_of_name pn_java_lang_StringLatin1) hisR ?_
  intro p e s m args below meth c s₁ Bd hml0 hP hK
  obtain ⟨rfl, hZ, hh⟩ := hP
  have hx := Bd.exec
  have hby := Bd.bytes
  have hml : c.maxLocals = 6 := hml0
  have hown : s.vm.findClass "java/lang/StringLatin1" = some m.cls := findClass_of_methodNamed Bd.named
  have hnm := (name_of_methodNamed Bd.named Bd.method).1
  have X0 : Stand p l e ({ frames := 0, cells := 0, slots := 0, locals := 0 } : Room) s m #[(.ref x1), (.int (59 : Int32)), (.int (0 : Int32)), (.int (Int32.ofNat n))] below meth c s₁ [] 0 0 := Stand.of_body Bd
  have e0 : s₁.heap = h0 := by rw [← hh, Bd.state]; rfl
  have N0 := Fr.nil n0
  have K0 : Keep h0 h0 [] := Keep.refl _ _
  have pre0 : ∀ t, Steps p.tables e below (s₁.setTop (mkF m 0 #[.val (.ref x1), .val (.int (59 : Int32)), .val (.int (0 : Int32)), .val (.int (Int32.ofNat n)), .unset, .unset] [])) t → Steps p.tables e below (s₁.setTop (entryFrame m #[(.ref x1), (.int (59 : Int32)), (.int (0 : Int32)), (.int (Int32.ofNat n))] 6)) t := fun t k => castTop (ef18 m x1) k
  have pre10 : ∀ t, Steps p.tables e below (s₁.setTop (mkF m 7 #[.val (.ref x1), .val (.int (59 : Int32)), .val (.int (0 : Int32)), .val (.int (Int32.ofNat n)), .val (.int ((59 : Int32).toInt8.toInt32)), .val (.int (0 : Int32))] [])) t → Steps p.tables e below (s₁.setTop (entryFrame m #[(.ref x1), (.int (59 : Int32)), (.int (0 : Int32)), (.int (Int32.ofNat n))] 6)) t := by
    intro t kt
    refine pre0 t ?_
    show Steps p.tables e below (s₁.setTop (mkF m 0 #[.val (.ref x1), .val (.int (59 : Int32)), .val (.int (0 : Int32)), .val (.int (Int32.ofNat n)), .unset, .unset] [])) _
    refine XS.iloadN X0.here hx rfl (hb hby d18_0) rfl ?_
    show Steps p.tables e below (s₁.setTop (mkF m 1 #[.val (.ref x1), .val (.int (59 : Int32)), .val (.int (0 : Int32)), .val (.int (Int32.ofNat n)), .unset, .unset] [(.int (59 : Int32))])) _
    refine XS.i2b X0.here hx rfl (hb hby d18_1) rfl ?_
    refine XS.istore X0.here hx rfl (hb hby d18_2) rfl (l' := #[.val (.ref x1), .val (.int (59 : Int32)), .val (.int (0 : Int32)), .val (.int (Int32.ofNat n)), .val (.int ((59 : Int32).toInt8.toInt32)), .unset]) rfl ?_
    refine XS.iloadN X0.here hx rfl (hb hby d18_4) rfl ?_
    refine XS.istore X0.here hx rfl (hb hby d18_5) rfl (l' := #[.val (.ref x1), .val (.int (59 : Int32)), .val (.int (0 : Int32)), .val (.int (Int32.ofNat n)), .val (.int ((59 : Int32).toInt8.toInt32)), .val (.int (0 : Int32))]) rfl ?_
    exact kt
  refine own_ind (A := Nat) (fun i_11 => n - i_11) (fun i_11 T11 L11 h11 => (i_11 ≤ n) ∧ (∀ j, j < i_11 → ¬ f j = 59) ∧ Stand p l e ({ frames := 0, cells := 0, slots := 0, locals := 0 } : Room) s m #[(.ref x1), (.int (59 : Int32)), (.int (0 : Int32)), (.int (Int32.ofNat n))] below meth c T11 L11 0 0 ∧ T11.heap = h0 ∧ Fr n0 L11 ∧ ∀ t, Steps p.tables e below (T11.setTop (mkF m 7 #[.val (.ref x1), .val (.int (59 : Int32)), .val (.int (0 : Int32)), .val (.int (Int32.ofNat n)), .val (.int ((59 : Int32).toInt8.toInt32)), .val (.int (Int32.ofNat i_11))] [])) t → Steps p.tables e below (s₁.setTop (entryFrame m #[(.ref x1), (.int (59 : Int32)), (.int (0 : Int32)), (.int (Int32.ofNat n))] 6)) t) ?_ 0 s₁ _ h0 ⟨(by omega), (fun j hj => absurd hj (by omega)), X0, e0, N0, pre10⟩
  rintro i_11 T11 L11 h11 ⟨hi_11, hl_11, X11, e11, N11, pre11⟩ ih11
  have pre12 : ∀ t, Steps p.tables e below (T11.setTop (mkF m 10 #[.val (.ref x1), .val (.int (59 : Int32)), .val (.int (0 : Int32)), .val (.int (Int32.ofNat n)), .val (.int ((59 : Int32).toInt8.toInt32)), .val (.int (Int32.ofNat i_11))] [(.int (Int32.ofNat n)), (.int (Int32.ofNat i_11))])) t → Steps p.tables e below (s₁.setTop (entryFrame m #[(.ref x1), (.int (59 : Int32)), (.int (0 : Int32)), (.int (Int32.ofNat n))] 6)) t := by
    intro t kt
    refine pre11 t ?_
    show Steps p.tables e below (T11.setTop (mkF m 7 #[.val (.ref x1), .val (.int (59 : Int32)), .val (.int (0 : Int32)), .val (.int (Int32.ofNat n)), .val (.int ((59 : Int32).toInt8.toInt32)), .val (.int (Int32.ofNat i_11))] [])) _
    refine XS.iload X11.here hx rfl (hb hby d18_7) rfl ?_
    refine XS.iloadN X11.here hx rfl (hb hby d18_9) rfl ?_
    exact kt
  by_cases hc10 : (Int32.ofNat i_11) < (Int32.ofNat n)
  · skip
    have nf13 : (i_11 < n) := (own_lt (i := i_11) (n := n) (by omega) (by omega)).mp hc10
    obtain ⟨cl_a14, Ar_a14, -, S_a14, N_a14, H_a14, -⟩ := id V_x1
    obtain ⟨hin_a14, hat_a14⟩ := own_rd (j := (Int32.ofNat i_11)) (i := i_11) S_a14 H_a14 rfl (by omega) (by omega)
    have pre15 : ∀ t, Steps p.tables e below (T11.setTop (mkF m 19 #[.val (.ref x1), .val (.int (59 : Int32)), .val (.int (0 : Int32)), .val (.int (Int32.ofNat n)), .val (.int ((59 : Int32).toInt8.toInt32)), .val (.int (Int32.ofNat i_11))] [(.int ((59 : Int32).toInt8.toInt32)), (.int (own_by (f i_11)))])) t → Steps p.tables e below (s₁.setTop (entryFrame m #[(.ref x1), (.int (59 : Int32)), (.int (0 : Int32)), (.int (Int32.ofNat n))] 6)) t := by
      intro t kt
      refine pre12 t ?_
      show Steps p.tables e below (T11.setTop (mkF m 10 #[.val (.ref x1), .val (.int (59 : Int32)), .val (.int (0 : Int32)), .val (.int (Int32.ofNat n)), .val (.int ((59 : Int32).toInt8.toInt32)), .val (.int (Int32.ofNat i_11))] [(.int (Int32.ofNat n)), (.int (Int32.ofNat i_11))])) _
      refine XS.icmpNo X11.here hx rfl (hb hby d18_10) rfl (tlt hc10).2.1 ?_
      refine XS.aloadN X11.here hx rfl (hb hby d18_13) rfl rfl ?_
      refine XS.iload X11.here hx rfl (hb hby d18_14) rfl ?_
      show Steps p.tables e below (T11.setTop (mkF m 16 #[.val (.ref x1), .val (.int (59 : Int32)), .val (.int (0 : Int32)), .val (.int (Int32.ofNat n)), .val (.int ((59 : Int32).toInt8.toInt32)), .val (.int (Int32.ofNat i_11))] [(.int (Int32.ofNat i_11)), (.ref x1)])) _
      refine X11.baloadBytes hx (j := (Int32.ofNat i_11)) (v := (.int (own_by (f i_11)))) (by rw [e11]; exact Ar_a14.1) (State.isArrayOf_alike hZ.alike Ar_a14.2.1) Ar_a14.2.2 hin_a14 hat_a14 (g := (mkF m 16 #[.val (.ref x1), .val (.int (59 : Int32)), .val (.int (0 : Int32)), .val (.int (Int32.ofNat n)), .val (.int ((59 : Int32).toInt8.toInt32)), .val (.int (Int32.ofNat i_11))] [(.int (Int32.ofNat i_11)), (.ref x1)])) rfl rfl (hb hby d18_16) _ ?_
      refine XS.iload X11.here hx rfl (hb hby d18_17) rfl ?_
      exact kt
    by_cases hc19 : (own_by (f i_11)) = ((59 : Int32).toInt8.toInt32)
    · skip
      obtain ⟨fs, hr, hrun, hended, hW, hsame⟩ := X11.leave (v := some (.int (Int32.ofNat i_11))) (fun h => by rw [Bd.returns] at h; cases h)
      refine ⟨_, _, pre15 _ ?_, hrun, hended, _, _, rfl, ?_, ⟨_, rfl⟩, hW, hsame.mono (by decide) (by decide)⟩
      · show Steps p.tables e below (T11.setTop (mkF m 19 #[.val (.ref x1), .val (.int (59 : Int32)), .val (.int (0 : Int32)), .val (.int (Int32.ofNat n)), .val (.int ((59 : Int32).toInt8.toInt32)), .val (.int (Int32.ofNat i_11))] [(.int ((59 : Int32).toInt8.toInt32)), (.int (own_by (f i_11)))])) _
        refine XS.icmpNo X11.here hx rfl (hb hby d18_19) rfl (teq hc19).2 ?_
        refine XS.iload X11.here hx rfl (hb hby d18_22) rfl ?_
        show Steps p.tables e below (T11.setTop (mkF m 24 #[.val (.ref x1), .val (.int (59 : Int32)), .val (.int (0 : Int32)), .val (.int (Int32.ofNat n)), .val (.int ((59 : Int32).toInt8.toInt32)), .val (.int (Int32.ofNat i_11))] [(.int (Int32.ofNat i_11))])) _
        exact retI X11 hx Bd.returns (hb hby d18_24) hr
      · show Q18 Z x1 ks f n h0 n0 _ T11.heap _
        rw [e11]
        exact ⟨(Int32.ofNat i_11), rfl, N11, rfl, (Or.inl ⟨i_11, by omega, rfl, own_by59 (hp i_11 (by omega)) hc19, hl_11⟩)⟩
    · skip
      have pre16 : ∀ t, Steps p.tables e below (T11.setTop (mkF m 7 #[.val (.ref x1), .val (.int (59 : Int32)), .val (.int (0 : Int32)), .val (.int (Int32.ofNat n)), .val (.int ((59 : Int32).toInt8.toInt32)), .val (.int ((Int32.ofNat i_11) + (1 : Int32)))] [])) t → Steps p.tables e below (s₁.setTop (entryFrame m #[(.ref x1), (.int (59 : Int32)), (.int (0 : Int32)), (.int (Int32.ofNat n))] 6)) t := by
        intro t kt
        refine pre15 t ?_
        show Steps p.tables e below (T11.setTop (mkF m 19 #[.val (.ref x1), .val (.int (59 : Int32)), .val (.int (0 : Int32)), .val (.int (Int32.ofNat n)), .val (.int ((59 : Int32).toInt8.toInt32)), .val (.int (Int32.ofNat i_11))] [(.int ((59 : Int32).toInt8.toInt32)), (.int (own_by (f i_11)))])) _
        refine XS.icmpYes X11.here hx rfl (pc0 := 19) (pc' := 25) rfl (hb hby d18_19) rfl (feq hc19).2 (by decide) (by decide) ?_
        refine XS.iinc X11.here hx rfl (hb hby d18_25) rfl (l' := #[.val (.ref x1), .val (.int (59 : Int32)), .val (.int (0 : Int32)), .val (.int (Int32.ofNat n)), .val (.int ((59 : Int32).toInt8.toInt32)), .val (.int ((Int32.ofNat i_11) + (1 : Int32)))]) rfl ?_
        refine XS.goto X11.here hx rfl (pc0 := 28) (pc' := 7) rfl (hb hby d18_28) (by decide) (by decide) ?_
        exact kt
      exact ih11 (i_11 + 1) T11 _ h0 (by omega) ⟨(by omega), (own_all hl_11 (fun q => hc19 (by rw [q]; rfl))), X11, e11, N11, (fun t kt => pre16 t (by rw [own_one]; exact kt))⟩
  · skip
    have nf17 : ¬ (i_11 < n) := fun q => hc10 ((own_lt (i := i_11) (n := n) (by omega) (by omega)).mpr q)
    obtain ⟨fs, hr, hrun, hended, hW, hsame⟩ := X11.leave (v := some (.int (-1 : Int32))) (fun h => by rw [Bd.returns] at h; cases h)
    refine ⟨_, _, pre12 _ ?_, hrun, hended, _, _, rfl, ?_, ⟨_, rfl⟩, hW, hsame.mono (by decide) (by decide)⟩
    · show Steps p.tables e below (T11.setTop (mkF m 10 #[.val (.ref x1), .val (.int (59 : Int32)), .val (.int (0 : Int32)), .val (.int (Int32.ofNat n)), .val (.int ((59 : Int32).toInt8.toInt32)), .val (.int (Int32.ofNat i_11))] [(.int (Int32.ofNat n)), (.int (Int32.ofNat i_11))])) _
      refine XS.icmpYes X11.here hx rfl (pc0 := 10) (pc' := 31) rfl (hb hby d18_10) rfl (flt hc10).2.1 (by decide) (by decide) ?_
      refine XS.iconst X11.here hx rfl (hb hby d18_31) ?_
      show Steps p.tables e below (T11.setTop (mkF m 32 #[.val (.ref x1), .val (.int (59 : Int32)), .val (.int (0 : Int32)), .val (.int (Int32.ofNat n)), .val (.int ((59 : Int32).toInt8.toInt32)), .val (.int (Int32.ofNat i_11))] [(.int (-1 : Int32))])) _
      exact retI X11 hx Bd.returns (hb hby d18_32) hr
    · show Q18 Z x1 ks f n h0 n0 _ T11.heap _
      rw [e11]
      exact ⟨(-1 : Int32), rfl, N11, rfl, (Or.inr ⟨rfl, fun j hj => hl_11 j (by omega)⟩)⟩
theorem d14_0 : decode jdk_43_method_22_code 0 = .ok (.iload_n 1, 1) := by decide +kernel
theorem pd_1 : parseMethodDescriptor "(I)Z" = some ⟨[.int], some .boolean⟩ := by decide +kernel
theorem d14_1 : decode jdk_43_method_22_code 1 = .ok (.invokestatic 88, 3) := by decide +kernel
theorem d14_4 : decode jdk_43_method_22_code 4 = .ok (.ifCond .ne 5, 3) := by decide +kernel
theorem d14_9 : decode jdk_43_method_22_code 9 = .ok (.iload_n 2, 1) := by decide +kernel
theorem d14_10 : decode jdk_43_method_22_code 10 = .ok (.iconst 0, 1) := by decide +kernel
theorem pd_2 : parseMethodDescriptor "(II)I" = some ⟨[.int, .int], some .int⟩ := by decide +kernel
theorem d14_11 : decode jdk_43_method_22_code 11 = .ok (.invokestatic 92, 3) := by decide +kernel
theorem d14_14 : decode jdk_43_method_22_code 14 = .ok (.istore_n 2, 1) := by decide +kernel
theorem d14_15 : decode jdk_43_method_22_code 15 = .ok (.iload_n 3, 1) := by decide +kernel
theorem d14_16 : decode jdk_43_method_22_code 16 = .ok (.aload_n 0, 1) := by decide +kernel
theorem d14_17 : decode jdk_43_method_22_code 17 = .ok (.arraylength, 1) := by decide +kernel
theorem d14_18 : decode jdk_43_method_22_code 18 = .ok (.invokestatic 38, 3) := by decide +kernel
theorem d14_21 : decode jdk_43_method_22_code 21 = .ok (.istore_n 3, 1) := by decide +kernel
theorem d14_22 : decode jdk_43_method_22_code 22 = .ok (.iload_n 2, 1) := by decide +kernel
theorem d14_23 : decode jdk_43_method_22_code 23 = .ok (.iload_n 3, 1) := by decide +kernel
theorem d14_24 : decode jdk_43_method_22_code 24 = .ok (.if_icmp .lt 5, 3) := by decide +kernel
theorem d14_29 : decode jdk_43_method_22_code 29 = .ok (.aload_n 0, 1) := by decide +kernel
theorem d14_30 : decode jdk_43_method_22_code 30 = .ok (.iload_n 1, 1) := by decide +kernel
theorem d14_31 : decode jdk_43_method_22_code 31 = .ok (.iload_n 2, 1) := by decide +kernel
theorem d14_32 : decode jdk_43_method_22_code 32 = .ok (.iload_n 3, 1) := by decide +kernel
theorem pd_3 : parseMethodDescriptor "([BIII)I" = some ⟨[(.array .byte), .int, .int, .int], some .int⟩ := by decide +kernel
theorem d14_33 : decode jdk_43_method_22_code 33 = .ok (.invokestatic 95, 3) := by decide +kernel
theorem d14_36 : decode jdk_43_method_22_code 36 = .ok (.ireturn, 1) := by decide +kernel
theorem d14_27 : decode jdk_43_method_22_code 27 = .ok (.iconst (-1), 1) := by decide +kernel
theorem d14_28 : decode jdk_43_method_22_code 28 = .ok (.ireturn, 1) := by decide +kernel
theorem ef14 (m : MethodId) (x1 : Addr) : entryFrame m #[(.ref x1), (.int (59 : Int32)), (.int (0 : Int32)), (.int (Int32.ofNat n))] 4 = mkF m 0 #[.val (.ref x1), .val (.int (59 : Int32)), .val (.int (0 : Int32)), .val (.int (Int32.ofNat n))] [] := by first | (simp [entryFrame, mkF, argsToLocals, Value.category]; done) | rfl
def Q14 (Z : State) (x1 : Addr) (ks : ClassId) (f : Nat → Int32) (n : Nat) (h0 : Heap) (n0 : Nat) (v : Option Value) (h : Heap) (L : List Loc) : Prop := ∃ (r : Int32), v = some (.int r) ∧ Fr n0 L ∧ h = h0 ∧ (own_ix f n r)
set_option maxRecDepth 65536 in
set_option maxHeartbeats 40000000 in
theorem rm14 (l : Launch) (Z : State) (a0 : Array Value) (hw : ∀ d ∈ tables_1, d.before a0 Z = true) (ws : List Jvm.Cond) (x1 : Addr) (ks : ClassId) (f : Nat → Int32) (n : Nat) (h0 : Heap) (n0 : Nat) (Z0 : n0 ≤ h0.size) (O0 : Old Z n0 h0) (V_x1 : Arv Z h0 x1 ks .byte (Int32.ofNat n) (own_fv f n) (.int 0)) (hp : ∀ j, j < n → ¬ f j < 0 ∧ ¬ (255 : Int32) < f j) (hn : n ≤ 24) :
    MetFree l (⟨"java/lang/StringLatin1", "indexOf", "([BIII)I"⟩ : MethodName) (head1 (Jvm.Cond.code (⟨"java/lang/StringLatin1", "indexOf", "([BIII)I"⟩ : MethodName) jdk_43_method_22_code 4 (some .int) :: ws) ({ frames := 1, cells := 0, slots := 0, locals := 17 } : Room)) (fun a U => a = #[(.ref x1), (.int (59 : Int32)), (.int (0 : Int32)), (.int (Int32.ofNat n))] ∧ Z.Warmed39 U.vm ∧ U.heap = h0) (fun _ _ _ _ _ => True) (fun _ U o U' => ∃ v L, o = .returned v ∧ Q14 Z x1 ks f n h0 n0 v U'.heap L ∧ FrameEnd U o U' L ({ frames := 1, cells := 0, slots := 0, locals := 17 } : Room).cells ({ frames := 1, cells := 0, slots := 0, locals := 17 } : Room).slots) := by
  refine MetFree.of_bodySF (plainFor_of_name pn_java_lang_StringLatin1) hisR ?_
  intro p e s m args below meth c s₁ Bd hml0 hP hK
  obtain ⟨rfl, hZ, hh⟩ := hP
  have hx := Bd.exec
  have hby := Bd.bytes
  have hml : c.maxLocals = 4 := hml0
  have hown : s.vm.findClass "java/lang/StringLatin1" = some m.cls := findClass_of_methodNamed Bd.named
  have hnm := (name_of_methodNamed Bd.named Bd.method).1
  have X0 : Stand p l e ({ frames := 1, cells := 0, slots := 0, locals := 17 } : Room) s m #[(.ref x1), (.int (59 : Int32)), (.int (0 : Int32)), (.int (Int32.ofNat n))] below meth c s₁ [] 0 0 := Stand.of_body Bd
  have e0 : s₁.heap = h0 := by rw [← hh, Bd.state]; rfl
  have N0 := Fr.nil n0
  have K0 : Keep h0 h0 [] := Keep.refl _ _
  have pre0 : ∀ t, Steps p.tables e below (s₁.setTop (mkF m 0 #[.val (.ref x1), .val (.int (59 : Int32)), .val (.int (0 : Int32)), .val (.int (Int32.ofNat n))] [])) t → Steps p.tables e below (s₁.setTop (entryFrame m #[(.ref x1), (.int (59 : Int32)), (.int (0 : Int32)), (.int (Int32.ofNat n))] 4)) t := fun t k => castTop (ef14 m x1) k
  have pp18 : ¬ ((59 : Int32) < (0 : Int32)) := by decide
  have pp19 : ¬ ((255 : Int32) < (59 : Int32)) := by decide
  obtain ⟨_, _, ⟨T20, L20, k20, n20⟩, -, X20, ⟨Lc20, hQ20, l20, y20, z20⟩, st20⟩ := Jvm.LawKit.callS X0 hx (y := (⟨"java/lang/StringLatin1", "canEncode", "(I)Z"⟩ : MethodName)) hown (mvT hZ (own_wd hw 67 rfl)) (mvT hZ (own_wd hw 68 rfl)) (mvT hZ (own_wd hw 65 rfl)) (mvT hZ (own_wd hw 69 rfl)) (by decide) (backOf (W := 0) (rm15 l Z a0 hw [] (59 : Int32) h0 n0 Z0 O0 pp18 pp19) hZ (own_wd hw 69 rfl) (own_wd hw 65 rfl) (by decide) (by decide)) (g := (mkF m 1 #[.val (.ref x1), .val (.int (59 : Int32)), .val (.int (0 : Int32)), .val (.int (Int32.ofNat n))] [(.int (59 : Int32))])) rfl (by rw [hml]; rfl) (argsL := [(.int (59 : Int32))]) (rest := []) (lenOf pd_1 rfl) rfl (by show 2 * 0 + _ ≤ _; exact Nat.le_of_eq rfl) (hb hby d14_1) (fun _ _ => ⟨rfl, e0, (by decide : 0 + 0 ≤ _), (by decide : 0 + 0 ≤ _)⟩)
  dsimp only [Pt.U, Pt.locs, Pt.cells, Pt.slots] at X20 l20 y20 z20 st20 hQ20
  subst l20 y20 z20
  obtain ⟨rfl, N20q, eh20⟩ := hQ20
  have N20 := Fr.app N0 N20q
  obtain ⟨_, _, ⟨T21, L21, k21, n21⟩, -, X21, ⟨Lc21, hQ21, l21, y21, z21⟩, st21⟩ := Jvm.LawKit.callS X20 hx (y := (⟨"java/lang/Math", "max", "(II)I"⟩ : MethodName)) hown (mvT hZ (own_wd hw 70 rfl)) (mvT hZ (own_wd hw 71 rfl)) (mvT hZ (own_wd hw 72 rfl)) (mvT hZ (own_wd hw 73 rfl)) (by decide) (backOf (W := 0) (rm16_0 l Z a0 hw []  h0 n0 Z0 O0) hZ (own_wd hw 73 rfl) (own_wd hw 72 rfl) (by decide) (by decide)) (g := (mkF m 11 #[.val (.ref x1), .val (.int (59 : Int32)), .val (.int (0 : Int32)), .val (.int (Int32.ofNat n))] [(.int (0 : Int32)), (.int (0 : Int32))])) rfl (by rw [hml]; rfl) (argsL := [(.int (0 : Int32)), (.int (0 : Int32))]) (rest := []) (lenOf pd_2 rfl) rfl (by show 2 * 0 + _ ≤ _; exact Nat.le_of_eq rfl) (hb hby d14_11) (fun _ _ => ⟨rfl, eh20, (by decide : 0 + 0 ≤ _), (by decide : 0 + 0 ≤ _)⟩)
  dsimp only [Pt.U, Pt.locs, Pt.cells, Pt.slots] at X21 l21 y21 z21 st21 hQ21
  subst l21 y21 z21
  obtain ⟨rfl, N21q, eh21⟩ := hQ21
  have N21 := Fr.app N20 N21q
  obtain ⟨cl_a22, Ar_a22, -, S_a22, N_a22, -, -⟩ := id V_x1
  obtain ⟨_, _, ⟨T23, L23, k23, n23⟩, -, X23, ⟨Lc23, hQ23, l23, y23, z23⟩, st23⟩ := Jvm.LawKit.callS X21 hx (y := (⟨"java/lang/Math", "min", "(II)I"⟩ : MethodName)) hown (mvT hZ (own_wd hw 74 rfl)) (mvT hZ (own_wd hw 75 rfl)) (mvT hZ (own_wd hw 72 rfl)) (mvT hZ (own_wd hw 76 rfl)) (by decide) (backOf (W := 0) (rm17 l Z a0 hw [] (Int32.ofNat n) (Int32.ofNat n) h0 n0 Z0 O0) hZ (own_wd hw 76 rfl) (own_wd hw 72 rfl) (by decide) (by decide)) (g := (mkF m 18 #[.val (.ref x1), .val (.int (59 : Int32)), .val (.int (0 : Int32)), .val (.int (Int32.ofNat n))] [(.int (Int32.ofNat n)), (.int (Int32.ofNat n))])) rfl (by rw [hml]; rfl) (argsL := [(.int (Int32.ofNat n)), (.int (Int32.ofNat n))]) (rest := []) (lenOf pd_2 rfl) rfl (by show 2 * 0 + _ ≤ _; exact Nat.le_of_eq rfl) (hb hby d14_18) (fun _ _ => ⟨rfl, eh21, (by decide : 0 + 0 ≤ _), (by decide : 0 + 0 ≤ _)⟩)
  dsimp only [Pt.U, Pt.locs, Pt.cells, Pt.slots] at X23 l23 y23 z23 st23 hQ23
  subst l23 y23 z23
  obtain ⟨rfl, N23q, eh23⟩ := hQ23
  have N23 := Fr.app N21 N23q
  have rn24 : (own_min (Int32.ofNat n) (Int32.ofNat n)) = (Int32.ofNat n) := own_minself _
  have pre25 : ∀ t, Steps p.tables e below (T23.setTop (mkF m 24 #[.val (.ref x1), .val (.int (59 : Int32)), .val (.int (0 : Int32)), .val (.int (Int32.ofNat n))] [(.int (Int32.ofNat n)), (.int (0 : Int32))])) t → Steps p.tables e below (s₁.setTop (entryFrame m #[(.ref x1), (.int (59 : Int32)), (.int (0 : Int32)), (.int (Int32.ofNat n))] 4)) t := by
    intro t kt
    refine pre0 t ?_
    show Steps p.tables e below (s₁.setTop (mkF m 0 #[.val (.ref x1), .val (.int (59 : Int32)), .val (.int (0 : Int32)), .val (.int (Int32.ofNat n))] [])) _
    refine XS.iloadN X0.here hx rfl (hb hby d14_0) rfl ?_
    show Steps p.tables e below (s₁.setTop (mkF m 1 #[.val (.ref x1), .val (.int (59 : Int32)), .val (.int (0 : Int32)), .val (.int (Int32.ofNat n))] [(.int (59 : Int32))])) _
    refine st20 _ ?_
    show Steps p.tables e below (T20.setTop (mkF m 4 #[.val (.ref x1), .val (.int (59 : Int32)), .val (.int (0 : Int32)), .val (.int (Int32.ofNat n))] [(.int (1 : Int32))])) _
    refine XS.ifYes X20.here hx rfl (pc0 := 4) (pc' := 9) rfl (hb hby d14_4) rfl ((if0 _ _).trans (feq (by decide : ¬ ((1 : Int32) = (0 : Int32)))).2) (by decide) (by decide) ?_
    refine XS.iloadN X20.here hx rfl (hb hby d14_9) rfl ?_
    refine XS.iconst X20.here hx rfl (hb hby d14_10) ?_
    show Steps p.tables e below (T20.setTop (mkF m 11 #[.val (.ref x1), .val (.int (59 : Int32)), .val (.int (0 : Int32)), .val (.int (Int32.ofNat n))] [(.int (0 : Int32)), (.int (0 : Int32))])) _
    refine st21 _ ?_
    show Steps p.tables e below (T21.setTop (mkF m 14 #[.val (.ref x1), .val (.int (59 : Int32)), .val (.int (0 : Int32)), .val (.int (Int32.ofNat n))] [(.int (0 : Int32))])) _
    refine XS.istoreN X21.here hx rfl (hb hby d14_14) rfl (l' := #[.val (.ref x1), .val (.int (59 : Int32)), .val (.int (0 : Int32)), .val (.int (Int32.ofNat n))]) rfl ?_
    refine XS.iloadN X21.here hx rfl (hb hby d14_15) rfl ?_
    refine XS.aloadN X21.here hx rfl (hb hby d14_16) rfl rfl ?_
    show Steps p.tables e below (T21.setTop (mkF m 17 #[.val (.ref x1), .val (.int (59 : Int32)), .val (.int (0 : Int32)), .val (.int (Int32.ofNat n))] [(.ref x1), (.int (Int32.ofNat n))])) _
    refine X21.arraylength hx (by rw [eh21]; exact Ar_a22.1) (State.isArrayOf_alike hZ.alike Ar_a22.2.1) (g := (mkF m 17 #[.val (.ref x1), .val (.int (59 : Int32)), .val (.int (0 : Int32)), .val (.int (Int32.ofNat n))] [(.ref x1), (.int (Int32.ofNat n))])) rfl rfl (hb hby d14_17) _ ?_
    rw [len_of S_a22 N_a22]
    show Steps p.tables e below (T21.setTop (mkF m 18 #[.val (.ref x1), .val (.int (59 : Int32)), .val (.int (0 : Int32)), .val (.int (Int32.ofNat n))] [(.int (Int32.ofNat n)), (.int (Int32.ofNat n))])) _
    refine st23 _ ?_
    show Steps p.tables e below (T23.setTop (mkF m 21 #[.val (.ref x1), .val (.int (59 : Int32)), .val (.int (0 : Int32)), .val (.int (Int32.ofNat n))] [(.int (own_min (Int32.ofNat n) (Int32.ofNat n)))])) _
    rw [rn24]
    refine XS.istoreN X23.here hx rfl (hb hby d14_21) rfl (l' := #[.val (.ref x1), .val (.int (59 : Int32)), .val (.int (0 : Int32)), .val (.int (Int32.ofNat n))]) rfl ?_
    refine XS.iloadN X23.here hx rfl (hb hby d14_22) rfl ?_
    refine XS.iloadN X23.here hx rfl (hb hby d14_23) rfl ?_
    exact kt
  by_cases hc24 : (0 : Int32) < (Int32.ofNat n)
  · skip
    have nf26 : (0 < n) := (own_lt (i := 0) (n := n) (by omega) (by omega)).mp hc24
    obtain ⟨_, _, ⟨T27, L27, k27, n27⟩, -, X27, ⟨Lc27, hQ27, l27, y27, z27⟩, st27⟩ := Jvm.LawKit.callS X23 hx (y := (⟨"java/lang/StringLatin1", "indexOfChar", "([BIII)I"⟩ : MethodName)) hown (mvT hZ (own_wd hw 77 rfl)) (mvT hZ (own_wd hw 78 rfl)) (mvT hZ (own_wd hw 65 rfl)) (mvT hZ (own_wd hw 79 rfl)) (by decide) (backOf (W := 0) (rm18 l Z a0 hw [] x1 ks f n h0 n0 Z0 O0 V_x1 hp (by omega)) hZ (own_wd hw 79 rfl) (own_wd hw 65 rfl) (by decide) (by decide)) (g := (mkF m 33 #[.val (.ref x1), .val (.int (59 : Int32)), .val (.int (0 : Int32)), .val (.int (Int32.ofNat n))] [(.int (Int32.ofNat n)), (.int (0 : Int32)), (.int (59 : Int32)), (.ref x1)])) rfl (by rw [hml]; rfl) (argsL := [(.ref x1), (.int (59 : Int32)), (.int (0 : Int32)), (.int (Int32.ofNat n))]) (rest := []) (lenOf pd_3 rfl) rfl (by show 2 * 0 + _ ≤ _; exact Nat.le_of_eq rfl) (hb hby d14_33) (fun _ _ => ⟨rfl, eh23, (by decide : 0 + 0 ≤ _), (by decide : 0 + 0 ≤ _)⟩)
    dsimp only [Pt.U, Pt.locs, Pt.cells, Pt.slots] at X27 l27 y27 z27 st27 hQ27
    subst l27 y27 z27
    obtain ⟨r_27, rfl, N27q, eh27, Q27_0⟩ := hQ27
    have N27 := Fr.app N23 N27q
    obtain ⟨fs, hr, hrun, hended, hW, hsame⟩ := X27.leave (v := some (.int r_27)) (fun h => by rw [Bd.returns] at h; cases h)
    refine ⟨_, _, pre25 _ ?_, hrun, hended, _, _, rfl, ?_, ⟨_, rfl⟩, hW, hsame.mono (by decide) (by decide)⟩
    · show Steps p.tables e below (T23.setTop (mkF m 24 #[.val (.ref x1), .val (.int (59 : Int32)), .val (.int (0 : Int32)), .val (.int (Int32.ofNat n))] [(.int (Int32.ofNat n)), (.int (0 : Int32))])) _
      refine XS.icmpYes X23.here hx rfl (pc0 := 24) (pc' := 29) rfl (hb hby d14_24) rfl (tlt hc24).1 (by decide) (by decide) ?_
      refine XS.aloadN X23.here hx rfl (hb hby d14_29) rfl rfl ?_
      show Steps p.tables e below (T23.setTop (mkF m 30 #[.val (.ref x1), .val (.int (59 : Int32)), .val (.int (0 : Int32)), .val (.int (Int32.ofNat n))] [(.ref x1)])) _
      refine XS.iloadN X23.here hx rfl (hb hby d14_30) rfl ?_
      refine XS.iloadN X23.here hx rfl (hb hby d14_31) rfl ?_
      refine XS.iloadN X23.here hx rfl (hb hby d14_32) rfl ?_
      show Steps p.tables e below (T23.setTop (mkF m 33 #[.val (.ref x1), .val (.int (59 : Int32)), .val (.int (0 : Int32)), .val (.int (Int32.ofNat n))] [(.int (Int32.ofNat n)), (.int (0 : Int32)), (.int (59 : Int32)), (.ref x1)])) _
      refine st27 _ ?_
      show Steps p.tables e below (T27.setTop (mkF m 36 #[.val (.ref x1), .val (.int (59 : Int32)), .val (.int (0 : Int32)), .val (.int (Int32.ofNat n))] [(.int r_27)])) _
      exact retI X27 hx Bd.returns (hb hby d14_36) hr
    · show Q14 Z x1 ks f n h0 n0 _ T27.heap _
      rw [eh27]
      exact ⟨r_27, rfl, N27, rfl, (by assumption)⟩
  · skip
    have nf28 : ¬ (0 < n) := fun q => hc24 ((own_lt (i := 0) (n := n) (by omega) (by omega)).mpr q)
    obtain ⟨fs, hr, hrun, hended, hW, hsame⟩ := X23.leave (v := some (.int (-1 : Int32))) (fun h => by rw [Bd.returns] at h; cases h)
    refine ⟨_, _, pre25 _ ?_, hrun, hended, _, _, rfl, ?_, ⟨_, rfl⟩, hW, hsame.mono (by decide) (by decide)⟩
    · show Steps p.tables e below (T23.setTop (mkF m 24 #[.val (.ref x1), .val (.int (59 : Int32)), .val (.int (0 : Int32)), .val (.int (Int32.ofNat n))] [(.int (Int32.ofNat n)), (.int (0 : Int32))])) _
      refine XS.icmpNo X23.here hx rfl (hb hby d14_24) rfl (flt hc24).1 ?_
      refine XS.iconst X23.here hx rfl (hb hby d14_27) ?_
      show Steps p.tables e below (T23.setTop (mkF m 28 #[.val (.ref x1), .val (.int (59 : Int32)), .val (.int (0 : Int32)), .val (.int (Int32.ofNat n))] [(.int (-1 : Int32))])) _
      exact retI X23 hx Bd.returns (hb hby d14_28) hr
    · show Q14 Z x1 ks f n h0 n0 _ T23.heap _
      rw [eh23]
      exact ⟨(-1 : Int32), rfl, N23, rfl, (Or.inr ⟨rfl, fun j hj => absurd hj (by omega)⟩)⟩
theorem d10_0 : decode jdk_42_method_80_code 0 = .ok (.aload_n 0, 1) := by decide +kernel
theorem pd_4 : parseMethodDescriptor "()Z" = some ⟨[], some .boolean⟩ := by decide +kernel
theorem d10_1 : decode jdk_42_method_80_code 1 = .ok (.invokevirtual 492, 3) := by decide +kernel
theorem d10_4 : decode jdk_42_method_80_code 4 = .ok (.ifCond .eq 19, 3) := by decide +kernel
theorem d10_7 : decode jdk_42_method_80_code 7 = .ok (.aload_n 0, 1) := by decide +kernel
theorem d10_8 : decode jdk_42_method_80_code 8 = .ok (.getfield 9, 3) := by decide +kernel
theorem d10_11 : decode jdk_42_method_80_code 11 = .ok (.iload_n 1, 1) := by decide +kernel
theorem d10_12 : decode jdk_42_method_80_code 12 = .ok (.iload_n 2, 1) := by decide +kernel
theorem d10_13 : decode jdk_42_method_80_code 13 = .ok (.aload_n 0, 1) := by decide +kernel
theorem pd_5 : parseMethodDescriptor "()I" = some ⟨[], some .int⟩ := by decide +kernel
theorem d10_14 : decode jdk_42_method_80_code 14 = .ok (.invokevirtual 505, 3) := by decide +kernel
theorem d10_17 : decode jdk_42_method_80_code 17 = .ok (.invokestatic 637, 3) := by decide +kernel
theorem d10_20 : decode jdk_42_method_80_code 20 = .ok (.goto 16, 3) := by decide +kernel
theorem d10_36 : decode jdk_42_method_80_code 36 = .ok (.ireturn, 1) := by decide +kernel
theorem ef10 (m : MethodId) (tz : Addr) : entryFrame m #[(.ref tz), (.int (59 : Int32)), (.int (0 : Int32))] 3 = mkF m 0 #[.val (.ref tz), .val (.int (59 : Int32)), .val (.int (0 : Int32))] [] := by first | (simp [entryFrame, mkF, argsToLocals, Value.category]; done) | rfl
def Q10 (Z : State) (tz : Addr) (tz_value : Addr) (ks : ClassId) (f : Nat → Int32) (n : Nat) (st_COMPACT_STRINGS : Int32) (h0 : Heap) (n0 : Nat) (v : Option Value) (h : Heap) (L : List Loc) : Prop := ∃ (r : Int32), v = some (.int r) ∧ Fr n0 L ∧ h = h0 ∧ (own_ix f n r)
set_option maxRecDepth 65536 in
set_option maxHeartbeats 40000000 in
theorem rm10 (l : Launch) (Z : State) (a0 : Array Value) (hw : ∀ d ∈ tables_1, d.before a0 Z = true) (ws : List Jvm.Cond) (tz : Addr) (tz_value : Addr) (ks : ClassId) (f : Nat → Int32) (n : Nat) (st_COMPACT_STRINGS : Int32) (h0 : Heap) (n0 : Nat) (Z0 : n0 ≤ h0.size) (O0 : Old Z n0 h0) (E_tz : Exa Z h0 tz "java/lang/String") (F_tz_value : Fld Z h0 tz "java/lang/String" "value" "[B" (.ref tz_value)) (F_tz_coder : Fld Z h0 tz "java/lang/String" "coder" "B" (.int (0 : Int32))) (V_tz_value : Arv Z h0 tz_value ks .byte (Int32.ofNat n) (own_fv f n) (.int 0)) (hp : ∀ j, j < n → ¬ f j < 0 ∧ ¬ (255 : Int32) < f j) (hn : n ≤ 24) (S_COMPACT_STRINGS : Sta Z Z.heap "java/lang/String" "COMPACT_STRINGS" "Z" (.int st_COMPACT_STRINGS)) (hcomp : ¬ (st_COMPACT_STRINGS = (0 : Int32))) :
    MetFree l (⟨"java/lang/String", "indexOf", "(II)I"⟩ : MethodName) (head1 (Jvm.Cond.code (⟨"java/lang/String", "indexOf", "(II)I"⟩ : MethodName) jdk_42_method_80_code 3 (some .int) :: ws) ({ frames := 2, cells := 0, slots := 0, locals := 32 } : Room)) (fun a U => a = #[(.ref tz), (.int (59 : Int32)), (.int (0 : Int32))] ∧ Z.Warmed39 U.vm ∧ U.heap = h0) (fun _ _ _ _ _ => True) (fun _ U o U' => ∃ v L, o = .returned v ∧ Q10 Z tz tz_value ks f n st_COMPACT_STRINGS h0 n0 v U'.heap L ∧ FrameEnd U o U' L ({ frames := 2, cells := 0, slots := 0, locals := 32 } : Room).cells ({ frames := 2, cells := 0, slots := 0, locals := 32 } : Room).slots) := by
  refine MetFree.of_bodySF (plainFor_of_name pn_java_lang_String) hisR ?_
  intro p e s m args below meth c s₁ Bd hml0 hP hK
  obtain ⟨rfl, hZ, hh⟩ := hP
  have hx := Bd.exec
  have hby := Bd.bytes
  have hml : c.maxLocals = 3 := hml0
  have hown : s.vm.findClass "java/lang/String" = some m.cls := findClass_of_methodNamed Bd.named
  have hnm := (name_of_methodNamed Bd.named Bd.method).1
  have X0 : Stand p l e ({ frames := 2, cells := 0, slots := 0, locals := 32 } : Room) s m #[(.ref tz), (.int (59 : Int32)), (.int (0 : Int32))] below meth c s₁ [] 0 0 := Stand.of_body Bd
  have e0 : s₁.heap = h0 := by rw [← hh, Bd.state]; rfl
  have N0 := Fr.nil n0
  have K0 : Keep h0 h0 [] := Keep.refl _ _
  have pre0 : ∀ t, Steps p.tables e below (s₁.setTop (mkF m 0 #[.val (.ref tz), .val (.int (59 : Int32)), .val (.int (0 : Int32))] [])) t → Steps p.tables e below (s₁.setTop (entryFrame m #[(.ref tz), (.int (59 : Int32)), (.int (0 : Int32))] 3)) t := fun t k => castTop (ef10 m tz) k
  obtain ⟨cq29, kq29, q29a, q29b, q29c⟩ := isOf hZ e0 E_tz
  obtain ⟨_, _, ⟨T29, L29, k29, n29⟩, -, X29, ⟨Lc29, hQ29, l29, y29, z29⟩, st29⟩ := X0.virtualBack hx (y := (⟨"java/lang/String", "isLatin1", "()Z"⟩ : MethodName)) (z := (⟨"java/lang/String", "isLatin1", "()Z"⟩ : MethodName)) hown (mvT hZ (own_wd hw 48 rfl)) (mvT hZ (own_wd hw 49 rfl)) (notFace_of_selects (args := #[]) (mvT hZ (own_wd hw 51 rfl))) (mvT hZ (own_wd hw 51 rfl)) (mvT hZ (own_wd hw 50 rfl)) (by decide) (backOf (W := 0) (rm11 l Z a0 hw [] tz st_COMPACT_STRINGS h0 n0 Z0 O0 F_tz_coder S_COMPACT_STRINGS hcomp) hZ (own_wd hw 52 rfl) (own_wd hw 7 rfl) (by decide) (by decide)) q29a q29c (g := (mkF m 1 #[.val (.ref tz), .val (.int (59 : Int32)), .val (.int (0 : Int32))] [(.ref tz)])) rfl (by rw [hml]; rfl) (Steps.refl _) (argsL := []) (rest := []) (lenOf pd_4 rfl) rfl (by show 2 * 0 + _ ≤ _; exact Nat.le_of_eq rfl) (hb hby d10_1) (fun _ _ => ⟨rfl, e0, (by decide : 0 + 0 ≤ _), (by decide : 0 + 0 ≤ _)⟩)
  dsimp only [Pt.U, Pt.locs, Pt.cells, Pt.slots] at X29 l29 y29 z29 st29 hQ29
  subst l29 y29 z29
  obtain ⟨rfl, N29q, eh29⟩ := hQ29
  have N29 := Fr.app N0 N29q
  obtain ⟨T30, X30, e30, st30⟩ := getF X29 hx hZ hown (host := "") (Or.inl (own_wd hw 32 rfl)) Via.refl eh29 F_tz_value (g := (mkF m 8 #[.val (.ref tz), .val (.int (59 : Int32)), .val (.int (0 : Int32))] [(.ref tz)])) rfl rfl (hb hby d10_8)
  obtain ⟨cq31, kq31, q31a, q31b, q31c⟩ := isOf hZ e30 E_tz
  obtain ⟨_, _, ⟨T31, L31, k31, n31⟩, -, X31, ⟨Lc31, hQ31, l31, y31, z31⟩, st31⟩ := X30.virtualBack hx (y := (⟨"java/lang/String", "length", "()I"⟩ : MethodName)) (z := (⟨"java/lang/String", "length", "()I"⟩ : MethodName)) hown (mvT hZ (own_wd hw 53 rfl)) (mvT hZ (own_wd hw 54 rfl)) (notFace_of_selects (args := #[]) (mvT hZ (own_wd hw 56 rfl))) (mvT hZ (own_wd hw 56 rfl)) (mvT hZ (own_wd hw 55 rfl)) (by decide) (backOf (W := 3) (rm12 l Z a0 hw [] tz tz_value ks f n st_COMPACT_STRINGS h0 n0 Z0 O0 E_tz F_tz_value F_tz_coder V_tz_value S_COMPACT_STRINGS hcomp) hZ (own_wd hw 57 rfl) (own_wd hw 7 rfl) (by decide) (by decide)) q31a q31c (g := (mkF m 14 #[.val (.ref tz), .val (.int (59 : Int32)), .val (.int (0 : Int32))] [(.ref tz), (.int (0 : Int32)), (.int (59 : Int32)), (.ref tz_value)])) rfl (by rw [hml]; rfl) (Steps.refl _) (argsL := []) (rest := [(.int (0 : Int32)), (.int (59 : Int32)), (.ref tz_value)]) (lenOf pd_5 rfl) rfl (by show 2 * 0 + _ ≤ _; exact Nat.le_of_eq rfl) (hb hby d10_14) (fun _ _ => ⟨rfl, e30, (by decide : 0 + 0 ≤ _), (by decide : 0 + 0 ≤ _)⟩)
  dsimp only [Pt.U, Pt.locs, Pt.cells, Pt.slots] at X31 l31 y31 z31 st31 hQ31
  subst l31 y31 z31
  obtain ⟨rfl, N31q, eh31⟩ := hQ31
  have N31 := Fr.app N29 N31q
  obtain ⟨_, _, ⟨T32, L32, k32, n32⟩, -, X32, ⟨Lc32, hQ32, l32, y32, z32⟩, st32⟩ := Jvm.LawKit.callS X31 hx (y := (⟨"java/lang/StringLatin1", "indexOf", "([BIII)I"⟩ : MethodName)) hown (mvT hZ (own_wd hw 63 rfl)) (mvT hZ (own_wd hw 64 rfl)) (mvT hZ (own_wd hw 65 rfl)) (mvT hZ (own_wd hw 66 rfl)) (by decide) (backOf (W := 0) (rm14 l Z a0 hw [] tz_value ks f n h0 n0 Z0 O0 V_tz_value hp (by omega)) hZ (own_wd hw 66 rfl) (own_wd hw 65 rfl) (by decide) (by decide)) (g := (mkF m 17 #[.val (.ref tz), .val (.int (59 : Int32)), .val (.int (0 : Int32))] [(.int (Int32.ofNat n)), (.int (0 : Int32)), (.int (59 : Int32)), (.ref tz_value)])) rfl (by rw [hml]; rfl) (argsL := [(.ref tz_value), (.int (59 : Int32)), (.int (0 : Int32)), (.int (Int32.ofNat n))]) (rest := []) (lenOf pd_3 rfl) rfl (by show 2 * 0 + _ ≤ _; exact Nat.le_of_eq rfl) (hb hby d10_17) (fun _ _ => ⟨rfl, eh31, (by decide : 0 + 0 ≤ _), (by decide : 0 + 0 ≤ _)⟩)
  dsimp only [Pt.U, Pt.locs, Pt.cells, Pt.slots] at X32 l32 y32 z32 st32 hQ32
  subst l32 y32 z32
  obtain ⟨r_32, rfl, N32q, eh32, Q32_0⟩ := hQ32
  have N32 := Fr.app N31 N32q
  obtain ⟨fs, hr, hrun, hended, hW, hsame⟩ := X32.leave (v := some (.int r_32)) (fun h => by rw [Bd.returns] at h; cases h)
  refine ⟨_, _, pre0 _ ?_, hrun, hended, _, _, rfl, ?_, ⟨_, rfl⟩, hW, hsame.mono (by decide) (by decide)⟩
  · show Steps p.tables e below (s₁.setTop (mkF m 0 #[.val (.ref tz), .val (.int (59 : Int32)), .val (.int (0 : Int32))] [])) _
    refine XS.aloadN X0.here hx rfl (hb hby d10_0) rfl rfl ?_
    show Steps p.tables e below (s₁.setTop (mkF m 1 #[.val (.ref tz), .val (.int (59 : Int32)), .val (.int (0 : Int32))] [(.ref tz)])) _
    refine st29.trans ?_
    show Steps p.tables e below (T29.setTop (mkF m 4 #[.val (.ref tz), .val (.int (59 : Int32)), .val (.int (0 : Int32))] [(.int (1 : Int32))])) _
    refine XS.ifNo X29.here hx rfl (hb hby d10_4) rfl ((if0 _ _).trans (feq (by decide : ¬ ((1 : Int32) = (0 : Int32)))).1) ?_
    refine XS.aloadN X29.here hx rfl (hb hby d10_7) rfl rfl ?_
    show Steps p.tables e below (T29.setTop (mkF m 8 #[.val (.ref tz), .val (.int (59 : Int32)), .val (.int (0 : Int32))] [(.ref tz)])) _
    refine st30 _ ?_
    show Steps p.tables e below (T30.setTop (mkF m 11 #[.val (.ref tz), .val (.int (59 : Int32)), .val (.int (0 : Int32))] [(.ref tz_value)])) _
    refine XS.iloadN X30.here hx rfl (hb hby d10_11) rfl ?_
    refine XS.iloadN X30.here hx rfl (hb hby d10_12) rfl ?_
    refine XS.aloadN X30.here hx rfl (hb hby d10_13) rfl rfl ?_
    show Steps p.tables e below (T30.setTop (mkF m 14 #[.val (.ref tz), .val (.int (59 : Int32)), .val (.int (0 : Int32))] [(.ref tz), (.int (0 : Int32)), (.int (59 : Int32)), (.ref tz_value)])) _
    refine st31.trans ?_
    show Steps p.tables e below (T31.setTop (mkF m 17 #[.val (.ref tz), .val (.int (59 : Int32)), .val (.int (0 : Int32))] [(.int (Int32.ofNat n)), (.int (0 : Int32)), (.int (59 : Int32)), (.ref tz_value)])) _
    refine st32 _ ?_
    show Steps p.tables e below (T32.setTop (mkF m 20 #[.val (.ref tz), .val (.int (59 : Int32)), .val (.int (0 : Int32))] [(.int r_32)])) _
    refine XS.goto X32.here hx rfl (pc0 := 20) (pc' := 36) rfl (hb hby d10_20) (by decide) (by decide) ?_
    show Steps p.tables e below (T32.setTop (mkF m 36 #[.val (.ref tz), .val (.int (59 : Int32)), .val (.int (0 : Int32))] [(.int r_32)])) _
    exact retI X32 hx Bd.returns (hb hby d10_36) hr
  · show Q10 Z tz tz_value ks f n st_COMPACT_STRINGS h0 n0 _ T32.heap _
    rw [eh32]
    exact ⟨r_32, rfl, N32, rfl, (by assumption)⟩
theorem d9_0 : decode jdk_42_method_79_code 0 = .ok (.aload_n 0, 1) := by decide +kernel
theorem d9_1 : decode jdk_42_method_79_code 1 = .ok (.iload_n 1, 1) := by decide +kernel
theorem d9_2 : decode jdk_42_method_79_code 2 = .ok (.iconst 0, 1) := by decide +kernel
theorem d9_3 : decode jdk_42_method_79_code 3 = .ok (.invokevirtual 633, 3) := by decide +kernel
theorem d9_6 : decode jdk_42_method_79_code 6 = .ok (.ireturn, 1) := by decide +kernel
theorem ef9 (m : MethodId) (tz : Addr) : entryFrame m #[(.ref tz), (.int (59 : Int32))] 2 = mkF m 0 #[.val (.ref tz), .val (.int (59 : Int32))] [] := by first | (simp [entryFrame, mkF, argsToLocals, Value.category]; done) | rfl
def Q9 (Z : State) (tz : Addr) (tz_value : Addr) (ks : ClassId) (f : Nat → Int32) (n : Nat) (st_COMPACT_STRINGS : Int32) (h0 : Heap) (n0 : Nat) (v : Option Value) (h : Heap) (L : List Loc) : Prop := ∃ (r : Int32), v = some (.int r) ∧ Fr n0 L ∧ h = h0 ∧ (own_ix f n r)
set_option maxRecDepth 65536 in
set_option maxHeartbeats 40000000 in
theorem rm9 (l : Launch) (Z : State) (a0 : Array Value) (hw : ∀ d ∈ tables_1, d.before a0 Z = true) (ws : List Jvm.Cond) (tz : Addr) (tz_value : Addr) (ks : ClassId) (f : Nat → Int32) (n : Nat) (st_COMPACT_STRINGS : Int32) (h0 : Heap) (n0 : Nat) (Z0 : n0 ≤ h0.size) (O0 : Old Z n0 h0) (E_tz : Exa Z h0 tz "java/lang/String") (F_tz_value : Fld Z h0 tz "java/lang/String" "value" "[B" (.ref tz_value)) (F_tz_coder : Fld Z h0 tz "java/lang/String" "coder" "B" (.int (0 : Int32))) (V_tz_value : Arv Z h0 tz_value ks .byte (Int32.ofNat n) (own_fv f n) (.int 0)) (hp : ∀ j, j < n → ¬ f j < 0 ∧ ¬ (255 : Int32) < f j) (hn : n ≤ 24) (S_COMPACT_STRINGS : Sta Z Z.heap "java/lang/String" "COMPACT_STRINGS" "Z" (.int st_COMPACT_STRINGS)) (hcomp : ¬ (st_COMPACT_STRINGS = (0 : Int32))) :
    MetFree l (⟨"java/lang/String", "indexOf", "(I)I"⟩ : MethodName) (head1 (Jvm.Cond.code (⟨"java/lang/String", "indexOf", "(I)I"⟩ : MethodName) jdk_42_method_79_code 2 (some .int) :: ws) ({ frames := 3, cells := 0, slots := 0, locals := 46 } : Room)) (fun a U => a = #[(.ref tz), (.int (59 : Int32))] ∧ Z.Warmed39 U.vm ∧ U.heap = h0) (fun _ _ _ _ _ => True) (fun _ U o U' => ∃ v L, o = .returned v ∧ Q9 Z tz tz_value ks f n st_COMPACT_STRINGS h0 n0 v U'.heap L ∧ FrameEnd U o U' L ({ frames := 3, cells := 0, slots := 0, locals := 46 } : Room).cells ({ frames := 3, cells := 0, slots := 0, locals := 46 } : Room).slots) := by
  refine MetFree.of_bodySF (plainFor_of_name pn_java_lang_String) hisR ?_
  intro p e s m args below meth c s₁ Bd hml0 hP hK
  obtain ⟨rfl, hZ, hh⟩ := hP
  have hx := Bd.exec
  have hby := Bd.bytes
  have hml : c.maxLocals = 2 := hml0
  have hown : s.vm.findClass "java/lang/String" = some m.cls := findClass_of_methodNamed Bd.named
  have hnm := (name_of_methodNamed Bd.named Bd.method).1
  have X0 : Stand p l e ({ frames := 3, cells := 0, slots := 0, locals := 46 } : Room) s m #[(.ref tz), (.int (59 : Int32))] below meth c s₁ [] 0 0 := Stand.of_body Bd
  have e0 : s₁.heap = h0 := by rw [← hh, Bd.state]; rfl
  have N0 := Fr.nil n0
  have K0 : Keep h0 h0 [] := Keep.refl _ _
  have pre0 : ∀ t, Steps p.tables e below (s₁.setTop (mkF m 0 #[.val (.ref tz), .val (.int (59 : Int32))] [])) t → Steps p.tables e below (s₁.setTop (entryFrame m #[(.ref tz), (.int (59 : Int32))] 2)) t := fun t k => castTop (ef9 m tz) k
  obtain ⟨cq33, kq33, q33a, q33b, q33c⟩ := isOf hZ e0 E_tz
  obtain ⟨_, _, ⟨T33, L33, k33, n33⟩, -, X33, ⟨Lc33, hQ33, l33, y33, z33⟩, st33⟩ := X0.virtualBack hx (y := (⟨"java/lang/String", "indexOf", "(II)I"⟩ : MethodName)) (z := (⟨"java/lang/String", "indexOf", "(II)I"⟩ : MethodName)) hown (mvT hZ (own_wd hw 43 rfl)) (mvT hZ (own_wd hw 44 rfl)) (notFace_of_selects (args := #[]) (mvT hZ (own_wd hw 46 rfl))) (mvT hZ (own_wd hw 46 rfl)) (mvT hZ (own_wd hw 45 rfl)) (by decide) (backOf (W := 0) (rm10 l Z a0 hw [] tz tz_value ks f n st_COMPACT_STRINGS h0 n0 Z0 O0 E_tz F_tz_value F_tz_coder V_tz_value hp (by omega) S_COMPACT_STRINGS hcomp) hZ (own_wd hw 47 rfl) (own_wd hw 7 rfl) (by decide) (by decide)) q33a q33c (g := (mkF m 3 #[.val (.ref tz), .val (.int (59 : Int32))] [(.int (0 : Int32)), (.int (59 : Int32)), (.ref tz)])) rfl (by rw [hml]; rfl) (Steps.refl _) (argsL := [(.int (59 : Int32)), (.int (0 : Int32))]) (rest := []) (lenOf pd_2 rfl) rfl (by show 2 * 0 + _ ≤ _; exact Nat.le_of_eq rfl) (hb hby d9_3) (fun _ _ => ⟨rfl, e0, (by decide : 0 + 0 ≤ _), (by decide : 0 + 0 ≤ _)⟩)
  dsimp only [Pt.U, Pt.locs, Pt.cells, Pt.slots] at X33 l33 y33 z33 st33 hQ33
  subst l33 y33 z33
  obtain ⟨r_33, rfl, N33q, eh33, Q33_0⟩ := hQ33
  have N33 := Fr.app N0 N33q
  obtain ⟨fs, hr, hrun, hended, hW, hsame⟩ := X33.leave (v := some (.int r_33)) (fun h => by rw [Bd.returns] at h; cases h)
  refine ⟨_, _, pre0 _ ?_, hrun, hended, _, _, rfl, ?_, ⟨_, rfl⟩, hW, hsame.mono (by decide) (by decide)⟩
  · show Steps p.tables e below (s₁.setTop (mkF m 0 #[.val (.ref tz), .val (.int (59 : Int32))] [])) _
    refine XS.aloadN X0.here hx rfl (hb hby d9_0) rfl rfl ?_
    refine XS.iloadN X0.here hx rfl (hb hby d9_1) rfl ?_
    refine XS.iconst X0.here hx rfl (hb hby d9_2) ?_
    show Steps p.tables e below (s₁.setTop (mkF m 3 #[.val (.ref tz), .val (.int (59 : Int32))] [(.int (0 : Int32)), (.int (59 : Int32)), (.ref tz)])) _
    refine st33.trans ?_
    show Steps p.tables e below (T33.setTop (mkF m 6 #[.val (.ref tz), .val (.int (59 : Int32))] [(.int r_33)])) _
    exact retI X33 hx Bd.returns (hb hby d9_6) hr
  · show Q9 Z tz tz_value ks f n st_COMPACT_STRINGS h0 n0 _ T33.heap _
    rw [eh33]
    exact ⟨r_33, rfl, N33, rfl, (by assumption)⟩
theorem d21_0 : decode jdk_41_method_12_code 0 = .ok (.iload_n 0, 1) := by decide +kernel
theorem d21_1 : decode jdk_41_method_12_code 1 = .ok (.ifCond .lt 13, 3) := by decide +kernel
theorem d21_4 : decode jdk_41_method_12_code 4 = .ok (.iload_n 0, 1) := by decide +kernel
theorem d21_5 : decode jdk_41_method_12_code 5 = .ok (.iload_n 1, 1) := by decide +kernel
theorem d21_6 : decode jdk_41_method_12_code 6 = .ok (.if_icmp .gt 8, 3) := by decide +kernel
theorem d21_9 : decode jdk_41_method_12_code 9 = .ok (.iload_n 1, 1) := by decide +kernel
theorem d21_10 : decode jdk_41_method_12_code 10 = .ok (.iload_n 2, 1) := by decide +kernel
theorem d21_11 : decode jdk_41_method_12_code 11 = .ok (.if_icmp .le 11, 3) := by decide +kernel
theorem d21_22 : decode jdk_41_method_12_code 22 = .ok (.iload_n 0, 1) := by decide +kernel
theorem d21_23 : decode jdk_41_method_12_code 23 = .ok (.ireturn, 1) := by decide +kernel
theorem pn_jdk_internal_util_Preconditions : plainName "jdk/internal/util/Preconditions" = true := by first | (simp [plainName, overriddenIn]; done) | decide +kernel
theorem ef21_r (m : MethodId) (x2 : Int32) (x3 : Int32) (x4 : Addr) : entryFrame m #[(.int (0 : Int32)), (.int x2), (.int x3), (.ref x4)] 4 = mkF m 0 #[.val (.int (0 : Int32)), .val (.int x2), .val (.int x3), .val (.ref x4)] [] := by first | (simp [entryFrame, mkF, argsToLocals, Value.category]; done) | rfl
def Q21_r (Z : State) (x2 : Int32) (x3 : Int32) (x4 : Addr) (h0 : Heap) (n0 : Nat) (v : Option Value) (h : Heap) (L : List Loc) : Prop := v = some (.int (0 : Int32)) ∧ Fr n0 L ∧ h = h0
set_option maxRecDepth 65536 in
set_option maxHeartbeats 40000000 in
theorem rm21_r (l : Launch) (Z : State) (a0 : Array Value) (hw : ∀ d ∈ tables_1, d.before a0 Z = true) (ws : List Jvm.Cond) (x2 : Int32) (x3 : Int32) (x4 : Addr) (h0 : Heap) (n0 : Nat) (Z0 : n0 ≤ h0.size) (O0 : Old Z n0 h0) (hle : ¬ (x3 < x2)) (hge : ¬ (x2 < (0 : Int32))) :
    MetFree l (⟨"jdk/internal/util/Preconditions", "checkFromToIndex", "(IIILjava/util/function/BiFunction;)I"⟩ : MethodName) (head1 (Jvm.Cond.code (⟨"jdk/internal/util/Preconditions", "checkFromToIndex", "(IIILjava/util/function/BiFunction;)I"⟩ : MethodName) jdk_41_method_12_code 4 (some .int) :: ws) ({ frames := 0, cells := 0, slots := 0, locals := 0 } : Room)) (fun a U => a = #[(.int (0 : Int32)), (.int x2), (.int x3), (.ref x4)] ∧ Z.Warmed39 U.vm ∧ U.heap = h0) (fun _ _ _ _ _ => True) (fun _ U o U' => ∃ v L, o = .returned v ∧ Q21_r Z x2 x3 x4 h0 n0 v U'.heap L ∧ FrameEnd U o U' L ({ frames := 0, cells := 0, slots := 0, locals := 0 } : Room).cells ({ frames := 0, cells := 0, slots := 0, locals := 0 } : Room).slots) := by
  refine MetFree.of_bodySF (plainFor_of_name pn_jdk_internal_util_Preconditions) hisR ?_
  intro p e s m args below meth c s₁ Bd hml0 hP hK
  obtain ⟨rfl, hZ, hh⟩ := hP
  have hx := Bd.exec
  have hby := Bd.bytes
  have hml : c.maxLocals = 4 := hml0
  have hown : s.vm.findClass "jdk/internal/util/Preconditions" = some m.cls := findClass_of_methodNamed Bd.named
  have hnm := (name_of_methodNamed Bd.named Bd.method).1
  have X0 : Stand p l e ({ frames := 0, cells := 0, slots := 0, locals := 0 } : Room) s m #[(.int (0 : Int32)), (.int x2), (.int x3), (.ref x4)] below meth c s₁ [] 0 0 := Stand.of_body Bd
  have e0 : s₁.heap = h0 := by rw [← hh, Bd.state]; rfl
  have N0 := Fr.nil n0
  have K0 : Keep h0 h0 [] := Keep.refl _ _
  have pre0 : ∀ t, Steps p.tables e below (s₁.setTop (mkF m 0 #[.val (.int (0 : Int32)), .val (.int x2), .val (.int x3), .val (.ref x4)] [])) t → Steps p.tables e below (s₁.setTop (entryFrame m #[(.int (0 : Int32)), (.int x2), (.int x3), (.ref x4)] 4)) t := fun t k => castTop (ef21_r m x2 x3 x4) k
  obtain ⟨fs, hr, hrun, hended, hW, hsame⟩ := X0.leave (v := some (.int (0 : Int32))) (fun h => by rw [Bd.returns] at h; cases h)
  refine ⟨_, _, pre0 _ ?_, hrun, hended, _, _, rfl, ?_, ⟨_, rfl⟩, hW, hsame.mono (by decide) (by decide)⟩
  · show Steps p.tables e below (s₁.setTop (mkF m 0 #[.val (.int (0 : Int32)), .val (.int x2), .val (.int x3), .val (.ref x4)] [])) _
    refine XS.iloadN X0.here hx rfl (hb hby d21_0) rfl ?_
    refine XS.ifNo X0.here hx rfl (hb hby d21_1) rfl ((if0 _ _).trans (flt (by decide : ¬ ((0 : Int32) < (0 : Int32)))).1) ?_
    refine XS.iloadN X0.here hx rfl (hb hby d21_4) rfl ?_
    refine XS.iloadN X0.here hx rfl (hb hby d21_5) rfl ?_
    refine XS.icmpNo X0.here hx rfl (hb hby d21_6) rfl (flt hge).2.2.1 ?_
    refine XS.iloadN X0.here hx rfl (hb hby d21_9) rfl ?_
    show Steps p.tables e below (s₁.setTop (mkF m 10 #[.val (.int (0 : Int32)), .val (.int x2), .val (.int x3), .val (.ref x4)] [(.int x2)])) _
    refine XS.iloadN X0.here hx rfl (hb hby d21_10) rfl ?_
    refine XS.icmpYes X0.here hx rfl (pc0 := 11) (pc' := 22) rfl (hb hby d21_11) rfl (flt hle).2.2.2 (by decide) (by decide) ?_
    refine XS.iloadN X0.here hx rfl (hb hby d21_22) rfl ?_
    show Steps p.tables e below (s₁.setTop (mkF m 23 #[.val (.int (0 : Int32)), .val (.int x2), .val (.int x3), .val (.ref x4)] [(.int (0 : Int32))])) _
    exact retI X0 hx Bd.returns (hb hby d21_23) hr
  · show Q21_r Z x2 x3 x4 h0 n0 _ s₁.heap _
    rw [e0]
    exact ⟨rfl, N0, rfl⟩
theorem ef21_n (m : MethodId) (x2 : Int32) (x3 : Int32) : entryFrame m #[(.int (0 : Int32)), (.int x2), (.int x3), .null] 4 = mkF m 0 #[.val (.int (0 : Int32)), .val (.int x2), .val (.int x3), .val .null] [] := by first | (simp [entryFrame, mkF, argsToLocals, Value.category]; done) | rfl
def Q21_n (Z : State) (x2 : Int32) (x3 : Int32) (h0 : Heap) (n0 : Nat) (v : Option Value) (h : Heap) (L : List Loc) : Prop := v = some (.int (0 : Int32)) ∧ Fr n0 L ∧ h = h0
set_option maxRecDepth 65536 in
set_option maxHeartbeats 40000000 in
theorem rm21_n (l : Launch) (Z : State) (a0 : Array Value) (hw : ∀ d ∈ tables_1, d.before a0 Z = true) (ws : List Jvm.Cond) (x2 : Int32) (x3 : Int32) (h0 : Heap) (n0 : Nat) (Z0 : n0 ≤ h0.size) (O0 : Old Z n0 h0) (hle : ¬ (x3 < x2)) (hge : ¬ (x2 < (0 : Int32))) :
    MetFree l (⟨"jdk/internal/util/Preconditions", "checkFromToIndex", "(IIILjava/util/function/BiFunction;)I"⟩ : MethodName) (head1 (Jvm.Cond.code (⟨"jdk/internal/util/Preconditions", "checkFromToIndex", "(IIILjava/util/function/BiFunction;)I"⟩ : MethodName) jdk_41_method_12_code 4 (some .int) :: ws) ({ frames := 0, cells := 0, slots := 0, locals := 0 } : Room)) (fun a U => a = #[(.int (0 : Int32)), (.int x2), (.int x3), .null] ∧ Z.Warmed39 U.vm ∧ U.heap = h0) (fun _ _ _ _ _ => True) (fun _ U o U' => ∃ v L, o = .returned v ∧ Q21_n Z x2 x3 h0 n0 v U'.heap L ∧ FrameEnd U o U' L ({ frames := 0, cells := 0, slots := 0, locals := 0 } : Room).cells ({ frames := 0, cells := 0, slots := 0, locals := 0 } : Room).slots) := by
  refine MetFree.of_bodySF (plainFor_of_name pn_jdk_internal_util_Preconditions) hisR ?_
  intro p e s m args below meth c s₁ Bd hml0 hP hK
  obtain ⟨rfl, hZ, hh⟩ := hP
  have hx := Bd.exec
  have hby := Bd.bytes
  have hml : c.maxLocals = 4 := hml0
  have hown : s.vm.findClass "jdk/internal/util/Preconditions" = some m.cls := findClass_of_methodNamed Bd.named
  have hnm := (name_of_methodNamed Bd.named Bd.method).1
  have X0 : Stand p l e ({ frames := 0, cells := 0, slots := 0, locals := 0 } : Room) s m #[(.int (0 : Int32)), (.int x2), (.int x3), .null] below meth c s₁ [] 0 0 := Stand.of_body Bd
  have e0 : s₁.heap = h0 := by rw [← hh, Bd.state]; rfl
  have N0 := Fr.nil n0
  have K0 : Keep h0 h0 [] := Keep.refl _ _
  have pre0 : ∀ t, Steps p.tables e below (s₁.setTop (mkF m 0 #[.val (.int (0 : Int32)), .val (.int x2), .val (.int x3), .val .null] [])) t → Steps p.tables e below (s₁.setTop (entryFrame m #[(.int (0 : Int32)), (.int x2), (.int x3), .null] 4)) t := fun t k => castTop (ef21_n m x2 x3) k
  obtain ⟨fs, hr, hrun, hended, hW, hsame⟩ := X0.leave (v := some (.int (0 : Int32))) (fun h => by rw [Bd.returns] at h; cases h)
  refine ⟨_, _, pre0 _ ?_, hrun, hended, _, _, rfl, ?_, ⟨_, rfl⟩, hW, hsame.mono (by decide) (by decide)⟩
  · show Steps p.tables e below (s₁.setTop (mkF m 0 #[.val (.int (0 : Int32)), .val (.int x2), .val (.int x3), .val .null] [])) _
    refine XS.iloadN X0.here hx rfl (hb hby d21_0) rfl ?_
    refine XS.ifNo X0.here hx rfl (hb hby d21_1) rfl ((if0 _ _).trans (flt (by decide : ¬ ((0 : Int32) < (0 : Int32)))).1) ?_
    refine XS.iloadN X0.here hx rfl (hb hby d21_4) rfl ?_
    refine XS.iloadN X0.here hx rfl (hb hby d21_5) rfl ?_
    refine XS.icmpNo X0.here hx rfl (hb hby d21_6) rfl (flt hge).2.2.1 ?_
    refine XS.iloadN X0.here hx rfl (hb hby d21_9) rfl ?_
    show Steps p.tables e below (s₁.setTop (mkF m 10 #[.val (.int (0 : Int32)), .val (.int x2), .val (.int x3), .val .null] [(.int x2)])) _
    refine XS.iloadN X0.here hx rfl (hb hby d21_10) rfl ?_
    refine XS.icmpYes X0.here hx rfl (pc0 := 11) (pc' := 22) rfl (hb hby d21_11) rfl (flt hle).2.2.2 (by decide) (by decide) ?_
    refine XS.iloadN X0.here hx rfl (hb hby d21_22) rfl ?_
    show Steps p.tables e below (s₁.setTop (mkF m 23 #[.val (.int (0 : Int32)), .val (.int x2), .val (.int x3), .val .null] [(.int (0 : Int32))])) _
    exact retI X0 hx Bd.returns (hb hby d21_23) hr
  · show Q21_n Z x2 x3 h0 n0 _ s₁.heap _
    rw [e0]
    exact ⟨rfl, N0, rfl⟩
theorem d20_0 : decode jdk_42_method_158_code 0 = .ok (.iload_n 0, 1) := by decide +kernel
theorem d20_1 : decode jdk_42_method_158_code 1 = .ok (.iload_n 1, 1) := by decide +kernel
theorem d20_2 : decode jdk_42_method_158_code 2 = .ok (.iload_n 2, 1) := by decide +kernel
theorem d20_3 : decode jdk_42_method_158_code 3 = .ok (.getstatic 1053, 3) := by decide +kernel
theorem pd_6 : parseMethodDescriptor "(IIILjava/util/function/BiFunction;)I" = some ⟨[.int, .int, .int, (.object "java/util/function/BiFunction")], some .int⟩ := by decide +kernel
theorem d20_6 : decode jdk_42_method_158_code 6 = .ok (.invokestatic 1062, 3) := by decide +kernel
theorem d20_9 : decode jdk_42_method_158_code 9 = .ok (.pop, 1) := by decide +kernel
theorem d20_10 : decode jdk_42_method_158_code 10 = .ok (.return_, 1) := by decide +kernel
theorem ef20 (m : MethodId) (x2 : Int32) (x3 : Int32) : entryFrame m #[(.int (0 : Int32)), (.int x2), (.int x3)] 3 = mkF m 0 #[.val (.int (0 : Int32)), .val (.int x2), .val (.int x3)] [] := by first | (simp [entryFrame, mkF, argsToLocals, Value.category]; done) | rfl
def Q20 (Z : State) (x2 : Int32) (x3 : Int32) (st_fm : Value) (h0 : Heap) (n0 : Nat) (v : Option Value) (h : Heap) (L : List Loc) : Prop := v = none ∧ Fr n0 L ∧ h = h0
set_option maxRecDepth 65536 in
set_option maxHeartbeats 40000000 in
theorem rm20 (l : Launch) (Z : State) (a0 : Array Value) (hw : ∀ d ∈ tables_1, d.before a0 Z = true) (ws : List Jvm.Cond) (x2 : Int32) (x3 : Int32) (st_fm : Value) (h0 : Heap) (n0 : Nat) (Z0 : n0 ≤ h0.size) (O0 : Old Z n0 h0) (hle : ¬ (x3 < x2)) (hge : ¬ (x2 < (0 : Int32))) (S_fm : Sta Z Z.heap "jdk/internal/util/Preconditions" "SIOOBE_FORMATTER" "Ljava/util/function/BiFunction;" st_fm) (hfm : st_fm.isRef = true) :
    MetFree l (⟨"java/lang/String", "checkBoundsBeginEnd", "(III)V"⟩ : MethodName) (head1 (Jvm.Cond.code (⟨"java/lang/String", "checkBoundsBeginEnd", "(III)V"⟩ : MethodName) jdk_42_method_158_code 3 none :: ws) ({ frames := 1, cells := 0, slots := 0, locals := 15 } : Room)) (fun a U => a = #[(.int (0 : Int32)), (.int x2), (.int x3)] ∧ Z.Warmed39 U.vm ∧ U.heap = h0) (fun _ _ _ _ _ => True) (fun _ U o U' => ∃ v L, o = .returned v ∧ Q20 Z x2 x3 st_fm h0 n0 v U'.heap L ∧ FrameEnd U o U' L ({ frames := 1, cells := 0, slots := 0, locals := 15 } : Room).cells ({ frames := 1, cells := 0, slots := 0, locals := 15 } : Room).slots) := by
  refine MetFree.of_bodySF (plainFor_of_name pn_java_lang_String) hisR ?_
  intro p e s m args below meth c s₁ Bd hml0 hP hK
  obtain ⟨rfl, hZ, hh⟩ := hP
  have hx := Bd.exec
  have hby := Bd.bytes
  have hml : c.maxLocals = 3 := hml0
  have hown : s.vm.findClass "java/lang/String" = some m.cls := findClass_of_methodNamed Bd.named
  have hnm := (name_of_methodNamed Bd.named Bd.method).1
  have X0 : Stand p l e ({ frames := 1, cells := 0, slots := 0, locals := 15 } : Room) s m #[(.int (0 : Int32)), (.int x2), (.int x3)] below meth c s₁ [] 0 0 := Stand.of_body Bd
  have e0 : s₁.heap = h0 := by rw [← hh, Bd.state]; rfl
  have N0 := Fr.nil n0
  have K0 : Keep h0 h0 [] := Keep.refl _ _
  have pre0 : ∀ t, Steps p.tables e below (s₁.setTop (mkF m 0 #[.val (.int (0 : Int32)), .val (.int x2), .val (.int x3)] [])) t → Steps p.tables e below (s₁.setTop (entryFrame m #[(.int (0 : Int32)), (.int x2), (.int x3)] 3)) t := fun t k => castTop (ef20 m x2 x3) k
  rcases own_isref hfm with ⟨fa, hfe⟩ | hfe
  · skip
    rw [hfe] at S_fm
    obtain ⟨T34, X34, e34, st34⟩ := getS2 X0 hx hZ hown (host := "") (Or.inl (own_wd hw 88 rfl)) Via.refl e0 (S_fm.ext O0.2) (g := (mkF m 3 #[.val (.int (0 : Int32)), .val (.int x2), .val (.int x3)] [(.int x3), (.int x2), (.int (0 : Int32))])) rfl (hb hby d20_3)
    have pp35 : ¬ (x3 < x2) := hle
    have pp36 : ¬ (x2 < (0 : Int32)) := hge
    obtain ⟨_, _, ⟨T37, L37, k37, n37⟩, -, X37, ⟨Lc37, hQ37, l37, y37, z37⟩, st37⟩ := Jvm.LawKit.callS X34 hx (y := (⟨"jdk/internal/util/Preconditions", "checkFromToIndex", "(IIILjava/util/function/BiFunction;)I"⟩ : MethodName)) hown (mvT hZ (own_wd hw 90 rfl)) (mvT hZ (own_wd hw 91 rfl)) (mvT hZ (own_wd hw 89 rfl)) (mvT hZ (own_wd hw 92 rfl)) (by decide) (backOf (W := 0) (rm21_r l Z a0 hw [] x2 x3 fa h0 n0 Z0 O0 pp35 pp36) hZ (own_wd hw 92 rfl) (own_wd hw 89 rfl) (by decide) (by decide)) (g := (mkF m 6 #[.val (.int (0 : Int32)), .val (.int x2), .val (.int x3)] [(.ref fa), (.int x3), (.int x2), (.int (0 : Int32))])) rfl (by rw [hml]; rfl) (argsL := [(.int (0 : Int32)), (.int x2), (.int x3), (.ref fa)]) (rest := []) (lenOf pd_6 rfl) rfl (by show 2 * 0 + _ ≤ _; exact Nat.le_of_eq rfl) (hb hby d20_6) (fun _ _ => ⟨rfl, e34, (by decide : 0 + 0 ≤ _), (by decide : 0 + 0 ≤ _)⟩)
    dsimp only [Pt.U, Pt.locs, Pt.cells, Pt.slots] at X37 l37 y37 z37 st37 hQ37
    subst l37 y37 z37
    obtain ⟨rfl, N37q, eh37⟩ := hQ37
    have N37 := Fr.app N0 N37q
    obtain ⟨fs, hr, hrun, hended, hW, hsame⟩ := X37.leave (v := none) (fun _ => rfl)
    refine ⟨_, _, pre0 _ ?_, hrun, hended, _, _, rfl, ?_, ⟨_, rfl⟩, hW, hsame.mono (by decide) (by decide)⟩
    · show Steps p.tables e below (s₁.setTop (mkF m 0 #[.val (.int (0 : Int32)), .val (.int x2), .val (.int x3)] [])) _
      refine XS.iloadN X0.here hx rfl (hb hby d20_0) rfl ?_
      refine XS.iloadN X0.here hx rfl (hb hby d20_1) rfl ?_
      refine XS.iloadN X0.here hx rfl (hb hby d20_2) rfl ?_
      show Steps p.tables e below (s₁.setTop (mkF m 3 #[.val (.int (0 : Int32)), .val (.int x2), .val (.int x3)] [(.int x3), (.int x2), (.int (0 : Int32))])) _
      refine st34 _ ?_
      show Steps p.tables e below (T34.setTop (mkF m 6 #[.val (.int (0 : Int32)), .val (.int x2), .val (.int x3)] [(.ref fa), (.int x3), (.int x2), (.int (0 : Int32))])) _
      refine st37 _ ?_
      show Steps p.tables e below (T37.setTop (mkF m 9 #[.val (.int (0 : Int32)), .val (.int x2), .val (.int x3)] [(.int (0 : Int32))])) _
      refine XS.pop X37.here hx rfl (hb hby d20_9) rfl rfl ?_
      show Steps p.tables e below (T37.setTop (mkF m 10 #[.val (.int (0 : Int32)), .val (.int x2), .val (.int x3)] [])) _
      exact X37.returnOut hx Bd.returns (hb hby d20_10) hr
    · show Q20 Z x2 x3 st_fm h0 n0 _ T37.heap _
      rw [eh37]
      exact ⟨rfl, N37, rfl⟩
  · skip
    rw [hfe] at S_fm
    obtain ⟨T38, X38, e38, st38⟩ := getS2 X0 hx hZ hown (host := "") (Or.inl (own_wd hw 88 rfl)) Via.refl e0 (S_fm.ext O0.2) (g := (mkF m 3 #[.val (.int (0 : Int32)), .val (.int x2), .val (.int x3)] [(.int x3), (.int x2), (.int (0 : Int32))])) rfl (hb hby d20_3)
    have pp39 : ¬ (x3 < x2) := hle
    have pp40 : ¬ (x2 < (0 : Int32)) := hge
    obtain ⟨_, _, ⟨T41, L41, k41, n41⟩, -, X41, ⟨Lc41, hQ41, l41, y41, z41⟩, st41⟩ := Jvm.LawKit.callS X38 hx (y := (⟨"jdk/internal/util/Preconditions", "checkFromToIndex", "(IIILjava/util/function/BiFunction;)I"⟩ : MethodName)) hown (mvT hZ (own_wd hw 90 rfl)) (mvT hZ (own_wd hw 91 rfl)) (mvT hZ (own_wd hw 89 rfl)) (mvT hZ (own_wd hw 92 rfl)) (by decide) (backOf (W := 0) (rm21_n l Z a0 hw [] x2 x3 h0 n0 Z0 O0 pp39 pp40) hZ (own_wd hw 92 rfl) (own_wd hw 89 rfl) (by decide) (by decide)) (g := (mkF m 6 #[.val (.int (0 : Int32)), .val (.int x2), .val (.int x3)] [.null, (.int x3), (.int x2), (.int (0 : Int32))])) rfl (by rw [hml]; rfl) (argsL := [(.int (0 : Int32)), (.int x2), (.int x3), .null]) (rest := []) (lenOf pd_6 rfl) rfl (by show 2 * 0 + _ ≤ _; exact Nat.le_of_eq rfl) (hb hby d20_6) (fun _ _ => ⟨rfl, e38, (by decide : 0 + 0 ≤ _), (by decide : 0 + 0 ≤ _)⟩)
    dsimp only [Pt.U, Pt.locs, Pt.cells, Pt.slots] at X41 l41 y41 z41 st41 hQ41
    subst l41 y41 z41
    obtain ⟨rfl, N41q, eh41⟩ := hQ41
    have N41 := Fr.app N0 N41q
    obtain ⟨fs, hr, hrun, hended, hW, hsame⟩ := X41.leave (v := none) (fun _ => rfl)
    refine ⟨_, _, pre0 _ ?_, hrun, hended, _, _, rfl, ?_, ⟨_, rfl⟩, hW, hsame.mono (by decide) (by decide)⟩
    · show Steps p.tables e below (s₁.setTop (mkF m 0 #[.val (.int (0 : Int32)), .val (.int x2), .val (.int x3)] [])) _
      refine XS.iloadN X0.here hx rfl (hb hby d20_0) rfl ?_
      refine XS.iloadN X0.here hx rfl (hb hby d20_1) rfl ?_
      refine XS.iloadN X0.here hx rfl (hb hby d20_2) rfl ?_
      show Steps p.tables e below (s₁.setTop (mkF m 3 #[.val (.int (0 : Int32)), .val (.int x2), .val (.int x3)] [(.int x3), (.int x2), (.int (0 : Int32))])) _
      refine st38 _ ?_
      show Steps p.tables e below (T38.setTop (mkF m 6 #[.val (.int (0 : Int32)), .val (.int x2), .val (.int x3)] [.null, (.int x3), (.int x2), (.int (0 : Int32))])) _
      refine st41 _ ?_
      show Steps p.tables e below (T41.setTop (mkF m 9 #[.val (.int (0 : Int32)), .val (.int x2), .val (.int x3)] [(.int (0 : Int32))])) _
      refine XS.pop X41.here hx rfl (hb hby d20_9) rfl rfl ?_
      show Steps p.tables e below (T41.setTop (mkF m 10 #[.val (.int (0 : Int32)), .val (.int x2), .val (.int x3)] [])) _
      exact X41.returnOut hx Bd.returns (hb hby d20_10) hr
    · show Q20 Z x2 x3 st_fm h0 n0 _ T41.heap _
      rw [eh41]
      exact ⟨rfl, N41, rfl⟩
theorem d31_0 : decode jdk_42_method_151_code 0 = .ok (.aload_n 0, 1) := by decide +kernel
theorem d31_1 : decode jdk_42_method_151_code 1 = .ok (.invokespecial 1, 3) := by decide +kernel
theorem d31_4 : decode jdk_42_method_151_code 4 = .ok (.aload_n 0, 1) := by decide +kernel
theorem d31_5 : decode jdk_42_method_151_code 5 = .ok (.aload_n 1, 1) := by decide +kernel
theorem d31_6 : decode jdk_42_method_151_code 6 = .ok (.putfield 9, 3) := by decide +kernel
theorem d31_9 : decode jdk_42_method_151_code 9 = .ok (.aload_n 0, 1) := by decide +kernel
theorem d31_10 : decode jdk_42_method_151_code 10 = .ok (.iload_n 2, 1) := by decide +kernel
theorem d31_11 : decode jdk_42_method_151_code 11 = .ok (.putfield 15, 3) := by decide +kernel
theorem d31_14 : decode jdk_42_method_151_code 14 = .ok (.return_, 1) := by decide +kernel
theorem ef31 (m : MethodId) (tz : Addr) (x1 : Addr) : entryFrame m #[(.ref tz), (.ref x1), (.int (0 : Int32))] 3 = mkF m 0 #[.val (.ref tz), .val (.ref x1), .val (.int (0 : Int32))] [] := by first | (simp [entryFrame, mkF, argsToLocals, Value.category]; done) | rfl
def Q31 (Z : State) (tz : Addr) (x1 : Addr) (u_tz_value : Value) (u_tz_coder : Value) (h0 : Heap) (n0 : Nat) (v : Option Value) (h : Heap) (L : List Loc) : Prop := v = none ∧ Fr n0 L ∧ Keep h0 h [tz] ∧ Exa Z h tz "java/lang/String" ∧ Fld Z h tz "java/lang/String" "value" "[B" (.ref x1) ∧ Fld Z h tz "java/lang/String" "coder" "B" (.int (0 : Int32))
set_option maxRecDepth 65536 in
set_option maxHeartbeats 40000000 in
theorem rm31 (l : Launch) (Z : State) (a0 : Array Value) (hw : ∀ d ∈ tables_1, d.before a0 Z = true) (ws : List Jvm.Cond) (tz : Addr) (x1 : Addr) (u_tz_value : Value) (u_tz_coder : Value) (h0 : Heap) (n0 : Nat) (Z0 : n0 ≤ h0.size) (O0 : Old Z n0 h0) (E_tz : Exa Z h0 tz "java/lang/String") (F_u_tz_value : Fld Z h0 tz "java/lang/String" "value" "[B" u_tz_value) (g_tz : n0 ≤ tz) (F_u_tz_coder : Fld Z h0 tz "java/lang/String" "coder" "B" u_tz_coder) :
    MetFree l (⟨"java/lang/String", "<init>", "([BB)V"⟩ : MethodName) (head1 (Jvm.Cond.code (⟨"java/lang/String", "<init>", "([BB)V"⟩ : MethodName) jdk_42_method_151_code 3 none :: ws) ({ frames := 1, cells := 0, slots := 0, locals := 12 } : Room)) (fun a U => a = #[(.ref tz), (.ref x1), (.int (0 : Int32))] ∧ Z.Warmed39 U.vm ∧ U.heap = h0) (fun _ _ _ _ _ => True) (fun _ U o U' => ∃ v L, o = .returned v ∧ Q31 Z tz x1 u_tz_value u_tz_coder h0 n0 v U'.heap L ∧ FrameEnd U o U' L ({ frames := 1, cells := 0, slots := 0, locals := 12 } : Room).cells ({ frames := 1, cells := 0, slots := 0, locals := 12 } : Room).slots) := by
  refine MetFree.of_bodySF (plainFor_of_name pn_java_lang_String) hisR ?_
  intro p e s m args below meth c s₁ Bd hml0 hP hK
  obtain ⟨rfl, hZ, hh⟩ := hP
  have hx := Bd.exec
  have hby := Bd.bytes
  have hml : c.maxLocals = 3 := hml0
  have hown : s.vm.findClass "java/lang/String" = some m.cls := findClass_of_methodNamed Bd.named
  have hnm := (name_of_methodNamed Bd.named Bd.method).1
  have X0 : Stand p l e ({ frames := 1, cells := 0, slots := 0, locals := 12 } : Room) s m #[(.ref tz), (.ref x1), (.int (0 : Int32))] below meth c s₁ [] 0 0 := Stand.of_body Bd
  have e0 : s₁.heap = h0 := by rw [← hh, Bd.state]; rfl
  have N0 := Fr.nil n0
  have K0 : Keep h0 h0 [tz] := Keep.refl _ _
  have pre0 : ∀ t, Steps p.tables e below (s₁.setTop (mkF m 0 #[.val (.ref tz), .val (.ref x1), .val (.int (0 : Int32))] [])) t → Steps p.tables e below (s₁.setTop (entryFrame m #[(.ref tz), (.ref x1), (.int (0 : Int32))] 3)) t := fun t k => castTop (ef31 m tz x1) k
  obtain ⟨T42, X42, e42, st42⟩ := initO X0 hx hZ hown (own_wd hw 15 rfl) (own_wd hw 16 rfl) (own_wd hw 17 rfl) e0 (g := (mkF m 1 #[.val (.ref tz), .val (.ref x1), .val (.int (0 : Int32))] [(.ref tz)])) rfl (by rw [hml]; rfl) rfl (hb hby d31_1) (by decide) (W := 0) (by show 2 * 0 + _ ≤ _; exact Nat.le_of_eq rfl) (by decide)
  obtain ⟨T43, h43, X43, e43, W43, st43⟩ := putF X42 hx hZ hown (host := "") (Or.inl (own_wd hw 32 rfl)) Via.refl e42 F_u_tz_value E_tz (Or.inr ⟨(own_wd hw 33 rfl), rfl, hnm⟩) (own_wd hw 6 rfl) (ty := (.array .byte)) (by decide) rfl rfl (g := (mkF m 6 #[.val (.ref tz), .val (.ref x1), .val (.int (0 : Int32))] [(.ref x1), (.ref tz)])) rfl rfl (hb hby d31_6)
  have O43 : Old Z n0 h43 := O0.wr W43 g_tz
  have Z43 : n0 ≤ h43.size := Nat.le_trans Z0 (Keep.of_wr W43).1
  have K43 : Keep h0 h43 [tz] := K0.wr W43 (Or.inl (List.mem_of_getElem? (i := 0) rfl))
  have N43 := Fr.snoc X43 N0 g_tz
  have Fw43 : Fld Z h43 tz "java/lang/String" "value" "[B" (.ref x1) := F_u_tz_value.same W43
  have C44 : Exa Z h43 tz "java/lang/String" := (E_tz.wr W43)
  have F45 : Fld Z h43 tz "java/lang/String" "coder" "B" u_tz_coder := (F_u_tz_coder.other W43 (Or.inr (slot_ne (Or.inr (own_wd hw 31 rfl)) (Or.inr (own_wd hw 33 rfl)) (by decide) (t := .byte) (t' := (.array .byte)) (by decide) (by decide))))
  obtain ⟨T46, h46, X46, e46, W46, st46⟩ := putFN X43 hx hZ hown (own_wd hw 30 rfl) Via.refl e43 F45 C44 (Or.inr ⟨(own_wd hw 31 rfl), rfl, hnm⟩) (own_wd hw 6 rfl) (ty := .byte) (v' := (.int (0 : Int32))) (by decide) rfl rfl (g := (mkF m 11 #[.val (.ref tz), .val (.ref x1), .val (.int (0 : Int32))] [(.int (0 : Int32)), (.ref tz)])) rfl rfl (hb hby d31_11)
  have O46 : Old Z n0 h46 := O43.wr W46 g_tz
  have Z46 : n0 ≤ h46.size := Nat.le_trans Z43 (Keep.of_wr W46).1
  have K46 : Keep h0 h46 [tz] := K43.wr W46 (Or.inl (List.mem_of_getElem? (i := 0) rfl))
  have N46 := Fr.snoc X46 N43 g_tz
  have Fw46 : Fld Z h46 tz "java/lang/String" "coder" "B" (.int (0 : Int32)) := F45.same W46
  have C47 : Exa Z h46 tz "java/lang/String" := (C44.wr W46)
  have F48 : Fld Z h46 tz "java/lang/String" "value" "[B" (.ref x1) := (Fw43.other W46 (Or.inr (slot_ne (Or.inr (own_wd hw 33 rfl)) (Or.inr (own_wd hw 31 rfl)) (by decide) (t := (.array .byte)) (t' := .byte) (by decide) (by decide))))
  obtain ⟨fs, hr, hrun, hended, hW, hsame⟩ := X46.leave (v := none) (fun _ => rfl)
  refine ⟨_, _, pre0 _ ?_, hrun, hended, _, _, rfl, ?_, ⟨_, rfl⟩, hW, hsame.mono (by decide) (by decide)⟩
  · show Steps p.tables e below (s₁.setTop (mkF m 0 #[.val (.ref tz), .val (.ref x1), .val (.int (0 : Int32))] [])) _
    refine XS.aloadN X0.here hx rfl (hb hby d31_0) rfl rfl ?_
    show Steps p.tables e below (s₁.setTop (mkF m 1 #[.val (.ref tz), .val (.ref x1), .val (.int (0 : Int32))] [(.ref tz)])) _
    refine st42 _ ?_
    show Steps p.tables e below (T42.setTop (mkF m 4 #[.val (.ref tz), .val (.ref x1), .val (.int (0 : Int32))] [])) _
    refine XS.aloadN X42.here hx rfl (hb hby d31_4) rfl rfl ?_
    refine XS.aloadN X42.here hx rfl (hb hby d31_5) rfl rfl ?_
    show Steps p.tables e below (T42.setTop (mkF m 6 #[.val (.ref tz), .val (.ref x1), .val (.int (0 : Int32))] [(.ref x1), (.ref tz)])) _
    refine st43 _ ?_
    show Steps p.tables e below (T43.setTop (mkF m 9 #[.val (.ref tz), .val (.ref x1), .val (.int (0 : Int32))] [])) _
    refine XS.aloadN X43.here hx rfl (hb hby d31_9) rfl rfl ?_
    refine XS.iloadN X43.here hx rfl (hb hby d31_10) rfl ?_
    show Steps p.tables e below (T43.setTop (mkF m 11 #[.val (.ref tz), .val (.ref x1), .val (.int (0 : Int32))] [(.int (0 : Int32)), (.ref tz)])) _
    refine st46 _ ?_
    show Steps p.tables e below (T46.setTop (mkF m 14 #[.val (.ref tz), .val (.ref x1), .val (.int (0 : Int32))] [])) _
    exact X46.returnOut hx Bd.returns (hb hby d31_14) hr
  · show Q31 Z tz x1 u_tz_value u_tz_coder h0 n0 _ T46.heap _
    rw [e46]
    exact ⟨rfl, N46, K46, C47, F48, Fw46⟩
theorem d30_0 : decode jdk_65_method_131_code 0 = .ok (.iload_n 1, 1) := by decide +kernel
theorem d30_1 : decode jdk_65_method_131_code 1 = .ok (.iload_n 0, 1) := by decide +kernel
theorem d30_2 : decode jdk_65_method_131_code 2 = .ok (.if_icmp .ge 35, 3) := by decide +kernel
theorem d30_37 : decode jdk_65_method_131_code 37 = .ok (.return_, 1) := by decide +kernel
theorem pn_java_util_Arrays : plainName "java/util/Arrays" = true := by first | (simp [plainName, overriddenIn]; done) | decide +kernel
theorem ef30 (m : MethodId) (x1 : Int32) (x2 : Int32) : entryFrame m #[(.int x1), (.int x2)] 2 = mkF m 0 #[.val (.int x1), .val (.int x2)] [] := by first | (simp [entryFrame, mkF, argsToLocals, Value.category]; done) | rfl
def Q30 (Z : State) (x1 : Int32) (x2 : Int32) (h0 : Heap) (n0 : Nat) (v : Option Value) (h : Heap) (L : List Loc) : Prop := v = none ∧ Fr n0 L ∧ h = h0
set_option maxRecDepth 65536 in
set_option maxHeartbeats 40000000 in
theorem rm30 (l : Launch) (Z : State) (a0 : Array Value) (hw : ∀ d ∈ tables_1, d.before a0 Z = true) (ws : List Jvm.Cond) (x1 : Int32) (x2 : Int32) (h0 : Heap) (n0 : Nat) (Z0 : n0 ≤ h0.size) (O0 : Old Z n0 h0) (hge : ¬ (x2 < x1)) :
    MetFree l (⟨"java/util/Arrays", "checkLength", "(II)V"⟩ : MethodName) (head1 (Jvm.Cond.code (⟨"java/util/Arrays", "checkLength", "(II)V"⟩ : MethodName) jdk_65_method_131_code 2 none :: ws) ({ frames := 0, cells := 0, slots := 0, locals := 0 } : Room)) (fun a U => a = #[(.int x1), (.int x2)] ∧ Z.Warmed39 U.vm ∧ U.heap = h0) (fun _ _ _ _ _ => True) (fun _ U o U' => ∃ v L, o = .returned v ∧ Q30 Z x1 x2 h0 n0 v U'.heap L ∧ FrameEnd U o U' L ({ frames := 0, cells := 0, slots := 0, locals := 0 } : Room).cells ({ frames := 0, cells := 0, slots := 0, locals := 0 } : Room).slots) := by
  refine MetFree.of_bodySF (plainFor_of_name pn_java_util_Arrays) hisR ?_
  intro p e s m args below meth c s₁ Bd hml0 hP hK
  obtain ⟨rfl, hZ, hh⟩ := hP
  have hx := Bd.exec
  have hby := Bd.bytes
  have hml : c.maxLocals = 2 := hml0
  have hown : s.vm.findClass "java/util/Arrays" = some m.cls := findClass_of_methodNamed Bd.named
  have hnm := (name_of_methodNamed Bd.named Bd.method).1
  have X0 : Stand p l e ({ frames := 0, cells := 0, slots := 0, locals := 0 } : Room) s m #[(.int x1), (.int x2)] below meth c s₁ [] 0 0 := Stand.of_body Bd
  have e0 : s₁.heap = h0 := by rw [← hh, Bd.state]; rfl
  have N0 := Fr.nil n0
  have K0 : Keep h0 h0 [] := Keep.refl _ _
  have pre0 : ∀ t, Steps p.tables e below (s₁.setTop (mkF m 0 #[.val (.int x1), .val (.int x2)] [])) t → Steps p.tables e below (s₁.setTop (entryFrame m #[(.int x1), (.int x2)] 2)) t := fun t k => castTop (ef30 m x1 x2) k
  obtain ⟨fs, hr, hrun, hended, hW, hsame⟩ := X0.leave (v := none) (fun _ => rfl)
  refine ⟨_, _, pre0 _ ?_, hrun, hended, _, _, rfl, ?_, ⟨_, rfl⟩, hW, hsame.mono (by decide) (by decide)⟩
  · show Steps p.tables e below (s₁.setTop (mkF m 0 #[.val (.int x1), .val (.int x2)] [])) _
    refine XS.iloadN X0.here hx rfl (hb hby d30_0) rfl ?_
    refine XS.iloadN X0.here hx rfl (hb hby d30_1) rfl ?_
    refine XS.icmpYes X0.here hx rfl (pc0 := 2) (pc' := 37) rfl (hb hby d30_2) rfl (flt hge).2.1 (by decide) (by decide) ?_
    show Steps p.tables e below (s₁.setTop (mkF m 37 #[.val (.int x1), .val (.int x2)] [])) _
    exact X0.returnOut hx Bd.returns (hb hby d30_37) hr
  · show Q30 Z x1 x2 h0 n0 _ s₁.heap _
    rw [e0]
    exact ⟨rfl, N0, rfl⟩
theorem d29_0 : decode jdk_65_method_133_code 0 = .ok (.iload_n 1, 1) := by decide +kernel
theorem d29_1 : decode jdk_65_method_133_code 1 = .ok (.iload_n 2, 1) := by decide +kernel
theorem pd_7 : parseMethodDescriptor "(II)V" = some ⟨[.int, .int], none⟩ := by decide +kernel
theorem d29_2 : decode jdk_65_method_133_code 2 = .ok (.invokestatic 343, 3) := by decide +kernel
theorem d29_5 : decode jdk_65_method_133_code 5 = .ok (.iload_n 2, 1) := by decide +kernel
theorem d29_6 : decode jdk_65_method_133_code 6 = .ok (.iload_n 1, 1) := by decide +kernel
theorem d29_7 : decode jdk_65_method_133_code 7 = .ok (.isub, 1) := by decide +kernel
theorem d29_8 : decode jdk_65_method_133_code 8 = .ok (.istore_n 3, 1) := by decide +kernel
theorem d29_9 : decode jdk_65_method_133_code 9 = .ok (.iload_n 3, 1) := by decide +kernel
theorem d29_10 : decode jdk_65_method_133_code 10 = .ok (.newarray .byte, 2) := by decide +kernel
theorem d29_12 : decode jdk_65_method_133_code 12 = .ok (.astore 4, 2) := by decide +kernel
theorem d29_14 : decode jdk_65_method_133_code 14 = .ok (.aload_n 0, 1) := by decide +kernel
theorem d29_15 : decode jdk_65_method_133_code 15 = .ok (.iload_n 1, 1) := by decide +kernel
theorem d29_16 : decode jdk_65_method_133_code 16 = .ok (.aload 4, 2) := by decide +kernel
theorem d29_18 : decode jdk_65_method_133_code 18 = .ok (.iconst 0, 1) := by decide +kernel
theorem d29_19 : decode jdk_65_method_133_code 19 = .ok (.aload_n 0, 1) := by decide +kernel
theorem d29_20 : decode jdk_65_method_133_code 20 = .ok (.arraylength, 1) := by decide +kernel
theorem d29_21 : decode jdk_65_method_133_code 21 = .ok (.iload_n 1, 1) := by decide +kernel
theorem d29_22 : decode jdk_65_method_133_code 22 = .ok (.isub, 1) := by decide +kernel
theorem d29_23 : decode jdk_65_method_133_code 23 = .ok (.iload_n 3, 1) := by decide +kernel
theorem d29_24 : decode jdk_65_method_133_code 24 = .ok (.invokestatic 304, 3) := by decide +kernel
theorem d29_27 : decode jdk_65_method_133_code 27 = .ok (.invokestatic 150, 3) := by decide +kernel
theorem d29_30 : decode jdk_65_method_133_code 30 = .ok (.aload 4, 2) := by decide +kernel
theorem d29_32 : decode jdk_65_method_133_code 32 = .ok (.areturn, 1) := by decide +kernel
theorem ef29 (m : MethodId) (x1 : Addr) : entryFrame m #[(.ref x1), (.int (Int32.ofNat sa)), (.int (Int32.ofNat (sa + ml)))] 5 = mkF m 0 #[.val (.ref x1), .val (.int (Int32.ofNat sa)), .val (.int (Int32.ofNat (sa + ml))), .unset, .unset] [] := by first | (simp [entryFrame, mkF, argsToLocals, Value.category]; done) | rfl
def Q29 (Z : State) (x1 : Addr) (ks : ClassId) (f : Nat → Int32) (n : Nat) (sa : Nat) (ml : Nat) (h0 : Heap) (n0 : Nat) (v : Option Value) (h : Heap) (L : List Loc) : Prop := ∃ (b : Addr), ∃ (kk : ClassId), v = some (.ref b) ∧ Fr n0 L ∧ Keep h0 h [] ∧ h0.size ≤ b ∧ Arv Z h b kk .byte (Int32.ofNat ml) (own_fv (own_sh f sa) ml) (.int 0)
set_option maxRecDepth 65536 in
set_option maxHeartbeats 40000000 in
theorem rm29 (l : Launch) (Z : State) (a0 : Array Value) (hw : ∀ d ∈ tables_1, d.before a0 Z = true) (ws : List Jvm.Cond) (x1 : Addr) (ks : ClassId) (f : Nat → Int32) (n : Nat) (sa : Nat) (ml : Nat) (h0 : Heap) (n0 : Nat) (Z0 : n0 ≤ h0.size) (O0 : Old Z n0 h0) (V_x1 : Arv Z h0 x1 ks .byte (Int32.ofNat n) (own_fv f n) (.int 0)) (hsm : sa + ml ≤ n) (hn : n ≤ 24) :
    MetFree l (⟨"java/util/Arrays", "copyOfRangeByte", "([BII)[B"⟩ : MethodName) (head1 (Jvm.Cond.code (⟨"java/util/Arrays", "copyOfRangeByte", "([BII)[B"⟩ : MethodName) jdk_65_method_133_code 5 (some (.array .byte)) :: ws) ({ frames := 1, cells := 1, slots := 24, locals := 18 } : Room)) (fun a U => a = #[(.ref x1), (.int (Int32.ofNat sa)), (.int (Int32.ofNat (sa + ml)))] ∧ Z.Warmed39 U.vm ∧ U.heap = h0) (fun _ _ _ _ _ => True) (fun _ U o U' => ∃ v L, o = .returned v ∧ Q29 Z x1 ks f n sa ml h0 n0 v U'.heap L ∧ FrameEnd U o U' L ({ frames := 1, cells := 1, slots := 24, locals := 18 } : Room).cells ({ frames := 1, cells := 1, slots := 24, locals := 18 } : Room).slots) := by
  refine MetFree.of_bodySF (plainFor_of_name pn_java_util_Arrays) hisR ?_
  intro p e s m args below meth c s₁ Bd hml0 hP hK
  obtain ⟨rfl, hZ, hh⟩ := hP
  have hx := Bd.exec
  have hby := Bd.bytes
  have hml : c.maxLocals = 5 := hml0
  have hown : s.vm.findClass "java/util/Arrays" = some m.cls := findClass_of_methodNamed Bd.named
  have hnm := (name_of_methodNamed Bd.named Bd.method).1
  have X0 : Stand p l e ({ frames := 1, cells := 1, slots := 24, locals := 18 } : Room) s m #[(.ref x1), (.int (Int32.ofNat sa)), (.int (Int32.ofNat (sa + ml)))] below meth c s₁ [] 0 0 := Stand.of_body Bd
  have e0 : s₁.heap = h0 := by rw [← hh, Bd.state]; rfl
  have N0 := Fr.nil n0
  have K0 : Keep h0 h0 [] := Keep.refl _ _
  have pre0 : ∀ t, Steps p.tables e below (s₁.setTop (mkF m 0 #[.val (.ref x1), .val (.int (Int32.ofNat sa)), .val (.int (Int32.ofNat (sa + ml))), .unset, .unset] [])) t → Steps p.tables e below (s₁.setTop (entryFrame m #[(.ref x1), (.int (Int32.ofNat sa)), (.int (Int32.ofNat (sa + ml)))] 5)) t := fun t k => castTop (ef29 m x1) k
  have pp49 : ¬ ((Int32.ofNat (sa + ml)) < (Int32.ofNat sa)) := own_le (by omega) (by omega)
  obtain ⟨_, _, ⟨T50, L50, k50, n50⟩, -, X50, ⟨Lc50, hQ50, l50, y50, z50⟩, st50⟩ := Jvm.LawKit.callS X0 hx (y := (⟨"java/util/Arrays", "checkLength", "(II)V"⟩ : MethodName)) hown (mvT hZ (own_wd hw 130 rfl)) (mvT hZ (own_wd hw 131 rfl)) (mvT hZ (own_wd hw 125 rfl)) (mvT hZ (own_wd hw 132 rfl)) (by decide) (backOf (W := 0) (rm30 l Z a0 hw [] (Int32.ofNat sa) (Int32.ofNat (sa + ml)) h0 n0 Z0 O0 pp49) hZ (own_wd hw 132 rfl) (own_wd hw 125 rfl) (by decide) (by decide)) (g := (mkF m 2 #[.val (.ref x1), .val (.int (Int32.ofNat sa)), .val (.int (Int32.ofNat (sa + ml))), .unset, .unset] [(.int (Int32.ofNat (sa + ml))), (.int (Int32.ofNat sa))])) rfl (by rw [hml]; rfl) (argsL := [(.int (Int32.ofNat sa)), (.int (Int32.ofNat (sa + ml)))]) (rest := []) (lenOf pd_7 rfl) rfl (by show 2 * 0 + _ ≤ _; exact Nat.le_of_eq rfl) (hb hby d29_2) (fun _ _ => ⟨rfl, e0, (by decide : 0 + 0 ≤ _), (by decide : 0 + 0 ≤ _)⟩)
  dsimp only [Pt.U, Pt.locs, Pt.cells, Pt.slots] at X50 l50 y50 z50 st50 hQ50
  subst l50 y50 z50
  obtain ⟨rfl, N50q, eh50⟩ := hQ50
  have N50 := Fr.app N0 N50q
  have rn51 : ((Int32.ofNat (sa + ml)) - (Int32.ofNat sa)) = (Int32.ofNat ml) := own_subm sa ml
  obtain ⟨T52, h52, k52, X52, e52, E52, A52, st52⟩ := newP X50 hx hZ (own_wd hw 23 rfl) eh50 (g := (mkF m 10 #[.val (.ref x1), .val (.int (Int32.ofNat sa)), .val (.int (Int32.ofNat (sa + ml))), .val (.int (Int32.ofNat ml)), .unset] [(.int (Int32.ofNat ml))])) rfl (hb hby d29_10) rfl (own_nn (by omega)) (cap := 24) (by rw [own_nat (by omega)]; omega) (by decide) (by decide) (by decide)
  obtain ⟨b52, g52⟩ : ∃ z, z = h0.size := ⟨_, rfl⟩
  rw [← g52] at A52 st52
  have O52 : Old Z n0 h52 := O0.ext E52
  have Z52 : n0 ≤ h52.size := Nat.le_trans Z0 E52.1
  have K52 : Keep h0 h52 [] := K0.ext E52
  have g_b52 : n0 ≤ b52 := Nat.le_trans Z0 (Nat.le_of_eq g52.symm)
  have sz_b52 : h0.size ≤ b52 := Nat.le_trans K0.1 (Nat.le_of_eq g52.symm)
  have V52 : Arv Z h52 b52 k52 .byte (Int32.ofNat ml) (own_fv own_zf ml) (.int (0 : Int32)) := (Arv.new A52 (own_nn (by omega))).pad (own_fv0 _)
  have V53 : Arv Z h52 x1 ks .byte (Int32.ofNat n) (own_fv f n) (.int 0) := (V_x1.ext E52)
  obtain ⟨cl_a54, Ar_a54, -, S_a54, N_a54, -, -⟩ := id V53
  have rn55 : ((Int32.ofNat n) - (Int32.ofNat sa)) = (Int32.ofNat (n - sa)) := own_sub (by omega)
  obtain ⟨_, _, ⟨T56, L56, k56, n56⟩, -, X56, ⟨Lc56, hQ56, l56, y56, z56⟩, st56⟩ := Jvm.LawKit.callS X52 hx (y := (⟨"java/lang/Math", "min", "(II)I"⟩ : MethodName)) hown (mvT hZ (own_wd hw 133 rfl)) (mvT hZ (own_wd hw 75 rfl)) (mvT hZ (own_wd hw 72 rfl)) (mvT hZ (own_wd hw 76 rfl)) (by decide) (backOf (W := 4) (rm17 l Z a0 hw [] (Int32.ofNat (n - sa)) (Int32.ofNat ml) h52 n0 Z52 O52) hZ (own_wd hw 76 rfl) (own_wd hw 72 rfl) (by decide) (by decide)) (g := (mkF m 24 #[.val (.ref x1), .val (.int (Int32.ofNat sa)), .val (.int (Int32.ofNat (sa + ml))), .val (.int (Int32.ofNat ml)), .val (.ref b52)] [(.int (Int32.ofNat ml)), (.int (Int32.ofNat (n - sa))), (.int (0 : Int32)), (.ref b52), (.int (Int32.ofNat sa)), (.ref x1)])) rfl (by rw [hml]; rfl) (argsL := [(.int (Int32.ofNat (n - sa))), (.int (Int32.ofNat ml))]) (rest := [(.int (0 : Int32)), (.ref b52), (.int (Int32.ofNat sa)), (.ref x1)]) (lenOf pd_2 rfl) rfl (by show 2 * 0 + _ ≤ _; exact Nat.le_of_eq rfl) (hb hby d29_24) (fun _ _ => ⟨rfl, e52, (by decide : 1 + 0 ≤ _), (by decide : 24 + 0 ≤ _)⟩)
  dsimp only [Pt.U, Pt.locs, Pt.cells, Pt.slots] at X56 l56 y56 z56 st56 hQ56
  subst l56 y56 z56
  obtain ⟨rfl, N56q, eh56⟩ := hQ56
  have N56 := Fr.app N50 N56q
  have rn57 : (own_min (Int32.ofNat (n - sa)) (Int32.ofNat ml)) = (Int32.ofNat ml) := own_minle (by omega) (by omega)
  obtain ⟨T58, h58, L58, X58, e58, N58, KK58, A58, st58⟩ := own_cp X56 hx hZ hown (own_wd hw 134 rfl) (own_wd hw 137 rfl) (own_wd hw 135 rfl) (own_wd hw 136 rfl) eh56 (sp := sa) (dp := 0) (nn := ml) (H := (own_sh f sa)) V53 V52 (by omega) (by omega) (by omega) (by omega) (by omega) (fun j hj => by rw [if_pos ⟨Nat.zero_le _, by omega⟩]; rfl) N56 g_b52 (g := (mkF m 27 #[.val (.ref x1), .val (.int (Int32.ofNat sa)), .val (.int (Int32.ofNat (sa + ml))), .val (.int (Int32.ofNat ml)), .val (.ref b52)] [(.int (Int32.ofNat ml)), (.int (0 : Int32)), (.ref b52), (.int (Int32.ofNat sa)), (.ref x1)])) rfl (by rw [hml]; rfl) rfl (hb hby d29_27) (by decide) (W := 0) (by show 2 * 0 + _ ≤ _; exact Nat.le_of_eq rfl) (by decide)
  have O58 : Old Z n0 h58 := O52.keep KK58 (allS g_b52 all0)
  have Z58 : n0 ≤ h58.size := Nat.le_trans Z52 KK58.1
  have K58 : Keep h0 h58 [] := K52.trans KK58 (allS (Or.inr sz_b52) all0)
  obtain ⟨fs, hr, hrun, hended, hW, hsame⟩ := X58.leave (v := some (.ref b52)) (fun h => by rw [Bd.returns] at h; cases h)
  refine ⟨_, _, pre0 _ ?_, hrun, hended, _, _, rfl, ?_, ⟨_, rfl⟩, hW, hsame.mono (by decide) (by decide)⟩
  · show Steps p.tables e below (s₁.setTop (mkF m 0 #[.val (.ref x1), .val (.int (Int32.ofNat sa)), .val (.int (Int32.ofNat (sa + ml))), .unset, .unset] [])) _
    refine XS.iloadN X0.here hx rfl (hb hby d29_0) rfl ?_
    refine XS.iloadN X0.here hx rfl (hb hby d29_1) rfl ?_
    show Steps p.tables e below (s₁.setTop (mkF m 2 #[.val (.ref x1), .val (.int (Int32.ofNat sa)), .val (.int (Int32.ofNat (sa + ml))), .unset, .unset] [(.int (Int32.ofNat (sa + ml))), (.int (Int32.ofNat sa))])) _
    refine st50 _ ?_
    show Steps p.tables e below (T50.setTop (mkF m 5 #[.val (.ref x1), .val (.int (Int32.ofNat sa)), .val (.int (Int32.ofNat (sa + ml))), .unset, .unset] [])) _
    refine XS.iloadN X50.here hx rfl (hb hby d29_5) rfl ?_
    refine XS.iloadN X50.here hx rfl (hb hby d29_6) rfl ?_
    refine XS.isub X50.here hx rfl (hb hby d29_7) rfl ?_
    show Steps p.tables e below (T50.setTop (mkF m 8 #[.val (.ref x1), .val (.int (Int32.ofNat sa)), .val (.int (Int32.ofNat (sa + ml))), .unset, .unset] [(.int ((Int32.ofNat (sa + ml)) - (Int32.ofNat sa)))])) _
    rw [rn51]
    refine XS.istoreN X50.here hx rfl (hb hby d29_8) rfl (l' := #[.val (.ref x1), .val (.int (Int32.ofNat sa)), .val (.int (Int32.ofNat (sa + ml))), .val (.int (Int32.ofNat ml)), .unset]) rfl ?_
    refine XS.iloadN X50.here hx rfl (hb hby d29_9) rfl ?_
    show Steps p.tables e below (T50.setTop (mkF m 10 #[.val (.ref x1), .val (.int (Int32.ofNat sa)), .val (.int (Int32.ofNat (sa + ml))), .val (.int (Int32.ofNat ml)), .unset] [(.int (Int32.ofNat ml))])) _
    refine st52 _ ?_
    show Steps p.tables e below (T52.setTop (mkF m 12 #[.val (.ref x1), .val (.int (Int32.ofNat sa)), .val (.int (Int32.ofNat (sa + ml))), .val (.int (Int32.ofNat ml)), .unset] [(.ref b52)])) _
    refine XS.astore X52.here hx rfl (hb hby d29_12) rfl rfl (l' := #[.val (.ref x1), .val (.int (Int32.ofNat sa)), .val (.int (Int32.ofNat (sa + ml))), .val (.int (Int32.ofNat ml)), .val (.ref b52)]) rfl ?_
    refine XS.aloadN X52.here hx rfl (hb hby d29_14) rfl rfl ?_
    refine XS.iloadN X52.here hx rfl (hb hby d29_15) rfl ?_
    refine XS.aload X52.here hx rfl (hb hby d29_16) rfl rfl ?_
    refine XS.iconst X52.here hx rfl (hb hby d29_18) ?_
    refine XS.aloadN X52.here hx rfl (hb hby d29_19) rfl rfl ?_
    show Steps p.tables e below (T52.setTop (mkF m 20 #[.val (.ref x1), .val (.int (Int32.ofNat sa)), .val (.int (Int32.ofNat (sa + ml))), .val (.int (Int32.ofNat ml)), .val (.ref b52)] [(.ref x1), (.int (0 : Int32)), (.ref b52), (.int (Int32.ofNat sa)), (.ref x1)])) _
    refine X52.arraylength hx (by rw [e52]; exact Ar_a54.1) (State.isArrayOf_alike hZ.alike Ar_a54.2.1) (g := (mkF m 20 #[.val (.ref x1), .val (.int (Int32.ofNat sa)), .val (.int (Int32.ofNat (sa + ml))), .val (.int (Int32.ofNat ml)), .val (.ref b52)] [(.ref x1), (.int (0 : Int32)), (.ref b52), (.int (Int32.ofNat sa)), (.ref x1)])) rfl rfl (hb hby d29_20) _ ?_
    rw [len_of S_a54 N_a54]
    refine XS.iloadN X52.here hx rfl (hb hby d29_21) rfl ?_
    refine XS.isub X52.here hx rfl (hb hby d29_22) rfl ?_
    show Steps p.tables e below (T52.setTop (mkF m 23 #[.val (.ref x1), .val (.int (Int32.ofNat sa)), .val (.int (Int32.ofNat (sa + ml))), .val (.int (Int32.ofNat ml)), .val (.ref b52)] [(.int ((Int32.ofNat n) - (Int32.ofNat sa))), (.int (0 : Int32)), (.ref b52), (.int (Int32.ofNat sa)), (.ref x1)])) _
    rw [rn55]
    refine XS.iloadN X52.here hx rfl (hb hby d29_23) rfl ?_
    show Steps p.tables e below (T52.setTop (mkF m 24 #[.val (.ref x1), .val (.int (Int32.ofNat sa)), .val (.int (Int32.ofNat (sa + ml))), .val (.int (Int32.ofNat ml)), .val (.ref b52)] [(.int (Int32.ofNat ml)), (.int (Int32.ofNat (n - sa))), (.int (0 : Int32)), (.ref b52), (.int (Int32.ofNat sa)), (.ref x1)])) _
    refine st56 _ ?_
    show Steps p.tables e below (T56.setTop (mkF m 27 #[.val (.ref x1), .val (.int (Int32.ofNat sa)), .val (.int (Int32.ofNat (sa + ml))), .val (.int (Int32.ofNat ml)), .val (.ref b52)] [(.int (own_min (Int32.ofNat (n - sa)) (Int32.ofNat ml))), (.int (0 : Int32)), (.ref b52), (.int (Int32.ofNat sa)), (.ref x1)])) _
    rw [rn57]
    show Steps p.tables e below (T56.setTop (mkF m 27 #[.val (.ref x1), .val (.int (Int32.ofNat sa)), .val (.int (Int32.ofNat (sa + ml))), .val (.int (Int32.ofNat ml)), .val (.ref b52)] [(.int (Int32.ofNat ml)), (.int (0 : Int32)), (.ref b52), (.int (Int32.ofNat sa)), (.ref x1)])) _
    refine st58 _ ?_
    show Steps p.tables e below (T58.setTop (mkF m 30 #[.val (.ref x1), .val (.int (Int32.ofNat sa)), .val (.int (Int32.ofNat (sa + ml))), .val (.int (Int32.ofNat ml)), .val (.ref b52)] [])) _
    refine XS.aload X58.here hx rfl (hb hby d29_30) rfl rfl ?_
    show Steps p.tables e below (T58.setTop (mkF m 32 #[.val (.ref x1), .val (.int (Int32.ofNat sa)), .val (.int (Int32.ofNat (sa + ml))), .val (.int (Int32.ofNat ml)), .val (.ref b52)] [(.ref b52)])) _
    jvm_step X58.here [X58.here.top, hx, (hb hby d29_32), X58.method', Bd.returns, Value.isRef, FieldType.isReference]
    first | (intro acts; rw [hr _ acts rfl rfl rfl]) | rw [hr _ _ rfl rfl rfl]
    exact Steps.refl _
  · show Q29 Z x1 ks f n sa ml h0 n0 _ T58.heap _
    rw [e58]
    exact ⟨b52, k52, rfl, N58, K58, sz_b52, A58⟩
theorem d28_0 : decode jdk_65_method_132_code 0 = .ok (.iload_n 1, 1) := by decide +kernel
theorem d28_1 : decode jdk_65_method_132_code 1 = .ok (.ifCond .ne 9, 3) := by decide +kernel
theorem d28_4 : decode jdk_65_method_132_code 4 = .ok (.iload_n 2, 1) := by decide +kernel
theorem d28_5 : decode jdk_65_method_132_code 5 = .ok (.aload_n 0, 1) := by decide +kernel
theorem d28_6 : decode jdk_65_method_132_code 6 = .ok (.arraylength, 1) := by decide +kernel
theorem d28_7 : decode jdk_65_method_132_code 7 = .ok (.if_icmp .eq 10, 3) := by decide +kernel
theorem d28_10 : decode jdk_65_method_132_code 10 = .ok (.aload_n 0, 1) := by decide +kernel
theorem d28_11 : decode jdk_65_method_132_code 11 = .ok (.iload_n 1, 1) := by decide +kernel
theorem d28_12 : decode jdk_65_method_132_code 12 = .ok (.iload_n 2, 1) := by decide +kernel
theorem pd_8 : parseMethodDescriptor "([BII)[B" = some ⟨[(.array .byte), .int, .int], some (.array .byte)⟩ := by decide +kernel
theorem d28_13 : decode jdk_65_method_132_code 13 = .ok (.invokestatic 339, 3) := by decide +kernel
theorem d28_16 : decode jdk_65_method_132_code 16 = .ok (.areturn, 1) := by decide +kernel
theorem ef28 (m : MethodId) (x1 : Addr) : entryFrame m #[(.ref x1), (.int (Int32.ofNat sa)), (.int (Int32.ofNat (sa + ml)))] 3 = mkF m 0 #[.val (.ref x1), .val (.int (Int32.ofNat sa)), .val (.int (Int32.ofNat (sa + ml)))] [] := by first | (simp [entryFrame, mkF, argsToLocals, Value.category]; done) | rfl
def Q28 (Z : State) (x1 : Addr) (ks : ClassId) (f : Nat → Int32) (n : Nat) (sa : Nat) (ml : Nat) (h0 : Heap) (n0 : Nat) (v : Option Value) (h : Heap) (L : List Loc) : Prop := ∃ (b : Addr), ∃ (kk : ClassId), v = some (.ref b) ∧ Fr n0 L ∧ Keep h0 h [] ∧ h0.size ≤ b ∧ Arv Z h b kk .byte (Int32.ofNat ml) (own_fv (own_sh f sa) ml) (.int 0)
set_option maxRecDepth 65536 in
set_option maxHeartbeats 40000000 in
theorem rm28 (l : Launch) (Z : State) (a0 : Array Value) (hw : ∀ d ∈ tables_1, d.before a0 Z = true) (ws : List Jvm.Cond) (x1 : Addr) (ks : ClassId) (f : Nat → Int32) (n : Nat) (sa : Nat) (ml : Nat) (h0 : Heap) (n0 : Nat) (Z0 : n0 ≤ h0.size) (O0 : Old Z n0 h0) (V_x1 : Arv Z h0 x1 ks .byte (Int32.ofNat n) (own_fv f n) (.int 0)) (hsm : sa + ml ≤ n) (hn : n ≤ 24) (hstr : ¬ (sa = 0 ∧ ml = n)) :
    MetFree l (⟨"java/util/Arrays", "copyOfRange", "([BII)[B"⟩ : MethodName) (head1 (Jvm.Cond.code (⟨"java/util/Arrays", "copyOfRange", "([BII)[B"⟩ : MethodName) jdk_65_method_132_code 3 (some (.array .byte)) :: ws) ({ frames := 2, cells := 1, slots := 24, locals := 34 } : Room)) (fun a U => a = #[(.ref x1), (.int (Int32.ofNat sa)), (.int (Int32.ofNat (sa + ml)))] ∧ Z.Warmed39 U.vm ∧ U.heap = h0) (fun _ _ _ _ _ => True) (fun _ U o U' => ∃ v L, o = .returned v ∧ Q28 Z x1 ks f n sa ml h0 n0 v U'.heap L ∧ FrameEnd U o U' L ({ frames := 2, cells := 1, slots := 24, locals := 34 } : Room).cells ({ frames := 2, cells := 1, slots := 24, locals := 34 } : Room).slots) := by
  refine MetFree.of_bodySF (plainFor_of_name pn_java_util_Arrays) hisR ?_
  intro p e s m args below meth c s₁ Bd hml0 hP hK
  obtain ⟨rfl, hZ, hh⟩ := hP
  have hx := Bd.exec
  have hby := Bd.bytes
  have hml : c.maxLocals = 3 := hml0
  have hown : s.vm.findClass "java/util/Arrays" = some m.cls := findClass_of_methodNamed Bd.named
  have hnm := (name_of_methodNamed Bd.named Bd.method).1
  have X0 : Stand p l e ({ frames := 2, cells := 1, slots := 24, locals := 34 } : Room) s m #[(.ref x1), (.int (Int32.ofNat sa)), (.int (Int32.ofNat (sa + ml)))] below meth c s₁ [] 0 0 := Stand.of_body Bd
  have e0 : s₁.heap = h0 := by rw [← hh, Bd.state]; rfl
  have N0 := Fr.nil n0
  have K0 : Keep h0 h0 [] := Keep.refl _ _
  have pre0 : ∀ t, Steps p.tables e below (s₁.setTop (mkF m 0 #[.val (.ref x1), .val (.int (Int32.ofNat sa)), .val (.int (Int32.ofNat (sa + ml)))] [])) t → Steps p.tables e below (s₁.setTop (entryFrame m #[(.ref x1), (.int (Int32.ofNat sa)), (.int (Int32.ofNat (sa + ml)))] 3)) t := fun t k => castTop (ef28 m x1) k
  have pre59 : ∀ t, Steps p.tables e below (s₁.setTop (mkF m 1 #[.val (.ref x1), .val (.int (Int32.ofNat sa)), .val (.int (Int32.ofNat (sa + ml)))] [(.int (Int32.ofNat sa))])) t → Steps p.tables e below (s₁.setTop (entryFrame m #[(.ref x1), (.int (Int32.ofNat sa)), (.int (Int32.ofNat (sa + ml)))] 3)) t := by
    intro t kt
    refine pre0 t ?_
    show Steps p.tables e below (s₁.setTop (mkF m 0 #[.val (.ref x1), .val (.int (Int32.ofNat sa)), .val (.int (Int32.ofNat (sa + ml)))] [])) _
    refine XS.iloadN X0.here hx rfl (hb hby d28_0) rfl ?_
    exact kt
  by_cases hc1 : (Int32.ofNat sa) = (0 : Int32)
  · skip
    have nf60 : (sa = 0) := (own_eq (i := sa) (n := 0) (by omega) (by omega)).mp hc1
    obtain ⟨cl_a61, Ar_a61, -, S_a61, N_a61, -, -⟩ := id V_x1
    have pre62 : ∀ t, Steps p.tables e below (s₁.setTop (mkF m 7 #[.val (.ref x1), .val (.int (Int32.ofNat sa)), .val (.int (Int32.ofNat (sa + ml)))] [(.int (Int32.ofNat n)), (.int (Int32.ofNat (sa + ml)))])) t → Steps p.tables e below (s₁.setTop (entryFrame m #[(.ref x1), (.int (Int32.ofNat sa)), (.int (Int32.ofNat (sa + ml)))] 3)) t := by
      intro t kt
      refine pre59 t ?_
      show Steps p.tables e below (s₁.setTop (mkF m 1 #[.val (.ref x1), .val (.int (Int32.ofNat sa)), .val (.int (Int32.ofNat (sa + ml)))] [(.int (Int32.ofNat sa))])) _
      refine XS.ifNo X0.here hx rfl (hb hby d28_1) rfl ((if0 _ _).trans (teq hc1).2) ?_
      refine XS.iloadN X0.here hx rfl (hb hby d28_4) rfl ?_
      refine XS.aloadN X0.here hx rfl (hb hby d28_5) rfl rfl ?_
      show Steps p.tables e below (s₁.setTop (mkF m 6 #[.val (.ref x1), .val (.int (Int32.ofNat sa)), .val (.int (Int32.ofNat (sa + ml)))] [(.ref x1), (.int (Int32.ofNat (sa + ml)))])) _
      refine X0.arraylength hx (by rw [e0]; exact Ar_a61.1) (State.isArrayOf_alike hZ.alike Ar_a61.2.1) (g := (mkF m 6 #[.val (.ref x1), .val (.int (Int32.ofNat sa)), .val (.int (Int32.ofNat (sa + ml)))] [(.ref x1), (.int (Int32.ofNat (sa + ml)))])) rfl rfl (hb hby d28_6) _ ?_
      rw [len_of S_a61 N_a61]
      exact kt
    by_cases hc7 : (Int32.ofNat (sa + ml)) = (Int32.ofNat n)
    · skip
      have nf63 : ((sa + ml) = n) := (own_eq (i := (sa + ml)) (n := n) (by omega) (by omega)).mp hc7
      exact False.elim (by omega)
    · skip
      have nf64 : ¬ ((sa + ml) = n) := fun q => hc7 ((own_eq (i := (sa + ml)) (n := n) (by omega) (by omega)).mpr q)
      obtain ⟨_, _, ⟨T65, L65, k65, n65⟩, -, X65, ⟨Lc65, hQ65, l65, y65, z65⟩, st65⟩ := Jvm.LawKit.callS X0 hx (y := (⟨"java/util/Arrays", "copyOfRangeByte", "([BII)[B"⟩ : MethodName)) hown (mvT hZ (own_wd hw 127 rfl)) (mvT hZ (own_wd hw 128 rfl)) (mvT hZ (own_wd hw 125 rfl)) (mvT hZ (own_wd hw 129 rfl)) (by decide) (backOf (W := 0) (rm29 l Z a0 hw [] x1 ks f n sa ml h0 n0 Z0 O0 V_x1 (by omega) (by omega)) hZ (own_wd hw 129 rfl) (own_wd hw 125 rfl) (by decide) (by decide)) (g := (mkF m 13 #[.val (.ref x1), .val (.int (Int32.ofNat sa)), .val (.int (Int32.ofNat (sa + ml)))] [(.int (Int32.ofNat (sa + ml))), (.int (Int32.ofNat sa)), (.ref x1)])) rfl (by rw [hml]; rfl) (argsL := [(.ref x1), (.int (Int32.ofNat sa)), (.int (Int32.ofNat (sa + ml)))]) (rest := []) (lenOf pd_8 rfl) rfl (by show 2 * 0 + _ ≤ _; exact Nat.le_of_eq rfl) (hb hby d28_13) (fun _ _ => ⟨rfl, e0, (by decide : 0 + 1 ≤ _), (by decide : 0 + 24 ≤ _)⟩)
      dsimp only [Pt.U, Pt.locs, Pt.cells, Pt.slots] at X65 l65 y65 z65 st65 hQ65
      subst l65 y65 z65
      obtain ⟨b_65, kk_65, rfl, N65q, KK65, Q65_0, Q65_1⟩ := hQ65
      have N65 := Fr.app N0 N65q
      have O65 : Old Z n0 T65.heap := O0.keep KK65 all0
      have Z65 : n0 ≤ T65.heap.size := Nat.le_trans Z0 KK65.1
      have K65 : Keep h0 T65.heap [] := K0.trans KK65 all0
      have g_b_65 : n0 ≤ b_65 := Nat.le_trans Z0 Q65_0
      have sz_b_65 : h0.size ≤ b_65 := Nat.le_trans K0.1 Q65_0
      obtain ⟨fs, hr, hrun, hended, hW, hsame⟩ := X65.leave (v := some (.ref b_65)) (fun h => by rw [Bd.returns] at h; cases h)
      refine ⟨_, _, pre62 _ ?_, hrun, hended, _, _, rfl, ?_, ⟨_, rfl⟩, hW, hsame.mono (by decide) (by decide)⟩
      · show Steps p.tables e below (s₁.setTop (mkF m 7 #[.val (.ref x1), .val (.int (Int32.ofNat sa)), .val (.int (Int32.ofNat (sa + ml)))] [(.int (Int32.ofNat n)), (.int (Int32.ofNat (sa + ml)))])) _
        refine XS.icmpNo X0.here hx rfl (hb hby d28_7) rfl (feq hc7).1 ?_
        refine XS.aloadN X0.here hx rfl (hb hby d28_10) rfl rfl ?_
        refine XS.iloadN X0.here hx rfl (hb hby d28_11) rfl ?_
        refine XS.iloadN X0.here hx rfl (hb hby d28_12) rfl ?_
        show Steps p.tables e below (s₁.setTop (mkF m 13 #[.val (.ref x1), .val (.int (Int32.ofNat sa)), .val (.int (Int32.ofNat (sa + ml)))] [(.int (Int32.ofNat (sa + ml))), (.int (Int32.ofNat sa)), (.ref x1)])) _
        refine st65 _ ?_
        show Steps p.tables e below (T65.setTop (mkF m 16 #[.val (.ref x1), .val (.int (Int32.ofNat sa)), .val (.int (Int32.ofNat (sa + ml)))] [(.ref b_65)])) _
        jvm_step X65.here [X65.here.top, hx, (hb hby d28_16), X65.method', Bd.returns, Value.isRef, FieldType.isReference]
        first | (intro acts; rw [hr _ acts rfl rfl rfl]) | rw [hr _ _ rfl rfl rfl]
        exact Steps.refl _
      · show Q28 Z x1 ks f n sa ml h0 n0 _ T65.heap _
        exact ⟨b_65, kk_65, rfl, N65, K65, sz_b_65, Q65_1⟩
  · skip
    have nf66 : ¬ (sa = 0) := fun q => hc1 ((own_eq (i := sa) (n := 0) (by omega) (by omega)).mpr q)
    obtain ⟨_, _, ⟨T67, L67, k67, n67⟩, -, X67, ⟨Lc67, hQ67, l67, y67, z67⟩, st67⟩ := Jvm.LawKit.callS X0 hx (y := (⟨"java/util/Arrays", "copyOfRangeByte", "([BII)[B"⟩ : MethodName)) hown (mvT hZ (own_wd hw 127 rfl)) (mvT hZ (own_wd hw 128 rfl)) (mvT hZ (own_wd hw 125 rfl)) (mvT hZ (own_wd hw 129 rfl)) (by decide) (backOf (W := 0) (rm29 l Z a0 hw [] x1 ks f n sa ml h0 n0 Z0 O0 V_x1 (by omega) (by omega)) hZ (own_wd hw 129 rfl) (own_wd hw 125 rfl) (by decide) (by decide)) (g := (mkF m 13 #[.val (.ref x1), .val (.int (Int32.ofNat sa)), .val (.int (Int32.ofNat (sa + ml)))] [(.int (Int32.ofNat (sa + ml))), (.int (Int32.ofNat sa)), (.ref x1)])) rfl (by rw [hml]; rfl) (argsL := [(.ref x1), (.int (Int32.ofNat sa)), (.int (Int32.ofNat (sa + ml)))]) (rest := []) (lenOf pd_8 rfl) rfl (by show 2 * 0 + _ ≤ _; exact Nat.le_of_eq rfl) (hb hby d28_13) (fun _ _ => ⟨rfl, e0, (by decide : 0 + 1 ≤ _), (by decide : 0 + 24 ≤ _)⟩)
    dsimp only [Pt.U, Pt.locs, Pt.cells, Pt.slots] at X67 l67 y67 z67 st67 hQ67
    subst l67 y67 z67
    obtain ⟨b_67, kk_67, rfl, N67q, KK67, Q67_0, Q67_1⟩ := hQ67
    have N67 := Fr.app N0 N67q
    have O67 : Old Z n0 T67.heap := O0.keep KK67 all0
    have Z67 : n0 ≤ T67.heap.size := Nat.le_trans Z0 KK67.1
    have K67 : Keep h0 T67.heap [] := K0.trans KK67 all0
    have g_b_67 : n0 ≤ b_67 := Nat.le_trans Z0 Q67_0
    have sz_b_67 : h0.size ≤ b_67 := Nat.le_trans K0.1 Q67_0
    obtain ⟨fs, hr, hrun, hended, hW, hsame⟩ := X67.leave (v := some (.ref b_67)) (fun h => by rw [Bd.returns] at h; cases h)
    refine ⟨_, _, pre59 _ ?_, hrun, hended, _, _, rfl, ?_, ⟨_, rfl⟩, hW, hsame.mono (by decide) (by decide)⟩
    · show Steps p.tables e below (s₁.setTop (mkF m 1 #[.val (.ref x1), .val (.int (Int32.ofNat sa)), .val (.int (Int32.ofNat (sa + ml)))] [(.int (Int32.ofNat sa))])) _
      refine XS.ifYes X0.here hx rfl (pc0 := 1) (pc' := 10) rfl (hb hby d28_1) rfl ((if0 _ _).trans (feq hc1).2) (by decide) (by decide) ?_
      refine XS.aloadN X0.here hx rfl (hb hby d28_10) rfl rfl ?_
      refine XS.iloadN X0.here hx rfl (hb hby d28_11) rfl ?_
      refine XS.iloadN X0.here hx rfl (hb hby d28_12) rfl ?_
      show Steps p.tables e below (s₁.setTop (mkF m 13 #[.val (.ref x1), .val (.int (Int32.ofNat sa)), .val (.int (Int32.ofNat (sa + ml)))] [(.int (Int32.ofNat (sa + ml))), (.int (Int32.ofNat sa)), (.ref x1)])) _
      refine st67 _ ?_
      show Steps p.tables e below (T67.setTop (mkF m 16 #[.val (.ref x1), .val (.int (Int32.ofNat sa)), .val (.int (Int32.ofNat (sa + ml)))] [(.ref b_67)])) _
      jvm_step X67.here [X67.here.top, hx, (hb hby d28_16), X67.method', Bd.returns, Value.isRef, FieldType.isReference]
      first | (intro acts; rw [hr _ acts rfl rfl rfl]) | rw [hr _ _ rfl rfl rfl]
      exact Steps.refl _
    · show Q28 Z x1 ks f n sa ml h0 n0 _ T67.heap _
      exact ⟨b_67, kk_67, rfl, N67, K67, sz_b_67, Q67_1⟩
theorem d22_0 : decode jdk_43_method_47_code 0 = .ok (.iload_n 2, 1) := by decide +kernel
theorem d22_1 : decode jdk_43_method_47_code 1 = .ok (.ifCond .ne 6, 3) := by decide +kernel
theorem d22_4 : decode jdk_43_method_47_code 4 = .ok (.ldc 151, 2) := by decide +kernel
theorem d22_6 : decode jdk_43_method_47_code 6 = .ok (.areturn, 1) := by decide +kernel
theorem d22_7 : decode jdk_43_method_47_code 7 = .ok (.new 1, 3) := by decide +kernel
theorem d22_10 : decode jdk_43_method_47_code 10 = .ok (.dup, 1) := by decide +kernel
theorem d22_11 : decode jdk_43_method_47_code 11 = .ok (.aload_n 0, 1) := by decide +kernel
theorem d22_12 : decode jdk_43_method_47_code 12 = .ok (.iload_n 1, 1) := by decide +kernel
theorem d22_13 : decode jdk_43_method_47_code 13 = .ok (.iload_n 1, 1) := by decide +kernel
theorem d22_14 : decode jdk_43_method_47_code 14 = .ok (.iload_n 2, 1) := by decide +kernel
theorem d22_15 : decode jdk_43_method_47_code 15 = .ok (.iadd, 1) := by decide +kernel
theorem d22_16 : decode jdk_43_method_47_code 16 = .ok (.invokestatic 232, 3) := by decide +kernel
theorem d22_19 : decode jdk_43_method_47_code 19 = .ok (.iconst 0, 1) := by decide +kernel
theorem pd_9 : parseMethodDescriptor "([BB)V" = some ⟨[(.array .byte), .byte], none⟩ := by decide +kernel
theorem d22_20 : decode jdk_43_method_47_code 20 = .ok (.invokespecial 112, 3) := by decide +kernel
theorem d22_23 : decode jdk_43_method_47_code 23 = .ok (.areturn, 1) := by decide +kernel
theorem ef22 (m : MethodId) (x1 : Addr) : entryFrame m #[(.ref x1), (.int (Int32.ofNat sa)), (.int (Int32.ofNat ml))] 3 = mkF m 0 #[.val (.ref x1), .val (.int (Int32.ofNat sa)), .val (.int (Int32.ofNat ml))] [] := by first | (simp [entryFrame, mkF, argsToLocals, Value.category]; done) | rfl
def Q22 (Z : State) (x1 : Addr) (ks : ClassId) (f : Nat → Int32) (n : Nat) (sa : Nat) (ml : Nat) (h0 : Heap) (n0 : Nat) (v : Option Value) (h : Heap) (L : List Loc) : Prop := ∃ (b : Addr), ∃ (t : Addr), ∃ (kk : ClassId), v = some (.ref b) ∧ Fr n0 L ∧ Keep h0 h [] ∧ Exa Z h b "java/lang/String" ∧ Fld Z h b "java/lang/String" "value" "[B" (.ref t) ∧ Fld Z h b "java/lang/String" "coder" "B" (.int (0 : Int32)) ∧ Arv Z h t kk .byte (Int32.ofNat ml) (own_fv (own_sh f sa) ml) (.int 0)
set_option maxRecDepth 65536 in
set_option maxHeartbeats 40000000 in
theorem rm22 (l : Launch) (Z : State) (a0 : Array Value) (hw : ∀ d ∈ tables_1, d.before a0 Z = true) (ws : List Jvm.Cond) (x1 : Addr) (ks : ClassId) (f : Nat → Int32) (n : Nat) (sa : Nat) (ml : Nat) (h0 : Heap) (n0 : Nat) (Z0 : n0 ≤ h0.size) (O0 : Old Z n0 h0) (V_x1 : Arv Z h0 x1 ks .byte (Int32.ofNat n) (own_fv f n) (.int 0)) (hsm : sa + ml ≤ n) (hn : n ≤ 24) (hstr : ¬ (sa = 0 ∧ ml = n)) :
    MetFree l (⟨"java/lang/StringLatin1", "newString", "([BII)Ljava/lang/String;"⟩ : MethodName) (head1 (Jvm.Cond.code (⟨"java/lang/StringLatin1", "newString", "([BII)Ljava/lang/String;"⟩ : MethodName) jdk_43_method_47_code 3 (some (.object "java/lang/String")) :: ws) ({ frames := 3, cells := 2, slots := 28, locals := 50 } : Room)) (fun a U => a = #[(.ref x1), (.int (Int32.ofNat sa)), (.int (Int32.ofNat ml))] ∧ Z.Warmed39 U.vm ∧ U.heap = h0 ∧ CHv Z own_EL U.vm h0) (fun _ _ _ _ _ => True) (fun _ U o U' => ∃ v L, o = .returned v ∧ Q22 Z x1 ks f n sa ml h0 n0 v U'.heap L ∧ CHr Z own_EL U.vm U.heap U'.vm U'.heap ∧ ReturnedEndW U o U' L ({ frames := 3, cells := 2, slots := 28, locals := 50 } : Room).cells ({ frames := 3, cells := 2, slots := 28, locals := 50 } : Room).slots) := by
  refine MetFree.of_bodySF (plainFor_of_name pn_java_lang_StringLatin1) hisR ?_
  intro p e s m args below meth c s₁ Bd hml0 hP hK
  obtain ⟨rfl, hZ, hh, CH0⟩ := hP
  have hx := Bd.exec
  have hby := Bd.bytes
  have hml : c.maxLocals = 3 := hml0
  have hown : (s.setVm s.vm).vm.findClass "java/lang/StringLatin1" = some m.cls := findClass_of_methodNamed Bd.named
  have hnm := (name_of_methodNamed Bd.named Bd.method).1
  have X0 : Stand p l e ({ frames := 3, cells := 2, slots := 28, locals := 50 } : Room) (s.setVm s.vm) m #[(.ref x1), (.int (Int32.ofNat sa)), (.int (Int32.ofNat ml))] below meth c s₁ [] 0 0 := Stand.of_body Bd
  have e0 : s₁.heap = h0 := by rw [← hh, Bd.state]; rfl
  have N0 := Fr.nil n0
  have K0 : Keep h0 h0 [] := Keep.refl _ _
  have pre0 : ∀ t, Steps p.tables e below (s₁.setTop (mkF m 0 #[.val (.ref x1), .val (.int (Int32.ofNat sa)), .val (.int (Int32.ofNat ml))] [])) t → Steps p.tables e below (s₁.setTop (entryFrame m #[(.ref x1), (.int (Int32.ofNat sa)), (.int (Int32.ofNat ml))] 3)) t := fun t k => castTop (ef22 m x1) k
  have hZa : Z.Warmed39 (s.setVm s.vm).vm := hZ
  have howna : (s.setVm s.vm).vm.findClass "java/lang/StringLatin1" = some m.cls := hown
  have hS0 : s.Since s.vm h0.size := (State.WarmedH.refl s).since _
  have hk0 : h0.size ≤ h0.size := Nat.le_refl _
  have CR0 : CHr Z own_EL s.vm h0 s.vm h0 := CHr.refl CH0
  have pre68 : ∀ t, Steps p.tables e below (s₁.setTop (mkF m 1 #[.val (.ref x1), .val (.int (Int32.ofNat sa)), .val (.int (Int32.ofNat ml))] [(.int (Int32.ofNat ml))])) t → Steps p.tables e below (s₁.setTop (entryFrame m #[(.ref x1), (.int (Int32.ofNat sa)), (.int (Int32.ofNat ml))] 3)) t := by
    intro t kt
    refine pre0 t ?_
    show Steps p.tables e below (s₁.setTop (mkF m 0 #[.val (.ref x1), .val (.int (Int32.ofNat sa)), .val (.int (Int32.ofNat ml))] [])) _
    refine XS.iloadN X0.here hx rfl (hb hby d22_0) rfl ?_
    exact kt
  by_cases hc1 : (Int32.ofNat ml) = (0 : Int32)
  · skip
    have nf69 : (ml = 0) := (own_eq (i := ml) (n := 0) (by omega) (by omega)).mp hc1
    obtain ⟨b70, T70, h70, k70, t70, kb70, X70, e70, E70, hS70, hk70, hZ70, hown70, Ex70, Co70, Va70, Ar70, lta70, ltb70, R70, Lt70, sep70, st70⟩ := ldcCH (s := s) (vm0 := s.vm) X0 hx hZa howna (own_wd hw 96 rfl) (own_wS hw) e0 hS0 hk0 (own_EW hw) (List.mem_of_getElem? (i := 0) rfl) CH0 (vs := []) (z := (0 : Int32)) ⟨by decide +kernel, by decide +kernel⟩ (by decide) (by decide) (g := (mkF m 4 #[.val (.ref x1), .val (.int (Int32.ofNat sa)), .val (.int (Int32.ofNat ml))] [])) rfl (hb hby d22_4) (n := 0) (by decide +kernel) (by decide) (by decide) (by decide)
    have O70 : Old Z n0 h70 := O0.ext E70
    have Z70 : n0 ≤ h70.size := Nat.le_trans Z0 E70.1
    have K70 : Keep h0 h70 [] := K0.ext E70
    have CH70 : CHv Z own_EL T70.vm h70 := R70.1
    have CR70 : CHr Z own_EL s.vm h0 T70.vm h70 := CR0.trans R70
    obtain ⟨fs, hr, hrun, hended, hW, hsame⟩ := X70.leave (v := some (.ref b70)) (fun h => by rw [Bd.returns] at h; cases h)
    have hend := hS70.ended hW (show _ ≤ T70.heap.size from by rw [e70]; exact hk70) hsame
    have hcr : CHr Z own_EL s.vm s.heap T70.vm T70.heap := by
      rw [hh, e70]
      exact CR70.trans (CHv.at X70 hZ70 (own_EW hw) CH70)
    refine ⟨_, _, pre68 _ ?_, hrun, hended, _, _, rfl, ?_, hcr, ⟨_, rfl⟩, hend.1, hend.2.1, hend.2.2.mono (by decide) (by decide)⟩
    · show Steps p.tables e below (s₁.setTop (mkF m 1 #[.val (.ref x1), .val (.int (Int32.ofNat sa)), .val (.int (Int32.ofNat ml))] [(.int (Int32.ofNat ml))])) _
      refine XS.ifNo X0.here hx rfl (hb hby d22_1) rfl ((if0 _ _).trans (teq hc1).2) ?_
      show Steps p.tables e below (s₁.setTop (mkF m 4 #[.val (.ref x1), .val (.int (Int32.ofNat sa)), .val (.int (Int32.ofNat ml))] [])) _
      refine st70 _ ?_
      show Steps p.tables e below (T70.setTop (mkF m 6 #[.val (.ref x1), .val (.int (Int32.ofNat sa)), .val (.int (Int32.ofNat ml))] [(.ref b70)])) _
      jvm_step X70.here [X70.here.top, hx, (hb hby d22_6), X70.method', Bd.returns, Value.isRef, FieldType.isReference]
      first | (intro acts; rw [hr _ acts rfl rfl rfl]) | rw [hr _ _ rfl rfl rfl]
      exact Steps.refl _
    · show Q22 Z x1 ks f n sa ml h0 n0 _ T70.heap _
      rw [e70]
      exact ⟨b70, t70, kb70, rfl, N0, K70, Ex70, Va70, Co70, (by have q : ml = 0 := (by omega); rw [q]; exact Ar70)⟩
  · skip
    have nf71 : ¬ (ml = 0) := fun q => hc1 ((own_eq (i := ml) (n := 0) (by omega) (by omega)).mpr q)
    obtain ⟨T72, h72, X72, e72, E72, A72, D72, U72, st72⟩ := newO X0 hx hZa howna (own_wd hw 122 rfl) (own_wd hw 6 rfl) (own_wd hw 7 rfl) e0 (g := (mkF m 7 #[.val (.ref x1), .val (.int (Int32.ofNat sa)), .val (.int (Int32.ofNat ml))] [])) rfl (hb hby d22_7) (by decide) (by decide)
    obtain ⟨b72, g72⟩ : ∃ z, z = h0.size := ⟨_, rfl⟩
    rw [← g72] at A72 D72 st72
    have O72 : Old Z n0 h72 := O0.ext E72
    have Z72 : n0 ≤ h72.size := Nat.le_trans Z0 E72.1
    have K72 : Keep h0 h72 [] := K0.ext E72
    have CH72 : CHv Z own_EL s.vm h72 := CHv.ext E72 CH0
    have CR72 : CHr Z own_EL s.vm h0 s.vm h72 := CR0.trans (CHr.ext E72 CH0)
    have g_b72 : n0 ≤ b72 := Nat.le_trans Z0 (Nat.le_of_eq g72.symm)
    have sz_b72 : h0.size ≤ b72 := Nat.le_trans K0.1 (Nat.le_of_eq g72.symm)
    have F_b72_coder : Fld Z h72 b72 "java/lang/String" "coder" "B" (.int (0 : Int32)) := D72 (Or.inr (own_wd hw 31 rfl)) (ty := .byte) (by decide)
    have F_b72_value : Fld Z h72 b72 "java/lang/String" "value" "[B" .null := D72 (Or.inr (own_wd hw 33 rfl)) (ty := (.array .byte)) (by decide)
    have rn73 : ((Int32.ofNat sa) + (Int32.ofNat ml)) = (Int32.ofNat (sa + ml)) := own_add _ _
    have V74 : Arv Z h72 x1 ks .byte (Int32.ofNat n) (own_fv f n) (.int 0) := (V_x1.ext E72)
    obtain ⟨_, _, ⟨T75, L75, k75, n75⟩, -, X75, ⟨Lc75, hQ75, l75, y75, z75⟩, st75⟩ := Jvm.LawKit.callS X72 hx (y := (⟨"java/util/Arrays", "copyOfRange", "([BII)[B"⟩ : MethodName)) howna (mvT hZa (own_wd hw 123 rfl)) (mvT hZa (own_wd hw 124 rfl)) (mvT hZa (own_wd hw 125 rfl)) (mvT hZa (own_wd hw 126 rfl)) (by decide) (backOf (W := 2) (rm28 l Z a0 hw [] x1 ks f n sa ml h72 n0 Z72 O72 V74 (by omega) (by omega) (by omega)) hZa (own_wd hw 126 rfl) (own_wd hw 125 rfl) (by decide) (by decide)) (g := (mkF m 16 #[.val (.ref x1), .val (.int (Int32.ofNat sa)), .val (.int (Int32.ofNat ml))] [(.int (Int32.ofNat (sa + ml))), (.int (Int32.ofNat sa)), (.ref x1), (.ref b72), (.ref b72)])) rfl (by rw [hml]; rfl) (argsL := [(.ref x1), (.int (Int32.ofNat sa)), (.int (Int32.ofNat (sa + ml)))]) (rest := [(.ref b72), (.ref b72)]) (lenOf pd_8 rfl) rfl (by show 2 * 0 + _ ≤ _; exact Nat.le_of_eq rfl) (hb hby d22_16) (fun _ _ => ⟨rfl, e72, (by decide : 1 + 1 ≤ _), (by decide : 4 + 24 ≤ _)⟩)
    dsimp only [Pt.U, Pt.locs, Pt.cells, Pt.slots] at X75 l75 y75 z75 st75 hQ75
    subst l75 y75 z75
    obtain ⟨b_75, kk_75, rfl, N75q, KK75, Q75_0, Q75_1⟩ := hQ75
    have N75 := Fr.app N0 N75q
    have O75 : Old Z n0 T75.heap := O72.keep KK75 all0
    have Z75 : n0 ≤ T75.heap.size := Nat.le_trans Z72 KK75.1
    have K75 : Keep h0 T75.heap [] := K72.trans KK75 all0
    have CH75 : CHv Z own_EL s.vm T75.heap := CHv.keep KK75 sf0 CH72
    have CR75 : CHr Z own_EL s.vm h0 s.vm T75.heap := CR72.trans (CHr.keep KK75 sf0 CH72)
    have g_b_75 : n0 ≤ b_75 := Nat.le_trans (Nat.le_trans Z0 E72.1) Q75_0
    have sz_b_75 : h0.size ≤ b_75 := Nat.le_trans K72.1 Q75_0
    have F76 : Fld Z T75.heap b72 "java/lang/String" "value" "[B" .null := (F_b72_value.keep KK75 nin0)
    have F77 : Fld Z T75.heap b72 "java/lang/String" "coder" "B" (.int (0 : Int32)) := (F_b72_coder.keep KK75 nin0)
    have C78 : Exa Z T75.heap b72 "java/lang/String" := (A72.keep KK75)
    obtain ⟨_, _, ⟨T79, L79, k79, n79⟩, -, X79, ⟨Lc79, hQ79, l79, y79, z79⟩, st79⟩ := X75.specialBack hx (y := (⟨"java/lang/String", "<init>", "([BB)V"⟩ : MethodName)) rfl howna (mvT hZa (own_wd hw 138 rfl)) (mvT hZa (own_wd hw 139 rfl)) (mvT hZa (own_wd hw 140 rfl)) (by decide) (backOf (W := 1) (rm31 l Z a0 hw [] b72 b_75 .null (.int (0 : Int32)) T75.heap n0 Z75 O75 C78 F76 g_b72 F77) hZa (own_wd hw 140 rfl) (own_wd hw 7 rfl) (by decide) (by decide)) (g := (mkF m 20 #[.val (.ref x1), .val (.int (Int32.ofNat sa)), .val (.int (Int32.ofNat ml))] [(.int (0 : Int32)), (.ref b_75), (.ref b72), (.ref b72)])) rfl (by rw [hml]; rfl) (Steps.refl _) (a := b72) (argsL := [(.ref b_75), (.int (0 : Int32))]) (rest := [(.ref b72)]) (lenOf pd_9 rfl) rfl (by show 2 * 0 + _ ≤ _; exact Nat.le_of_eq rfl) (hb hby d22_20) (fun _ _ => ⟨rfl, rfl, (by decide : 2 + 0 ≤ _), (by decide : 28 + 0 ≤ _)⟩)
    dsimp only [Pt.U, Pt.locs, Pt.cells, Pt.slots] at X79 l79 y79 z79 st79 hQ79
    subst l79 y79 z79
    obtain ⟨rfl, N79q, KK79, Q79_0, Q79_1, Q79_2⟩ := hQ79
    have N79 := Fr.app N75 N79q
    have sf80 : Safe Z own_EL s.vm T75.heap b72 := (Safe.keep KK75 sf0 CH72 (Safe.ext E72 CH0 (Safe.new (Nat.le_of_eq g72.symm))))
    have O79 : Old Z n0 T79.heap := O75.keep KK79 (allS g_b72 all0)
    have Z79 : n0 ≤ T79.heap.size := Nat.le_trans Z75 KK79.1
    have K79 : Keep h0 T79.heap [] := K75.trans KK79 (allS (Or.inr sz_b72) all0)
    have CH79 : CHv Z own_EL s.vm T79.heap := CHv.keep KK79 (sfS sf80 sf0) CH75
    have CR79 : CHr Z own_EL s.vm h0 s.vm T79.heap := CR75.trans (CHr.keep KK79 (sfS sf80 sf0) CH75)
    have V81 : Arv Z T79.heap b_75 kk_75 .byte (Int32.ofNat ml) (own_fv (own_sh f sa) ml) (.int 0) := (Q75_1.keep KK79 (ninS (Ne.symm (Nat.ne_of_lt (Nat.lt_of_lt_of_le A72.lt Q75_0))) nin0))
    obtain ⟨fs, hr, hrun, hended, hW, hsame⟩ := X79.leave (v := some (.ref b72)) (fun h => by rw [Bd.returns] at h; cases h)
    have hend := hS0.ended hW (show _ ≤ T79.heap.size from (Nat.le_trans (Nat.le_trans (Nat.le_trans hk0 E72.1) KK75.1) KK79.1)) hsame
    have hcr : CHr Z own_EL s.vm s.heap T79.vm T79.heap := by
      rw [hh]
      exact CR79.trans (CHv.at X79 hZa (own_EW hw) CH79)
    refine ⟨_, _, pre68 _ ?_, hrun, hended, _, _, rfl, ?_, hcr, ⟨_, rfl⟩, hend.1, hend.2.1, hend.2.2.mono (by decide) (by decide)⟩
    · show Steps p.tables e below (s₁.setTop (mkF m 1 #[.val (.ref x1), .val (.int (Int32.ofNat sa)), .val (.int (Int32.ofNat ml))] [(.int (Int32.ofNat ml))])) _
      refine XS.ifYes X0.here hx rfl (pc0 := 1) (pc' := 7) rfl (hb hby d22_1) rfl ((if0 _ _).trans (feq hc1).2) (by decide) (by decide) ?_
      show Steps p.tables e below (s₁.setTop (mkF m 7 #[.val (.ref x1), .val (.int (Int32.ofNat sa)), .val (.int (Int32.ofNat ml))] [])) _
      refine st72 _ ?_
      show Steps p.tables e below (T72.setTop (mkF m 10 #[.val (.ref x1), .val (.int (Int32.ofNat sa)), .val (.int (Int32.ofNat ml))] [(.ref b72)])) _
      refine XS.dup X72.here hx rfl (hb hby d22_10) rfl rfl ?_
      refine XS.aloadN X72.here hx rfl (hb hby d22_11) rfl rfl ?_
      refine XS.iloadN X72.here hx rfl (hb hby d22_12) rfl ?_
      refine XS.iloadN X72.here hx rfl (hb hby d22_13) rfl ?_
      refine XS.iloadN X72.here hx rfl (hb hby d22_14) rfl ?_
      refine XS.iadd X72.here hx rfl (hb hby d22_15) rfl ?_
      show Steps p.tables e below (T72.setTop (mkF m 16 #[.val (.ref x1), .val (.int (Int32.ofNat sa)), .val (.int (Int32.ofNat ml))] [(.int ((Int32.ofNat sa) + (Int32.ofNat ml))), (.int (Int32.ofNat sa)), (.ref x1), (.ref b72), (.ref b72)])) _
      rw [rn73]
      show Steps p.tables e below (T72.setTop (mkF m 16 #[.val (.ref x1), .val (.int (Int32.ofNat sa)), .val (.int (Int32.ofNat ml))] [(.int (Int32.ofNat (sa + ml))), (.int (Int32.ofNat sa)), (.ref x1), (.ref b72), (.ref b72)])) _
      refine st75 _ ?_
      show Steps p.tables e below (T75.setTop (mkF m 19 #[.val (.ref x1), .val (.int (Int32.ofNat sa)), .val (.int (Int32.ofNat ml))] [(.ref b_75), (.ref b72), (.ref b72)])) _
      refine XS.iconst X75.here hx rfl (hb hby d22_19) ?_
      show Steps p.tables e below (T75.setTop (mkF m 20 #[.val (.ref x1), .val (.int (Int32.ofNat sa)), .val (.int (Int32.ofNat ml))] [(.int (0 : Int32)), (.ref b_75), (.ref b72), (.ref b72)])) _
      refine st79.trans ?_
      show Steps p.tables e below (T79.setTop (mkF m 23 #[.val (.ref x1), .val (.int (Int32.ofNat sa)), .val (.int (Int32.ofNat ml))] [(.ref b72)])) _
      jvm_step X79.here [X79.here.top, hx, (hb hby d22_23), X79.method', Bd.returns, Value.isRef, FieldType.isReference]
      first | (intro acts; rw [hr _ acts rfl rfl rfl]) | rw [hr _ _ rfl rfl rfl]
      exact Steps.refl _
    · show Q22 Z x1 ks f n sa ml h0 n0 _ T79.heap _
      exact ⟨b72, b_75, kk_75, rfl, N79, K79, Q79_0, Q79_1, Q79_2, V81⟩
theorem d19_0 : decode jdk_42_method_92_code 0 = .ok (.aload_n 0, 1) := by decide +kernel
theorem d19_1 : decode jdk_42_method_92_code 1 = .ok (.invokevirtual 505, 3) := by decide +kernel
theorem d19_4 : decode jdk_42_method_92_code 4 = .ok (.istore_n 3, 1) := by decide +kernel
theorem d19_5 : decode jdk_42_method_92_code 5 = .ok (.iload_n 1, 1) := by decide +kernel
theorem d19_6 : decode jdk_42_method_92_code 6 = .ok (.iload_n 2, 1) := by decide +kernel
theorem d19_7 : decode jdk_42_method_92_code 7 = .ok (.iload_n 3, 1) := by decide +kernel
theorem pd_10 : parseMethodDescriptor "(III)V" = some ⟨[.int, .int, .int], none⟩ := by decide +kernel
theorem d19_8 : decode jdk_42_method_92_code 8 = .ok (.invokestatic 521, 3) := by decide +kernel
theorem d19_11 : decode jdk_42_method_92_code 11 = .ok (.iload_n 1, 1) := by decide +kernel
theorem d19_12 : decode jdk_42_method_92_code 12 = .ok (.ifCond .ne 10, 3) := by decide +kernel
theorem d19_15 : decode jdk_42_method_92_code 15 = .ok (.iload_n 2, 1) := by decide +kernel
theorem d19_16 : decode jdk_42_method_92_code 16 = .ok (.iload_n 3, 1) := by decide +kernel
theorem d19_17 : decode jdk_42_method_92_code 17 = .ok (.if_icmp .ne 5, 3) := by decide +kernel
theorem d19_22 : decode jdk_42_method_92_code 22 = .ok (.iload_n 2, 1) := by decide +kernel
theorem d19_23 : decode jdk_42_method_92_code 23 = .ok (.iload_n 1, 1) := by decide +kernel
theorem d19_24 : decode jdk_42_method_92_code 24 = .ok (.isub, 1) := by decide +kernel
theorem d19_25 : decode jdk_42_method_92_code 25 = .ok (.istore 4, 2) := by decide +kernel
theorem d19_27 : decode jdk_42_method_92_code 27 = .ok (.aload_n 0, 1) := by decide +kernel
theorem d19_28 : decode jdk_42_method_92_code 28 = .ok (.invokevirtual 492, 3) := by decide +kernel
theorem d19_31 : decode jdk_42_method_92_code 31 = .ok (.ifCond .eq 16, 3) := by decide +kernel
theorem d19_34 : decode jdk_42_method_92_code 34 = .ok (.aload_n 0, 1) := by decide +kernel
theorem d19_35 : decode jdk_42_method_92_code 35 = .ok (.getfield 9, 3) := by decide +kernel
theorem d19_38 : decode jdk_42_method_92_code 38 = .ok (.iload_n 1, 1) := by decide +kernel
theorem d19_39 : decode jdk_42_method_92_code 39 = .ok (.iload 4, 2) := by decide +kernel
theorem pd_11 : parseMethodDescriptor "([BII)Ljava/lang/String;" = some ⟨[(.array .byte), .int, .int], some (.object "java/lang/String")⟩ := by decide +kernel
theorem d19_41 : decode jdk_42_method_92_code 41 = .ok (.invokestatic 685, 3) := by decide +kernel
theorem d19_44 : decode jdk_42_method_92_code 44 = .ok (.goto 13, 3) := by decide +kernel
theorem d19_57 : decode jdk_42_method_92_code 57 = .ok (.areturn, 1) := by decide +kernel
theorem ef19 (m : MethodId) (tz : Addr) : entryFrame m #[(.ref tz), (.int (0 : Int32)), (.int (Int32.ofNat ka))] 5 = mkF m 0 #[.val (.ref tz), .val (.int (0 : Int32)), .val (.int (Int32.ofNat ka)), .unset, .unset] [] := by first | (simp [entryFrame, mkF, argsToLocals, Value.category]; done) | rfl
def Q19 (Z : State) (tz : Addr) (tz_value : Addr) (ks : ClassId) (f : Nat → Int32) (n : Nat) (ka : Nat) (st_COMPACT_STRINGS : Int32) (st_fm : Value) (h0 : Heap) (n0 : Nat) (v : Option Value) (h : Heap) (L : List Loc) : Prop := ∃ (b : Addr), ∃ (t : Addr), ∃ (kk : ClassId), v = some (.ref b) ∧ Fr n0 L ∧ Keep h0 h [] ∧ Exa Z h b "java/lang/String" ∧ Fld Z h b "java/lang/String" "value" "[B" (.ref t) ∧ Fld Z h b "java/lang/String" "coder" "B" (.int (0 : Int32)) ∧ Arv Z h t kk .byte (Int32.ofNat ka) (own_fv f ka) (.int 0)
set_option maxRecDepth 65536 in
set_option maxHeartbeats 40000000 in
theorem rm19 (l : Launch) (Z : State) (a0 : Array Value) (hw : ∀ d ∈ tables_1, d.before a0 Z = true) (ws : List Jvm.Cond) (tz : Addr) (tz_value : Addr) (ks : ClassId) (f : Nat → Int32) (n : Nat) (ka : Nat) (st_COMPACT_STRINGS : Int32) (st_fm : Value) (h0 : Heap) (n0 : Nat) (Z0 : n0 ≤ h0.size) (O0 : Old Z n0 h0) (E_tz : Exa Z h0 tz "java/lang/String") (F_tz_value : Fld Z h0 tz "java/lang/String" "value" "[B" (.ref tz_value)) (F_tz_coder : Fld Z h0 tz "java/lang/String" "coder" "B" (.int (0 : Int32))) (V_tz_value : Arv Z h0 tz_value ks .byte (Int32.ofNat n) (own_fv f n) (.int 0)) (hk : ka < n) (hn : n ≤ 24) (S_COMPACT_STRINGS : Sta Z Z.heap "java/lang/String" "COMPACT_STRINGS" "Z" (.int st_COMPACT_STRINGS)) (hcomp : ¬ (st_COMPACT_STRINGS = (0 : Int32))) (S_fm : Sta Z Z.heap "jdk/internal/util/Preconditions" "SIOOBE_FORMATTER" "Ljava/util/function/BiFunction;" st_fm) (hfm : st_fm.isRef = true) :
    MetFree l (⟨"java/lang/String", "substring", "(II)Ljava/lang/String;"⟩ : MethodName) (head1 (Jvm.Cond.code (⟨"java/lang/String", "substring", "(II)Ljava/lang/String;"⟩ : MethodName) jdk_42_method_92_code 5 (some (.object "java/lang/String")) :: ws) ({ frames := 4, cells := 2, slots := 28, locals := 64 } : Room)) (fun a U => a = #[(.ref tz), (.int (0 : Int32)), (.int (Int32.ofNat ka))] ∧ Z.Warmed39 U.vm ∧ U.heap = h0 ∧ CHv Z own_EL U.vm h0) (fun _ _ _ _ _ => True) (fun _ U o U' => ∃ v L, o = .returned v ∧ Q19 Z tz tz_value ks f n ka st_COMPACT_STRINGS st_fm h0 n0 v U'.heap L ∧ CHr Z own_EL U.vm U.heap U'.vm U'.heap ∧ ReturnedEndW U o U' L ({ frames := 4, cells := 2, slots := 28, locals := 64 } : Room).cells ({ frames := 4, cells := 2, slots := 28, locals := 64 } : Room).slots) := by
  refine MetFree.of_bodySF (plainFor_of_name pn_java_lang_String) hisR ?_
  intro p e s m args below meth c s₁ Bd hml0 hP hK
  obtain ⟨rfl, hZ, hh, CH0⟩ := hP
  have hx := Bd.exec
  have hby := Bd.bytes
  have hml : c.maxLocals = 5 := hml0
  have hown : (s.setVm s.vm).vm.findClass "java/lang/String" = some m.cls := findClass_of_methodNamed Bd.named
  have hnm := (name_of_methodNamed Bd.named Bd.method).1
  have X0 : Stand p l e ({ frames := 4, cells := 2, slots := 28, locals := 64 } : Room) (s.setVm s.vm) m #[(.ref tz), (.int (0 : Int32)), (.int (Int32.ofNat ka))] below meth c s₁ [] 0 0 := Stand.of_body Bd
  have e0 : s₁.heap = h0 := by rw [← hh, Bd.state]; rfl
  have N0 := Fr.nil n0
  have K0 : Keep h0 h0 [] := Keep.refl _ _
  have pre0 : ∀ t, Steps p.tables e below (s₁.setTop (mkF m 0 #[.val (.ref tz), .val (.int (0 : Int32)), .val (.int (Int32.ofNat ka)), .unset, .unset] [])) t → Steps p.tables e below (s₁.setTop (entryFrame m #[(.ref tz), (.int (0 : Int32)), (.int (Int32.ofNat ka))] 5)) t := fun t k => castTop (ef19 m tz) k
  have hZa : Z.Warmed39 (s.setVm s.vm).vm := hZ
  have howna : (s.setVm s.vm).vm.findClass "java/lang/String" = some m.cls := hown
  have hS0 : s.Since s.vm h0.size := (State.WarmedH.refl s).since _
  have hk0 : h0.size ≤ h0.size := Nat.le_refl _
  have CR0 : CHr Z own_EL s.vm h0 s.vm h0 := CHr.refl CH0
  obtain ⟨cq82, kq82, q82a, q82b, q82c⟩ := isOf hZa e0 E_tz
  obtain ⟨_, _, ⟨T82, L82, k82, n82⟩, -, X82, ⟨Lc82, hQ82, l82, y82, z82⟩, st82⟩ := X0.virtualBack hx (y := (⟨"java/lang/String", "length", "()I"⟩ : MethodName)) (z := (⟨"java/lang/String", "length", "()I"⟩ : MethodName)) howna (mvT hZa (own_wd hw 53 rfl)) (mvT hZa (own_wd hw 54 rfl)) (notFace_of_selects (args := #[]) (mvT hZa (own_wd hw 56 rfl))) (mvT hZa (own_wd hw 56 rfl)) (mvT hZa (own_wd hw 55 rfl)) (by decide) (backOf (W := 0) (rm12 l Z a0 hw [] tz tz_value ks f n st_COMPACT_STRINGS h0 n0 Z0 O0 E_tz F_tz_value F_tz_coder V_tz_value S_COMPACT_STRINGS hcomp) hZa (own_wd hw 57 rfl) (own_wd hw 7 rfl) (by decide) (by decide)) q82a q82c (g := (mkF m 1 #[.val (.ref tz), .val (.int (0 : Int32)), .val (.int (Int32.ofNat ka)), .unset, .unset] [(.ref tz)])) rfl (by rw [hml]; rfl) (Steps.refl _) (argsL := []) (rest := []) (lenOf pd_5 rfl) rfl (by show 2 * 0 + _ ≤ _; exact Nat.le_of_eq rfl) (hb hby d19_1) (fun _ _ => ⟨rfl, e0, (by decide : 0 + 0 ≤ _), (by decide : 0 + 0 ≤ _)⟩)
  dsimp only [Pt.U, Pt.locs, Pt.cells, Pt.slots] at X82 l82 y82 z82 st82 hQ82
  subst l82 y82 z82
  obtain ⟨rfl, N82q, eh82⟩ := hQ82
  have N82 := Fr.app N0 N82q
  have pp83 : ¬ ((Int32.ofNat n) < (Int32.ofNat ka)) := own_le (by omega) (by omega)
  have pp84 : ¬ ((Int32.ofNat ka) < (0 : Int32)) := own_nn (by omega)
  obtain ⟨_, _, ⟨T85, L85, k85, n85⟩, -, X85, ⟨Lc85, hQ85, l85, y85, z85⟩, st85⟩ := Jvm.LawKit.callS X82 hx (y := (⟨"java/lang/String", "checkBoundsBeginEnd", "(III)V"⟩ : MethodName)) howna (mvT hZa (own_wd hw 85 rfl)) (mvT hZa (own_wd hw 86 rfl)) (mvT hZa (own_wd hw 7 rfl)) (mvT hZa (own_wd hw 87 rfl)) (by decide) (backOf (W := 0) (rm20 l Z a0 hw [] (Int32.ofNat ka) (Int32.ofNat n) st_fm h0 n0 Z0 O0 pp83 pp84 S_fm hfm) hZa (own_wd hw 87 rfl) (own_wd hw 7 rfl) (by decide) (by decide)) (g := (mkF m 8 #[.val (.ref tz), .val (.int (0 : Int32)), .val (.int (Int32.ofNat ka)), .val (.int (Int32.ofNat n)), .unset] [(.int (Int32.ofNat n)), (.int (Int32.ofNat ka)), (.int (0 : Int32))])) rfl (by rw [hml]; rfl) (argsL := [(.int (0 : Int32)), (.int (Int32.ofNat ka)), (.int (Int32.ofNat n))]) (rest := []) (lenOf pd_10 rfl) rfl (by show 2 * 0 + _ ≤ _; exact Nat.le_of_eq rfl) (hb hby d19_8) (fun _ _ => ⟨rfl, eh82, (by decide : 0 + 0 ≤ _), (by decide : 0 + 0 ≤ _)⟩)
  dsimp only [Pt.U, Pt.locs, Pt.cells, Pt.slots] at X85 l85 y85 z85 st85 hQ85
  subst l85 y85 z85
  obtain ⟨rfl, N85q, eh85⟩ := hQ85
  have N85 := Fr.app N82 N85q
  have pre86 : ∀ t, Steps p.tables e below (T85.setTop (mkF m 17 #[.val (.ref tz), .val (.int (0 : Int32)), .val (.int (Int32.ofNat ka)), .val (.int (Int32.ofNat n)), .unset] [(.int (Int32.ofNat n)), (.int (Int32.ofNat ka))])) t → Steps p.tables e below (s₁.setTop (entryFrame m #[(.ref tz), (.int (0 : Int32)), (.int (Int32.ofNat ka))] 5)) t := by
    intro t kt
    refine pre0 t ?_
    show Steps p.tables e below (s₁.setTop (mkF m 0 #[.val (.ref tz), .val (.int (0 : Int32)), .val (.int (Int32.ofNat ka)), .unset, .unset] [])) _
    refine XS.aloadN X0.here hx rfl (hb hby d19_0) rfl rfl ?_
    show Steps p.tables e below (s₁.setTop (mkF m 1 #[.val (.ref tz), .val (.int (0 : Int32)), .val (.int (Int32.ofNat ka)), .unset, .unset] [(.ref tz)])) _
    refine st82.trans ?_
    show Steps p.tables e below (T82.setTop (mkF m 4 #[.val (.ref tz), .val (.int (0 : Int32)), .val (.int (Int32.ofNat ka)), .unset, .unset] [(.int (Int32.ofNat n))])) _
    refine XS.istoreN X82.here hx rfl (hb hby d19_4) rfl (l' := #[.val (.ref tz), .val (.int (0 : Int32)), .val (.int (Int32.ofNat ka)), .val (.int (Int32.ofNat n)), .unset]) rfl ?_
    refine XS.iloadN X82.here hx rfl (hb hby d19_5) rfl ?_
    refine XS.iloadN X82.here hx rfl (hb hby d19_6) rfl ?_
    refine XS.iloadN X82.here hx rfl (hb hby d19_7) rfl ?_
    show Steps p.tables e below (T82.setTop (mkF m 8 #[.val (.ref tz), .val (.int (0 : Int32)), .val (.int (Int32.ofNat ka)), .val (.int (Int32.ofNat n)), .unset] [(.int (Int32.ofNat n)), (.int (Int32.ofNat ka)), (.int (0 : Int32))])) _
    refine st85 _ ?_
    show Steps p.tables e below (T85.setTop (mkF m 11 #[.val (.ref tz), .val (.int (0 : Int32)), .val (.int (Int32.ofNat ka)), .val (.int (Int32.ofNat n)), .unset] [])) _
    refine XS.iloadN X85.here hx rfl (hb hby d19_11) rfl ?_
    refine XS.ifNo X85.here hx rfl (hb hby d19_12) rfl ((if0 _ _).trans (teq (by decide : (0 : Int32) = (0 : Int32))).2) ?_
    refine XS.iloadN X85.here hx rfl (hb hby d19_15) rfl ?_
    refine XS.iloadN X85.here hx rfl (hb hby d19_16) rfl ?_
    exact kt
  by_cases hc17 : (Int32.ofNat ka) = (Int32.ofNat n)
  · skip
    have nf87 : (ka = n) := (own_eq (i := ka) (n := n) (by omega) (by omega)).mp hc17
    exact False.elim (by omega)
  · skip
    have nf88 : ¬ (ka = n) := fun q => hc17 ((own_eq (i := ka) (n := n) (by omega) (by omega)).mpr q)
    have rn89 : ((Int32.ofNat ka) - (0 : Int32)) = (Int32.ofNat ka) := Int32.sub_zero _
    obtain ⟨cq90, kq90, q90a, q90b, q90c⟩ := isOf hZa eh85 E_tz
    obtain ⟨_, _, ⟨T90, L90, k90, n90⟩, -, X90, ⟨Lc90, hQ90, l90, y90, z90⟩, st90⟩ := X85.virtualBack hx (y := (⟨"java/lang/String", "isLatin1", "()Z"⟩ : MethodName)) (z := (⟨"java/lang/String", "isLatin1", "()Z"⟩ : MethodName)) howna (mvT hZa (own_wd hw 48 rfl)) (mvT hZa (own_wd hw 49 rfl)) (notFace_of_selects (args := #[]) (mvT hZa (own_wd hw 51 rfl))) (mvT hZa (own_wd hw 51 rfl)) (mvT hZa (own_wd hw 50 rfl)) (by decide) (backOf (W := 0) (rm11 l Z a0 hw [] tz st_COMPACT_STRINGS h0 n0 Z0 O0 F_tz_coder S_COMPACT_STRINGS hcomp) hZa (own_wd hw 52 rfl) (own_wd hw 7 rfl) (by decide) (by decide)) q90a q90c (g := (mkF m 28 #[.val (.ref tz), .val (.int (0 : Int32)), .val (.int (Int32.ofNat ka)), .val (.int (Int32.ofNat n)), .val (.int (Int32.ofNat ka))] [(.ref tz)])) rfl (by rw [hml]; rfl) (Steps.refl _) (argsL := []) (rest := []) (lenOf pd_4 rfl) rfl (by show 2 * 0 + _ ≤ _; exact Nat.le_of_eq rfl) (hb hby d19_28) (fun _ _ => ⟨rfl, eh85, (by decide : 0 + 0 ≤ _), (by decide : 0 + 0 ≤ _)⟩)
    dsimp only [Pt.U, Pt.locs, Pt.cells, Pt.slots] at X90 l90 y90 z90 st90 hQ90
    subst l90 y90 z90
    obtain ⟨rfl, N90q, eh90⟩ := hQ90
    have N90 := Fr.app N85 N90q
    obtain ⟨T91, X91, e91, st91⟩ := getF X90 hx hZa howna (host := "") (Or.inl (own_wd hw 32 rfl)) Via.refl eh90 F_tz_value (g := (mkF m 35 #[.val (.ref tz), .val (.int (0 : Int32)), .val (.int (Int32.ofNat ka)), .val (.int (Int32.ofNat n)), .val (.int (Int32.ofNat ka))] [(.ref tz)])) rfl rfl (hb hby d19_35)
    obtain ⟨_, _, ⟨T92, L92, k92, n92⟩, -, X92, hS92, hg92, ⟨Lc92, hQ92, l92, y92, z92, R92⟩, st92⟩ := callSS X91 hx (y := (⟨"java/lang/StringLatin1", "newString", "([BII)Ljava/lang/String;"⟩ : MethodName)) howna (mvT hZa (own_wd hw 93 rfl)) (mvT hZa (own_wd hw 94 rfl)) (mvT hZa (own_wd hw 65 rfl)) (mvT hZa (own_wd hw 95 rfl)) (by decide) (backOfSH (s := s) (vm0 := s.vm) (W := 0) (rm22 l Z a0 hw [] tz_value ks f n 0 ka h0 n0 Z0 O0 V_tz_value (by omega) (by omega) (by omega)) hZa (own_wd hw 95 rfl) (own_wd hw 65 rfl) (by decide) (by decide) (own_EW hw) CH0) (g := (mkF m 41 #[.val (.ref tz), .val (.int (0 : Int32)), .val (.int (Int32.ofNat ka)), .val (.int (Int32.ofNat n)), .val (.int (Int32.ofNat ka))] [(.int (Int32.ofNat ka)), (.int (0 : Int32)), (.ref tz_value)])) rfl (by rw [hml]; rfl) (argsL := [(.ref tz_value), (.int (0 : Int32)), (.int (Int32.ofNat ka))]) (rest := []) (lenOf pd_11 rfl) rfl (by show 2 * 0 + _ ≤ _; exact Nat.le_of_eq rfl) (hb hby d19_41) (fun _ _ => ⟨rfl, e91, (by decide : 0 + 2 ≤ _), (by decide : 0 + 28 ≤ _)⟩)
    dsimp only [Pt.U, Pt.locs, Pt.cells, Pt.slots] at X92 l92 y92 z92 st92 hQ92 hS92 hg92 R92
    subst l92 y92 z92
    obtain ⟨X92, hS92, hZ92, hown92⟩ := rebS hS0 hk0 X92 hS92 (by rw [← e91]; exact hg92) hZa howna
    obtain ⟨b_92, t_92, kk_92, rfl, N92q, KK92, Q92_0, Q92_1, Q92_2, Q92_3⟩ := hQ92
    have N92 := Fr.app N90 N92q
    have O92 : Old Z n0 T92.heap := O0.keep KK92 all0
    have Z92 : n0 ≤ T92.heap.size := Nat.le_trans Z0 KK92.1
    have K92 : Keep h0 T92.heap [] := K0.trans KK92 all0
    have CH92 : CHv Z own_EL T92.vm T92.heap := R92.1
    have CR92 : CHr Z own_EL s.vm h0 T92.vm T92.heap := CR0.trans R92
    obtain ⟨fs, hr, hrun, hended, hW, hsame⟩ := X92.leave (v := some (.ref b_92)) (fun h => by rw [Bd.returns] at h; cases h)
    have hend := hS92.ended hW (show _ ≤ T92.heap.size from (Nat.le_refl _)) hsame
    have hcr : CHr Z own_EL s.vm s.heap T92.vm T92.heap := by
      rw [hh]
      exact CR92.trans (CHv.at X92 hZ92 (own_EW hw) CH92)
    refine ⟨_, _, pre86 _ ?_, hrun, hended, _, _, rfl, ?_, hcr, ⟨_, rfl⟩, hend.1, hend.2.1, hend.2.2.mono (by decide) (by decide)⟩
    · show Steps p.tables e below (T85.setTop (mkF m 17 #[.val (.ref tz), .val (.int (0 : Int32)), .val (.int (Int32.ofNat ka)), .val (.int (Int32.ofNat n)), .unset] [(.int (Int32.ofNat n)), (.int (Int32.ofNat ka))])) _
      refine XS.icmpYes X85.here hx rfl (pc0 := 17) (pc' := 22) rfl (hb hby d19_17) rfl (feq hc17).2 (by decide) (by decide) ?_
      refine XS.iloadN X85.here hx rfl (hb hby d19_22) rfl ?_
      show Steps p.tables e below (T85.setTop (mkF m 23 #[.val (.ref tz), .val (.int (0 : Int32)), .val (.int (Int32.ofNat ka)), .val (.int (Int32.ofNat n)), .unset] [(.int (Int32.ofNat ka))])) _
      refine XS.iloadN X85.here hx rfl (hb hby d19_23) rfl ?_
      refine XS.isub X85.here hx rfl (hb hby d19_24) rfl ?_
      show Steps p.tables e below (T85.setTop (mkF m 25 #[.val (.ref tz), .val (.int (0 : Int32)), .val (.int (Int32.ofNat ka)), .val (.int (Int32.ofNat n)), .unset] [(.int ((Int32.ofNat ka) - (0 : Int32)))])) _
      rw [rn89]
      refine XS.istore X85.here hx rfl (hb hby d19_25) rfl (l' := #[.val (.ref tz), .val (.int (0 : Int32)), .val (.int (Int32.ofNat ka)), .val (.int (Int32.ofNat n)), .val (.int (Int32.ofNat ka))]) rfl ?_
      refine XS.aloadN X85.here hx rfl (hb hby d19_27) rfl rfl ?_
      show Steps p.tables e below (T85.setTop (mkF m 28 #[.val (.ref tz), .val (.int (0 : Int32)), .val (.int (Int32.ofNat ka)), .val (.int (Int32.ofNat n)), .val (.int (Int32.ofNat ka))] [(.ref tz)])) _
      refine st90.trans ?_
      show Steps p.tables e below (T90.setTop (mkF m 31 #[.val (.ref tz), .val (.int (0 : Int32)), .val (.int (Int32.ofNat ka)), .val (.int (Int32.ofNat n)), .val (.int (Int32.ofNat ka))] [(.int (1 : Int32))])) _
      refine XS.ifNo X90.here hx rfl (hb hby d19_31) rfl ((if0 _ _).trans (feq (by decide : ¬ ((1 : Int32) = (0 : Int32)))).1) ?_
      refine XS.aloadN X90.here hx rfl (hb hby d19_34) rfl rfl ?_
      show Steps p.tables e below (T90.setTop (mkF m 35 #[.val (.ref tz), .val (.int (0 : Int32)), .val (.int (Int32.ofNat ka)), .val (.int (Int32.ofNat n)), .val (.int (Int32.ofNat ka))] [(.ref tz)])) _
      refine st91 _ ?_
      show Steps p.tables e below (T91.setTop (mkF m 38 #[.val (.ref tz), .val (.int (0 : Int32)), .val (.int (Int32.ofNat ka)), .val (.int (Int32.ofNat n)), .val (.int (Int32.ofNat ka))] [(.ref tz_value)])) _
      refine XS.iloadN X91.here hx rfl (hb hby d19_38) rfl ?_
      refine XS.iload X91.here hx rfl (hb hby d19_39) rfl ?_
      show Steps p.tables e below (T91.setTop (mkF m 41 #[.val (.ref tz), .val (.int (0 : Int32)), .val (.int (Int32.ofNat ka)), .val (.int (Int32.ofNat n)), .val (.int (Int32.ofNat ka))] [(.int (Int32.ofNat ka)), (.int (0 : Int32)), (.ref tz_value)])) _
      refine st92.trans ?_
      show Steps p.tables e below (T92.setTop (mkF m 44 #[.val (.ref tz), .val (.int (0 : Int32)), .val (.int (Int32.ofNat ka)), .val (.int (Int32.ofNat n)), .val (.int (Int32.ofNat ka))] [(.ref b_92)])) _
      refine XS.goto X92.here hx rfl (pc0 := 44) (pc' := 57) rfl (hb hby d19_44) (by decide) (by decide) ?_
      show Steps p.tables e below (T92.setTop (mkF m 57 #[.val (.ref tz), .val (.int (0 : Int32)), .val (.int (Int32.ofNat ka)), .val (.int (Int32.ofNat n)), .val (.int (Int32.ofNat ka))] [(.ref b_92)])) _
      jvm_step X92.here [X92.here.top, hx, (hb hby d19_57), X92.method', Bd.returns, Value.isRef, FieldType.isReference]
      first | (intro acts; rw [hr _ acts rfl rfl rfl]) | rw [hr _ _ rfl rfl rfl]
      exact Steps.refl _
    · show Q19 Z tz tz_value ks f n ka st_COMPACT_STRINGS st_fm h0 n0 _ T92.heap _
      exact ⟨b_92, t_92, kk_92, rfl, N92, K92, Q92_0, Q92_1, Q92_2, (by have q := Q92_3; rw [own_sh0] at q; exact q)⟩
theorem d24_0 : decode jdk_43_method_36_code 0 = .ok (.aload_n 0, 1) := by decide +kernel
theorem d24_1 : decode jdk_43_method_36_code 1 = .ok (.arraylength, 1) := by decide +kernel
theorem d24_2 : decode jdk_43_method_36_code 2 = .ok (.istore_n 1, 1) := by decide +kernel
theorem d24_3 : decode jdk_43_method_36_code 3 = .ok (.iconst 0, 1) := by decide +kernel
theorem d24_4 : decode jdk_43_method_36_code 4 = .ok (.istore_n 2, 1) := by decide +kernel
theorem d24_5 : decode jdk_43_method_36_code 5 = .ok (.iload_n 2, 1) := by decide +kernel
theorem d24_6 : decode jdk_43_method_36_code 6 = .ok (.iload_n 1, 1) := by decide +kernel
theorem d24_7 : decode jdk_43_method_36_code 7 = .ok (.if_icmp .ge 21, 3) := by decide +kernel
theorem d24_10 : decode jdk_43_method_36_code 10 = .ok (.aload_n 0, 1) := by decide +kernel
theorem d24_11 : decode jdk_43_method_36_code 11 = .ok (.iload_n 2, 1) := by decide +kernel
theorem d24_12 : decode jdk_43_method_36_code 12 = .ok (.baload, 1) := by decide +kernel
theorem d24_13 : decode jdk_43_method_36_code 13 = .ok (.sipush 255, 3) := by decide +kernel
theorem d24_16 : decode jdk_43_method_36_code 16 = .ok (.iand, 1) := by decide +kernel
theorem d24_17 : decode jdk_43_method_36_code 17 = .ok (.bipush 32, 2) := by decide +kernel
theorem d24_19 : decode jdk_43_method_36_code 19 = .ok (.if_icmp .gt 9, 3) := by decide +kernel
theorem d24_28 : decode jdk_43_method_36_code 28 = .ok (.iload_n 2, 1) := by decide +kernel
theorem d24_29 : decode jdk_43_method_36_code 29 = .ok (.iload_n 1, 1) := by decide +kernel
theorem d24_30 : decode jdk_43_method_36_code 30 = .ok (.if_icmp .ge 23, 3) := by decide +kernel
theorem d24_33 : decode jdk_43_method_36_code 33 = .ok (.aload_n 0, 1) := by decide +kernel
theorem d24_34 : decode jdk_43_method_36_code 34 = .ok (.iload_n 1, 1) := by decide +kernel
theorem d24_35 : decode jdk_43_method_36_code 35 = .ok (.iconst 1, 1) := by decide +kernel
theorem d24_36 : decode jdk_43_method_36_code 36 = .ok (.isub, 1) := by decide +kernel
theorem d24_37 : decode jdk_43_method_36_code 37 = .ok (.baload, 1) := by decide +kernel
theorem d24_38 : decode jdk_43_method_36_code 38 = .ok (.sipush 255, 3) := by decide +kernel
theorem d24_41 : decode jdk_43_method_36_code 41 = .ok (.iand, 1) := by decide +kernel
theorem d24_42 : decode jdk_43_method_36_code 42 = .ok (.bipush 32, 2) := by decide +kernel
theorem d24_44 : decode jdk_43_method_36_code 44 = .ok (.if_icmp .gt 9, 3) := by decide +kernel
theorem d24_53 : decode jdk_43_method_36_code 53 = .ok (.iload_n 2, 1) := by decide +kernel
theorem d24_54 : decode jdk_43_method_36_code 54 = .ok (.ifCond .gt 9, 3) := by decide +kernel
theorem d24_57 : decode jdk_43_method_36_code 57 = .ok (.iload_n 1, 1) := by decide +kernel
theorem d24_58 : decode jdk_43_method_36_code 58 = .ok (.aload_n 0, 1) := by decide +kernel
theorem d24_59 : decode jdk_43_method_36_code 59 = .ok (.arraylength, 1) := by decide +kernel
theorem d24_60 : decode jdk_43_method_36_code 60 = .ok (.if_icmp .ge 14, 3) := by decide +kernel
theorem d24_74 : decode jdk_43_method_36_code 74 = .ok (.aconst_null, 1) := by decide +kernel
theorem d24_75 : decode jdk_43_method_36_code 75 = .ok (.areturn, 1) := by decide +kernel
theorem d24_47 : decode jdk_43_method_36_code 47 = .ok (.iinc 1 (-1), 3) := by decide +kernel
theorem d24_50 : decode jdk_43_method_36_code 50 = .ok (.goto (-22), 3) := by decide +kernel
theorem d24_22 : decode jdk_43_method_36_code 22 = .ok (.iinc 2 1, 3) := by decide +kernel
theorem d24_25 : decode jdk_43_method_36_code 25 = .ok (.goto (-20), 3) := by decide +kernel
theorem ef24_a (m : MethodId) (x1 : Addr) : entryFrame m #[(.ref x1)] 3 = mkF m 0 #[.val (.ref x1), .unset, .unset] [] := by first | (simp [entryFrame, mkF, argsToLocals, Value.category]; done) | rfl
def Q24_a (Z : State) (x1 : Addr) (ks : ClassId) (f : Nat → Int32) (n : Nat) (h0 : Heap) (n0 : Nat) (v : Option Value) (h : Heap) (L : List Loc) : Prop := v = some .null ∧ Fr n0 L ∧ h = h0
set_option maxRecDepth 65536 in
set_option maxHeartbeats 40000000 in
theorem rm24_a (l : Launch) (Z : State) (a0 : Array Value) (hw : ∀ d ∈ tables_1, d.before a0 Z = true) (ws : List Jvm.Cond) (x1 : Addr) (ks : ClassId) (f : Nat → Int32) (n : Nat) (h0 : Heap) (n0 : Nat) (Z0 : n0 ≤ h0.size) (O0 : Old Z n0 h0) (V_x1 : Arv Z h0 x1 ks .byte (Int32.ofNat n) (own_fv f n) (.int 0)) (hp : ∀ j, j < n → ¬ f j < 0 ∧ ¬ (255 : Int32) < f j) (hn : n ≤ 24) (hwh : own_whole f n) :
    MetFree l (⟨"java/lang/StringLatin1", "trim", "([B)Ljava/lang/String;"⟩ : MethodName) (head1 (Jvm.Cond.code (⟨"java/lang/StringLatin1", "trim", "([B)Ljava/lang/String;"⟩ : MethodName) jdk_43_method_36_code 3 (some (.object "java/lang/String")) :: ws) ({ frames := 0, cells := 0, slots := 0, locals := 0 } : Room)) (fun a U => a = #[(.ref x1)] ∧ Z.Warmed39 U.vm ∧ U.heap = h0) (fun _ _ _ _ _ => True) (fun _ U o U' => ∃ v L, o = .returned v ∧ Q24_a Z x1 ks f n h0 n0 v U'.heap L ∧ FrameEnd U o U' L ({ frames := 0, cells := 0, slots := 0, locals := 0 } : Room).cells ({ frames := 0, cells := 0, slots := 0, locals := 0 } : Room).slots) := by
  refine MetFree.of_bodySF (plainFor_of_name pn_java_lang_StringLatin1) hisR ?_
  intro p e s m args below meth c s₁ Bd hml0 hP hK
  obtain ⟨rfl, hZ, hh⟩ := hP
  have hx := Bd.exec
  have hby := Bd.bytes
  have hml : c.maxLocals = 3 := hml0
  have hown : s.vm.findClass "java/lang/StringLatin1" = some m.cls := findClass_of_methodNamed Bd.named
  have hnm := (name_of_methodNamed Bd.named Bd.method).1
  have X0 : Stand p l e ({ frames := 0, cells := 0, slots := 0, locals := 0 } : Room) s m #[(.ref x1)] below meth c s₁ [] 0 0 := Stand.of_body Bd
  have e0 : s₁.heap = h0 := by rw [← hh, Bd.state]; rfl
  have N0 := Fr.nil n0
  have K0 : Keep h0 h0 [] := Keep.refl _ _
  have pre0 : ∀ t, Steps p.tables e below (s₁.setTop (mkF m 0 #[.val (.ref x1), .unset, .unset] [])) t → Steps p.tables e below (s₁.setTop (entryFrame m #[(.ref x1)] 3)) t := fun t k => castTop (ef24_a m x1) k
  obtain ⟨cl_a93, Ar_a93, -, S_a93, N_a93, -, -⟩ := id V_x1
  have pre94 : ∀ t, Steps p.tables e below (s₁.setTop (mkF m 5 #[.val (.ref x1), .val (.int (Int32.ofNat n)), .val (.int (0 : Int32))] [])) t → Steps p.tables e below (s₁.setTop (entryFrame m #[(.ref x1)] 3)) t := by
    intro t kt
    refine pre0 t ?_
    show Steps p.tables e below (s₁.setTop (mkF m 0 #[.val (.ref x1), .unset, .unset] [])) _
    refine XS.aloadN X0.here hx rfl (hb hby d24_0) rfl rfl ?_
    show Steps p.tables e below (s₁.setTop (mkF m 1 #[.val (.ref x1), .unset, .unset] [(.ref x1)])) _
    refine X0.arraylength hx (by rw [e0]; exact Ar_a93.1) (State.isArrayOf_alike hZ.alike Ar_a93.2.1) (g := (mkF m 1 #[.val (.ref x1), .unset, .unset] [(.ref x1)])) rfl rfl (hb hby d24_1) _ ?_
    rw [len_of S_a93 N_a93]
    refine XS.istoreN X0.here hx rfl (hb hby d24_2) rfl (l' := #[.val (.ref x1), .val (.int (Int32.ofNat n)), .unset]) rfl ?_
    refine XS.iconst X0.here hx rfl (hb hby d24_3) ?_
    refine XS.istoreN X0.here hx rfl (hb hby d24_4) rfl (l' := #[.val (.ref x1), .val (.int (Int32.ofNat n)), .val (.int (0 : Int32))]) rfl ?_
    exact kt
  refine own_ind (A := Nat) (fun i_95 => n - i_95) (fun i_95 T95 L95 h95 => (i_95 ≤ n) ∧ (∀ j, j < i_95 → ¬ (32 : Int32) < f j) ∧ Stand p l e ({ frames := 0, cells := 0, slots := 0, locals := 0 } : Room) s m #[(.ref x1)] below meth c T95 L95 0 0 ∧ T95.heap = h0 ∧ Fr n0 L95 ∧ ∀ t, Steps p.tables e below (T95.setTop (mkF m 5 #[.val (.ref x1), .val (.int (Int32.ofNat n)), .val (.int (Int32.ofNat i_95))] [])) t → Steps p.tables e below (s₁.setTop (entryFrame m #[(.ref x1)] 3)) t) ?_ 0 s₁ _ h0 ⟨(by omega), (fun j hj => absurd hj (by omega)), X0, e0, N0, pre94⟩
  rintro i_95 T95 L95 h95 ⟨hi_95, hl_95, X95, e95, N95, pre95⟩ ih95
  have pre96 : ∀ t, Steps p.tables e below (T95.setTop (mkF m 7 #[.val (.ref x1), .val (.int (Int32.ofNat n)), .val (.int (Int32.ofNat i_95))] [(.int (Int32.ofNat n)), (.int (Int32.ofNat i_95))])) t → Steps p.tables e below (s₁.setTop (entryFrame m #[(.ref x1)] 3)) t := by
    intro t kt
    refine pre95 t ?_
    show Steps p.tables e below (T95.setTop (mkF m 5 #[.val (.ref x1), .val (.int (Int32.ofNat n)), .val (.int (Int32.ofNat i_95))] [])) _
    refine XS.iloadN X95.here hx rfl (hb hby d24_5) rfl ?_
    refine XS.iloadN X95.here hx rfl (hb hby d24_6) rfl ?_
    exact kt
  by_cases hc7 : (Int32.ofNat i_95) < (Int32.ofNat n)
  · skip
    have nf97 : (i_95 < n) := (own_lt (i := i_95) (n := n) (by omega) (by omega)).mp hc7
    obtain ⟨cl_a98, Ar_a98, -, S_a98, N_a98, H_a98, -⟩ := id V_x1
    obtain ⟨hin_a98, hat_a98⟩ := own_rd (j := (Int32.ofNat i_95)) (i := i_95) S_a98 H_a98 rfl (by omega) (by omega)
    have rn99 : ((own_by (f i_95)) &&& (255 : Int32)) = (f i_95) := own_b255 (hp _ (by omega))
    have pre100 : ∀ t, Steps p.tables e below (T95.setTop (mkF m 19 #[.val (.ref x1), .val (.int (Int32.ofNat n)), .val (.int (Int32.ofNat i_95))] [(.int (32 : Int32)), (.int (f i_95))])) t → Steps p.tables e below (s₁.setTop (entryFrame m #[(.ref x1)] 3)) t := by
      intro t kt
      refine pre96 t ?_
      show Steps p.tables e below (T95.setTop (mkF m 7 #[.val (.ref x1), .val (.int (Int32.ofNat n)), .val (.int (Int32.ofNat i_95))] [(.int (Int32.ofNat n)), (.int (Int32.ofNat i_95))])) _
      refine XS.icmpNo X95.here hx rfl (hb hby d24_7) rfl (tlt hc7).2.1 ?_
      refine XS.aloadN X95.here hx rfl (hb hby d24_10) rfl rfl ?_
      refine XS.iloadN X95.here hx rfl (hb hby d24_11) rfl ?_
      show Steps p.tables e below (T95.setTop (mkF m 12 #[.val (.ref x1), .val (.int (Int32.ofNat n)), .val (.int (Int32.ofNat i_95))] [(.int (Int32.ofNat i_95)), (.ref x1)])) _
      refine X95.baloadBytes hx (j := (Int32.ofNat i_95)) (v := (.int (own_by (f i_95)))) (by rw [e95]; exact Ar_a98.1) (State.isArrayOf_alike hZ.alike Ar_a98.2.1) Ar_a98.2.2 hin_a98 hat_a98 (g := (mkF m 12 #[.val (.ref x1), .val (.int (Int32.ofNat n)), .val (.int (Int32.ofNat i_95))] [(.int (Int32.ofNat i_95)), (.ref x1)])) rfl rfl (hb hby d24_12) _ ?_
      refine XS.sipush X95.here hx rfl (hb hby d24_13) ?_
      refine XS.iand X95.here hx rfl (hb hby d24_16) rfl ?_
      show Steps p.tables e below (T95.setTop (mkF m 17 #[.val (.ref x1), .val (.int (Int32.ofNat n)), .val (.int (Int32.ofNat i_95))] [(.int ((own_by (f i_95)) &&& (255 : Int32)))])) _
      rw [rn99]
      refine XS.bipush X95.here hx rfl (hb hby d24_17) ?_
      exact kt
    by_cases hc19 : (32 : Int32) < (f i_95)
    · skip
      have pre101 : ∀ t, Steps p.tables e below (T95.setTop (mkF m 28 #[.val (.ref x1), .val (.int (Int32.ofNat n)), .val (.int (Int32.ofNat i_95))] [])) t → Steps p.tables e below (s₁.setTop (entryFrame m #[(.ref x1)] 3)) t := by
        intro t kt
        refine pre100 t ?_
        show Steps p.tables e below (T95.setTop (mkF m 19 #[.val (.ref x1), .val (.int (Int32.ofNat n)), .val (.int (Int32.ofNat i_95))] [(.int (32 : Int32)), (.int (f i_95))])) _
        refine XS.icmpYes X95.here hx rfl (pc0 := 19) (pc' := 28) rfl (hb hby d24_19) rfl (tlt hc19).2.2.1 (by decide) (by decide) ?_
        exact kt
      refine own_ind (A := Nat) (fun q_102 => q_102) (fun q_102 T102 L102 h102 => (q_102 ≤ n) ∧ (i_95 ≤ q_102) ∧ (∀ j, q_102 ≤ j → j < n → ¬ (32 : Int32) < f j) ∧ Stand p l e ({ frames := 0, cells := 0, slots := 0, locals := 0 } : Room) s m #[(.ref x1)] below meth c T102 L102 0 0 ∧ T102.heap = h0 ∧ Fr n0 L102 ∧ ∀ t, Steps p.tables e below (T102.setTop (mkF m 28 #[.val (.ref x1), .val (.int (Int32.ofNat q_102)), .val (.int (Int32.ofNat i_95))] [])) t → Steps p.tables e below (s₁.setTop (entryFrame m #[(.ref x1)] 3)) t) ?_ n T95 _ h0 ⟨(by omega), (by omega), (fun j h1 h2 => absurd h2 (by omega)), X95, e95, N95, pre101⟩
      rintro q_102 T102 L102 h102 ⟨hq_102, hiq_102, hr_102, X102, e102, N102, pre102⟩ ih102
      have pre103 : ∀ t, Steps p.tables e below (T102.setTop (mkF m 30 #[.val (.ref x1), .val (.int (Int32.ofNat q_102)), .val (.int (Int32.ofNat i_95))] [(.int (Int32.ofNat q_102)), (.int (Int32.ofNat i_95))])) t → Steps p.tables e below (s₁.setTop (entryFrame m #[(.ref x1)] 3)) t := by
        intro t kt
        refine pre102 t ?_
        show Steps p.tables e below (T102.setTop (mkF m 28 #[.val (.ref x1), .val (.int (Int32.ofNat q_102)), .val (.int (Int32.ofNat i_95))] [])) _
        refine XS.iloadN X102.here hx rfl (hb hby d24_28) rfl ?_
        refine XS.iloadN X102.here hx rfl (hb hby d24_29) rfl ?_
        exact kt
      by_cases hc30 : (Int32.ofNat i_95) < (Int32.ofNat q_102)
      · skip
        have nf104 : (i_95 < q_102) := (own_lt (i := i_95) (n := q_102) (by omega) (by omega)).mp hc30
        have rn105 : ((Int32.ofNat q_102) - (1 : Int32)) = (Int32.ofNat (q_102 - 1)) := own_pred (by omega)
        obtain ⟨cl_a106, Ar_a106, -, S_a106, N_a106, H_a106, -⟩ := id V_x1
        obtain ⟨hin_a106, hat_a106⟩ := own_rd (j := (Int32.ofNat (q_102 - 1))) (i := (q_102 - 1)) S_a106 H_a106 rfl (by omega) (by omega)
        have rn107 : ((own_by (f (q_102 - 1))) &&& (255 : Int32)) = (f (q_102 - 1)) := own_b255 (hp _ (by omega))
        have pre108 : ∀ t, Steps p.tables e below (T102.setTop (mkF m 44 #[.val (.ref x1), .val (.int (Int32.ofNat q_102)), .val (.int (Int32.ofNat i_95))] [(.int (32 : Int32)), (.int (f (q_102 - 1)))])) t → Steps p.tables e below (s₁.setTop (entryFrame m #[(.ref x1)] 3)) t := by
          intro t kt
          refine pre103 t ?_
          show Steps p.tables e below (T102.setTop (mkF m 30 #[.val (.ref x1), .val (.int (Int32.ofNat q_102)), .val (.int (Int32.ofNat i_95))] [(.int (Int32.ofNat q_102)), (.int (Int32.ofNat i_95))])) _
          refine XS.icmpNo X102.here hx rfl (hb hby d24_30) rfl (tlt hc30).2.1 ?_
          refine XS.aloadN X102.here hx rfl (hb hby d24_33) rfl rfl ?_
          refine XS.iloadN X102.here hx rfl (hb hby d24_34) rfl ?_
          refine XS.iconst X102.here hx rfl (hb hby d24_35) ?_
          show Steps p.tables e below (T102.setTop (mkF m 36 #[.val (.ref x1), .val (.int (Int32.ofNat q_102)), .val (.int (Int32.ofNat i_95))] [(.int (1 : Int32)), (.int (Int32.ofNat q_102)), (.ref x1)])) _
          refine XS.isub X102.here hx rfl (hb hby d24_36) rfl ?_
          show Steps p.tables e below (T102.setTop (mkF m 37 #[.val (.ref x1), .val (.int (Int32.ofNat q_102)), .val (.int (Int32.ofNat i_95))] [(.int ((Int32.ofNat q_102) - (1 : Int32))), (.ref x1)])) _
          rw [rn105]
          show Steps p.tables e below (T102.setTop (mkF m 37 #[.val (.ref x1), .val (.int (Int32.ofNat q_102)), .val (.int (Int32.ofNat i_95))] [(.int (Int32.ofNat (q_102 - 1))), (.ref x1)])) _
          refine X102.baloadBytes hx (j := (Int32.ofNat (q_102 - 1))) (v := (.int (own_by (f (q_102 - 1))))) (by rw [e102]; exact Ar_a106.1) (State.isArrayOf_alike hZ.alike Ar_a106.2.1) Ar_a106.2.2 hin_a106 hat_a106 (g := (mkF m 37 #[.val (.ref x1), .val (.int (Int32.ofNat q_102)), .val (.int (Int32.ofNat i_95))] [(.int (Int32.ofNat (q_102 - 1))), (.ref x1)])) rfl rfl (hb hby d24_37) _ ?_
          refine XS.sipush X102.here hx rfl (hb hby d24_38) ?_
          refine XS.iand X102.here hx rfl (hb hby d24_41) rfl ?_
          show Steps p.tables e below (T102.setTop (mkF m 42 #[.val (.ref x1), .val (.int (Int32.ofNat q_102)), .val (.int (Int32.ofNat i_95))] [(.int ((own_by (f (q_102 - 1))) &&& (255 : Int32)))])) _
          rw [rn107]
          refine XS.bipush X102.here hx rfl (hb hby d24_42) ?_
          exact kt
        by_cases hc44 : (32 : Int32) < (f (q_102 - 1))
        · skip
          have tr109 : own_tr f n i_95 q_102 := ⟨by omega, by omega, hl_95, hr_102, Or.inl ⟨by omega, hc19, hc44⟩⟩
          have pre110 : ∀ t, Steps p.tables e below (T102.setTop (mkF m 54 #[.val (.ref x1), .val (.int (Int32.ofNat q_102)), .val (.int (Int32.ofNat i_95))] [(.int (Int32.ofNat i_95))])) t → Steps p.tables e below (s₁.setTop (entryFrame m #[(.ref x1)] 3)) t := by
            intro t kt
            refine pre108 t ?_
            show Steps p.tables e below (T102.setTop (mkF m 44 #[.val (.ref x1), .val (.int (Int32.ofNat q_102)), .val (.int (Int32.ofNat i_95))] [(.int (32 : Int32)), (.int (f (q_102 - 1)))])) _
            refine XS.icmpYes X102.here hx rfl (pc0 := 44) (pc' := 53) rfl (hb hby d24_44) rfl (tlt hc44).2.2.1 (by decide) (by decide) ?_
            refine XS.iloadN X102.here hx rfl (hb hby d24_53) rfl ?_
            exact kt
          by_cases hc54 : (0 : Int32) < (Int32.ofNat i_95)
          · skip
            have nf111 : (0 < i_95) := (own_lt (i := 0) (n := i_95) (by omega) (by omega)).mp hc54
            exact False.elim (by have q := own_whole_tr hwh tr109; omega)
          · skip
            have nf112 : ¬ (0 < i_95) := fun q => hc54 ((own_lt (i := 0) (n := i_95) (by omega) (by omega)).mpr q)
            obtain ⟨cl_a113, Ar_a113, -, S_a113, N_a113, -, -⟩ := id V_x1
            have pre114 : ∀ t, Steps p.tables e below (T102.setTop (mkF m 60 #[.val (.ref x1), .val (.int (Int32.ofNat q_102)), .val (.int (Int32.ofNat i_95))] [(.int (Int32.ofNat n)), (.int (Int32.ofNat q_102))])) t → Steps p.tables e below (s₁.setTop (entryFrame m #[(.ref x1)] 3)) t := by
              intro t kt
              refine pre110 t ?_
              show Steps p.tables e below (T102.setTop (mkF m 54 #[.val (.ref x1), .val (.int (Int32.ofNat q_102)), .val (.int (Int32.ofNat i_95))] [(.int (Int32.ofNat i_95))])) _
              refine XS.ifNo X102.here hx rfl (hb hby d24_54) rfl ((if0 _ _).trans (flt hc54).2.2.1) ?_
              refine XS.iloadN X102.here hx rfl (hb hby d24_57) rfl ?_
              refine XS.aloadN X102.here hx rfl (hb hby d24_58) rfl rfl ?_
              show Steps p.tables e below (T102.setTop (mkF m 59 #[.val (.ref x1), .val (.int (Int32.ofNat q_102)), .val (.int (Int32.ofNat i_95))] [(.ref x1), (.int (Int32.ofNat q_102))])) _
              refine X102.arraylength hx (by rw [e102]; exact Ar_a113.1) (State.isArrayOf_alike hZ.alike Ar_a113.2.1) (g := (mkF m 59 #[.val (.ref x1), .val (.int (Int32.ofNat q_102)), .val (.int (Int32.ofNat i_95))] [(.ref x1), (.int (Int32.ofNat q_102))])) rfl rfl (hb hby d24_59) _ ?_
              rw [len_of S_a113 N_a113]
              exact kt
            by_cases hc60 : (Int32.ofNat q_102) < (Int32.ofNat n)
            · skip
              have nf115 : (q_102 < n) := (own_lt (i := q_102) (n := n) (by omega) (by omega)).mp hc60
              exact False.elim (by have q := own_whole_tr hwh tr109; omega)
            · skip
              have nf116 : ¬ (q_102 < n) := fun q => hc60 ((own_lt (i := q_102) (n := n) (by omega) (by omega)).mpr q)
              obtain ⟨fs, hr, hrun, hended, hW, hsame⟩ := X102.leave (v := some .null) (fun h => by rw [Bd.returns] at h; cases h)
              refine ⟨_, _, pre114 _ ?_, hrun, hended, _, _, rfl, ?_, ⟨_, rfl⟩, hW, hsame.mono (by decide) (by decide)⟩
              · show Steps p.tables e below (T102.setTop (mkF m 60 #[.val (.ref x1), .val (.int (Int32.ofNat q_102)), .val (.int (Int32.ofNat i_95))] [(.int (Int32.ofNat n)), (.int (Int32.ofNat q_102))])) _
                refine XS.icmpYes X102.here hx rfl (pc0 := 60) (pc' := 74) rfl (hb hby d24_60) rfl (flt hc60).2.1 (by decide) (by decide) ?_
                refine XS.aconstNull X102.here hx rfl (hb hby d24_74) ?_
                show Steps p.tables e below (T102.setTop (mkF m 75 #[.val (.ref x1), .val (.int (Int32.ofNat q_102)), .val (.int (Int32.ofNat i_95))] [.null])) _
                jvm_step X102.here [X102.here.top, hx, (hb hby d24_75), X102.method', Bd.returns, Value.isRef, FieldType.isReference]
                first | (intro acts; rw [hr _ acts rfl rfl rfl]) | rw [hr _ _ rfl rfl rfl]
                exact Steps.refl _
              · show Q24_a Z x1 ks f n h0 n0 _ T102.heap _
                rw [e102]
                exact ⟨rfl, N102, rfl⟩
        · skip
          have pre117 : ∀ t, Steps p.tables e below (T102.setTop (mkF m 28 #[.val (.ref x1), .val (.int ((Int32.ofNat q_102) + (-1 : Int32))), .val (.int (Int32.ofNat i_95))] [])) t → Steps p.tables e below (s₁.setTop (entryFrame m #[(.ref x1)] 3)) t := by
            intro t kt
            refine pre108 t ?_
            show Steps p.tables e below (T102.setTop (mkF m 44 #[.val (.ref x1), .val (.int (Int32.ofNat q_102)), .val (.int (Int32.ofNat i_95))] [(.int (32 : Int32)), (.int (f (q_102 - 1)))])) _
            refine XS.icmpNo X102.here hx rfl (hb hby d24_44) rfl (flt hc44).2.2.1 ?_
            refine XS.iinc X102.here hx rfl (hb hby d24_47) rfl (l' := #[.val (.ref x1), .val (.int ((Int32.ofNat q_102) + (-1 : Int32))), .val (.int (Int32.ofNat i_95))]) rfl ?_
            show Steps p.tables e below (T102.setTop (mkF m 50 #[.val (.ref x1), .val (.int ((Int32.ofNat q_102) + (-1 : Int32))), .val (.int (Int32.ofNat i_95))] [])) _
            refine XS.goto X102.here hx rfl (pc0 := 50) (pc' := 28) rfl (hb hby d24_50) (by decide) (by decide) ?_
            exact kt
          exact ih102 (q_102 - 1) T102 _ h0 (by omega) ⟨(by omega), (by omega), (own_allr hr_102 (by omega) hc44), X102, e102, N102, (fun t kt => pre117 t (by rw [own_predm (by omega)]; exact kt))⟩
      · skip
        have nf118 : ¬ (i_95 < q_102) := fun q => hc30 ((own_lt (i := i_95) (n := q_102) (by omega) (by omega)).mpr q)
        exact absurd hc19 (hr_102 i_95 (by omega) (by omega))
    · skip
      have pre120 : ∀ t, Steps p.tables e below (T95.setTop (mkF m 5 #[.val (.ref x1), .val (.int (Int32.ofNat n)), .val (.int ((Int32.ofNat i_95) + (1 : Int32)))] [])) t → Steps p.tables e below (s₁.setTop (entryFrame m #[(.ref x1)] 3)) t := by
        intro t kt
        refine pre100 t ?_
        show Steps p.tables e below (T95.setTop (mkF m 19 #[.val (.ref x1), .val (.int (Int32.ofNat n)), .val (.int (Int32.ofNat i_95))] [(.int (32 : Int32)), (.int (f i_95))])) _
        refine XS.icmpNo X95.here hx rfl (hb hby d24_19) rfl (flt hc19).2.2.1 ?_
        refine XS.iinc X95.here hx rfl (hb hby d24_22) rfl (l' := #[.val (.ref x1), .val (.int (Int32.ofNat n)), .val (.int ((Int32.ofNat i_95) + (1 : Int32)))]) rfl ?_
        show Steps p.tables e below (T95.setTop (mkF m 25 #[.val (.ref x1), .val (.int (Int32.ofNat n)), .val (.int ((Int32.ofNat i_95) + (1 : Int32)))] [])) _
        refine XS.goto X95.here hx rfl (pc0 := 25) (pc' := 5) rfl (hb hby d24_25) (by decide) (by decide) ?_
        exact kt
      exact ih95 (i_95 + 1) T95 _ h0 (by omega) ⟨(by omega), (own_all hl_95 hc19), X95, e95, N95, (fun t kt => pre120 t (by rw [own_one]; exact kt))⟩
  · skip
    have nf121 : ¬ (i_95 < n) := fun q => hc7 ((own_lt (i := i_95) (n := n) (by omega) (by omega)).mpr q)
    have pre122 : ∀ t, Steps p.tables e below (T95.setTop (mkF m 28 #[.val (.ref x1), .val (.int (Int32.ofNat n)), .val (.int (Int32.ofNat i_95))] [])) t → Steps p.tables e below (s₁.setTop (entryFrame m #[(.ref x1)] 3)) t := by
      intro t kt
      refine pre96 t ?_
      show Steps p.tables e below (T95.setTop (mkF m 7 #[.val (.ref x1), .val (.int (Int32.ofNat n)), .val (.int (Int32.ofNat i_95))] [(.int (Int32.ofNat n)), (.int (Int32.ofNat i_95))])) _
      refine XS.icmpYes X95.here hx rfl (pc0 := 7) (pc' := 28) rfl (hb hby d24_7) rfl (flt hc7).2.1 (by decide) (by decide) ?_
      exact kt
    refine own_ind (A := Nat) (fun q_123 => q_123) (fun q_123 T123 L123 h123 => (q_123 ≤ n) ∧ (i_95 ≤ q_123) ∧ (∀ j, q_123 ≤ j → j < n → ¬ (32 : Int32) < f j) ∧ Stand p l e ({ frames := 0, cells := 0, slots := 0, locals := 0 } : Room) s m #[(.ref x1)] below meth c T123 L123 0 0 ∧ T123.heap = h0 ∧ Fr n0 L123 ∧ ∀ t, Steps p.tables e below (T123.setTop (mkF m 28 #[.val (.ref x1), .val (.int (Int32.ofNat q_123)), .val (.int (Int32.ofNat i_95))] [])) t → Steps p.tables e below (s₁.setTop (entryFrame m #[(.ref x1)] 3)) t) ?_ n T95 _ h0 ⟨(by omega), (by omega), (fun j h1 h2 => absurd h2 (by omega)), X95, e95, N95, pre122⟩
    rintro q_123 T123 L123 h123 ⟨hq_123, hiq_123, hr_123, X123, e123, N123, pre123⟩ ih123
    have pre124 : ∀ t, Steps p.tables e below (T123.setTop (mkF m 30 #[.val (.ref x1), .val (.int (Int32.ofNat q_123)), .val (.int (Int32.ofNat i_95))] [(.int (Int32.ofNat q_123)), (.int (Int32.ofNat i_95))])) t → Steps p.tables e below (s₁.setTop (entryFrame m #[(.ref x1)] 3)) t := by
      intro t kt
      refine pre123 t ?_
      show Steps p.tables e below (T123.setTop (mkF m 28 #[.val (.ref x1), .val (.int (Int32.ofNat q_123)), .val (.int (Int32.ofNat i_95))] [])) _
      refine XS.iloadN X123.here hx rfl (hb hby d24_28) rfl ?_
      refine XS.iloadN X123.here hx rfl (hb hby d24_29) rfl ?_
      exact kt
    by_cases hc30 : (Int32.ofNat i_95) < (Int32.ofNat q_123)
    · skip
      have nf125 : (i_95 < q_123) := (own_lt (i := i_95) (n := q_123) (by omega) (by omega)).mp hc30
      have rn126 : ((Int32.ofNat q_123) - (1 : Int32)) = (Int32.ofNat (q_123 - 1)) := own_pred (by omega)
      obtain ⟨cl_a127, Ar_a127, -, S_a127, N_a127, H_a127, -⟩ := id V_x1
      obtain ⟨hin_a127, hat_a127⟩ := own_rd (j := (Int32.ofNat (q_123 - 1))) (i := (q_123 - 1)) S_a127 H_a127 rfl (by omega) (by omega)
      have rn128 : ((own_by (f (q_123 - 1))) &&& (255 : Int32)) = (f (q_123 - 1)) := own_b255 (hp _ (by omega))
      have pre129 : ∀ t, Steps p.tables e below (T123.setTop (mkF m 44 #[.val (.ref x1), .val (.int (Int32.ofNat q_123)), .val (.int (Int32.ofNat i_95))] [(.int (32 : Int32)), (.int (f (q_123 - 1)))])) t → Steps p.tables e below (s₁.setTop (entryFrame m #[(.ref x1)] 3)) t := by
        intro t kt
        refine pre124 t ?_
        show Steps p.tables e below (T123.setTop (mkF m 30 #[.val (.ref x1), .val (.int (Int32.ofNat q_123)), .val (.int (Int32.ofNat i_95))] [(.int (Int32.ofNat q_123)), (.int (Int32.ofNat i_95))])) _
        refine XS.icmpNo X123.here hx rfl (hb hby d24_30) rfl (tlt hc30).2.1 ?_
        refine XS.aloadN X123.here hx rfl (hb hby d24_33) rfl rfl ?_
        refine XS.iloadN X123.here hx rfl (hb hby d24_34) rfl ?_
        refine XS.iconst X123.here hx rfl (hb hby d24_35) ?_
        show Steps p.tables e below (T123.setTop (mkF m 36 #[.val (.ref x1), .val (.int (Int32.ofNat q_123)), .val (.int (Int32.ofNat i_95))] [(.int (1 : Int32)), (.int (Int32.ofNat q_123)), (.ref x1)])) _
        refine XS.isub X123.here hx rfl (hb hby d24_36) rfl ?_
        show Steps p.tables e below (T123.setTop (mkF m 37 #[.val (.ref x1), .val (.int (Int32.ofNat q_123)), .val (.int (Int32.ofNat i_95))] [(.int ((Int32.ofNat q_123) - (1 : Int32))), (.ref x1)])) _
        rw [rn126]
        show Steps p.tables e below (T123.setTop (mkF m 37 #[.val (.ref x1), .val (.int (Int32.ofNat q_123)), .val (.int (Int32.ofNat i_95))] [(.int (Int32.ofNat (q_123 - 1))), (.ref x1)])) _
        refine X123.baloadBytes hx (j := (Int32.ofNat (q_123 - 1))) (v := (.int (own_by (f (q_123 - 1))))) (by rw [e123]; exact Ar_a127.1) (State.isArrayOf_alike hZ.alike Ar_a127.2.1) Ar_a127.2.2 hin_a127 hat_a127 (g := (mkF m 37 #[.val (.ref x1), .val (.int (Int32.ofNat q_123)), .val (.int (Int32.ofNat i_95))] [(.int (Int32.ofNat (q_123 - 1))), (.ref x1)])) rfl rfl (hb hby d24_37) _ ?_
        refine XS.sipush X123.here hx rfl (hb hby d24_38) ?_
        refine XS.iand X123.here hx rfl (hb hby d24_41) rfl ?_
        show Steps p.tables e below (T123.setTop (mkF m 42 #[.val (.ref x1), .val (.int (Int32.ofNat q_123)), .val (.int (Int32.ofNat i_95))] [(.int ((own_by (f (q_123 - 1))) &&& (255 : Int32)))])) _
        rw [rn128]
        refine XS.bipush X123.here hx rfl (hb hby d24_42) ?_
        exact kt
      by_cases hc44 : (32 : Int32) < (f (q_123 - 1))
      · skip
        exact False.elim (by omega)
      · skip
        have pre131 : ∀ t, Steps p.tables e below (T123.setTop (mkF m 28 #[.val (.ref x1), .val (.int ((Int32.ofNat q_123) + (-1 : Int32))), .val (.int (Int32.ofNat i_95))] [])) t → Steps p.tables e below (s₁.setTop (entryFrame m #[(.ref x1)] 3)) t := by
          intro t kt
          refine pre129 t ?_
          show Steps p.tables e below (T123.setTop (mkF m 44 #[.val (.ref x1), .val (.int (Int32.ofNat q_123)), .val (.int (Int32.ofNat i_95))] [(.int (32 : Int32)), (.int (f (q_123 - 1)))])) _
          refine XS.icmpNo X123.here hx rfl (hb hby d24_44) rfl (flt hc44).2.2.1 ?_
          refine XS.iinc X123.here hx rfl (hb hby d24_47) rfl (l' := #[.val (.ref x1), .val (.int ((Int32.ofNat q_123) + (-1 : Int32))), .val (.int (Int32.ofNat i_95))]) rfl ?_
          show Steps p.tables e below (T123.setTop (mkF m 50 #[.val (.ref x1), .val (.int ((Int32.ofNat q_123) + (-1 : Int32))), .val (.int (Int32.ofNat i_95))] [])) _
          refine XS.goto X123.here hx rfl (pc0 := 50) (pc' := 28) rfl (hb hby d24_50) (by decide) (by decide) ?_
          exact kt
        exact ih123 (q_123 - 1) T123 _ h0 (by omega) ⟨(by omega), (by omega), (own_allr hr_123 (by omega) hc44), X123, e123, N123, (fun t kt => pre131 t (by rw [own_predm (by omega)]; exact kt))⟩
    · skip
      have nf132 : ¬ (i_95 < q_123) := fun q => hc30 ((own_lt (i := i_95) (n := q_123) (by omega) (by omega)).mpr q)
      have tr133 : own_tr f n i_95 q_123 := ⟨by omega, by omega, hl_95, hr_123, Or.inr ⟨by omega, by omega⟩⟩
      have pre134 : ∀ t, Steps p.tables e below (T123.setTop (mkF m 54 #[.val (.ref x1), .val (.int (Int32.ofNat q_123)), .val (.int (Int32.ofNat i_95))] [(.int (Int32.ofNat i_95))])) t → Steps p.tables e below (s₁.setTop (entryFrame m #[(.ref x1)] 3)) t := by
        intro t kt
        refine pre124 t ?_
        show Steps p.tables e below (T123.setTop (mkF m 30 #[.val (.ref x1), .val (.int (Int32.ofNat q_123)), .val (.int (Int32.ofNat i_95))] [(.int (Int32.ofNat q_123)), (.int (Int32.ofNat i_95))])) _
        refine XS.icmpYes X123.here hx rfl (pc0 := 30) (pc' := 53) rfl (hb hby d24_30) rfl (flt hc30).2.1 (by decide) (by decide) ?_
        refine XS.iloadN X123.here hx rfl (hb hby d24_53) rfl ?_
        exact kt
      by_cases hc54 : (0 : Int32) < (Int32.ofNat i_95)
      · skip
        have nf135 : (0 < i_95) := (own_lt (i := 0) (n := i_95) (by omega) (by omega)).mp hc54
        exact False.elim (by have q := own_whole_tr hwh tr133; omega)
      · skip
        have nf136 : ¬ (0 < i_95) := fun q => hc54 ((own_lt (i := 0) (n := i_95) (by omega) (by omega)).mpr q)
        obtain ⟨cl_a137, Ar_a137, -, S_a137, N_a137, -, -⟩ := id V_x1
        have pre138 : ∀ t, Steps p.tables e below (T123.setTop (mkF m 60 #[.val (.ref x1), .val (.int (Int32.ofNat q_123)), .val (.int (Int32.ofNat i_95))] [(.int (Int32.ofNat n)), (.int (Int32.ofNat q_123))])) t → Steps p.tables e below (s₁.setTop (entryFrame m #[(.ref x1)] 3)) t := by
          intro t kt
          refine pre134 t ?_
          show Steps p.tables e below (T123.setTop (mkF m 54 #[.val (.ref x1), .val (.int (Int32.ofNat q_123)), .val (.int (Int32.ofNat i_95))] [(.int (Int32.ofNat i_95))])) _
          refine XS.ifNo X123.here hx rfl (hb hby d24_54) rfl ((if0 _ _).trans (flt hc54).2.2.1) ?_
          refine XS.iloadN X123.here hx rfl (hb hby d24_57) rfl ?_
          show Steps p.tables e below (T123.setTop (mkF m 58 #[.val (.ref x1), .val (.int (Int32.ofNat q_123)), .val (.int (Int32.ofNat i_95))] [(.int (Int32.ofNat q_123))])) _
          refine XS.aloadN X123.here hx rfl (hb hby d24_58) rfl rfl ?_
          show Steps p.tables e below (T123.setTop (mkF m 59 #[.val (.ref x1), .val (.int (Int32.ofNat q_123)), .val (.int (Int32.ofNat i_95))] [(.ref x1), (.int (Int32.ofNat q_123))])) _
          refine X123.arraylength hx (by rw [e123]; exact Ar_a137.1) (State.isArrayOf_alike hZ.alike Ar_a137.2.1) (g := (mkF m 59 #[.val (.ref x1), .val (.int (Int32.ofNat q_123)), .val (.int (Int32.ofNat i_95))] [(.ref x1), (.int (Int32.ofNat q_123))])) rfl rfl (hb hby d24_59) _ ?_
          rw [len_of S_a137 N_a137]
          exact kt
        by_cases hc60 : (Int32.ofNat q_123) < (Int32.ofNat n)
        · skip
          have nf139 : (q_123 < n) := (own_lt (i := q_123) (n := n) (by omega) (by omega)).mp hc60
          exact False.elim (by have q := own_whole_tr hwh tr133; omega)
        · skip
          have nf140 : ¬ (q_123 < n) := fun q => hc60 ((own_lt (i := q_123) (n := n) (by omega) (by omega)).mpr q)
          obtain ⟨fs, hr, hrun, hended, hW, hsame⟩ := X123.leave (v := some .null) (fun h => by rw [Bd.returns] at h; cases h)
          refine ⟨_, _, pre138 _ ?_, hrun, hended, _, _, rfl, ?_, ⟨_, rfl⟩, hW, hsame.mono (by decide) (by decide)⟩
          · show Steps p.tables e below (T123.setTop (mkF m 60 #[.val (.ref x1), .val (.int (Int32.ofNat q_123)), .val (.int (Int32.ofNat i_95))] [(.int (Int32.ofNat n)), (.int (Int32.ofNat q_123))])) _
            refine XS.icmpYes X123.here hx rfl (pc0 := 60) (pc' := 74) rfl (hb hby d24_60) rfl (flt hc60).2.1 (by decide) (by decide) ?_
            refine XS.aconstNull X123.here hx rfl (hb hby d24_74) ?_
            show Steps p.tables e below (T123.setTop (mkF m 75 #[.val (.ref x1), .val (.int (Int32.ofNat q_123)), .val (.int (Int32.ofNat i_95))] [.null])) _
            jvm_step X123.here [X123.here.top, hx, (hb hby d24_75), X123.method', Bd.returns, Value.isRef, FieldType.isReference]
            first | (intro acts; rw [hr _ acts rfl rfl rfl]) | rw [hr _ _ rfl rfl rfl]
            exact Steps.refl _
          · show Q24_a Z x1 ks f n h0 n0 _ T123.heap _
            rw [e123]
            exact ⟨rfl, N123, rfl⟩
theorem d24_63 : decode jdk_43_method_36_code 63 = .ok (.aload_n 0, 1) := by decide +kernel
theorem d24_64 : decode jdk_43_method_36_code 64 = .ok (.iload_n 2, 1) := by decide +kernel
theorem d24_65 : decode jdk_43_method_36_code 65 = .ok (.iload_n 1, 1) := by decide +kernel
theorem d24_66 : decode jdk_43_method_36_code 66 = .ok (.iload_n 2, 1) := by decide +kernel
theorem d24_67 : decode jdk_43_method_36_code 67 = .ok (.isub, 1) := by decide +kernel
theorem d24_68 : decode jdk_43_method_36_code 68 = .ok (.invokestatic 210, 3) := by decide +kernel
theorem d24_71 : decode jdk_43_method_36_code 71 = .ok (.goto 4, 3) := by decide +kernel
theorem ef24_b (m : MethodId) (x1 : Addr) : entryFrame m #[(.ref x1)] 3 = mkF m 0 #[.val (.ref x1), .unset, .unset] [] := by first | (simp [entryFrame, mkF, argsToLocals, Value.category]; done) | rfl
def Q24_b (Z : State) (x1 : Addr) (ks : ClassId) (f : Nat → Int32) (n : Nat) (h0 : Heap) (n0 : Nat) (v : Option Value) (h : Heap) (L : List Loc) : Prop := ∃ (b : Addr), ∃ (t : Addr), ∃ (kk : ClassId), ∃ (ua : Nat), ∃ (ub : Nat), v = some (.ref b) ∧ Fr n0 L ∧ Keep h0 h [] ∧ Exa Z h b "java/lang/String" ∧ Fld Z h b "java/lang/String" "value" "[B" (.ref t) ∧ Fld Z h b "java/lang/String" "coder" "B" (.int (0 : Int32)) ∧ Arv Z h t kk .byte (Int32.ofNat (ub - ua)) (own_fv (own_sh f ua) (ub - ua)) (.int 0) ∧ (own_tr f n ua ub)
set_option maxRecDepth 65536 in
set_option maxHeartbeats 40000000 in
theorem rm24_b (l : Launch) (Z : State) (a0 : Array Value) (hw : ∀ d ∈ tables_1, d.before a0 Z = true) (ws : List Jvm.Cond) (x1 : Addr) (ks : ClassId) (f : Nat → Int32) (n : Nat) (h0 : Heap) (n0 : Nat) (Z0 : n0 ≤ h0.size) (O0 : Old Z n0 h0) (V_x1 : Arv Z h0 x1 ks .byte (Int32.ofNat n) (own_fv f n) (.int 0)) (hp : ∀ j, j < n → ¬ f j < 0 ∧ ¬ (255 : Int32) < f j) (hn : n ≤ 24) (hwh : ¬ own_whole f n) :
    MetFree l (⟨"java/lang/StringLatin1", "trim", "([B)Ljava/lang/String;"⟩ : MethodName) (head1 (Jvm.Cond.code (⟨"java/lang/StringLatin1", "trim", "([B)Ljava/lang/String;"⟩ : MethodName) jdk_43_method_36_code 3 (some (.object "java/lang/String")) :: ws) ({ frames := 4, cells := 2, slots := 28, locals := 64 } : Room)) (fun a U => a = #[(.ref x1)] ∧ Z.Warmed39 U.vm ∧ U.heap = h0 ∧ CHv Z own_EL U.vm h0) (fun _ _ _ _ _ => True) (fun _ U o U' => ∃ v L, o = .returned v ∧ Q24_b Z x1 ks f n h0 n0 v U'.heap L ∧ CHr Z own_EL U.vm U.heap U'.vm U'.heap ∧ ReturnedEndW U o U' L ({ frames := 4, cells := 2, slots := 28, locals := 64 } : Room).cells ({ frames := 4, cells := 2, slots := 28, locals := 64 } : Room).slots) := by
  refine MetFree.of_bodySF (plainFor_of_name pn_java_lang_StringLatin1) hisR ?_
  intro p e s m args below meth c s₁ Bd hml0 hP hK
  obtain ⟨rfl, hZ, hh, CH0⟩ := hP
  have hx := Bd.exec
  have hby := Bd.bytes
  have hml : c.maxLocals = 3 := hml0
  have hown : (s.setVm s.vm).vm.findClass "java/lang/StringLatin1" = some m.cls := findClass_of_methodNamed Bd.named
  have hnm := (name_of_methodNamed Bd.named Bd.method).1
  have X0 : Stand p l e ({ frames := 4, cells := 2, slots := 28, locals := 64 } : Room) (s.setVm s.vm) m #[(.ref x1)] below meth c s₁ [] 0 0 := Stand.of_body Bd
  have e0 : s₁.heap = h0 := by rw [← hh, Bd.state]; rfl
  have N0 := Fr.nil n0
  have K0 : Keep h0 h0 [] := Keep.refl _ _
  have pre0 : ∀ t, Steps p.tables e below (s₁.setTop (mkF m 0 #[.val (.ref x1), .unset, .unset] [])) t → Steps p.tables e below (s₁.setTop (entryFrame m #[(.ref x1)] 3)) t := fun t k => castTop (ef24_b m x1) k
  have hZa : Z.Warmed39 (s.setVm s.vm).vm := hZ
  have howna : (s.setVm s.vm).vm.findClass "java/lang/StringLatin1" = some m.cls := hown
  have hS0 : s.Since s.vm h0.size := (State.WarmedH.refl s).since _
  have hk0 : h0.size ≤ h0.size := Nat.le_refl _
  have CR0 : CHr Z own_EL s.vm h0 s.vm h0 := CHr.refl CH0
  obtain ⟨cl_a141, Ar_a141, -, S_a141, N_a141, -, -⟩ := id V_x1
  have pre142 : ∀ t, Steps p.tables e below (s₁.setTop (mkF m 5 #[.val (.ref x1), .val (.int (Int32.ofNat n)), .val (.int (0 : Int32))] [])) t → Steps p.tables e below (s₁.setTop (entryFrame m #[(.ref x1)] 3)) t := by
    intro t kt
    refine pre0 t ?_
    show Steps p.tables e below (s₁.setTop (mkF m 0 #[.val (.ref x1), .unset, .unset] [])) _
    refine XS.aloadN X0.here hx rfl (hb hby d24_0) rfl rfl ?_
    show Steps p.tables e below (s₁.setTop (mkF m 1 #[.val (.ref x1), .unset, .unset] [(.ref x1)])) _
    refine X0.arraylength hx (by rw [e0]; exact Ar_a141.1) (State.isArrayOf_alike hZa.alike Ar_a141.2.1) (g := (mkF m 1 #[.val (.ref x1), .unset, .unset] [(.ref x1)])) rfl rfl (hb hby d24_1) _ ?_
    rw [len_of S_a141 N_a141]
    refine XS.istoreN X0.here hx rfl (hb hby d24_2) rfl (l' := #[.val (.ref x1), .val (.int (Int32.ofNat n)), .unset]) rfl ?_
    refine XS.iconst X0.here hx rfl (hb hby d24_3) ?_
    refine XS.istoreN X0.here hx rfl (hb hby d24_4) rfl (l' := #[.val (.ref x1), .val (.int (Int32.ofNat n)), .val (.int (0 : Int32))]) rfl ?_
    exact kt
  refine own_ind (A := Nat) (fun i_143 => n - i_143) (fun i_143 T143 L143 h143 => (i_143 ≤ n) ∧ (∀ j, j < i_143 → ¬ (32 : Int32) < f j) ∧ Stand p l e ({ frames := 4, cells := 2, slots := 28, locals := 64 } : Room) (s.setVm s.vm) m #[(.ref x1)] below meth c T143 L143 0 0 ∧ T143.heap = h0 ∧ Fr n0 L143 ∧ ∀ t, Steps p.tables e below (T143.setTop (mkF m 5 #[.val (.ref x1), .val (.int (Int32.ofNat n)), .val (.int (Int32.ofNat i_143))] [])) t → Steps p.tables e below (s₁.setTop (entryFrame m #[(.ref x1)] 3)) t) ?_ 0 s₁ _ h0 ⟨(by omega), (fun j hj => absurd hj (by omega)), X0, e0, N0, pre142⟩
  rintro i_143 T143 L143 h143 ⟨hi_143, hl_143, X143, e143, N143, pre143⟩ ih143
  have pre144 : ∀ t, Steps p.tables e below (T143.setTop (mkF m 7 #[.val (.ref x1), .val (.int (Int32.ofNat n)), .val (.int (Int32.ofNat i_143))] [(.int (Int32.ofNat n)), (.int (Int32.ofNat i_143))])) t → Steps p.tables e below (s₁.setTop (entryFrame m #[(.ref x1)] 3)) t := by
    intro t kt
    refine pre143 t ?_
    show Steps p.tables e below (T143.setTop (mkF m 5 #[.val (.ref x1), .val (.int (Int32.ofNat n)), .val (.int (Int32.ofNat i_143))] [])) _
    refine XS.iloadN X143.here hx rfl (hb hby d24_5) rfl ?_
    refine XS.iloadN X143.here hx rfl (hb hby d24_6) rfl ?_
    exact kt
  by_cases hc7 : (Int32.ofNat i_143) < (Int32.ofNat n)
  · skip
    have nf145 : (i_143 < n) := (own_lt (i := i_143) (n := n) (by omega) (by omega)).mp hc7
    obtain ⟨cl_a146, Ar_a146, -, S_a146, N_a146, H_a146, -⟩ := id V_x1
    obtain ⟨hin_a146, hat_a146⟩ := own_rd (j := (Int32.ofNat i_143)) (i := i_143) S_a146 H_a146 rfl (by omega) (by omega)
    have rn147 : ((own_by (f i_143)) &&& (255 : Int32)) = (f i_143) := own_b255 (hp _ (by omega))
    have pre148 : ∀ t, Steps p.tables e below (T143.setTop (mkF m 19 #[.val (.ref x1), .val (.int (Int32.ofNat n)), .val (.int (Int32.ofNat i_143))] [(.int (32 : Int32)), (.int (f i_143))])) t → Steps p.tables e below (s₁.setTop (entryFrame m #[(.ref x1)] 3)) t := by
      intro t kt
      refine pre144 t ?_
      show Steps p.tables e below (T143.setTop (mkF m 7 #[.val (.ref x1), .val (.int (Int32.ofNat n)), .val (.int (Int32.ofNat i_143))] [(.int (Int32.ofNat n)), (.int (Int32.ofNat i_143))])) _
      refine XS.icmpNo X143.here hx rfl (hb hby d24_7) rfl (tlt hc7).2.1 ?_
      refine XS.aloadN X143.here hx rfl (hb hby d24_10) rfl rfl ?_
      refine XS.iloadN X143.here hx rfl (hb hby d24_11) rfl ?_
      show Steps p.tables e below (T143.setTop (mkF m 12 #[.val (.ref x1), .val (.int (Int32.ofNat n)), .val (.int (Int32.ofNat i_143))] [(.int (Int32.ofNat i_143)), (.ref x1)])) _
      refine X143.baloadBytes hx (j := (Int32.ofNat i_143)) (v := (.int (own_by (f i_143)))) (by rw [e143]; exact Ar_a146.1) (State.isArrayOf_alike hZa.alike Ar_a146.2.1) Ar_a146.2.2 hin_a146 hat_a146 (g := (mkF m 12 #[.val (.ref x1), .val (.int (Int32.ofNat n)), .val (.int (Int32.ofNat i_143))] [(.int (Int32.ofNat i_143)), (.ref x1)])) rfl rfl (hb hby d24_12) _ ?_
      refine XS.sipush X143.here hx rfl (hb hby d24_13) ?_
      refine XS.iand X143.here hx rfl (hb hby d24_16) rfl ?_
      show Steps p.tables e below (T143.setTop (mkF m 17 #[.val (.ref x1), .val (.int (Int32.ofNat n)), .val (.int (Int32.ofNat i_143))] [(.int ((own_by (f i_143)) &&& (255 : Int32)))])) _
      rw [rn147]
      refine XS.bipush X143.here hx rfl (hb hby d24_17) ?_
      exact kt
    by_cases hc19 : (32 : Int32) < (f i_143)
    · skip
      have pre149 : ∀ t, Steps p.tables e below (T143.setTop (mkF m 28 #[.val (.ref x1), .val (.int (Int32.ofNat n)), .val (.int (Int32.ofNat i_143))] [])) t → Steps p.tables e below (s₁.setTop (entryFrame m #[(.ref x1)] 3)) t := by
        intro t kt
        refine pre148 t ?_
        show Steps p.tables e below (T143.setTop (mkF m 19 #[.val (.ref x1), .val (.int (Int32.ofNat n)), .val (.int (Int32.ofNat i_143))] [(.int (32 : Int32)), (.int (f i_143))])) _
        refine XS.icmpYes X143.here hx rfl (pc0 := 19) (pc' := 28) rfl (hb hby d24_19) rfl (tlt hc19).2.2.1 (by decide) (by decide) ?_
        exact kt
      refine own_ind (A := Nat) (fun q_150 => q_150) (fun q_150 T150 L150 h150 => (q_150 ≤ n) ∧ (i_143 ≤ q_150) ∧ (∀ j, q_150 ≤ j → j < n → ¬ (32 : Int32) < f j) ∧ Stand p l e ({ frames := 4, cells := 2, slots := 28, locals := 64 } : Room) (s.setVm s.vm) m #[(.ref x1)] below meth c T150 L150 0 0 ∧ T150.heap = h0 ∧ Fr n0 L150 ∧ ∀ t, Steps p.tables e below (T150.setTop (mkF m 28 #[.val (.ref x1), .val (.int (Int32.ofNat q_150)), .val (.int (Int32.ofNat i_143))] [])) t → Steps p.tables e below (s₁.setTop (entryFrame m #[(.ref x1)] 3)) t) ?_ n T143 _ h0 ⟨(by omega), (by omega), (fun j h1 h2 => absurd h2 (by omega)), X143, e143, N143, pre149⟩
      rintro q_150 T150 L150 h150 ⟨hq_150, hiq_150, hr_150, X150, e150, N150, pre150⟩ ih150
      have pre151 : ∀ t, Steps p.tables e below (T150.setTop (mkF m 30 #[.val (.ref x1), .val (.int (Int32.ofNat q_150)), .val (.int (Int32.ofNat i_143))] [(.int (Int32.ofNat q_150)), (.int (Int32.ofNat i_143))])) t → Steps p.tables e below (s₁.setTop (entryFrame m #[(.ref x1)] 3)) t := by
        intro t kt
        refine pre150 t ?_
        show Steps p.tables e below (T150.setTop (mkF m 28 #[.val (.ref x1), .val (.int (Int32.ofNat q_150)), .val (.int (Int32.ofNat i_143))] [])) _
        refine XS.iloadN X150.here hx rfl (hb hby d24_28) rfl ?_
        refine XS.iloadN X150.here hx rfl (hb hby d24_29) rfl ?_
        exact kt
      by_cases hc30 : (Int32.ofNat i_143) < (Int32.ofNat q_150)
      · skip
        have nf152 : (i_143 < q_150) := (own_lt (i := i_143) (n := q_150) (by omega) (by omega)).mp hc30
        have rn153 : ((Int32.ofNat q_150) - (1 : Int32)) = (Int32.ofNat (q_150 - 1)) := own_pred (by omega)
        obtain ⟨cl_a154, Ar_a154, -, S_a154, N_a154, H_a154, -⟩ := id V_x1
        obtain ⟨hin_a154, hat_a154⟩ := own_rd (j := (Int32.ofNat (q_150 - 1))) (i := (q_150 - 1)) S_a154 H_a154 rfl (by omega) (by omega)
        have rn155 : ((own_by (f (q_150 - 1))) &&& (255 : Int32)) = (f (q_150 - 1)) := own_b255 (hp _ (by omega))
        have pre156 : ∀ t, Steps p.tables e below (T150.setTop (mkF m 44 #[.val (.ref x1), .val (.int (Int32.ofNat q_150)), .val (.int (Int32.ofNat i_143))] [(.int (32 : Int32)), (.int (f (q_150 - 1)))])) t → Steps p.tables e below (s₁.setTop (entryFrame m #[(.ref x1)] 3)) t := by
          intro t kt
          refine pre151 t ?_
          show Steps p.tables e below (T150.setTop (mkF m 30 #[.val (.ref x1), .val (.int (Int32.ofNat q_150)), .val (.int (Int32.ofNat i_143))] [(.int (Int32.ofNat q_150)), (.int (Int32.ofNat i_143))])) _
          refine XS.icmpNo X150.here hx rfl (hb hby d24_30) rfl (tlt hc30).2.1 ?_
          refine XS.aloadN X150.here hx rfl (hb hby d24_33) rfl rfl ?_
          refine XS.iloadN X150.here hx rfl (hb hby d24_34) rfl ?_
          refine XS.iconst X150.here hx rfl (hb hby d24_35) ?_
          show Steps p.tables e below (T150.setTop (mkF m 36 #[.val (.ref x1), .val (.int (Int32.ofNat q_150)), .val (.int (Int32.ofNat i_143))] [(.int (1 : Int32)), (.int (Int32.ofNat q_150)), (.ref x1)])) _
          refine XS.isub X150.here hx rfl (hb hby d24_36) rfl ?_
          show Steps p.tables e below (T150.setTop (mkF m 37 #[.val (.ref x1), .val (.int (Int32.ofNat q_150)), .val (.int (Int32.ofNat i_143))] [(.int ((Int32.ofNat q_150) - (1 : Int32))), (.ref x1)])) _
          rw [rn153]
          show Steps p.tables e below (T150.setTop (mkF m 37 #[.val (.ref x1), .val (.int (Int32.ofNat q_150)), .val (.int (Int32.ofNat i_143))] [(.int (Int32.ofNat (q_150 - 1))), (.ref x1)])) _
          refine X150.baloadBytes hx (j := (Int32.ofNat (q_150 - 1))) (v := (.int (own_by (f (q_150 - 1))))) (by rw [e150]; exact Ar_a154.1) (State.isArrayOf_alike hZa.alike Ar_a154.2.1) Ar_a154.2.2 hin_a154 hat_a154 (g := (mkF m 37 #[.val (.ref x1), .val (.int (Int32.ofNat q_150)), .val (.int (Int32.ofNat i_143))] [(.int (Int32.ofNat (q_150 - 1))), (.ref x1)])) rfl rfl (hb hby d24_37) _ ?_
          refine XS.sipush X150.here hx rfl (hb hby d24_38) ?_
          refine XS.iand X150.here hx rfl (hb hby d24_41) rfl ?_
          show Steps p.tables e below (T150.setTop (mkF m 42 #[.val (.ref x1), .val (.int (Int32.ofNat q_150)), .val (.int (Int32.ofNat i_143))] [(.int ((own_by (f (q_150 - 1))) &&& (255 : Int32)))])) _
          rw [rn155]
          refine XS.bipush X150.here hx rfl (hb hby d24_42) ?_
          exact kt
        by_cases hc44 : (32 : Int32) < (f (q_150 - 1))
        · skip
          have tr157 : own_tr f n i_143 q_150 := ⟨by omega, by omega, hl_143, hr_150, Or.inl ⟨by omega, hc19, hc44⟩⟩
          have pre158 : ∀ t, Steps p.tables e below (T150.setTop (mkF m 54 #[.val (.ref x1), .val (.int (Int32.ofNat q_150)), .val (.int (Int32.ofNat i_143))] [(.int (Int32.ofNat i_143))])) t → Steps p.tables e below (s₁.setTop (entryFrame m #[(.ref x1)] 3)) t := by
            intro t kt
            refine pre156 t ?_
            show Steps p.tables e below (T150.setTop (mkF m 44 #[.val (.ref x1), .val (.int (Int32.ofNat q_150)), .val (.int (Int32.ofNat i_143))] [(.int (32 : Int32)), (.int (f (q_150 - 1)))])) _
            refine XS.icmpYes X150.here hx rfl (pc0 := 44) (pc' := 53) rfl (hb hby d24_44) rfl (tlt hc44).2.2.1 (by decide) (by decide) ?_
            refine XS.iloadN X150.here hx rfl (hb hby d24_53) rfl ?_
            exact kt
          by_cases hc54 : (0 : Int32) < (Int32.ofNat i_143)
          · skip
            have nf159 : (0 < i_143) := (own_lt (i := 0) (n := i_143) (by omega) (by omega)).mp hc54
            have rn160 : ((Int32.ofNat q_150) - (Int32.ofNat i_143)) = (Int32.ofNat (q_150 - i_143)) := own_sub (by omega)
            obtain ⟨_, _, ⟨T161, L161, k161, n161⟩, -, X161, hS161, hg161, ⟨Lc161, hQ161, l161, y161, z161, R161⟩, st161⟩ := callSS X150 hx (y := (⟨"java/lang/StringLatin1", "newString", "([BII)Ljava/lang/String;"⟩ : MethodName)) howna (mvT hZa (own_wd hw 165 rfl)) (mvT hZa (own_wd hw 94 rfl)) (mvT hZa (own_wd hw 65 rfl)) (mvT hZa (own_wd hw 95 rfl)) (by decide) (backOfSH (s := s) (vm0 := s.vm) (W := 0) (rm22 l Z a0 hw [] x1 ks f n i_143 (q_150 - i_143) h0 n0 Z0 O0 V_x1 (by omega) (by omega) (own_strict hwh tr157)) hZa (own_wd hw 95 rfl) (own_wd hw 65 rfl) (by decide) (by decide) (own_EW hw) CH0) (g := (mkF m 68 #[.val (.ref x1), .val (.int (Int32.ofNat q_150)), .val (.int (Int32.ofNat i_143))] [(.int (Int32.ofNat (q_150 - i_143))), (.int (Int32.ofNat i_143)), (.ref x1)])) rfl (by rw [hml]; rfl) (argsL := [(.ref x1), (.int (Int32.ofNat i_143)), (.int (Int32.ofNat (q_150 - i_143)))]) (rest := []) (lenOf pd_11 rfl) rfl (by show 2 * 0 + _ ≤ _; exact Nat.le_of_eq rfl) (hb hby d24_68) (fun _ _ => ⟨rfl, e150, (by decide : 0 + 2 ≤ _), (by decide : 0 + 28 ≤ _)⟩)
            dsimp only [Pt.U, Pt.locs, Pt.cells, Pt.slots] at X161 l161 y161 z161 st161 hQ161 hS161 hg161 R161
            subst l161 y161 z161
            obtain ⟨X161, hS161, hZ161, hown161⟩ := rebS hS0 hk0 X161 hS161 (by rw [← e150]; exact hg161) hZa howna
            obtain ⟨b_161, t_161, kk_161, rfl, N161q, KK161, Q161_0, Q161_1, Q161_2, Q161_3⟩ := hQ161
            have N161 := Fr.app N150 N161q
            have O161 : Old Z n0 T161.heap := O0.keep KK161 all0
            have Z161 : n0 ≤ T161.heap.size := Nat.le_trans Z0 KK161.1
            have K161 : Keep h0 T161.heap [] := K0.trans KK161 all0
            have CH161 : CHv Z own_EL T161.vm T161.heap := R161.1
            have CR161 : CHr Z own_EL s.vm h0 T161.vm T161.heap := CR0.trans R161
            obtain ⟨fs, hr, hrun, hended, hW, hsame⟩ := X161.leave (v := some (.ref b_161)) (fun h => by rw [Bd.returns] at h; cases h)
            have hend := hS161.ended hW (show _ ≤ T161.heap.size from (Nat.le_refl _)) hsame
            have hcr : CHr Z own_EL s.vm s.heap T161.vm T161.heap := by
              rw [hh]
              exact CR161.trans (CHv.at X161 hZ161 (own_EW hw) CH161)
            refine ⟨_, _, pre158 _ ?_, hrun, hended, _, _, rfl, ?_, hcr, ⟨_, rfl⟩, hend.1, hend.2.1, hend.2.2.mono (by decide) (by decide)⟩
            · show Steps p.tables e below (T150.setTop (mkF m 54 #[.val (.ref x1), .val (.int (Int32.ofNat q_150)), .val (.int (Int32.ofNat i_143))] [(.int (Int32.ofNat i_143))])) _
              refine XS.ifYes X150.here hx rfl (pc0 := 54) (pc' := 63) rfl (hb hby d24_54) rfl ((if0 _ _).trans (tlt hc54).2.2.1) (by decide) (by decide) ?_
              refine XS.aloadN X150.here hx rfl (hb hby d24_63) rfl rfl ?_
              refine XS.iloadN X150.here hx rfl (hb hby d24_64) rfl ?_
              refine XS.iloadN X150.here hx rfl (hb hby d24_65) rfl ?_
              refine XS.iloadN X150.here hx rfl (hb hby d24_66) rfl ?_
              refine XS.isub X150.here hx rfl (hb hby d24_67) rfl ?_
              show Steps p.tables e below (T150.setTop (mkF m 68 #[.val (.ref x1), .val (.int (Int32.ofNat q_150)), .val (.int (Int32.ofNat i_143))] [(.int ((Int32.ofNat q_150) - (Int32.ofNat i_143))), (.int (Int32.ofNat i_143)), (.ref x1)])) _
              rw [rn160]
              show Steps p.tables e below (T150.setTop (mkF m 68 #[.val (.ref x1), .val (.int (Int32.ofNat q_150)), .val (.int (Int32.ofNat i_143))] [(.int (Int32.ofNat (q_150 - i_143))), (.int (Int32.ofNat i_143)), (.ref x1)])) _
              refine st161.trans ?_
              show Steps p.tables e below (T161.setTop (mkF m 71 #[.val (.ref x1), .val (.int (Int32.ofNat q_150)), .val (.int (Int32.ofNat i_143))] [(.ref b_161)])) _
              refine XS.goto X161.here hx rfl (pc0 := 71) (pc' := 75) rfl (hb hby d24_71) (by decide) (by decide) ?_
              show Steps p.tables e below (T161.setTop (mkF m 75 #[.val (.ref x1), .val (.int (Int32.ofNat q_150)), .val (.int (Int32.ofNat i_143))] [(.ref b_161)])) _
              jvm_step X161.here [X161.here.top, hx, (hb hby d24_75), X161.method', Bd.returns, Value.isRef, FieldType.isReference]
              first | (intro acts; rw [hr _ acts rfl rfl rfl]) | rw [hr _ _ rfl rfl rfl]
              exact Steps.refl _
            · show Q24_b Z x1 ks f n h0 n0 _ T161.heap _
              exact ⟨b_161, t_161, kk_161, i_143, q_150, rfl, N161, K161, Q161_0, Q161_1, Q161_2, Q161_3, tr157⟩
          · skip
            have nf162 : ¬ (0 < i_143) := fun q => hc54 ((own_lt (i := 0) (n := i_143) (by omega) (by omega)).mpr q)
            obtain ⟨cl_a163, Ar_a163, -, S_a163, N_a163, -, -⟩ := id V_x1
            have pre164 : ∀ t, Steps p.tables e below (T150.setTop (mkF m 60 #[.val (.ref x1), .val (.int (Int32.ofNat q_150)), .val (.int (Int32.ofNat i_143))] [(.int (Int32.ofNat n)), (.int (Int32.ofNat q_150))])) t → Steps p.tables e below (s₁.setTop (entryFrame m #[(.ref x1)] 3)) t := by
              intro t kt
              refine pre158 t ?_
              show Steps p.tables e below (T150.setTop (mkF m 54 #[.val (.ref x1), .val (.int (Int32.ofNat q_150)), .val (.int (Int32.ofNat i_143))] [(.int (Int32.ofNat i_143))])) _
              refine XS.ifNo X150.here hx rfl (hb hby d24_54) rfl ((if0 _ _).trans (flt hc54).2.2.1) ?_
              refine XS.iloadN X150.here hx rfl (hb hby d24_57) rfl ?_
              refine XS.aloadN X150.here hx rfl (hb hby d24_58) rfl rfl ?_
              show Steps p.tables e below (T150.setTop (mkF m 59 #[.val (.ref x1), .val (.int (Int32.ofNat q_150)), .val (.int (Int32.ofNat i_143))] [(.ref x1), (.int (Int32.ofNat q_150))])) _
              refine X150.arraylength hx (by rw [e150]; exact Ar_a163.1) (State.isArrayOf_alike hZa.alike Ar_a163.2.1) (g := (mkF m 59 #[.val (.ref x1), .val (.int (Int32.ofNat q_150)), .val (.int (Int32.ofNat i_143))] [(.ref x1), (.int (Int32.ofNat q_150))])) rfl rfl (hb hby d24_59) _ ?_
              rw [len_of S_a163 N_a163]
              exact kt
            by_cases hc60 : (Int32.ofNat q_150) < (Int32.ofNat n)
            · skip
              have nf165 : (q_150 < n) := (own_lt (i := q_150) (n := n) (by omega) (by omega)).mp hc60
              have rn166 : ((Int32.ofNat q_150) - (Int32.ofNat i_143)) = (Int32.ofNat (q_150 - i_143)) := own_sub (by omega)
              obtain ⟨_, _, ⟨T167, L167, k167, n167⟩, -, X167, hS167, hg167, ⟨Lc167, hQ167, l167, y167, z167, R167⟩, st167⟩ := callSS X150 hx (y := (⟨"java/lang/StringLatin1", "newString", "([BII)Ljava/lang/String;"⟩ : MethodName)) howna (mvT hZa (own_wd hw 165 rfl)) (mvT hZa (own_wd hw 94 rfl)) (mvT hZa (own_wd hw 65 rfl)) (mvT hZa (own_wd hw 95 rfl)) (by decide) (backOfSH (s := s) (vm0 := s.vm) (W := 0) (rm22 l Z a0 hw [] x1 ks f n i_143 (q_150 - i_143) h0 n0 Z0 O0 V_x1 (by omega) (by omega) (own_strict hwh tr157)) hZa (own_wd hw 95 rfl) (own_wd hw 65 rfl) (by decide) (by decide) (own_EW hw) CH0) (g := (mkF m 68 #[.val (.ref x1), .val (.int (Int32.ofNat q_150)), .val (.int (Int32.ofNat i_143))] [(.int (Int32.ofNat (q_150 - i_143))), (.int (Int32.ofNat i_143)), (.ref x1)])) rfl (by rw [hml]; rfl) (argsL := [(.ref x1), (.int (Int32.ofNat i_143)), (.int (Int32.ofNat (q_150 - i_143)))]) (rest := []) (lenOf pd_11 rfl) rfl (by show 2 * 0 + _ ≤ _; exact Nat.le_of_eq rfl) (hb hby d24_68) (fun _ _ => ⟨rfl, e150, (by decide : 0 + 2 ≤ _), (by decide : 0 + 28 ≤ _)⟩)
              dsimp only [Pt.U, Pt.locs, Pt.cells, Pt.slots] at X167 l167 y167 z167 st167 hQ167 hS167 hg167 R167
              subst l167 y167 z167
              obtain ⟨X167, hS167, hZ167, hown167⟩ := rebS hS0 hk0 X167 hS167 (by rw [← e150]; exact hg167) hZa howna
              obtain ⟨b_167, t_167, kk_167, rfl, N167q, KK167, Q167_0, Q167_1, Q167_2, Q167_3⟩ := hQ167
              have N167 := Fr.app N150 N167q
              have O167 : Old Z n0 T167.heap := O0.keep KK167 all0
              have Z167 : n0 ≤ T167.heap.size := Nat.le_trans Z0 KK167.1
              have K167 : Keep h0 T167.heap [] := K0.trans KK167 all0
              have CH167 : CHv Z own_EL T167.vm T167.heap := R167.1
              have CR167 : CHr Z own_EL s.vm h0 T167.vm T167.heap := CR0.trans R167
              obtain ⟨fs, hr, hrun, hended, hW, hsame⟩ := X167.leave (v := some (.ref b_167)) (fun h => by rw [Bd.returns] at h; cases h)
              have hend := hS167.ended hW (show _ ≤ T167.heap.size from (Nat.le_refl _)) hsame
              have hcr : CHr Z own_EL s.vm s.heap T167.vm T167.heap := by
                rw [hh]
                exact CR167.trans (CHv.at X167 hZ167 (own_EW hw) CH167)
              refine ⟨_, _, pre164 _ ?_, hrun, hended, _, _, rfl, ?_, hcr, ⟨_, rfl⟩, hend.1, hend.2.1, hend.2.2.mono (by decide) (by decide)⟩
              · show Steps p.tables e below (T150.setTop (mkF m 60 #[.val (.ref x1), .val (.int (Int32.ofNat q_150)), .val (.int (Int32.ofNat i_143))] [(.int (Int32.ofNat n)), (.int (Int32.ofNat q_150))])) _
                refine XS.icmpNo X150.here hx rfl (hb hby d24_60) rfl (tlt hc60).2.1 ?_
                refine XS.aloadN X150.here hx rfl (hb hby d24_63) rfl rfl ?_
                refine XS.iloadN X150.here hx rfl (hb hby d24_64) rfl ?_
                refine XS.iloadN X150.here hx rfl (hb hby d24_65) rfl ?_
                refine XS.iloadN X150.here hx rfl (hb hby d24_66) rfl ?_
                show Steps p.tables e below (T150.setTop (mkF m 67 #[.val (.ref x1), .val (.int (Int32.ofNat q_150)), .val (.int (Int32.ofNat i_143))] [(.int (Int32.ofNat i_143)), (.int (Int32.ofNat q_150)), (.int (Int32.ofNat i_143)), (.ref x1)])) _
                refine XS.isub X150.here hx rfl (hb hby d24_67) rfl ?_
                show Steps p.tables e below (T150.setTop (mkF m 68 #[.val (.ref x1), .val (.int (Int32.ofNat q_150)), .val (.int (Int32.ofNat i_143))] [(.int ((Int32.ofNat q_150) - (Int32.ofNat i_143))), (.int (Int32.ofNat i_143)), (.ref x1)])) _
                rw [rn166]
                show Steps p.tables e below (T150.setTop (mkF m 68 #[.val (.ref x1), .val (.int (Int32.ofNat q_150)), .val (.int (Int32.ofNat i_143))] [(.int (Int32.ofNat (q_150 - i_143))), (.int (Int32.ofNat i_143)), (.ref x1)])) _
                refine st167.trans ?_
                show Steps p.tables e below (T167.setTop (mkF m 71 #[.val (.ref x1), .val (.int (Int32.ofNat q_150)), .val (.int (Int32.ofNat i_143))] [(.ref b_167)])) _
                refine XS.goto X167.here hx rfl (pc0 := 71) (pc' := 75) rfl (hb hby d24_71) (by decide) (by decide) ?_
                show Steps p.tables e below (T167.setTop (mkF m 75 #[.val (.ref x1), .val (.int (Int32.ofNat q_150)), .val (.int (Int32.ofNat i_143))] [(.ref b_167)])) _
                jvm_step X167.here [X167.here.top, hx, (hb hby d24_75), X167.method', Bd.returns, Value.isRef, FieldType.isReference]
                first | (intro acts; rw [hr _ acts rfl rfl rfl]) | rw [hr _ _ rfl rfl rfl]
                exact Steps.refl _
              · show Q24_b Z x1 ks f n h0 n0 _ T167.heap _
                exact ⟨b_167, t_167, kk_167, i_143, q_150, rfl, N167, K167, Q167_0, Q167_1, Q167_2, Q167_3, tr157⟩
            · skip
              have nf168 : ¬ (q_150 < n) := fun q => hc60 ((own_lt (i := q_150) (n := n) (by omega) (by omega)).mpr q)
              exact False.elim (hwh (own_tr_whole (by have q := tr157; rw [show i_143 = 0 by omega, show q_150 = n by omega] at q; exact q)))
        · skip
          have pre169 : ∀ t, Steps p.tables e below (T150.setTop (mkF m 28 #[.val (.ref x1), .val (.int ((Int32.ofNat q_150) + (-1 : Int32))), .val (.int (Int32.ofNat i_143))] [])) t → Steps p.tables e below (s₁.setTop (entryFrame m #[(.ref x1)] 3)) t := by
            intro t kt
            refine pre156 t ?_
            show Steps p.tables e below (T150.setTop (mkF m 44 #[.val (.ref x1), .val (.int (Int32.ofNat q_150)), .val (.int (Int32.ofNat i_143))] [(.int (32 : Int32)), (.int (f (q_150 - 1)))])) _
            refine XS.icmpNo X150.here hx rfl (hb hby d24_44) rfl (flt hc44).2.2.1 ?_
            refine XS.iinc X150.here hx rfl (hb hby d24_47) rfl (l' := #[.val (.ref x1), .val (.int ((Int32.ofNat q_150) + (-1 : Int32))), .val (.int (Int32.ofNat i_143))]) rfl ?_
            show Steps p.tables e below (T150.setTop (mkF m 50 #[.val (.ref x1), .val (.int ((Int32.ofNat q_150) + (-1 : Int32))), .val (.int (Int32.ofNat i_143))] [])) _
            refine XS.goto X150.here hx rfl (pc0 := 50) (pc' := 28) rfl (hb hby d24_50) (by decide) (by decide) ?_
            exact kt
          exact ih150 (q_150 - 1) T150 _ h0 (by omega) ⟨(by omega), (by omega), (own_allr hr_150 (by omega) hc44), X150, e150, N150, (fun t kt => pre169 t (by rw [own_predm (by omega)]; exact kt))⟩
      · skip
        have nf170 : ¬ (i_143 < q_150) := fun q => hc30 ((own_lt (i := i_143) (n := q_150) (by omega) (by omega)).mpr q)
        exact absurd hc19 (hr_150 i_143 (by omega) (by omega))
    · skip
      have pre172 : ∀ t, Steps p.tables e below (T143.setTop (mkF m 5 #[.val (.ref x1), .val (.int (Int32.ofNat n)), .val (.int ((Int32.ofNat i_143) + (1 : Int32)))] [])) t → Steps p.tables e below (s₁.setTop (entryFrame m #[(.ref x1)] 3)) t := by
        intro t kt
        refine pre148 t ?_
        show Steps p.tables e below (T143.setTop (mkF m 19 #[.val (.ref x1), .val (.int (Int32.ofNat n)), .val (.int (Int32.ofNat i_143))] [(.int (32 : Int32)), (.int (f i_143))])) _
        refine XS.icmpNo X143.here hx rfl (hb hby d24_19) rfl (flt hc19).2.2.1 ?_
        refine XS.iinc X143.here hx rfl (hb hby d24_22) rfl (l' := #[.val (.ref x1), .val (.int (Int32.ofNat n)), .val (.int ((Int32.ofNat i_143) + (1 : Int32)))]) rfl ?_
        show Steps p.tables e below (T143.setTop (mkF m 25 #[.val (.ref x1), .val (.int (Int32.ofNat n)), .val (.int ((Int32.ofNat i_143) + (1 : Int32)))] [])) _
        refine XS.goto X143.here hx rfl (pc0 := 25) (pc' := 5) rfl (hb hby d24_25) (by decide) (by decide) ?_
        exact kt
      exact ih143 (i_143 + 1) T143 _ h0 (by omega) ⟨(by omega), (own_all hl_143 hc19), X143, e143, N143, (fun t kt => pre172 t (by rw [own_one]; exact kt))⟩
  · skip
    have nf173 : ¬ (i_143 < n) := fun q => hc7 ((own_lt (i := i_143) (n := n) (by omega) (by omega)).mpr q)
    have pre174 : ∀ t, Steps p.tables e below (T143.setTop (mkF m 28 #[.val (.ref x1), .val (.int (Int32.ofNat n)), .val (.int (Int32.ofNat i_143))] [])) t → Steps p.tables e below (s₁.setTop (entryFrame m #[(.ref x1)] 3)) t := by
      intro t kt
      refine pre144 t ?_
      show Steps p.tables e below (T143.setTop (mkF m 7 #[.val (.ref x1), .val (.int (Int32.ofNat n)), .val (.int (Int32.ofNat i_143))] [(.int (Int32.ofNat n)), (.int (Int32.ofNat i_143))])) _
      refine XS.icmpYes X143.here hx rfl (pc0 := 7) (pc' := 28) rfl (hb hby d24_7) rfl (flt hc7).2.1 (by decide) (by decide) ?_
      exact kt
    refine own_ind (A := Nat) (fun q_175 => q_175) (fun q_175 T175 L175 h175 => (q_175 ≤ n) ∧ (i_143 ≤ q_175) ∧ (∀ j, q_175 ≤ j → j < n → ¬ (32 : Int32) < f j) ∧ Stand p l e ({ frames := 4, cells := 2, slots := 28, locals := 64 } : Room) (s.setVm s.vm) m #[(.ref x1)] below meth c T175 L175 0 0 ∧ T175.heap = h0 ∧ Fr n0 L175 ∧ ∀ t, Steps p.tables e below (T175.setTop (mkF m 28 #[.val (.ref x1), .val (.int (Int32.ofNat q_175)), .val (.int (Int32.ofNat i_143))] [])) t → Steps p.tables e below (s₁.setTop (entryFrame m #[(.ref x1)] 3)) t) ?_ n T143 _ h0 ⟨(by omega), (by omega), (fun j h1 h2 => absurd h2 (by omega)), X143, e143, N143, pre174⟩
    rintro q_175 T175 L175 h175 ⟨hq_175, hiq_175, hr_175, X175, e175, N175, pre175⟩ ih175
    have pre176 : ∀ t, Steps p.tables e below (T175.setTop (mkF m 30 #[.val (.ref x1), .val (.int (Int32.ofNat q_175)), .val (.int (Int32.ofNat i_143))] [(.int (Int32.ofNat q_175)), (.int (Int32.ofNat i_143))])) t → Steps p.tables e below (s₁.setTop (entryFrame m #[(.ref x1)] 3)) t := by
      intro t kt
      refine pre175 t ?_
      show Steps p.tables e below (T175.setTop (mkF m 28 #[.val (.ref x1), .val (.int (Int32.ofNat q_175)), .val (.int (Int32.ofNat i_143))] [])) _
      refine XS.iloadN X175.here hx rfl (hb hby d24_28) rfl ?_
      refine XS.iloadN X175.here hx rfl (hb hby d24_29) rfl ?_
      exact kt
    by_cases hc30 : (Int32.ofNat i_143) < (Int32.ofNat q_175)
    · skip
      have nf177 : (i_143 < q_175) := (own_lt (i := i_143) (n := q_175) (by omega) (by omega)).mp hc30
      have rn178 : ((Int32.ofNat q_175) - (1 : Int32)) = (Int32.ofNat (q_175 - 1)) := own_pred (by omega)
      obtain ⟨cl_a179, Ar_a179, -, S_a179, N_a179, H_a179, -⟩ := id V_x1
      obtain ⟨hin_a179, hat_a179⟩ := own_rd (j := (Int32.ofNat (q_175 - 1))) (i := (q_175 - 1)) S_a179 H_a179 rfl (by omega) (by omega)
      have rn180 : ((own_by (f (q_175 - 1))) &&& (255 : Int32)) = (f (q_175 - 1)) := own_b255 (hp _ (by omega))
      have pre181 : ∀ t, Steps p.tables e below (T175.setTop (mkF m 44 #[.val (.ref x1), .val (.int (Int32.ofNat q_175)), .val (.int (Int32.ofNat i_143))] [(.int (32 : Int32)), (.int (f (q_175 - 1)))])) t → Steps p.tables e below (s₁.setTop (entryFrame m #[(.ref x1)] 3)) t := by
        intro t kt
        refine pre176 t ?_
        show Steps p.tables e below (T175.setTop (mkF m 30 #[.val (.ref x1), .val (.int (Int32.ofNat q_175)), .val (.int (Int32.ofNat i_143))] [(.int (Int32.ofNat q_175)), (.int (Int32.ofNat i_143))])) _
        refine XS.icmpNo X175.here hx rfl (hb hby d24_30) rfl (tlt hc30).2.1 ?_
        refine XS.aloadN X175.here hx rfl (hb hby d24_33) rfl rfl ?_
        refine XS.iloadN X175.here hx rfl (hb hby d24_34) rfl ?_
        refine XS.iconst X175.here hx rfl (hb hby d24_35) ?_
        show Steps p.tables e below (T175.setTop (mkF m 36 #[.val (.ref x1), .val (.int (Int32.ofNat q_175)), .val (.int (Int32.ofNat i_143))] [(.int (1 : Int32)), (.int (Int32.ofNat q_175)), (.ref x1)])) _
        refine XS.isub X175.here hx rfl (hb hby d24_36) rfl ?_
        show Steps p.tables e below (T175.setTop (mkF m 37 #[.val (.ref x1), .val (.int (Int32.ofNat q_175)), .val (.int (Int32.ofNat i_143))] [(.int ((Int32.ofNat q_175) - (1 : Int32))), (.ref x1)])) _
        rw [rn178]
        show Steps p.tables e below (T175.setTop (mkF m 37 #[.val (.ref x1), .val (.int (Int32.ofNat q_175)), .val (.int (Int32.ofNat i_143))] [(.int (Int32.ofNat (q_175 - 1))), (.ref x1)])) _
        refine X175.baloadBytes hx (j := (Int32.ofNat (q_175 - 1))) (v := (.int (own_by (f (q_175 - 1))))) (by rw [e175]; exact Ar_a179.1) (State.isArrayOf_alike hZa.alike Ar_a179.2.1) Ar_a179.2.2 hin_a179 hat_a179 (g := (mkF m 37 #[.val (.ref x1), .val (.int (Int32.ofNat q_175)), .val (.int (Int32.ofNat i_143))] [(.int (Int32.ofNat (q_175 - 1))), (.ref x1)])) rfl rfl (hb hby d24_37) _ ?_
        refine XS.sipush X175.here hx rfl (hb hby d24_38) ?_
        refine XS.iand X175.here hx rfl (hb hby d24_41) rfl ?_
        show Steps p.tables e below (T175.setTop (mkF m 42 #[.val (.ref x1), .val (.int (Int32.ofNat q_175)), .val (.int (Int32.ofNat i_143))] [(.int ((own_by (f (q_175 - 1))) &&& (255 : Int32)))])) _
        rw [rn180]
        refine XS.bipush X175.here hx rfl (hb hby d24_42) ?_
        exact kt
      by_cases hc44 : (32 : Int32) < (f (q_175 - 1))
      · skip
        exact False.elim (by omega)
      · skip
        have pre183 : ∀ t, Steps p.tables e below (T175.setTop (mkF m 28 #[.val (.ref x1), .val (.int ((Int32.ofNat q_175) + (-1 : Int32))), .val (.int (Int32.ofNat i_143))] [])) t → Steps p.tables e below (s₁.setTop (entryFrame m #[(.ref x1)] 3)) t := by
          intro t kt
          refine pre181 t ?_
          show Steps p.tables e below (T175.setTop (mkF m 44 #[.val (.ref x1), .val (.int (Int32.ofNat q_175)), .val (.int (Int32.ofNat i_143))] [(.int (32 : Int32)), (.int (f (q_175 - 1)))])) _
          refine XS.icmpNo X175.here hx rfl (hb hby d24_44) rfl (flt hc44).2.2.1 ?_
          refine XS.iinc X175.here hx rfl (hb hby d24_47) rfl (l' := #[.val (.ref x1), .val (.int ((Int32.ofNat q_175) + (-1 : Int32))), .val (.int (Int32.ofNat i_143))]) rfl ?_
          show Steps p.tables e below (T175.setTop (mkF m 50 #[.val (.ref x1), .val (.int ((Int32.ofNat q_175) + (-1 : Int32))), .val (.int (Int32.ofNat i_143))] [])) _
          refine XS.goto X175.here hx rfl (pc0 := 50) (pc' := 28) rfl (hb hby d24_50) (by decide) (by decide) ?_
          exact kt
        exact ih175 (q_175 - 1) T175 _ h0 (by omega) ⟨(by omega), (by omega), (own_allr hr_175 (by omega) hc44), X175, e175, N175, (fun t kt => pre183 t (by rw [own_predm (by omega)]; exact kt))⟩
    · skip
      have nf184 : ¬ (i_143 < q_175) := fun q => hc30 ((own_lt (i := i_143) (n := q_175) (by omega) (by omega)).mpr q)
      have tr185 : own_tr f n i_143 q_175 := ⟨by omega, by omega, hl_143, hr_175, Or.inr ⟨by omega, by omega⟩⟩
      have pre186 : ∀ t, Steps p.tables e below (T175.setTop (mkF m 54 #[.val (.ref x1), .val (.int (Int32.ofNat q_175)), .val (.int (Int32.ofNat i_143))] [(.int (Int32.ofNat i_143))])) t → Steps p.tables e below (s₁.setTop (entryFrame m #[(.ref x1)] 3)) t := by
        intro t kt
        refine pre176 t ?_
        show Steps p.tables e below (T175.setTop (mkF m 30 #[.val (.ref x1), .val (.int (Int32.ofNat q_175)), .val (.int (Int32.ofNat i_143))] [(.int (Int32.ofNat q_175)), (.int (Int32.ofNat i_143))])) _
        refine XS.icmpYes X175.here hx rfl (pc0 := 30) (pc' := 53) rfl (hb hby d24_30) rfl (flt hc30).2.1 (by decide) (by decide) ?_
        refine XS.iloadN X175.here hx rfl (hb hby d24_53) rfl ?_
        exact kt
      by_cases hc54 : (0 : Int32) < (Int32.ofNat i_143)
      · skip
        have nf187 : (0 < i_143) := (own_lt (i := 0) (n := i_143) (by omega) (by omega)).mp hc54
        have rn188 : ((Int32.ofNat q_175) - (Int32.ofNat i_143)) = (Int32.ofNat (q_175 - i_143)) := own_sub (by omega)
        obtain ⟨_, _, ⟨T189, L189, k189, n189⟩, -, X189, hS189, hg189, ⟨Lc189, hQ189, l189, y189, z189, R189⟩, st189⟩ := callSS X175 hx (y := (⟨"java/lang/StringLatin1", "newString", "([BII)Ljava/lang/String;"⟩ : MethodName)) howna (mvT hZa (own_wd hw 165 rfl)) (mvT hZa (own_wd hw 94 rfl)) (mvT hZa (own_wd hw 65 rfl)) (mvT hZa (own_wd hw 95 rfl)) (by decide) (backOfSH (s := s) (vm0 := s.vm) (W := 0) (rm22 l Z a0 hw [] x1 ks f n i_143 (q_175 - i_143) h0 n0 Z0 O0 V_x1 (by omega) (by omega) (own_strict hwh tr185)) hZa (own_wd hw 95 rfl) (own_wd hw 65 rfl) (by decide) (by decide) (own_EW hw) CH0) (g := (mkF m 68 #[.val (.ref x1), .val (.int (Int32.ofNat q_175)), .val (.int (Int32.ofNat i_143))] [(.int (Int32.ofNat (q_175 - i_143))), (.int (Int32.ofNat i_143)), (.ref x1)])) rfl (by rw [hml]; rfl) (argsL := [(.ref x1), (.int (Int32.ofNat i_143)), (.int (Int32.ofNat (q_175 - i_143)))]) (rest := []) (lenOf pd_11 rfl) rfl (by show 2 * 0 + _ ≤ _; exact Nat.le_of_eq rfl) (hb hby d24_68) (fun _ _ => ⟨rfl, e175, (by decide : 0 + 2 ≤ _), (by decide : 0 + 28 ≤ _)⟩)
        dsimp only [Pt.U, Pt.locs, Pt.cells, Pt.slots] at X189 l189 y189 z189 st189 hQ189 hS189 hg189 R189
        subst l189 y189 z189
        obtain ⟨X189, hS189, hZ189, hown189⟩ := rebS hS0 hk0 X189 hS189 (by rw [← e175]; exact hg189) hZa howna
        obtain ⟨b_189, t_189, kk_189, rfl, N189q, KK189, Q189_0, Q189_1, Q189_2, Q189_3⟩ := hQ189
        have N189 := Fr.app N175 N189q
        have O189 : Old Z n0 T189.heap := O0.keep KK189 all0
        have Z189 : n0 ≤ T189.heap.size := Nat.le_trans Z0 KK189.1
        have K189 : Keep h0 T189.heap [] := K0.trans KK189 all0
        have CH189 : CHv Z own_EL T189.vm T189.heap := R189.1
        have CR189 : CHr Z own_EL s.vm h0 T189.vm T189.heap := CR0.trans R189
        obtain ⟨fs, hr, hrun, hended, hW, hsame⟩ := X189.leave (v := some (.ref b_189)) (fun h => by rw [Bd.returns] at h; cases h)
        have hend := hS189.ended hW (show _ ≤ T189.heap.size from (Nat.le_refl _)) hsame
        have hcr : CHr Z own_EL s.vm s.heap T189.vm T189.heap := by
          rw [hh]
          exact CR189.trans (CHv.at X189 hZ189 (own_EW hw) CH189)
        refine ⟨_, _, pre186 _ ?_, hrun, hended, _, _, rfl, ?_, hcr, ⟨_, rfl⟩, hend.1, hend.2.1, hend.2.2.mono (by decide) (by decide)⟩
        · show Steps p.tables e below (T175.setTop (mkF m 54 #[.val (.ref x1), .val (.int (Int32.ofNat q_175)), .val (.int (Int32.ofNat i_143))] [(.int (Int32.ofNat i_143))])) _
          refine XS.ifYes X175.here hx rfl (pc0 := 54) (pc' := 63) rfl (hb hby d24_54) rfl ((if0 _ _).trans (tlt hc54).2.2.1) (by decide) (by decide) ?_
          refine XS.aloadN X175.here hx rfl (hb hby d24_63) rfl rfl ?_
          show Steps p.tables e below (T175.setTop (mkF m 64 #[.val (.ref x1), .val (.int (Int32.ofNat q_175)), .val (.int (Int32.ofNat i_143))] [(.ref x1)])) _
          refine XS.iloadN X175.here hx rfl (hb hby d24_64) rfl ?_
          refine XS.iloadN X175.here hx rfl (hb hby d24_65) rfl ?_
          refine XS.iloadN X175.here hx rfl (hb hby d24_66) rfl ?_
          refine XS.isub X175.here hx rfl (hb hby d24_67) rfl ?_
          show Steps p.tables e below (T175.setTop (mkF m 68 #[.val (.ref x1), .val (.int (Int32.ofNat q_175)), .val (.int (Int32.ofNat i_143))] [(.int ((Int32.ofNat q_175) - (Int32.ofNat i_143))), (.int (Int32.ofNat i_143)), (.ref x1)])) _
          rw [rn188]
          show Steps p.tables e below (T175.setTop (mkF m 68 #[.val (.ref x1), .val (.int (Int32.ofNat q_175)), .val (.int (Int32.ofNat i_143))] [(.int (Int32.ofNat (q_175 - i_143))), (.int (Int32.ofNat i_143)), (.ref x1)])) _
          refine st189.trans ?_
          show Steps p.tables e below (T189.setTop (mkF m 71 #[.val (.ref x1), .val (.int (Int32.ofNat q_175)), .val (.int (Int32.ofNat i_143))] [(.ref b_189)])) _
          refine XS.goto X189.here hx rfl (pc0 := 71) (pc' := 75) rfl (hb hby d24_71) (by decide) (by decide) ?_
          show Steps p.tables e below (T189.setTop (mkF m 75 #[.val (.ref x1), .val (.int (Int32.ofNat q_175)), .val (.int (Int32.ofNat i_143))] [(.ref b_189)])) _
          jvm_step X189.here [X189.here.top, hx, (hb hby d24_75), X189.method', Bd.returns, Value.isRef, FieldType.isReference]
          first | (intro acts; rw [hr _ acts rfl rfl rfl]) | rw [hr _ _ rfl rfl rfl]
          exact Steps.refl _
        · show Q24_b Z x1 ks f n h0 n0 _ T189.heap _
          exact ⟨b_189, t_189, kk_189, i_143, q_175, rfl, N189, K189, Q189_0, Q189_1, Q189_2, Q189_3, tr185⟩
      · skip
        have nf190 : ¬ (0 < i_143) := fun q => hc54 ((own_lt (i := 0) (n := i_143) (by omega) (by omega)).mpr q)
        obtain ⟨cl_a191, Ar_a191, -, S_a191, N_a191, -, -⟩ := id V_x1
        have pre192 : ∀ t, Steps p.tables e below (T175.setTop (mkF m 60 #[.val (.ref x1), .val (.int (Int32.ofNat q_175)), .val (.int (Int32.ofNat i_143))] [(.int (Int32.ofNat n)), (.int (Int32.ofNat q_175))])) t → Steps p.tables e below (s₁.setTop (entryFrame m #[(.ref x1)] 3)) t := by
          intro t kt
          refine pre186 t ?_
          show Steps p.tables e below (T175.setTop (mkF m 54 #[.val (.ref x1), .val (.int (Int32.ofNat q_175)), .val (.int (Int32.ofNat i_143))] [(.int (Int32.ofNat i_143))])) _
          refine XS.ifNo X175.here hx rfl (hb hby d24_54) rfl ((if0 _ _).trans (flt hc54).2.2.1) ?_
          refine XS.iloadN X175.here hx rfl (hb hby d24_57) rfl ?_
          show Steps p.tables e below (T175.setTop (mkF m 58 #[.val (.ref x1), .val (.int (Int32.ofNat q_175)), .val (.int (Int32.ofNat i_143))] [(.int (Int32.ofNat q_175))])) _
          refine XS.aloadN X175.here hx rfl (hb hby d24_58) rfl rfl ?_
          show Steps p.tables e below (T175.setTop (mkF m 59 #[.val (.ref x1), .val (.int (Int32.ofNat q_175)), .val (.int (Int32.ofNat i_143))] [(.ref x1), (.int (Int32.ofNat q_175))])) _
          refine X175.arraylength hx (by rw [e175]; exact Ar_a191.1) (State.isArrayOf_alike hZa.alike Ar_a191.2.1) (g := (mkF m 59 #[.val (.ref x1), .val (.int (Int32.ofNat q_175)), .val (.int (Int32.ofNat i_143))] [(.ref x1), (.int (Int32.ofNat q_175))])) rfl rfl (hb hby d24_59) _ ?_
          rw [len_of S_a191 N_a191]
          exact kt
        by_cases hc60 : (Int32.ofNat q_175) < (Int32.ofNat n)
        · skip
          have nf193 : (q_175 < n) := (own_lt (i := q_175) (n := n) (by omega) (by omega)).mp hc60
          have rn194 : ((Int32.ofNat q_175) - (Int32.ofNat i_143)) = (Int32.ofNat (q_175 - i_143)) := own_sub (by omega)
          obtain ⟨_, _, ⟨T195, L195, k195, n195⟩, -, X195, hS195, hg195, ⟨Lc195, hQ195, l195, y195, z195, R195⟩, st195⟩ := callSS X175 hx (y := (⟨"java/lang/StringLatin1", "newString", "([BII)Ljava/lang/String;"⟩ : MethodName)) howna (mvT hZa (own_wd hw 165 rfl)) (mvT hZa (own_wd hw 94 rfl)) (mvT hZa (own_wd hw 65 rfl)) (mvT hZa (own_wd hw 95 rfl)) (by decide) (backOfSH (s := s) (vm0 := s.vm) (W := 0) (rm22 l Z a0 hw [] x1 ks f n i_143 (q_175 - i_143) h0 n0 Z0 O0 V_x1 (by omega) (by omega) (own_strict hwh tr185)) hZa (own_wd hw 95 rfl) (own_wd hw 65 rfl) (by decide) (by decide) (own_EW hw) CH0) (g := (mkF m 68 #[.val (.ref x1), .val (.int (Int32.ofNat q_175)), .val (.int (Int32.ofNat i_143))] [(.int (Int32.ofNat (q_175 - i_143))), (.int (Int32.ofNat i_143)), (.ref x1)])) rfl (by rw [hml]; rfl) (argsL := [(.ref x1), (.int (Int32.ofNat i_143)), (.int (Int32.ofNat (q_175 - i_143)))]) (rest := []) (lenOf pd_11 rfl) rfl (by show 2 * 0 + _ ≤ _; exact Nat.le_of_eq rfl) (hb hby d24_68) (fun _ _ => ⟨rfl, e175, (by decide : 0 + 2 ≤ _), (by decide : 0 + 28 ≤ _)⟩)
          dsimp only [Pt.U, Pt.locs, Pt.cells, Pt.slots] at X195 l195 y195 z195 st195 hQ195 hS195 hg195 R195
          subst l195 y195 z195
          obtain ⟨X195, hS195, hZ195, hown195⟩ := rebS hS0 hk0 X195 hS195 (by rw [← e175]; exact hg195) hZa howna
          obtain ⟨b_195, t_195, kk_195, rfl, N195q, KK195, Q195_0, Q195_1, Q195_2, Q195_3⟩ := hQ195
          have N195 := Fr.app N175 N195q
          have O195 : Old Z n0 T195.heap := O0.keep KK195 all0
          have Z195 : n0 ≤ T195.heap.size := Nat.le_trans Z0 KK195.1
          have K195 : Keep h0 T195.heap [] := K0.trans KK195 all0
          have CH195 : CHv Z own_EL T195.vm T195.heap := R195.1
          have CR195 : CHr Z own_EL s.vm h0 T195.vm T195.heap := CR0.trans R195
          obtain ⟨fs, hr, hrun, hended, hW, hsame⟩ := X195.leave (v := some (.ref b_195)) (fun h => by rw [Bd.returns] at h; cases h)
          have hend := hS195.ended hW (show _ ≤ T195.heap.size from (Nat.le_refl _)) hsame
          have hcr : CHr Z own_EL s.vm s.heap T195.vm T195.heap := by
            rw [hh]
            exact CR195.trans (CHv.at X195 hZ195 (own_EW hw) CH195)
          refine ⟨_, _, pre192 _ ?_, hrun, hended, _, _, rfl, ?_, hcr, ⟨_, rfl⟩, hend.1, hend.2.1, hend.2.2.mono (by decide) (by decide)⟩
          · show Steps p.tables e below (T175.setTop (mkF m 60 #[.val (.ref x1), .val (.int (Int32.ofNat q_175)), .val (.int (Int32.ofNat i_143))] [(.int (Int32.ofNat n)), (.int (Int32.ofNat q_175))])) _
            refine XS.icmpNo X175.here hx rfl (hb hby d24_60) rfl (tlt hc60).2.1 ?_
            refine XS.aloadN X175.here hx rfl (hb hby d24_63) rfl rfl ?_
            refine XS.iloadN X175.here hx rfl (hb hby d24_64) rfl ?_
            refine XS.iloadN X175.here hx rfl (hb hby d24_65) rfl ?_
            refine XS.iloadN X175.here hx rfl (hb hby d24_66) rfl ?_
            show Steps p.tables e below (T175.setTop (mkF m 67 #[.val (.ref x1), .val (.int (Int32.ofNat q_175)), .val (.int (Int32.ofNat i_143))] [(.int (Int32.ofNat i_143)), (.int (Int32.ofNat q_175)), (.int (Int32.ofNat i_143)), (.ref x1)])) _
            refine XS.isub X175.here hx rfl (hb hby d24_67) rfl ?_
            show Steps p.tables e below (T175.setTop (mkF m 68 #[.val (.ref x1), .val (.int (Int32.ofNat q_175)), .val (.int (Int32.ofNat i_143))] [(.int ((Int32.ofNat q_175) - (Int32.ofNat i_143))), (.int (Int32.ofNat i_143)), (.ref x1)])) _
            rw [rn194]
            show Steps p.tables e below (T175.setTop (mkF m 68 #[.val (.ref x1), .val (.int (Int32.ofNat q_175)), .val (.int (Int32.ofNat i_143))] [(.int (Int32.ofNat (q_175 - i_143))), (.int (Int32.ofNat i_143)), (.ref x1)])) _
            refine st195.trans ?_
            show Steps p.tables e below (T195.setTop (mkF m 71 #[.val (.ref x1), .val (.int (Int32.ofNat q_175)), .val (.int (Int32.ofNat i_143))] [(.ref b_195)])) _
            refine XS.goto X195.here hx rfl (pc0 := 71) (pc' := 75) rfl (hb hby d24_71) (by decide) (by decide) ?_
            show Steps p.tables e below (T195.setTop (mkF m 75 #[.val (.ref x1), .val (.int (Int32.ofNat q_175)), .val (.int (Int32.ofNat i_143))] [(.ref b_195)])) _
            jvm_step X195.here [X195.here.top, hx, (hb hby d24_75), X195.method', Bd.returns, Value.isRef, FieldType.isReference]
            first | (intro acts; rw [hr _ acts rfl rfl rfl]) | rw [hr _ _ rfl rfl rfl]
            exact Steps.refl _
          · show Q24_b Z x1 ks f n h0 n0 _ T195.heap _
            exact ⟨b_195, t_195, kk_195, i_143, q_175, rfl, N195, K195, Q195_0, Q195_1, Q195_2, Q195_3, tr185⟩
        · skip
          have nf196 : ¬ (q_175 < n) := fun q => hc60 ((own_lt (i := q_175) (n := n) (by omega) (by omega)).mpr q)
          exact False.elim (hwh (own_tr_whole (by have q := tr185; rw [show i_143 = 0 by omega, show q_175 = n by omega] at q; exact q)))
theorem d23_0 : decode jdk_42_method_113_code 0 = .ok (.aload_n 0, 1) := by decide +kernel
theorem d23_1 : decode jdk_42_method_113_code 1 = .ok (.invokevirtual 492, 3) := by decide +kernel
theorem d23_4 : decode jdk_42_method_113_code 4 = .ok (.ifCond .eq 13, 3) := by decide +kernel
theorem d23_7 : decode jdk_42_method_113_code 7 = .ok (.aload_n 0, 1) := by decide +kernel
theorem d23_8 : decode jdk_42_method_113_code 8 = .ok (.getfield 9, 3) := by decide +kernel
theorem pd_12 : parseMethodDescriptor "([B)Ljava/lang/String;" = some ⟨[(.array .byte)], some (.object "java/lang/String")⟩ := by decide +kernel
theorem d23_11 : decode jdk_42_method_113_code 11 = .ok (.invokestatic 859, 3) := by decide +kernel
theorem d23_14 : decode jdk_42_method_113_code 14 = .ok (.goto 10, 3) := by decide +kernel
theorem d23_24 : decode jdk_42_method_113_code 24 = .ok (.astore_n 1, 1) := by decide +kernel
theorem d23_25 : decode jdk_42_method_113_code 25 = .ok (.aload_n 1, 1) := by decide +kernel
theorem d23_26 : decode jdk_42_method_113_code 26 = .ok (.ifnonnull 7, 3) := by decide +kernel
theorem d23_29 : decode jdk_42_method_113_code 29 = .ok (.aload_n 0, 1) := by decide +kernel
theorem d23_30 : decode jdk_42_method_113_code 30 = .ok (.goto 4, 3) := by decide +kernel
theorem d23_34 : decode jdk_42_method_113_code 34 = .ok (.areturn, 1) := by decide +kernel
theorem d23_33 : decode jdk_42_method_113_code 33 = .ok (.aload_n 1, 1) := by decide +kernel
theorem ef23 (m : MethodId) (tz : Addr) : entryFrame m #[(.ref tz)] 2 = mkF m 0 #[.val (.ref tz), .unset] [] := by first | (simp [entryFrame, mkF, argsToLocals, Value.category]; done) | rfl
def Q23 (Z : State) (tz : Addr) (tz_value : Addr) (ks : ClassId) (f : Nat → Int32) (n : Nat) (st_COMPACT_STRINGS : Int32) (h0 : Heap) (n0 : Nat) (v : Option Value) (h : Heap) (L : List Loc) : Prop := ∃ (b : Addr), ∃ (t : Addr), ∃ (kk : ClassId), ∃ (ua : Nat), ∃ (ub : Nat), v = some (.ref b) ∧ Fr n0 L ∧ Keep h0 h [] ∧ Exa Z h b "java/lang/String" ∧ Fld Z h b "java/lang/String" "value" "[B" (.ref t) ∧ Fld Z h b "java/lang/String" "coder" "B" (.int (0 : Int32)) ∧ Arv Z h t kk .byte (Int32.ofNat (ub - ua)) (own_fv (own_sh f ua) (ub - ua)) (.int 0) ∧ (own_tr f n ua ub)
set_option maxRecDepth 65536 in
set_option maxHeartbeats 40000000 in
theorem rm23 (l : Launch) (Z : State) (a0 : Array Value) (hw : ∀ d ∈ tables_1, d.before a0 Z = true) (ws : List Jvm.Cond) (tz : Addr) (tz_value : Addr) (ks : ClassId) (f : Nat → Int32) (n : Nat) (st_COMPACT_STRINGS : Int32) (h0 : Heap) (n0 : Nat) (Z0 : n0 ≤ h0.size) (O0 : Old Z n0 h0) (E_tz : Exa Z h0 tz "java/lang/String") (F_tz_value : Fld Z h0 tz "java/lang/String" "value" "[B" (.ref tz_value)) (F_tz_coder : Fld Z h0 tz "java/lang/String" "coder" "B" (.int (0 : Int32))) (V_tz_value : Arv Z h0 tz_value ks .byte (Int32.ofNat n) (own_fv f n) (.int 0)) (hp : ∀ j, j < n → ¬ f j < 0 ∧ ¬ (255 : Int32) < f j) (hn : n ≤ 24) (S_COMPACT_STRINGS : Sta Z Z.heap "java/lang/String" "COMPACT_STRINGS" "Z" (.int st_COMPACT_STRINGS)) (hcomp : ¬ (st_COMPACT_STRINGS = (0 : Int32))) :
    MetFree l (⟨"java/lang/String", "trim", "()Ljava/lang/String;"⟩ : MethodName) (head1 (Jvm.Cond.code (⟨"java/lang/String", "trim", "()Ljava/lang/String;"⟩ : MethodName) jdk_42_method_113_code 2 (some (.object "java/lang/String")) :: ws) ({ frames := 5, cells := 2, slots := 28, locals := 78 } : Room)) (fun a U => a = #[(.ref tz)] ∧ Z.Warmed39 U.vm ∧ U.heap = h0 ∧ CHv Z own_EL U.vm h0) (fun _ _ _ _ _ => True) (fun _ U o U' => ∃ v L, o = .returned v ∧ Q23 Z tz tz_value ks f n st_COMPACT_STRINGS h0 n0 v U'.heap L ∧ CHr Z own_EL U.vm U.heap U'.vm U'.heap ∧ ReturnedEndW U o U' L ({ frames := 5, cells := 2, slots := 28, locals := 78 } : Room).cells ({ frames := 5, cells := 2, slots := 28, locals := 78 } : Room).slots) := by
  refine MetFree.of_bodySF (plainFor_of_name pn_java_lang_String) hisR ?_
  intro p e s m args below meth c s₁ Bd hml0 hP hK
  obtain ⟨rfl, hZ, hh, CH0⟩ := hP
  have hx := Bd.exec
  have hby := Bd.bytes
  have hml : c.maxLocals = 2 := hml0
  have hown : (s.setVm s.vm).vm.findClass "java/lang/String" = some m.cls := findClass_of_methodNamed Bd.named
  have hnm := (name_of_methodNamed Bd.named Bd.method).1
  have X0 : Stand p l e ({ frames := 5, cells := 2, slots := 28, locals := 78 } : Room) (s.setVm s.vm) m #[(.ref tz)] below meth c s₁ [] 0 0 := Stand.of_body Bd
  have e0 : s₁.heap = h0 := by rw [← hh, Bd.state]; rfl
  have N0 := Fr.nil n0
  have K0 : Keep h0 h0 [] := Keep.refl _ _
  have pre0 : ∀ t, Steps p.tables e below (s₁.setTop (mkF m 0 #[.val (.ref tz), .unset] [])) t → Steps p.tables e below (s₁.setTop (entryFrame m #[(.ref tz)] 2)) t := fun t k => castTop (ef23 m tz) k
  have hZa : Z.Warmed39 (s.setVm s.vm).vm := hZ
  have howna : (s.setVm s.vm).vm.findClass "java/lang/String" = some m.cls := hown
  have hS0 : s.Since s.vm h0.size := (State.WarmedH.refl s).since _
  have hk0 : h0.size ≤ h0.size := Nat.le_refl _
  have CR0 : CHr Z own_EL s.vm h0 s.vm h0 := CHr.refl CH0
  rcases Classical.em (own_whole f n) with hwh | hwh
  · skip
    obtain ⟨cq197, kq197, q197a, q197b, q197c⟩ := isOf hZa e0 E_tz
    obtain ⟨_, _, ⟨T197, L197, k197, n197⟩, -, X197, ⟨Lc197, hQ197, l197, y197, z197⟩, st197⟩ := X0.virtualBack hx (y := (⟨"java/lang/String", "isLatin1", "()Z"⟩ : MethodName)) (z := (⟨"java/lang/String", "isLatin1", "()Z"⟩ : MethodName)) howna (mvT hZa (own_wd hw 48 rfl)) (mvT hZa (own_wd hw 49 rfl)) (notFace_of_selects (args := #[]) (mvT hZa (own_wd hw 51 rfl))) (mvT hZa (own_wd hw 51 rfl)) (mvT hZa (own_wd hw 50 rfl)) (by decide) (backOf (W := 0) (rm11 l Z a0 hw [] tz st_COMPACT_STRINGS h0 n0 Z0 O0 F_tz_coder S_COMPACT_STRINGS hcomp) hZa (own_wd hw 52 rfl) (own_wd hw 7 rfl) (by decide) (by decide)) q197a q197c (g := (mkF m 1 #[.val (.ref tz), .unset] [(.ref tz)])) rfl (by rw [hml]; rfl) (Steps.refl _) (argsL := []) (rest := []) (lenOf pd_4 rfl) rfl (by show 2 * 0 + _ ≤ _; exact Nat.le_of_eq rfl) (hb hby d23_1) (fun _ _ => ⟨rfl, e0, (by decide : 0 + 0 ≤ _), (by decide : 0 + 0 ≤ _)⟩)
    dsimp only [Pt.U, Pt.locs, Pt.cells, Pt.slots] at X197 l197 y197 z197 st197 hQ197
    subst l197 y197 z197
    obtain ⟨rfl, N197q, eh197⟩ := hQ197
    have N197 := Fr.app N0 N197q
    obtain ⟨T198, X198, e198, st198⟩ := getF X197 hx hZa howna (host := "") (Or.inl (own_wd hw 32 rfl)) Via.refl eh197 F_tz_value (g := (mkF m 8 #[.val (.ref tz), .unset] [(.ref tz)])) rfl rfl (hb hby d23_8)
    have pp199 : own_whole f n := hwh
    obtain ⟨_, _, ⟨T200, L200, k200, n200⟩, -, X200, ⟨Lc200, hQ200, l200, y200, z200⟩, st200⟩ := Jvm.LawKit.callS X198 hx (y := (⟨"java/lang/StringLatin1", "trim", "([B)Ljava/lang/String;"⟩ : MethodName)) howna (mvT hZa (own_wd hw 104 rfl)) (mvT hZa (own_wd hw 105 rfl)) (mvT hZa (own_wd hw 65 rfl)) (mvT hZa (own_wd hw 106 rfl)) (by decide) (backOf (W := 0) (rm24_a l Z a0 hw [] tz_value ks f n h0 n0 Z0 O0 V_tz_value hp (by omega) pp199) hZa (own_wd hw 106 rfl) (own_wd hw 65 rfl) (by decide) (by decide)) (g := (mkF m 11 #[.val (.ref tz), .unset] [(.ref tz_value)])) rfl (by rw [hml]; rfl) (argsL := [(.ref tz_value)]) (rest := []) (lenOf pd_12 rfl) rfl (by show 2 * 0 + _ ≤ _; exact Nat.le_of_eq rfl) (hb hby d23_11) (fun _ _ => ⟨rfl, e198, (by decide : 0 + 0 ≤ _), (by decide : 0 + 0 ≤ _)⟩)
    dsimp only [Pt.U, Pt.locs, Pt.cells, Pt.slots] at X200 l200 y200 z200 st200 hQ200
    subst l200 y200 z200
    obtain ⟨rfl, N200q, eh200⟩ := hQ200
    have N200 := Fr.app N197 N200q
    obtain ⟨fs, hr, hrun, hended, hW, hsame⟩ := X200.leave (v := some (.ref tz)) (fun h => by rw [Bd.returns] at h; cases h)
    have hend := hS0.ended hW (show _ ≤ T200.heap.size from by rw [eh200]; exact hk0) hsame
    have hcr : CHr Z own_EL s.vm s.heap T200.vm T200.heap := by
      rw [hh, eh200]
      exact CR0.trans (CHv.at X200 hZa (own_EW hw) CH0)
    refine ⟨_, _, pre0 _ ?_, hrun, hended, _, _, rfl, ?_, hcr, ⟨_, rfl⟩, hend.1, hend.2.1, hend.2.2.mono (by decide) (by decide)⟩
    · show Steps p.tables e below (s₁.setTop (mkF m 0 #[.val (.ref tz), .unset] [])) _
      refine XS.aloadN X0.here hx rfl (hb hby d23_0) rfl rfl ?_
      show Steps p.tables e below (s₁.setTop (mkF m 1 #[.val (.ref tz), .unset] [(.ref tz)])) _
      refine st197.trans ?_
      show Steps p.tables e below (T197.setTop (mkF m 4 #[.val (.ref tz), .unset] [(.int (1 : Int32))])) _
      refine XS.ifNo X197.here hx rfl (hb hby d23_4) rfl ((if0 _ _).trans (feq (by decide : ¬ ((1 : Int32) = (0 : Int32)))).1) ?_
      refine XS.aloadN X197.here hx rfl (hb hby d23_7) rfl rfl ?_
      show Steps p.tables e below (T197.setTop (mkF m 8 #[.val (.ref tz), .unset] [(.ref tz)])) _
      refine st198 _ ?_
      show Steps p.tables e below (T198.setTop (mkF m 11 #[.val (.ref tz), .unset] [(.ref tz_value)])) _
      refine st200 _ ?_
      show Steps p.tables e below (T200.setTop (mkF m 14 #[.val (.ref tz), .unset] [.null])) _
      refine XS.goto X200.here hx rfl (pc0 := 14) (pc' := 24) rfl (hb hby d23_14) (by decide) (by decide) ?_
      refine XS.astoreN X200.here hx rfl (hb hby d23_24) rfl rfl (l' := #[.val (.ref tz), .val .null]) rfl ?_
      refine XS.aloadN X200.here hx rfl (hb hby d23_25) rfl rfl ?_
      show Steps p.tables e below (T200.setTop (mkF m 26 #[.val (.ref tz), .val .null] [.null])) _
      refine XS.ifnonnullNo X200.here hx rfl (hb hby d23_26) rfl ?_
      refine XS.aloadN X200.here hx rfl (hb hby d23_29) rfl rfl ?_
      refine XS.goto X200.here hx rfl (pc0 := 30) (pc' := 34) rfl (hb hby d23_30) (by decide) (by decide) ?_
      show Steps p.tables e below (T200.setTop (mkF m 34 #[.val (.ref tz), .val .null] [(.ref tz)])) _
      jvm_step X200.here [X200.here.top, hx, (hb hby d23_34), X200.method', Bd.returns, Value.isRef, FieldType.isReference]
      first | (intro acts; rw [hr _ acts rfl rfl rfl]) | rw [hr _ _ rfl rfl rfl]
      exact Steps.refl _
    · show Q23 Z tz tz_value ks f n st_COMPACT_STRINGS h0 n0 _ T200.heap _
      rw [eh200]
      exact ⟨tz, tz_value, ks, 0, n, rfl, N200, K0, E_tz, F_tz_value, F_tz_coder, (by rw [own_sh0]; exact V_tz_value), (own_tr_of hwh)⟩
  · skip
    obtain ⟨cq201, kq201, q201a, q201b, q201c⟩ := isOf hZa e0 E_tz
    obtain ⟨_, _, ⟨T201, L201, k201, n201⟩, -, X201, ⟨Lc201, hQ201, l201, y201, z201⟩, st201⟩ := X0.virtualBack hx (y := (⟨"java/lang/String", "isLatin1", "()Z"⟩ : MethodName)) (z := (⟨"java/lang/String", "isLatin1", "()Z"⟩ : MethodName)) howna (mvT hZa (own_wd hw 48 rfl)) (mvT hZa (own_wd hw 49 rfl)) (notFace_of_selects (args := #[]) (mvT hZa (own_wd hw 51 rfl))) (mvT hZa (own_wd hw 51 rfl)) (mvT hZa (own_wd hw 50 rfl)) (by decide) (backOf (W := 0) (rm11 l Z a0 hw [] tz st_COMPACT_STRINGS h0 n0 Z0 O0 F_tz_coder S_COMPACT_STRINGS hcomp) hZa (own_wd hw 52 rfl) (own_wd hw 7 rfl) (by decide) (by decide)) q201a q201c (g := (mkF m 1 #[.val (.ref tz), .unset] [(.ref tz)])) rfl (by rw [hml]; rfl) (Steps.refl _) (argsL := []) (rest := []) (lenOf pd_4 rfl) rfl (by show 2 * 0 + _ ≤ _; exact Nat.le_of_eq rfl) (hb hby d23_1) (fun _ _ => ⟨rfl, e0, (by decide : 0 + 0 ≤ _), (by decide : 0 + 0 ≤ _)⟩)
    dsimp only [Pt.U, Pt.locs, Pt.cells, Pt.slots] at X201 l201 y201 z201 st201 hQ201
    subst l201 y201 z201
    obtain ⟨rfl, N201q, eh201⟩ := hQ201
    have N201 := Fr.app N0 N201q
    obtain ⟨T202, X202, e202, st202⟩ := getF X201 hx hZa howna (host := "") (Or.inl (own_wd hw 32 rfl)) Via.refl eh201 F_tz_value (g := (mkF m 8 #[.val (.ref tz), .unset] [(.ref tz)])) rfl rfl (hb hby d23_8)
    have pp203 : ¬ own_whole f n := hwh
    obtain ⟨_, _, ⟨T204, L204, k204, n204⟩, -, X204, hS204, hg204, ⟨Lc204, hQ204, l204, y204, z204, R204⟩, st204⟩ := callSS X202 hx (y := (⟨"java/lang/StringLatin1", "trim", "([B)Ljava/lang/String;"⟩ : MethodName)) howna (mvT hZa (own_wd hw 104 rfl)) (mvT hZa (own_wd hw 105 rfl)) (mvT hZa (own_wd hw 65 rfl)) (mvT hZa (own_wd hw 106 rfl)) (by decide) (backOfSH (s := s) (vm0 := s.vm) (W := 0) (rm24_b l Z a0 hw [] tz_value ks f n h0 n0 Z0 O0 V_tz_value hp (by omega) pp203) hZa (own_wd hw 106 rfl) (own_wd hw 65 rfl) (by decide) (by decide) (own_EW hw) CH0) (g := (mkF m 11 #[.val (.ref tz), .unset] [(.ref tz_value)])) rfl (by rw [hml]; rfl) (argsL := [(.ref tz_value)]) (rest := []) (lenOf pd_12 rfl) rfl (by show 2 * 0 + _ ≤ _; exact Nat.le_of_eq rfl) (hb hby d23_11) (fun _ _ => ⟨rfl, e202, (by decide : 0 + 2 ≤ _), (by decide : 0 + 28 ≤ _)⟩)
    dsimp only [Pt.U, Pt.locs, Pt.cells, Pt.slots] at X204 l204 y204 z204 st204 hQ204 hS204 hg204 R204
    subst l204 y204 z204
    obtain ⟨X204, hS204, hZ204, hown204⟩ := rebS hS0 hk0 X204 hS204 (by rw [← e202]; exact hg204) hZa howna
    obtain ⟨b_204, t_204, kk_204, ua_204, ub_204, rfl, N204q, KK204, Q204_0, Q204_1, Q204_2, Q204_3, Q204_4⟩ := hQ204
    have N204 := Fr.app N201 N204q
    have O204 : Old Z n0 T204.heap := O0.keep KK204 all0
    have Z204 : n0 ≤ T204.heap.size := Nat.le_trans Z0 KK204.1
    have K204 : Keep h0 T204.heap [] := K0.trans KK204 all0
    have CH204 : CHv Z own_EL T204.vm T204.heap := R204.1
    have CR204 : CHr Z own_EL s.vm h0 T204.vm T204.heap := CR0.trans R204
    obtain ⟨fs, hr, hrun, hended, hW, hsame⟩ := X204.leave (v := some (.ref b_204)) (fun h => by rw [Bd.returns] at h; cases h)
    have hend := hS204.ended hW (show _ ≤ T204.heap.size from (Nat.le_refl _)) hsame
    have hcr : CHr Z own_EL s.vm s.heap T204.vm T204.heap := by
      rw [hh]
      exact CR204.trans (CHv.at X204 hZ204 (own_EW hw) CH204)
    refine ⟨_, _, pre0 _ ?_, hrun, hended, _, _, rfl, ?_, hcr, ⟨_, rfl⟩, hend.1, hend.2.1, hend.2.2.mono (by decide) (by decide)⟩
    · show Steps p.tables e below (s₁.setTop (mkF m 0 #[.val (.ref tz), .unset] [])) _
      refine XS.aloadN X0.here hx rfl (hb hby d23_0) rfl rfl ?_
      show Steps p.tables e below (s₁.setTop (mkF m 1 #[.val (.ref tz), .unset] [(.ref tz)])) _
      refine st201.trans ?_
      show Steps p.tables e below (T201.setTop (mkF m 4 #[.val (.ref tz), .unset] [(.int (1 : Int32))])) _
      refine XS.ifNo X201.here hx rfl (hb hby d23_4) rfl ((if0 _ _).trans (feq (by decide : ¬ ((1 : Int32) = (0 : Int32)))).1) ?_
      refine XS.aloadN X201.here hx rfl (hb hby d23_7) rfl rfl ?_
      show Steps p.tables e below (T201.setTop (mkF m 8 #[.val (.ref tz), .unset] [(.ref tz)])) _
      refine st202 _ ?_
      show Steps p.tables e below (T202.setTop (mkF m 11 #[.val (.ref tz), .unset] [(.ref tz_value)])) _
      refine st204.trans ?_
      show Steps p.tables e below (T204.setTop (mkF m 14 #[.val (.ref tz), .unset] [(.ref b_204)])) _
      refine XS.goto X204.here hx rfl (pc0 := 14) (pc' := 24) rfl (hb hby d23_14) (by decide) (by decide) ?_
      refine XS.astoreN X204.here hx rfl (hb hby d23_24) rfl rfl (l' := #[.val (.ref tz), .val (.ref b_204)]) rfl ?_
      refine XS.aloadN X204.here hx rfl (hb hby d23_25) rfl rfl ?_
      show Steps p.tables e below (T204.setTop (mkF m 26 #[.val (.ref tz), .val (.ref b_204)] [(.ref b_204)])) _
      refine XS.ifnonnullYes X204.here hx rfl (pc0 := 26) (pc' := 33) rfl (hb hby d23_26) rfl (by decide) (by decide) ?_
      refine XS.aloadN X204.here hx rfl (hb hby d23_33) rfl rfl ?_
      show Steps p.tables e below (T204.setTop (mkF m 34 #[.val (.ref tz), .val (.ref b_204)] [(.ref b_204)])) _
      jvm_step X204.here [X204.here.top, hx, (hb hby d23_34), X204.method', Bd.returns, Value.isRef, FieldType.isReference]
      first | (intro acts; rw [hr _ acts rfl rfl rfl]) | rw [hr _ _ rfl rfl rfl]
      exact Steps.refl _
    · show Q23 Z tz tz_value ks f n st_COMPACT_STRINGS h0 n0 _ T204.heap _
      exact ⟨b_204, t_204, kk_204, ua_204, ub_204, rfl, N204, K204, Q204_0, Q204_1, Q204_2, Q204_3, (by assumption)⟩
theorem d32_0 : decode jdk_116_method_20_code 0 = .ok (.iload_n 1, 1) := by decide +kernel
theorem d32_1 : decode jdk_116_method_20_code 1 = .ok (.bipush 65, 2) := by decide +kernel
theorem d32_3 : decode jdk_116_method_20_code 3 = .ok (.if_icmp .ge 5, 3) := by decide +kernel
theorem d32_6 : decode jdk_116_method_20_code 6 = .ok (.iload_n 1, 1) := by decide +kernel
theorem d32_7 : decode jdk_116_method_20_code 7 = .ok (.ireturn, 1) := by decide +kernel
theorem d32_8 : decode jdk_116_method_20_code 8 = .ok (.iload_n 1, 1) := by decide +kernel
theorem d32_9 : decode jdk_116_method_20_code 9 = .ok (.bipush 32, 2) := by decide +kernel
theorem d32_11 : decode jdk_116_method_20_code 11 = .ok (.ior, 1) := by decide +kernel
theorem d32_12 : decode jdk_116_method_20_code 12 = .ok (.istore_n 2, 1) := by decide +kernel
theorem d32_13 : decode jdk_116_method_20_code 13 = .ok (.iload_n 2, 1) := by decide +kernel
theorem d32_14 : decode jdk_116_method_20_code 14 = .ok (.bipush 122, 2) := by decide +kernel
theorem d32_16 : decode jdk_116_method_20_code 16 = .ok (.if_icmp .le 24, 3) := by decide +kernel
theorem d32_19 : decode jdk_116_method_20_code 19 = .ok (.iload_n 2, 1) := by decide +kernel
theorem d32_20 : decode jdk_116_method_20_code 20 = .ok (.sipush 224, 3) := by decide +kernel
theorem d32_23 : decode jdk_116_method_20_code 23 = .ok (.if_icmp .lt 19, 3) := by decide +kernel
theorem d32_42 : decode jdk_116_method_20_code 42 = .ok (.iload_n 1, 1) := by decide +kernel
theorem d32_43 : decode jdk_116_method_20_code 43 = .ok (.ireturn, 1) := by decide +kernel
theorem d32_26 : decode jdk_116_method_20_code 26 = .ok (.iload_n 2, 1) := by decide +kernel
theorem d32_27 : decode jdk_116_method_20_code 27 = .ok (.sipush 254, 3) := by decide +kernel
theorem d32_30 : decode jdk_116_method_20_code 30 = .ok (.if_icmp .gt 12, 3) := by decide +kernel
theorem d32_33 : decode jdk_116_method_20_code 33 = .ok (.iload_n 2, 1) := by decide +kernel
theorem d32_34 : decode jdk_116_method_20_code 34 = .ok (.sipush 247, 3) := by decide +kernel
theorem d32_37 : decode jdk_116_method_20_code 37 = .ok (.if_icmp .eq 5, 3) := by decide +kernel
theorem d32_40 : decode jdk_116_method_20_code 40 = .ok (.iload_n 2, 1) := by decide +kernel
theorem d32_41 : decode jdk_116_method_20_code 41 = .ok (.ireturn, 1) := by decide +kernel
theorem pn_java_lang_CharacterDataLatin1 : plainName "java/lang/CharacterDataLatin1" = true := by first | (simp [plainName, overriddenIn]; done) | decide +kernel
theorem ef32 (m : MethodId) (tz : Addr) (x1 : Int32) : entryFrame m #[(.ref tz), (.int x1)] 3 = mkF m 0 #[.val (.ref tz), .val (.int x1), .unset] [] := by first | (simp [entryFrame, mkF, argsToLocals, Value.category]; done) | rfl
def Q32 (Z : State) (tz : Addr) (x1 : Int32) (h0 : Heap) (n0 : Nat) (v : Option Value) (h : Heap) (L : List Loc) : Prop := v = some (.int (own_low x1)) ∧ Fr n0 L ∧ h = h0
set_option maxRecDepth 65536 in
set_option maxHeartbeats 40000000 in
theorem rm32 (l : Launch) (Z : State) (a0 : Array Value) (hw : ∀ d ∈ tables_1, d.before a0 Z = true) (ws : List Jvm.Cond) (tz : Addr) (x1 : Int32) (h0 : Heap) (n0 : Nat) (Z0 : n0 ≤ h0.size) (O0 : Old Z n0 h0) :
    MetFree l (⟨"java/lang/CharacterDataLatin1", "toLowerCase", "(I)I"⟩ : MethodName) (head1 (Jvm.Cond.code (⟨"java/lang/CharacterDataLatin1", "toLowerCase", "(I)I"⟩ : MethodName) jdk_116_method_20_code 3 (some .int) :: ws) ({ frames := 0, cells := 0, slots := 0, locals := 0 } : Room)) (fun a U => a = #[(.ref tz), (.int x1)] ∧ Z.Warmed39 U.vm ∧ U.heap = h0) (fun _ _ _ _ _ => True) (fun _ U o U' => ∃ v L, o = .returned v ∧ Q32 Z tz x1 h0 n0 v U'.heap L ∧ FrameEnd U o U' L ({ frames := 0, cells := 0, slots := 0, locals := 0 } : Room).cells ({ frames := 0, cells := 0, slots := 0, locals := 0 } : Room).slots) := by
  refine MetFree.of_bodySF (plainFor_of_name pn_java_lang_CharacterDataLatin1) hisR ?_
  intro p e s m args below meth c s₁ Bd hml0 hP hK
  obtain ⟨rfl, hZ, hh⟩ := hP
  have hx := Bd.exec
  have hby := Bd.bytes
  have hml : c.maxLocals = 3 := hml0
  have hown : s.vm.findClass "java/lang/CharacterDataLatin1" = some m.cls := findClass_of_methodNamed Bd.named
  have hnm := (name_of_methodNamed Bd.named Bd.method).1
  have X0 : Stand p l e ({ frames := 0, cells := 0, slots := 0, locals := 0 } : Room) s m #[(.ref tz), (.int x1)] below meth c s₁ [] 0 0 := Stand.of_body Bd
  have e0 : s₁.heap = h0 := by rw [← hh, Bd.state]; rfl
  have N0 := Fr.nil n0
  have K0 : Keep h0 h0 [] := Keep.refl _ _
  have pre0 : ∀ t, Steps p.tables e below (s₁.setTop (mkF m 0 #[.val (.ref tz), .val (.int x1), .unset] [])) t → Steps p.tables e below (s₁.setTop (entryFrame m #[(.ref tz), (.int x1)] 3)) t := fun t k => castTop (ef32 m tz x1) k
  have pre205 : ∀ t, Steps p.tables e below (s₁.setTop (mkF m 3 #[.val (.ref tz), .val (.int x1), .unset] [(.int (65 : Int32)), (.int x1)])) t → Steps p.tables e below (s₁.setTop (entryFrame m #[(.ref tz), (.int x1)] 3)) t := by
    intro t kt
    refine pre0 t ?_
    show Steps p.tables e below (s₁.setTop (mkF m 0 #[.val (.ref tz), .val (.int x1), .unset] [])) _
    refine XS.iloadN X0.here hx rfl (hb hby d32_0) rfl ?_
    refine XS.bipush X0.here hx rfl (hb hby d32_1) ?_
    exact kt
  by_cases hc3 : x1 < (65 : Int32)
  · skip
    obtain ⟨fs, hr, hrun, hended, hW, hsame⟩ := X0.leave (v := some (.int x1)) (fun h => by rw [Bd.returns] at h; cases h)
    refine ⟨_, _, pre205 _ ?_, hrun, hended, _, _, rfl, ?_, ⟨_, rfl⟩, hW, hsame.mono (by decide) (by decide)⟩
    · show Steps p.tables e below (s₁.setTop (mkF m 3 #[.val (.ref tz), .val (.int x1), .unset] [(.int (65 : Int32)), (.int x1)])) _
      refine XS.icmpNo X0.here hx rfl (hb hby d32_3) rfl (tlt hc3).2.1 ?_
      refine XS.iloadN X0.here hx rfl (hb hby d32_6) rfl ?_
      show Steps p.tables e below (s₁.setTop (mkF m 7 #[.val (.ref tz), .val (.int x1), .unset] [(.int x1)])) _
      exact retI X0 hx Bd.returns (hb hby d32_7) hr
    · show Q32 Z tz x1 h0 n0 _ s₁.heap _
      rw [e0]
      exact ⟨(by unfold own_low; repeat first | rw [if_pos (by assumption)] | rw [if_neg (by assumption)]), N0, rfl⟩
  · skip
    have pre206 : ∀ t, Steps p.tables e below (s₁.setTop (mkF m 16 #[.val (.ref tz), .val (.int x1), .val (.int (x1 ||| (32 : Int32)))] [(.int (122 : Int32)), (.int (x1 ||| (32 : Int32)))])) t → Steps p.tables e below (s₁.setTop (entryFrame m #[(.ref tz), (.int x1)] 3)) t := by
      intro t kt
      refine pre205 t ?_
      show Steps p.tables e below (s₁.setTop (mkF m 3 #[.val (.ref tz), .val (.int x1), .unset] [(.int (65 : Int32)), (.int x1)])) _
      refine XS.icmpYes X0.here hx rfl (pc0 := 3) (pc' := 8) rfl (hb hby d32_3) rfl (flt hc3).2.1 (by decide) (by decide) ?_
      refine XS.iloadN X0.here hx rfl (hb hby d32_8) rfl ?_
      refine XS.bipush X0.here hx rfl (hb hby d32_9) ?_
      show Steps p.tables e below (s₁.setTop (mkF m 11 #[.val (.ref tz), .val (.int x1), .unset] [(.int (32 : Int32)), (.int x1)])) _
      refine XS.ior X0.here hx rfl (hb hby d32_11) rfl ?_
      refine XS.istoreN X0.here hx rfl (hb hby d32_12) rfl (l' := #[.val (.ref tz), .val (.int x1), .val (.int (x1 ||| (32 : Int32)))]) rfl ?_
      refine XS.iloadN X0.here hx rfl (hb hby d32_13) rfl ?_
      refine XS.bipush X0.here hx rfl (hb hby d32_14) ?_
      exact kt
    by_cases hc16 : (122 : Int32) < (x1 ||| (32 : Int32))
    · skip
      have pre207 : ∀ t, Steps p.tables e below (s₁.setTop (mkF m 23 #[.val (.ref tz), .val (.int x1), .val (.int (x1 ||| (32 : Int32)))] [(.int (224 : Int32)), (.int (x1 ||| (32 : Int32)))])) t → Steps p.tables e below (s₁.setTop (entryFrame m #[(.ref tz), (.int x1)] 3)) t := by
        intro t kt
        refine pre206 t ?_
        show Steps p.tables e below (s₁.setTop (mkF m 16 #[.val (.ref tz), .val (.int x1), .val (.int (x1 ||| (32 : Int32)))] [(.int (122 : Int32)), (.int (x1 ||| (32 : Int32)))])) _
        refine XS.icmpNo X0.here hx rfl (hb hby d32_16) rfl (tlt hc16).2.2.2 ?_
        refine XS.iloadN X0.here hx rfl (hb hby d32_19) rfl ?_
        show Steps p.tables e below (s₁.setTop (mkF m 20 #[.val (.ref tz), .val (.int x1), .val (.int (x1 ||| (32 : Int32)))] [(.int (x1 ||| (32 : Int32)))])) _
        refine XS.sipush X0.here hx rfl (hb hby d32_20) ?_
        exact kt
      by_cases hc23 : (x1 ||| (32 : Int32)) < (224 : Int32)
      · skip
        obtain ⟨fs, hr, hrun, hended, hW, hsame⟩ := X0.leave (v := some (.int x1)) (fun h => by rw [Bd.returns] at h; cases h)
        refine ⟨_, _, pre207 _ ?_, hrun, hended, _, _, rfl, ?_, ⟨_, rfl⟩, hW, hsame.mono (by decide) (by decide)⟩
        · show Steps p.tables e below (s₁.setTop (mkF m 23 #[.val (.ref tz), .val (.int x1), .val (.int (x1 ||| (32 : Int32)))] [(.int (224 : Int32)), (.int (x1 ||| (32 : Int32)))])) _
          refine XS.icmpYes X0.here hx rfl (pc0 := 23) (pc' := 42) rfl (hb hby d32_23) rfl (tlt hc23).1 (by decide) (by decide) ?_
          refine XS.iloadN X0.here hx rfl (hb hby d32_42) rfl ?_
          show Steps p.tables e below (s₁.setTop (mkF m 43 #[.val (.ref tz), .val (.int x1), .val (.int (x1 ||| (32 : Int32)))] [(.int x1)])) _
          exact retI X0 hx Bd.returns (hb hby d32_43) hr
        · show Q32 Z tz x1 h0 n0 _ s₁.heap _
          rw [e0]
          exact ⟨(by unfold own_low; repeat first | rw [if_pos (by assumption)] | rw [if_neg (by assumption)]), N0, rfl⟩
      · skip
        have pre208 : ∀ t, Steps p.tables e below (s₁.setTop (mkF m 30 #[.val (.ref tz), .val (.int x1), .val (.int (x1 ||| (32 : Int32)))] [(.int (254 : Int32)), (.int (x1 ||| (32 : Int32)))])) t → Steps p.tables e below (s₁.setTop (entryFrame m #[(.ref tz), (.int x1)] 3)) t := by
          intro t kt
          refine pre207 t ?_
          show Steps p.tables e below (s₁.setTop (mkF m 23 #[.val (.ref tz), .val (.int x1), .val (.int (x1 ||| (32 : Int32)))] [(.int (224 : Int32)), (.int (x1 ||| (32 : Int32)))])) _
          refine XS.icmpNo X0.here hx rfl (hb hby d32_23) rfl (flt hc23).1 ?_
          refine XS.iloadN X0.here hx rfl (hb hby d32_26) rfl ?_
          refine XS.sipush X0.here hx rfl (hb hby d32_27) ?_
          exact kt
        by_cases hc30 : (254 : Int32) < (x1 ||| (32 : Int32))
        · skip
          obtain ⟨fs, hr, hrun, hended, hW, hsame⟩ := X0.leave (v := some (.int x1)) (fun h => by rw [Bd.returns] at h; cases h)
          refine ⟨_, _, pre208 _ ?_, hrun, hended, _, _, rfl, ?_, ⟨_, rfl⟩, hW, hsame.mono (by decide) (by decide)⟩
          · show Steps p.tables e below (s₁.setTop (mkF m 30 #[.val (.ref tz), .val (.int x1), .val (.int (x1 ||| (32 : Int32)))] [(.int (254 : Int32)), (.int (x1 ||| (32 : Int32)))])) _
            refine XS.icmpYes X0.here hx rfl (pc0 := 30) (pc' := 42) rfl (hb hby d32_30) rfl (tlt hc30).2.2.1 (by decide) (by decide) ?_
            refine XS.iloadN X0.here hx rfl (hb hby d32_42) rfl ?_
            show Steps p.tables e below (s₁.setTop (mkF m 43 #[.val (.ref tz), .val (.int x1), .val (.int (x1 ||| (32 : Int32)))] [(.int x1)])) _
            exact retI X0 hx Bd.returns (hb hby d32_43) hr
          · show Q32 Z tz x1 h0 n0 _ s₁.heap _
            rw [e0]
            exact ⟨(by unfold own_low; repeat first | rw [if_pos (by assumption)] | rw [if_neg (by assumption)]), N0, rfl⟩
        · skip
          have pre209 : ∀ t, Steps p.tables e below (s₁.setTop (mkF m 37 #[.val (.ref tz), .val (.int x1), .val (.int (x1 ||| (32 : Int32)))] [(.int (247 : Int32)), (.int (x1 ||| (32 : Int32)))])) t → Steps p.tables e below (s₁.setTop (entryFrame m #[(.ref tz), (.int x1)] 3)) t := by
            intro t kt
            refine pre208 t ?_
            show Steps p.tables e below (s₁.setTop (mkF m 30 #[.val (.ref tz), .val (.int x1), .val (.int (x1 ||| (32 : Int32)))] [(.int (254 : Int32)), (.int (x1 ||| (32 : Int32)))])) _
            refine XS.icmpNo X0.here hx rfl (hb hby d32_30) rfl (flt hc30).2.2.1 ?_
            refine XS.iloadN X0.here hx rfl (hb hby d32_33) rfl ?_
            show Steps p.tables e below (s₁.setTop (mkF m 34 #[.val (.ref tz), .val (.int x1), .val (.int (x1 ||| (32 : Int32)))] [(.int (x1 ||| (32 : Int32)))])) _
            refine XS.sipush X0.here hx rfl (hb hby d32_34) ?_
            exact kt
          by_cases hc37 : (x1 ||| (32 : Int32)) = (247 : Int32)
          · skip
            obtain ⟨fs, hr, hrun, hended, hW, hsame⟩ := X0.leave (v := some (.int x1)) (fun h => by rw [Bd.returns] at h; cases h)
            refine ⟨_, _, pre209 _ ?_, hrun, hended, _, _, rfl, ?_, ⟨_, rfl⟩, hW, hsame.mono (by decide) (by decide)⟩
            · show Steps p.tables e below (s₁.setTop (mkF m 37 #[.val (.ref tz), .val (.int x1), .val (.int (x1 ||| (32 : Int32)))] [(.int (247 : Int32)), (.int (x1 ||| (32 : Int32)))])) _
              refine XS.icmpYes X0.here hx rfl (pc0 := 37) (pc' := 42) rfl (hb hby d32_37) rfl (teq hc37).1 (by decide) (by decide) ?_
              refine XS.iloadN X0.here hx rfl (hb hby d32_42) rfl ?_
              show Steps p.tables e below (s₁.setTop (mkF m 43 #[.val (.ref tz), .val (.int x1), .val (.int (x1 ||| (32 : Int32)))] [(.int x1)])) _
              exact retI X0 hx Bd.returns (hb hby d32_43) hr
            · show Q32 Z tz x1 h0 n0 _ s₁.heap _
              rw [e0]
              exact ⟨(by unfold own_low; repeat first | rw [if_pos (by assumption)] | rw [if_neg (by assumption)]), N0, rfl⟩
          · skip
            obtain ⟨fs, hr, hrun, hended, hW, hsame⟩ := X0.leave (v := some (.int (x1 ||| (32 : Int32)))) (fun h => by rw [Bd.returns] at h; cases h)
            refine ⟨_, _, pre209 _ ?_, hrun, hended, _, _, rfl, ?_, ⟨_, rfl⟩, hW, hsame.mono (by decide) (by decide)⟩
            · show Steps p.tables e below (s₁.setTop (mkF m 37 #[.val (.ref tz), .val (.int x1), .val (.int (x1 ||| (32 : Int32)))] [(.int (247 : Int32)), (.int (x1 ||| (32 : Int32)))])) _
              refine XS.icmpNo X0.here hx rfl (hb hby d32_37) rfl (feq hc37).1 ?_
              refine XS.iloadN X0.here hx rfl (hb hby d32_40) rfl ?_
              show Steps p.tables e below (s₁.setTop (mkF m 41 #[.val (.ref tz), .val (.int x1), .val (.int (x1 ||| (32 : Int32)))] [(.int (x1 ||| (32 : Int32)))])) _
              exact retI X0 hx Bd.returns (hb hby d32_41) hr
            · show Q32 Z tz x1 h0 n0 _ s₁.heap _
              rw [e0]
              exact ⟨(by unfold own_low; repeat first | rw [if_pos (by assumption)] | rw [if_neg (by assumption)]), N0, rfl⟩
    · skip
      obtain ⟨fs, hr, hrun, hended, hW, hsame⟩ := X0.leave (v := some (.int (x1 ||| (32 : Int32)))) (fun h => by rw [Bd.returns] at h; cases h)
      refine ⟨_, _, pre206 _ ?_, hrun, hended, _, _, rfl, ?_, ⟨_, rfl⟩, hW, hsame.mono (by decide) (by decide)⟩
      · show Steps p.tables e below (s₁.setTop (mkF m 16 #[.val (.ref tz), .val (.int x1), .val (.int (x1 ||| (32 : Int32)))] [(.int (122 : Int32)), (.int (x1 ||| (32 : Int32)))])) _
        refine XS.icmpYes X0.here hx rfl (pc0 := 16) (pc' := 40) rfl (hb hby d32_16) rfl (flt hc16).2.2.2 (by decide) (by decide) ?_
        refine XS.iloadN X0.here hx rfl (hb hby d32_40) rfl ?_
        show Steps p.tables e below (s₁.setTop (mkF m 41 #[.val (.ref tz), .val (.int x1), .val (.int (x1 ||| (32 : Int32)))] [(.int (x1 ||| (32 : Int32)))])) _
        exact retI X0 hx Bd.returns (hb hby d32_41) hr
      · show Q32 Z tz x1 h0 n0 _ s₁.heap _
        rw [e0]
        exact ⟨(by unfold own_low; repeat first | rw [if_pos (by assumption)] | rw [if_neg (by assumption)]), N0, rfl⟩
theorem d39_0 : decode jdk_3003_method_5_code 0 = .ok (.aload_n 0, 1) := by decide +kernel
theorem d39_1 : decode jdk_3003_method_5_code 1 = .ok (.getfield 19, 3) := by decide +kernel
theorem d39_4 : decode jdk_3003_method_5_code 4 = .ok (.areturn, 1) := by decide +kernel
theorem pn_sun_util_locale_BaseLocale : plainName "sun/util/locale/BaseLocale" = true := by first | (simp [plainName, overriddenIn]; done) | decide +kernel
theorem ef39 (m : MethodId) (tz : Addr) : entryFrame m #[(.ref tz)] 1 = mkF m 0 #[.val (.ref tz)] [] := by first | (simp [entryFrame, mkF, argsToLocals, Value.category]; done) | rfl
def Q39 (Z : State) (tz : Addr) (tz_language : Addr) (h0 : Heap) (n0 : Nat) (v : Option Value) (h : Heap) (L : List Loc) : Prop := v = some (.ref tz_language) ∧ Fr n0 L ∧ h = h0
set_option maxRecDepth 65536 in
set_option maxHeartbeats 40000000 in
theorem rm39 (l : Launch) (Z : State) (a0 : Array Value) (hw : ∀ d ∈ tables_1, d.before a0 Z = true) (ws : List Jvm.Cond) (tz : Addr) (tz_language : Addr) (h0 : Heap) (n0 : Nat) (Z0 : n0 ≤ h0.size) (O0 : Old Z n0 h0) (F_tz_language : Fld Z h0 tz "sun/util/locale/BaseLocale" "language" "Ljava/lang/String;" (.ref tz_language)) :
    MetFree l (⟨"sun/util/locale/BaseLocale", "getLanguage", "()Ljava/lang/String;"⟩ : MethodName) (head1 (Jvm.Cond.code (⟨"sun/util/locale/BaseLocale", "getLanguage", "()Ljava/lang/String;"⟩ : MethodName) jdk_3003_method_5_code 1 (some (.object "java/lang/String")) :: ws) ({ frames := 0, cells := 0, slots := 0, locals := 0 } : Room)) (fun a U => a = #[(.ref tz)] ∧ Z.Warmed39 U.vm ∧ U.heap = h0) (fun _ _ _ _ _ => True) (fun _ U o U' => ∃ v L, o = .returned v ∧ Q39 Z tz tz_language h0 n0 v U'.heap L ∧ FrameEnd U o U' L ({ frames := 0, cells := 0, slots := 0, locals := 0 } : Room).cells ({ frames := 0, cells := 0, slots := 0, locals := 0 } : Room).slots) := by
  refine MetFree.of_bodySF (plainFor_of_name pn_sun_util_locale_BaseLocale) hisR ?_
  intro p e s m args below meth c s₁ Bd hml0 hP hK
  obtain ⟨rfl, hZ, hh⟩ := hP
  have hx := Bd.exec
  have hby := Bd.bytes
  have hml : c.maxLocals = 1 := hml0
  have hown : s.vm.findClass "sun/util/locale/BaseLocale" = some m.cls := findClass_of_methodNamed Bd.named
  have hnm := (name_of_methodNamed Bd.named Bd.method).1
  have X0 : Stand p l e ({ frames := 0, cells := 0, slots := 0, locals := 0 } : Room) s m #[(.ref tz)] below meth c s₁ [] 0 0 := Stand.of_body Bd
  have e0 : s₁.heap = h0 := by rw [← hh, Bd.state]; rfl
  have N0 := Fr.nil n0
  have K0 : Keep h0 h0 [] := Keep.refl _ _
  have pre0 : ∀ t, Steps p.tables e below (s₁.setTop (mkF m 0 #[.val (.ref tz)] [])) t → Steps p.tables e below (s₁.setTop (entryFrame m #[(.ref tz)] 1)) t := fun t k => castTop (ef39 m tz) k
  obtain ⟨T210, X210, e210, st210⟩ := getF X0 hx hZ hown (host := "") (Or.inl (own_wd hw 179 rfl)) Via.refl e0 F_tz_language (g := (mkF m 1 #[.val (.ref tz)] [(.ref tz)])) rfl rfl (hb hby d39_1)
  obtain ⟨fs, hr, hrun, hended, hW, hsame⟩ := X210.leave (v := some (.ref tz_language)) (fun h => by rw [Bd.returns] at h; cases h)
  refine ⟨_, _, pre0 _ ?_, hrun, hended, _, _, rfl, ?_, ⟨_, rfl⟩, hW, hsame.mono (by decide) (by decide)⟩
  · show Steps p.tables e below (s₁.setTop (mkF m 0 #[.val (.ref tz)] [])) _
    refine XS.aloadN X0.here hx rfl (hb hby d39_0) rfl rfl ?_
    show Steps p.tables e below (s₁.setTop (mkF m 1 #[.val (.ref tz)] [(.ref tz)])) _
    refine st210 _ ?_
    show Steps p.tables e below (T210.setTop (mkF m 4 #[.val (.ref tz)] [(.ref tz_language)])) _
    jvm_step X210.here [X210.here.top, hx, (hb hby d39_4), X210.method', Bd.returns, Value.isRef, FieldType.isReference]
    first | (intro acts; rw [hr _ acts rfl rfl rfl]) | rw [hr _ _ rfl rfl rfl]
    exact Steps.refl _
  · show Q39 Z tz tz_language h0 n0 _ T210.heap _
    rw [e210]
    exact ⟨rfl, N0, rfl⟩
theorem d38_0 : decode jdk_2628_method_27_code 0 = .ok (.aload_n 0, 1) := by decide +kernel
theorem d38_1 : decode jdk_2628_method_27_code 1 = .ok (.getfield 28, 3) := by decide +kernel
theorem pd_13 : parseMethodDescriptor "()Ljava/lang/String;" = some ⟨[], some (.object "java/lang/String")⟩ := by decide +kernel
theorem d38_4 : decode jdk_2628_method_27_code 4 = .ok (.invokevirtual 293, 3) := by decide +kernel
theorem d38_7 : decode jdk_2628_method_27_code 7 = .ok (.areturn, 1) := by decide +kernel
theorem pn_java_util_Locale : plainName "java/util/Locale" = true := by first | (simp [plainName, overriddenIn]; done) | decide +kernel
theorem ef38 (m : MethodId) (tz : Addr) : entryFrame m #[(.ref tz)] 1 = mkF m 0 #[.val (.ref tz)] [] := by first | (simp [entryFrame, mkF, argsToLocals, Value.category]; done) | rfl
def Q38 (Z : State) (tz : Addr) (tz_baseLocale : Addr) (tz_baseLocale_language : Addr) (h0 : Heap) (n0 : Nat) (v : Option Value) (h : Heap) (L : List Loc) : Prop := v = some (.ref tz_baseLocale_language) ∧ Fr n0 L ∧ h = h0
set_option maxRecDepth 65536 in
set_option maxHeartbeats 40000000 in
theorem rm38 (l : Launch) (Z : State) (a0 : Array Value) (hw : ∀ d ∈ tables_1, d.before a0 Z = true) (ws : List Jvm.Cond) (tz : Addr) (tz_baseLocale : Addr) (tz_baseLocale_language : Addr) (h0 : Heap) (n0 : Nat) (Z0 : n0 ≤ h0.size) (O0 : Old Z n0 h0) (F_tz_baseLocale : Fld Z h0 tz "java/util/Locale" "baseLocale" "Lsun/util/locale/BaseLocale;" (.ref tz_baseLocale)) (F_tz_baseLocale_language : Fld Z h0 tz_baseLocale "sun/util/locale/BaseLocale" "language" "Ljava/lang/String;" (.ref tz_baseLocale_language)) (E_tz_baseLocale : Exa Z h0 tz_baseLocale "sun/util/locale/BaseLocale") :
    MetFree l (⟨"java/util/Locale", "getLanguage", "()Ljava/lang/String;"⟩ : MethodName) (head1 (Jvm.Cond.code (⟨"java/util/Locale", "getLanguage", "()Ljava/lang/String;"⟩ : MethodName) jdk_2628_method_27_code 1 (some (.object "java/lang/String")) :: ws) ({ frames := 1, cells := 0, slots := 0, locals := 12 } : Room)) (fun a U => a = #[(.ref tz)] ∧ Z.Warmed39 U.vm ∧ U.heap = h0) (fun _ _ _ _ _ => True) (fun _ U o U' => ∃ v L, o = .returned v ∧ Q38 Z tz tz_baseLocale tz_baseLocale_language h0 n0 v U'.heap L ∧ FrameEnd U o U' L ({ frames := 1, cells := 0, slots := 0, locals := 12 } : Room).cells ({ frames := 1, cells := 0, slots := 0, locals := 12 } : Room).slots) := by
  refine MetFree.of_bodySF (plainFor_of_name pn_java_util_Locale) hisR ?_
  intro p e s m args below meth c s₁ Bd hml0 hP hK
  obtain ⟨rfl, hZ, hh⟩ := hP
  have hx := Bd.exec
  have hby := Bd.bytes
  have hml : c.maxLocals = 1 := hml0
  have hown : s.vm.findClass "java/util/Locale" = some m.cls := findClass_of_methodNamed Bd.named
  have hnm := (name_of_methodNamed Bd.named Bd.method).1
  have X0 : Stand p l e ({ frames := 1, cells := 0, slots := 0, locals := 12 } : Room) s m #[(.ref tz)] below meth c s₁ [] 0 0 := Stand.of_body Bd
  have e0 : s₁.heap = h0 := by rw [← hh, Bd.state]; rfl
  have N0 := Fr.nil n0
  have K0 : Keep h0 h0 [] := Keep.refl _ _
  have pre0 : ∀ t, Steps p.tables e below (s₁.setTop (mkF m 0 #[.val (.ref tz)] [])) t → Steps p.tables e below (s₁.setTop (entryFrame m #[(.ref tz)] 1)) t := fun t k => castTop (ef38 m tz) k
  obtain ⟨T211, X211, e211, st211⟩ := getF X0 hx hZ hown (host := "") (Or.inl (own_wd hw 171 rfl)) Via.refl e0 F_tz_baseLocale (g := (mkF m 1 #[.val (.ref tz)] [(.ref tz)])) rfl rfl (hb hby d38_1)
  obtain ⟨cq212, kq212, q212a, q212b, q212c⟩ := isOf hZ e211 E_tz_baseLocale
  obtain ⟨_, _, ⟨T212, L212, k212, n212⟩, -, X212, ⟨Lc212, hQ212, l212, y212, z212⟩, st212⟩ := X211.virtualBack hx (y := (⟨"sun/util/locale/BaseLocale", "getLanguage", "()Ljava/lang/String;"⟩ : MethodName)) (z := (⟨"sun/util/locale/BaseLocale", "getLanguage", "()Ljava/lang/String;"⟩ : MethodName)) hown (mvT hZ (own_wd hw 173 rfl)) (mvT hZ (own_wd hw 174 rfl)) (notFace_of_selects (args := #[]) (mvT hZ (own_wd hw 176 rfl))) (mvT hZ (own_wd hw 176 rfl)) (mvT hZ (own_wd hw 175 rfl)) (by decide) (backOf (W := 0) (rm39 l Z a0 hw [] tz_baseLocale tz_baseLocale_language h0 n0 Z0 O0 F_tz_baseLocale_language) hZ (own_wd hw 178 rfl) (own_wd hw 177 rfl) (by decide) (by decide)) q212a q212c (g := (mkF m 4 #[.val (.ref tz)] [(.ref tz_baseLocale)])) rfl (by rw [hml]; rfl) (Steps.refl _) (argsL := []) (rest := []) (lenOf pd_13 rfl) rfl (by show 2 * 0 + _ ≤ _; exact Nat.le_of_eq rfl) (hb hby d38_4) (fun _ _ => ⟨rfl, e211, (by decide : 0 + 0 ≤ _), (by decide : 0 + 0 ≤ _)⟩)
  dsimp only [Pt.U, Pt.locs, Pt.cells, Pt.slots] at X212 l212 y212 z212 st212 hQ212
  subst l212 y212 z212
  obtain ⟨rfl, N212q, eh212⟩ := hQ212
  have N212 := Fr.app N0 N212q
  obtain ⟨fs, hr, hrun, hended, hW, hsame⟩ := X212.leave (v := some (.ref tz_baseLocale_language)) (fun h => by rw [Bd.returns] at h; cases h)
  refine ⟨_, _, pre0 _ ?_, hrun, hended, _, _, rfl, ?_, ⟨_, rfl⟩, hW, hsame.mono (by decide) (by decide)⟩
  · show Steps p.tables e below (s₁.setTop (mkF m 0 #[.val (.ref tz)] [])) _
    refine XS.aloadN X0.here hx rfl (hb hby d38_0) rfl rfl ?_
    show Steps p.tables e below (s₁.setTop (mkF m 1 #[.val (.ref tz)] [(.ref tz)])) _
    refine st211 _ ?_
    show Steps p.tables e below (T211.setTop (mkF m 4 #[.val (.ref tz)] [(.ref tz_baseLocale)])) _
    refine st212.trans ?_
    show Steps p.tables e below (T212.setTop (mkF m 7 #[.val (.ref tz)] [(.ref tz_baseLocale_language)])) _
    jvm_step X212.here [X212.here.top, hx, (hb hby d38_7), X212.method', Bd.returns, Value.isRef, FieldType.isReference]
    first | (intro acts; rw [hr _ acts rfl rfl rfl]) | rw [hr _ _ rfl rfl rfl]
    exact Steps.refl _
  · show Q38 Z tz tz_baseLocale tz_baseLocale_language h0 n0 _ T212.heap _
    rw [eh212]
    exact ⟨rfl, N212, rfl⟩
theorem d26_0 : decode jdk_43_method_32_code 0 = .ok (.aload_n 2, 1) := by decide +kernel
theorem d26_1 : decode jdk_43_method_32_code 1 = .ok (.ifnonnull 11, 3) := by decide +kernel
theorem d26_12 : decode jdk_43_method_32_code 12 = .ok (.aload_n 1, 1) := by decide +kernel
theorem d26_13 : decode jdk_43_method_32_code 13 = .ok (.arraylength, 1) := by decide +kernel
theorem d26_14 : decode jdk_43_method_32_code 14 = .ok (.istore 4, 2) := by decide +kernel
theorem d26_16 : decode jdk_43_method_32_code 16 = .ok (.iconst 0, 1) := by decide +kernel
theorem d26_17 : decode jdk_43_method_32_code 17 = .ok (.istore_n 3, 1) := by decide +kernel
theorem d26_18 : decode jdk_43_method_32_code 18 = .ok (.iload_n 3, 1) := by decide +kernel
theorem d26_19 : decode jdk_43_method_32_code 19 = .ok (.iload 4, 2) := by decide +kernel
theorem d26_21 : decode jdk_43_method_32_code 21 = .ok (.if_icmp .ge 34, 3) := by decide +kernel
theorem d26_24 : decode jdk_43_method_32_code 24 = .ok (.aload_n 1, 1) := by decide +kernel
theorem d26_25 : decode jdk_43_method_32_code 25 = .ok (.iload_n 3, 1) := by decide +kernel
theorem d26_26 : decode jdk_43_method_32_code 26 = .ok (.baload, 1) := by decide +kernel
theorem d26_27 : decode jdk_43_method_32_code 27 = .ok (.sipush 255, 3) := by decide +kernel
theorem d26_30 : decode jdk_43_method_32_code 30 = .ok (.iand, 1) := by decide +kernel
theorem d26_31 : decode jdk_43_method_32_code 31 = .ok (.istore 5, 2) := by decide +kernel
theorem d26_33 : decode jdk_43_method_32_code 33 = .ok (.iload 5, 2) := by decide +kernel
theorem d26_35 : decode jdk_43_method_32_code 35 = .ok (.getstatic 66, 3) := by decide +kernel
theorem d26_38 : decode jdk_43_method_32_code 38 = .ok (.iload 5, 2) := by decide +kernel
theorem pd_14 : parseMethodDescriptor "(I)I" = some ⟨[.int], some .int⟩ := by decide +kernel
theorem d26_40 : decode jdk_43_method_32_code 40 = .ok (.invokevirtual 160, 3) := by decide +kernel
theorem d26_43 : decode jdk_43_method_32_code 43 = .ok (.if_icmp .eq 6, 3) := by decide +kernel
theorem d26_49 : decode jdk_43_method_32_code 49 = .ok (.iinc 3 1, 3) := by decide +kernel
theorem d26_52 : decode jdk_43_method_32_code 52 = .ok (.goto (-34), 3) := by decide +kernel
theorem d26_46 : decode jdk_43_method_32_code 46 = .ok (.goto 9, 3) := by decide +kernel
theorem d26_55 : decode jdk_43_method_32_code 55 = .ok (.iload_n 3, 1) := by decide +kernel
theorem d26_56 : decode jdk_43_method_32_code 56 = .ok (.iload 4, 2) := by decide +kernel
theorem d26_58 : decode jdk_43_method_32_code 58 = .ok (.if_icmp .ne 5, 3) := by decide +kernel
theorem d26_63 : decode jdk_43_method_32_code 63 = .ok (.aload_n 2, 1) := by decide +kernel
theorem d26_64 : decode jdk_43_method_32_code 64 = .ok (.invokevirtual 162, 3) := by decide +kernel
theorem d26_67 : decode jdk_43_method_32_code 67 = .ok (.astore 5, 2) := by decide +kernel
theorem d26_69 : decode jdk_43_method_32_code 69 = .ok (.aload 5, 2) := by decide +kernel
theorem d26_71 : decode jdk_43_method_32_code 71 = .ok (.ldc 168, 2) := by decide +kernel
theorem d26_73 : decode jdk_43_method_32_code 73 = .ok (.if_acmp .eq 17, 3) := by decide +kernel
theorem d26_76 : decode jdk_43_method_32_code 76 = .ok (.aload 5, 2) := by decide +kernel
theorem d26_78 : decode jdk_43_method_32_code 78 = .ok (.ldc 170, 2) := by decide +kernel
theorem d26_80 : decode jdk_43_method_32_code 80 = .ok (.if_acmp .eq 10, 3) := by decide +kernel
theorem d26_83 : decode jdk_43_method_32_code 83 = .ok (.aload 5, 2) := by decide +kernel
theorem d26_85 : decode jdk_43_method_32_code 85 = .ok (.ldc 172, 2) := by decide +kernel
theorem d26_87 : decode jdk_43_method_32_code 87 = .ok (.if_acmp .ne 12, 3) := by decide +kernel
theorem d26_99 : decode jdk_43_method_32_code 99 = .ok (.iload 4, 2) := by decide +kernel
theorem d26_101 : decode jdk_43_method_32_code 101 = .ok (.newarray .byte, 2) := by decide +kernel
theorem d26_103 : decode jdk_43_method_32_code 103 = .ok (.astore 6, 2) := by decide +kernel
theorem d26_105 : decode jdk_43_method_32_code 105 = .ok (.aload_n 1, 1) := by decide +kernel
theorem d26_106 : decode jdk_43_method_32_code 106 = .ok (.iconst 0, 1) := by decide +kernel
theorem d26_107 : decode jdk_43_method_32_code 107 = .ok (.aload 6, 2) := by decide +kernel
theorem d26_109 : decode jdk_43_method_32_code 109 = .ok (.iconst 0, 1) := by decide +kernel
theorem d26_110 : decode jdk_43_method_32_code 110 = .ok (.iload_n 3, 1) := by decide +kernel
theorem d26_111 : decode jdk_43_method_32_code 111 = .ok (.invokestatic 28, 3) := by decide +kernel
theorem d26_114 : decode jdk_43_method_32_code 114 = .ok (.iload_n 3, 1) := by decide +kernel
theorem d26_115 : decode jdk_43_method_32_code 115 = .ok (.istore 7, 2) := by decide +kernel
theorem d26_117 : decode jdk_43_method_32_code 117 = .ok (.iload 7, 2) := by decide +kernel
theorem d26_119 : decode jdk_43_method_32_code 119 = .ok (.iload 4, 2) := by decide +kernel
theorem d26_121 : decode jdk_43_method_32_code 121 = .ok (.if_icmp .ge 54, 3) := by decide +kernel
theorem d26_124 : decode jdk_43_method_32_code 124 = .ok (.aload_n 1, 1) := by decide +kernel
theorem d26_125 : decode jdk_43_method_32_code 125 = .ok (.iload 7, 2) := by decide +kernel
theorem d26_127 : decode jdk_43_method_32_code 127 = .ok (.baload, 1) := by decide +kernel
theorem d26_128 : decode jdk_43_method_32_code 128 = .ok (.sipush 255, 3) := by decide +kernel
theorem d26_131 : decode jdk_43_method_32_code 131 = .ok (.iand, 1) := by decide +kernel
theorem d26_132 : decode jdk_43_method_32_code 132 = .ok (.istore 8, 2) := by decide +kernel
theorem d26_134 : decode jdk_43_method_32_code 134 = .ok (.getstatic 66, 3) := by decide +kernel
theorem d26_137 : decode jdk_43_method_32_code 137 = .ok (.iload 8, 2) := by decide +kernel
theorem d26_139 : decode jdk_43_method_32_code 139 = .ok (.invokevirtual 160, 3) := by decide +kernel
theorem d26_142 : decode jdk_43_method_32_code 142 = .ok (.istore 8, 2) := by decide +kernel
theorem d26_144 : decode jdk_43_method_32_code 144 = .ok (.iload 8, 2) := by decide +kernel
theorem d26_146 : decode jdk_43_method_32_code 146 = .ok (.invokestatic 88, 3) := by decide +kernel
theorem d26_149 : decode jdk_43_method_32_code 149 = .ok (.ifCond .ne 12, 3) := by decide +kernel
theorem d26_161 : decode jdk_43_method_32_code 161 = .ok (.aload 6, 2) := by decide +kernel
theorem d26_163 : decode jdk_43_method_32_code 163 = .ok (.iload 7, 2) := by decide +kernel
theorem d26_165 : decode jdk_43_method_32_code 165 = .ok (.iload 8, 2) := by decide +kernel
theorem d26_167 : decode jdk_43_method_32_code 167 = .ok (.i2b, 1) := by decide +kernel
theorem d26_168 : decode jdk_43_method_32_code 168 = .ok (.bastore, 1) := by decide +kernel
theorem d26_169 : decode jdk_43_method_32_code 169 = .ok (.iinc 7 1, 3) := by decide +kernel
theorem d26_172 : decode jdk_43_method_32_code 172 = .ok (.goto (-55), 3) := by decide +kernel
theorem d26_175 : decode jdk_43_method_32_code 175 = .ok (.new 1, 3) := by decide +kernel
theorem d26_178 : decode jdk_43_method_32_code 178 = .ok (.dup, 1) := by decide +kernel
theorem d26_179 : decode jdk_43_method_32_code 179 = .ok (.aload 6, 2) := by decide +kernel
theorem d26_181 : decode jdk_43_method_32_code 181 = .ok (.iconst 0, 1) := by decide +kernel
theorem d26_182 : decode jdk_43_method_32_code 182 = .ok (.invokespecial 112, 3) := by decide +kernel
theorem d26_185 : decode jdk_43_method_32_code 185 = .ok (.areturn, 1) := by decide +kernel
theorem d26_61 : decode jdk_43_method_32_code 61 = .ok (.aload_n 0, 1) := by decide +kernel
theorem d26_62 : decode jdk_43_method_32_code 62 = .ok (.areturn, 1) := by decide +kernel
theorem ef26 (m : MethodId) (x1 : Addr) (x1_value : Addr) (x3 : Addr) : entryFrame m #[(.ref x1), (.ref x1_value), (.ref x3)] 9 = mkF m 0 #[.val (.ref x1), .val (.ref x1_value), .val (.ref x3), .unset, .unset, .unset, .unset, .unset, .unset] [] := by first | (simp [entryFrame, mkF, argsToLocals, Value.category]; done) | rfl
def Q26 (Z : State) (x1 : Addr) (x3 : Addr) (x1_value : Addr) (ks : ClassId) (f : Nat → Int32) (n : Nat) (lb : Addr) (lg : Addr) (lv : Addr) (kl : ClassId) (st_instance : Addr) (h0 : Heap) (n0 : Nat) (v : Option Value) (h : Heap) (L : List Loc) : Prop := ∃ (b : Addr), ∃ (t : Addr), ∃ (kk : ClassId), v = some (.ref b) ∧ Fr n0 L ∧ Keep h0 h [] ∧ Exa Z h b "java/lang/String" ∧ Fld Z h b "java/lang/String" "value" "[B" (.ref t) ∧ Fld Z h b "java/lang/String" "coder" "B" (.int (0 : Int32)) ∧ Arv Z h t kk .byte (Int32.ofNat n) (own_fv (own_lw f) n) (.int 0)
set_option maxRecDepth 65536 in
set_option maxHeartbeats 40000000 in
theorem rm26 (l : Launch) (Z : State) (a0 : Array Value) (hw : ∀ d ∈ tables_1, d.before a0 Z = true) (ws : List Jvm.Cond) (x1 : Addr) (x3 : Addr) (x1_value : Addr) (ks : ClassId) (f : Nat → Int32) (n : Nat) (lb : Addr) (lg : Addr) (lv : Addr) (kl : ClassId) (st_instance : Addr) (h0 : Heap) (n0 : Nat) (Z0 : n0 ≤ h0.size) (O0 : Old Z n0 h0) (E_x1 : Exa Z h0 x1 "java/lang/String") (F_x1_value : Fld Z h0 x1 "java/lang/String" "value" "[B" (.ref x1_value)) (F_x1_coder : Fld Z h0 x1 "java/lang/String" "coder" "B" (.int (0 : Int32))) (V_x1_value : Arv Z h0 x1_value ks .byte (Int32.ofNat n) (own_fv f n) (.int 0)) (hp : ∀ j, j < n → ¬ f j < 0 ∧ ¬ (255 : Int32) < f j) (hn : n ≤ 24) (E_x3 : Exa Z h0 x3 "java/util/Locale") (F_x3_baseLocale : Fld Z h0 x3 "java/util/Locale" "baseLocale" "Lsun/util/locale/BaseLocale;" (.ref lb)) (E_lb : Exa Z h0 lb "sun/util/locale/BaseLocale") (F_lb_language : Fld Z h0 lb "sun/util/locale/BaseLocale" "language" "Ljava/lang/String;" (.ref lg)) (F_lg_value : Fld Z h0 lg "java/lang/String" "value" "[B" (.ref lv)) (V_lv : Arv Z h0 lv kl .byte (0 : Int32) [] (.int 0)) (S_instance : Sta Z Z.heap "java/lang/CharacterDataLatin1" "instance" "Ljava/lang/CharacterDataLatin1;" (.ref st_instance)) (E_st_instance : Exa Z h0 st_instance "java/lang/CharacterDataLatin1") :
    MetFree l (⟨"java/lang/StringLatin1", "toLowerCase", "(Ljava/lang/String;[BLjava/util/Locale;)Ljava/lang/String;"⟩ : MethodName) (head1 (Jvm.Cond.code (⟨"java/lang/StringLatin1", "toLowerCase", "(Ljava/lang/String;[BLjava/util/Locale;)Ljava/lang/String;"⟩ : MethodName) jdk_43_method_32_code 9 (some (.object "java/lang/String")) :: ws) ({ frames := 2, cells := 8, slots := 64, locals := 27 } : Room)) (fun a U => a = #[(.ref x1), (.ref x1_value), (.ref x3)] ∧ Z.Warmed39 U.vm ∧ U.heap = h0 ∧ CHv Z own_EL U.vm h0) (fun _ _ _ _ _ => True) (fun _ U o U' => ∃ v L, o = .returned v ∧ Q26 Z x1 x3 x1_value ks f n lb lg lv kl st_instance h0 n0 v U'.heap L ∧ CHr Z own_EL U.vm U.heap U'.vm U'.heap ∧ ReturnedEndW U o U' L ({ frames := 2, cells := 8, slots := 64, locals := 27 } : Room).cells ({ frames := 2, cells := 8, slots := 64, locals := 27 } : Room).slots) := by
  refine MetFree.of_bodySF (plainFor_of_name pn_java_lang_StringLatin1) hisR ?_
  intro p e s m args below meth c s₁ Bd hml0 hP hK
  obtain ⟨rfl, hZ, hh, CH0⟩ := hP
  have hx := Bd.exec
  have hby := Bd.bytes
  have hml : c.maxLocals = 9 := hml0
  have hown : (s.setVm s.vm).vm.findClass "java/lang/StringLatin1" = some m.cls := findClass_of_methodNamed Bd.named
  have hnm := (name_of_methodNamed Bd.named Bd.method).1
  have X0 : Stand p l e ({ frames := 2, cells := 8, slots := 64, locals := 27 } : Room) (s.setVm s.vm) m #[(.ref x1), (.ref x1_value), (.ref x3)] below meth c s₁ [] 0 0 := Stand.of_body Bd
  have e0 : s₁.heap = h0 := by rw [← hh, Bd.state]; rfl
  have N0 := Fr.nil n0
  have K0 : Keep h0 h0 [] := Keep.refl _ _
  have pre0 : ∀ t, Steps p.tables e below (s₁.setTop (mkF m 0 #[.val (.ref x1), .val (.ref x1_value), .val (.ref x3), .unset, .unset, .unset, .unset, .unset, .unset] [])) t → Steps p.tables e below (s₁.setTop (entryFrame m #[(.ref x1), (.ref x1_value), (.ref x3)] 9)) t := fun t k => castTop (ef26 m x1 x1_value x3) k
  have hZa : Z.Warmed39 (s.setVm s.vm).vm := hZ
  have howna : (s.setVm s.vm).vm.findClass "java/lang/StringLatin1" = some m.cls := hown
  have hS0 : s.Since s.vm h0.size := (State.WarmedH.refl s).since _
  have hk0 : h0.size ≤ h0.size := Nat.le_refl _
  have CR0 : CHr Z own_EL s.vm h0 s.vm h0 := CHr.refl CH0
  obtain ⟨cl_a213, Ar_a213, -, S_a213, N_a213, -, -⟩ := id V_x1_value
  have pre214 : ∀ t, Steps p.tables e below (s₁.setTop (mkF m 18 #[.val (.ref x1), .val (.ref x1_value), .val (.ref x3), .val (.int (0 : Int32)), .val (.int (Int32.ofNat n)), .unset, .unset, .unset, .unset] [])) t → Steps p.tables e below (s₁.setTop (entryFrame m #[(.ref x1), (.ref x1_value), (.ref x3)] 9)) t := by
    intro t kt
    refine pre0 t ?_
    show Steps p.tables e below (s₁.setTop (mkF m 0 #[.val (.ref x1), .val (.ref x1_value), .val (.ref x3), .unset, .unset, .unset, .unset, .unset, .unset] [])) _
    refine XS.aloadN X0.here hx rfl (hb hby d26_0) rfl rfl ?_
    show Steps p.tables e below (s₁.setTop (mkF m 1 #[.val (.ref x1), .val (.ref x1_value), .val (.ref x3), .unset, .unset, .unset, .unset, .unset, .unset] [(.ref x3)])) _
    refine XS.ifnonnullYes X0.here hx rfl (pc0 := 1) (pc' := 12) rfl (hb hby d26_1) rfl (by decide) (by decide) ?_
    refine XS.aloadN X0.here hx rfl (hb hby d26_12) rfl rfl ?_
    show Steps p.tables e below (s₁.setTop (mkF m 13 #[.val (.ref x1), .val (.ref x1_value), .val (.ref x3), .unset, .unset, .unset, .unset, .unset, .unset] [(.ref x1_value)])) _
    refine X0.arraylength hx (by rw [e0]; exact Ar_a213.1) (State.isArrayOf_alike hZa.alike Ar_a213.2.1) (g := (mkF m 13 #[.val (.ref x1), .val (.ref x1_value), .val (.ref x3), .unset, .unset, .unset, .unset, .unset, .unset] [(.ref x1_value)])) rfl rfl (hb hby d26_13) _ ?_
    rw [len_of S_a213 N_a213]
    refine XS.istore X0.here hx rfl (hb hby d26_14) rfl (l' := #[.val (.ref x1), .val (.ref x1_value), .val (.ref x3), .unset, .val (.int (Int32.ofNat n)), .unset, .unset, .unset, .unset]) rfl ?_
    refine XS.iconst X0.here hx rfl (hb hby d26_16) ?_
    refine XS.istoreN X0.here hx rfl (hb hby d26_17) rfl (l' := #[.val (.ref x1), .val (.ref x1_value), .val (.ref x3), .val (.int (0 : Int32)), .val (.int (Int32.ofNat n)), .unset, .unset, .unset, .unset]) rfl ?_
    exact kt
  refine own_ind (A := Nat × Slot) (fun (i_215, s5_215) => n - i_215) (fun (i_215, s5_215) T215 L215 h215 => (i_215 ≤ n) ∧ (∀ j, j < i_215 → own_low (f j) = f j) ∧ (s5_215 = .unset ∨ ∃ z : Int32, s5_215 = .val (.int z)) ∧ Stand p l e ({ frames := 2, cells := 8, slots := 64, locals := 27 } : Room) (s.setVm s.vm) m #[(.ref x1), (.ref x1_value), (.ref x3)] below meth c T215 L215 0 0 ∧ T215.heap = h0 ∧ Fr n0 L215 ∧ ∀ t, Steps p.tables e below (T215.setTop (mkF m 18 #[.val (.ref x1), .val (.ref x1_value), .val (.ref x3), .val (.int (Int32.ofNat i_215)), .val (.int (Int32.ofNat n)), s5_215, .unset, .unset, .unset] [])) t → Steps p.tables e below (s₁.setTop (entryFrame m #[(.ref x1), (.ref x1_value), (.ref x3)] 9)) t) ?_ (0, .unset) s₁ _ h0 ⟨(by omega), (fun j hj => absurd hj (by omega)), (Or.inl rfl), X0, e0, N0, pre214⟩
  rintro ⟨i_215, s5_215⟩ T215 L215 h215 ⟨hi_215, hl_215, hs5_215, X215, e215, N215, pre215⟩ ih215
  have pre216 : ∀ t, Steps p.tables e below (T215.setTop (mkF m 21 #[.val (.ref x1), .val (.ref x1_value), .val (.ref x3), .val (.int (Int32.ofNat i_215)), .val (.int (Int32.ofNat n)), s5_215, .unset, .unset, .unset] [(.int (Int32.ofNat n)), (.int (Int32.ofNat i_215))])) t → Steps p.tables e below (s₁.setTop (entryFrame m #[(.ref x1), (.ref x1_value), (.ref x3)] 9)) t := by
    intro t kt
    refine pre215 t ?_
    show Steps p.tables e below (T215.setTop (mkF m 18 #[.val (.ref x1), .val (.ref x1_value), .val (.ref x3), .val (.int (Int32.ofNat i_215)), .val (.int (Int32.ofNat n)), s5_215, .unset, .unset, .unset] [])) _
    refine XS.iloadN X215.here hx rfl (hb hby d26_18) rfl ?_
    refine XS.iload X215.here hx rfl (hb hby d26_19) rfl ?_
    exact kt
  by_cases hc21 : (Int32.ofNat i_215) < (Int32.ofNat n)
  · skip
    have nf217 : (i_215 < n) := (own_lt (i := i_215) (n := n) (by omega) (by omega)).mp hc21
    obtain ⟨cl_a218, Ar_a218, -, S_a218, N_a218, H_a218, -⟩ := id V_x1_value
    obtain ⟨hin_a218, hat_a218⟩ := own_rd (j := (Int32.ofNat i_215)) (i := i_215) S_a218 H_a218 rfl (by omega) (by omega)
    have rn219 : ((own_by (f i_215)) &&& (255 : Int32)) = (f i_215) := own_b255 (hp _ (by omega))
    obtain ⟨T220, X220, e220, st220⟩ := getS2 X215 hx hZa howna (host := "") (Or.inl (own_wd hw 141 rfl)) Via.refl e215 (S_instance.ext O0.2) (g := (mkF m 35 #[.val (.ref x1), .val (.ref x1_value), .val (.ref x3), .val (.int (Int32.ofNat i_215)), .val (.int (Int32.ofNat n)), .val (.int (f i_215)), .unset, .unset, .unset] [(.int (f i_215))])) rfl (hb hby d26_35)
    obtain ⟨cq221, kq221, q221a, q221b, q221c⟩ := isOf hZa e220 E_st_instance
    obtain ⟨_, _, ⟨T221, L221, k221, n221⟩, -, X221, ⟨Lc221, hQ221, l221, y221, z221⟩, st221⟩ := X220.virtualBack hx (y := (⟨"java/lang/CharacterDataLatin1", "toLowerCase", "(I)I"⟩ : MethodName)) (z := (⟨"java/lang/CharacterDataLatin1", "toLowerCase", "(I)I"⟩ : MethodName)) howna (mvT hZa (own_wd hw 143 rfl)) (mvT hZa (own_wd hw 144 rfl)) (notFace_of_selects (args := #[]) (mvT hZa (own_wd hw 146 rfl))) (mvT hZa (own_wd hw 146 rfl)) (mvT hZa (own_wd hw 145 rfl)) (by decide) (backOf (W := 1) (rm32 l Z a0 hw [] st_instance (f i_215) h0 n0 Z0 O0) hZa (own_wd hw 147 rfl) (own_wd hw 142 rfl) (by decide) (by decide)) q221a q221c (g := (mkF m 40 #[.val (.ref x1), .val (.ref x1_value), .val (.ref x3), .val (.int (Int32.ofNat i_215)), .val (.int (Int32.ofNat n)), .val (.int (f i_215)), .unset, .unset, .unset] [(.int (f i_215)), (.ref st_instance), (.int (f i_215))])) rfl (by rw [hml]; rfl) (Steps.refl _) (argsL := [(.int (f i_215))]) (rest := [(.int (f i_215))]) (lenOf pd_14 rfl) rfl (by show 2 * 0 + _ ≤ _; exact Nat.le_of_eq rfl) (hb hby d26_40) (fun _ _ => ⟨rfl, e220, (by decide : 0 + 0 ≤ _), (by decide : 0 + 0 ≤ _)⟩)
    dsimp only [Pt.U, Pt.locs, Pt.cells, Pt.slots] at X221 l221 y221 z221 st221 hQ221
    subst l221 y221 z221
    obtain ⟨rfl, N221q, eh221⟩ := hQ221
    have N221 := Fr.app N215 N221q
    have pre222 : ∀ t, Steps p.tables e below (T221.setTop (mkF m 43 #[.val (.ref x1), .val (.ref x1_value), .val (.ref x3), .val (.int (Int32.ofNat i_215)), .val (.int (Int32.ofNat n)), .val (.int (f i_215)), .unset, .unset, .unset] [(.int (own_low (f i_215))), (.int (f i_215))])) t → Steps p.tables e below (s₁.setTop (entryFrame m #[(.ref x1), (.ref x1_value), (.ref x3)] 9)) t := by
      intro t kt
      refine pre216 t ?_
      show Steps p.tables e below (T215.setTop (mkF m 21 #[.val (.ref x1), .val (.ref x1_value), .val (.ref x3), .val (.int (Int32.ofNat i_215)), .val (.int (Int32.ofNat n)), s5_215, .unset, .unset, .unset] [(.int (Int32.ofNat n)), (.int (Int32.ofNat i_215))])) _
      refine XS.icmpNo X215.here hx rfl (hb hby d26_21) rfl (tlt hc21).2.1 ?_
      refine XS.aloadN X215.here hx rfl (hb hby d26_24) rfl rfl ?_
      refine XS.iloadN X215.here hx rfl (hb hby d26_25) rfl ?_
      show Steps p.tables e below (T215.setTop (mkF m 26 #[.val (.ref x1), .val (.ref x1_value), .val (.ref x3), .val (.int (Int32.ofNat i_215)), .val (.int (Int32.ofNat n)), s5_215, .unset, .unset, .unset] [(.int (Int32.ofNat i_215)), (.ref x1_value)])) _
      refine X215.baloadBytes hx (j := (Int32.ofNat i_215)) (v := (.int (own_by (f i_215)))) (by rw [e215]; exact Ar_a218.1) (State.isArrayOf_alike hZa.alike Ar_a218.2.1) Ar_a218.2.2 hin_a218 hat_a218 (g := (mkF m 26 #[.val (.ref x1), .val (.ref x1_value), .val (.ref x3), .val (.int (Int32.ofNat i_215)), .val (.int (Int32.ofNat n)), s5_215, .unset, .unset, .unset] [(.int (Int32.ofNat i_215)), (.ref x1_value)])) rfl rfl (hb hby d26_26) _ ?_
      refine XS.sipush X215.here hx rfl (hb hby d26_27) ?_
      refine XS.iand X215.here hx rfl (hb hby d26_30) rfl ?_
      show Steps p.tables e below (T215.setTop (mkF m 31 #[.val (.ref x1), .val (.ref x1_value), .val (.ref x3), .val (.int (Int32.ofNat i_215)), .val (.int (Int32.ofNat n)), s5_215, .unset, .unset, .unset] [(.int ((own_by (f i_215)) &&& (255 : Int32)))])) _
      rw [rn219]
      refine XS.istore X215.here hx rfl (hb hby d26_31) rfl (l' := #[.val (.ref x1), .val (.ref x1_value), .val (.ref x3), .val (.int (Int32.ofNat i_215)), .val (.int (Int32.ofNat n)), .val (.int (f i_215)), .unset, .unset, .unset]) (by rcases hs5_215 with q | ⟨z, q⟩ <;> rw [q] <;> rfl) ?_
      refine XS.iload X215.here hx rfl (hb hby d26_33) rfl ?_
      show Steps p.tables e below (T215.setTop (mkF m 35 #[.val (.ref x1), .val (.ref x1_value), .val (.ref x3), .val (.int (Int32.ofNat i_215)), .val (.int (Int32.ofNat n)), .val (.int (f i_215)), .unset, .unset, .unset] [(.int (f i_215))])) _
      refine st220 _ ?_
      show Steps p.tables e below (T220.setTop (mkF m 38 #[.val (.ref x1), .val (.ref x1_value), .val (.ref x3), .val (.int (Int32.ofNat i_215)), .val (.int (Int32.ofNat n)), .val (.int (f i_215)), .unset, .unset, .unset] [(.ref st_instance), (.int (f i_215))])) _
      refine XS.iload X220.here hx rfl (hb hby d26_38) rfl ?_
      show Steps p.tables e below (T220.setTop (mkF m 40 #[.val (.ref x1), .val (.ref x1_value), .val (.ref x3), .val (.int (Int32.ofNat i_215)), .val (.int (Int32.ofNat n)), .val (.int (f i_215)), .unset, .unset, .unset] [(.int (f i_215)), (.ref st_instance), (.int (f i_215))])) _
      refine st221.trans ?_
      exact kt
    by_cases hc43 : (f i_215) = (own_low (f i_215))
    · skip
      have pre223 : ∀ t, Steps p.tables e below (T221.setTop (mkF m 18 #[.val (.ref x1), .val (.ref x1_value), .val (.ref x3), .val (.int ((Int32.ofNat i_215) + (1 : Int32))), .val (.int (Int32.ofNat n)), .val (.int (f i_215)), .unset, .unset, .unset] [])) t → Steps p.tables e below (s₁.setTop (entryFrame m #[(.ref x1), (.ref x1_value), (.ref x3)] 9)) t := by
        intro t kt
        refine pre222 t ?_
        show Steps p.tables e below (T221.setTop (mkF m 43 #[.val (.ref x1), .val (.ref x1_value), .val (.ref x3), .val (.int (Int32.ofNat i_215)), .val (.int (Int32.ofNat n)), .val (.int (f i_215)), .unset, .unset, .unset] [(.int (own_low (f i_215))), (.int (f i_215))])) _
        refine XS.icmpYes X221.here hx rfl (pc0 := 43) (pc' := 49) rfl (hb hby d26_43) rfl (teq hc43).1 (by decide) (by decide) ?_
        refine XS.iinc X221.here hx rfl (hb hby d26_49) rfl (l' := #[.val (.ref x1), .val (.ref x1_value), .val (.ref x3), .val (.int ((Int32.ofNat i_215) + (1 : Int32))), .val (.int (Int32.ofNat n)), .val (.int (f i_215)), .unset, .unset, .unset]) rfl ?_
        refine XS.goto X221.here hx rfl (pc0 := 52) (pc' := 18) rfl (hb hby d26_52) (by decide) (by decide) ?_
        exact kt
      exact ih215 ((i_215 + 1), (.val (.int (f i_215)))) T221 _ h0 (by show _ - _ < _ - _; omega) ⟨(by omega), (own_all hl_215 (Eq.symm hc43)), (Or.inr ⟨_, rfl⟩), X221, eh221, N221, (fun t kt => pre223 t (by rw [own_one]; exact kt))⟩
    · skip
      have pre224 : ∀ t, Steps p.tables e below (T221.setTop (mkF m 58 #[.val (.ref x1), .val (.ref x1_value), .val (.ref x3), .val (.int (Int32.ofNat i_215)), .val (.int (Int32.ofNat n)), .val (.int (f i_215)), .unset, .unset, .unset] [(.int (Int32.ofNat n)), (.int (Int32.ofNat i_215))])) t → Steps p.tables e below (s₁.setTop (entryFrame m #[(.ref x1), (.ref x1_value), (.ref x3)] 9)) t := by
        intro t kt
        refine pre222 t ?_
        show Steps p.tables e below (T221.setTop (mkF m 43 #[.val (.ref x1), .val (.ref x1_value), .val (.ref x3), .val (.int (Int32.ofNat i_215)), .val (.int (Int32.ofNat n)), .val (.int (f i_215)), .unset, .unset, .unset] [(.int (own_low (f i_215))), (.int (f i_215))])) _
        refine XS.icmpNo X221.here hx rfl (hb hby d26_43) rfl (feq hc43).1 ?_
        refine XS.goto X221.here hx rfl (pc0 := 46) (pc' := 55) rfl (hb hby d26_46) (by decide) (by decide) ?_
        refine XS.iloadN X221.here hx rfl (hb hby d26_55) rfl ?_
        refine XS.iload X221.here hx rfl (hb hby d26_56) rfl ?_
        exact kt
      by_cases hc58 : (Int32.ofNat i_215) = (Int32.ofNat n)
      · skip
        have nf225 : (i_215 = n) := (own_eq (i := i_215) (n := n) (by omega) (by omega)).mp hc58
        exact False.elim (by omega)
      · skip
        have nf226 : ¬ (i_215 = n) := fun q => hc58 ((own_eq (i := i_215) (n := n) (by omega) (by omega)).mpr q)
        obtain ⟨cq227, kq227, q227a, q227b, q227c⟩ := isOf hZa eh221 E_x3
        obtain ⟨_, _, ⟨T227, L227, k227, n227⟩, -, X227, ⟨Lc227, hQ227, l227, y227, z227⟩, st227⟩ := X221.virtualBack hx (y := (⟨"java/util/Locale", "getLanguage", "()Ljava/lang/String;"⟩ : MethodName)) (z := (⟨"java/util/Locale", "getLanguage", "()Ljava/lang/String;"⟩ : MethodName)) howna (mvT hZa (own_wd hw 166 rfl)) (mvT hZa (own_wd hw 167 rfl)) (notFace_of_selects (args := #[]) (mvT hZa (own_wd hw 169 rfl))) (mvT hZa (own_wd hw 169 rfl)) (mvT hZa (own_wd hw 168 rfl)) (by decide) (backOf (W := 0) (rm38 l Z a0 hw [] x3 lb lg h0 n0 Z0 O0 F_x3_baseLocale F_lb_language E_lb) hZa (own_wd hw 170 rfl) (own_wd hw 108 rfl) (by decide) (by decide)) q227a q227c (g := (mkF m 64 #[.val (.ref x1), .val (.ref x1_value), .val (.ref x3), .val (.int (Int32.ofNat i_215)), .val (.int (Int32.ofNat n)), .val (.int (f i_215)), .unset, .unset, .unset] [(.ref x3)])) rfl (by rw [hml]; rfl) (Steps.refl _) (argsL := []) (rest := []) (lenOf pd_13 rfl) rfl (by show 2 * 0 + _ ≤ _; exact Nat.le_of_eq rfl) (hb hby d26_64) (fun _ _ => ⟨rfl, eh221, (by decide : 0 + 0 ≤ _), (by decide : 0 + 0 ≤ _)⟩)
        dsimp only [Pt.U, Pt.locs, Pt.cells, Pt.slots] at X227 l227 y227 z227 st227 hQ227
        subst l227 y227 z227
        obtain ⟨rfl, N227q, eh227⟩ := hQ227
        have N227 := Fr.app N221 N227q
        obtain ⟨b228, T228, h228, k228, t228, kb228, X228, e228, E228, hS228, hk228, hZ228, hown228, Ex228, Co228, Va228, Ar228, lta228, ltb228, R228, Lt228, sep228, st228⟩ := ldcCH (s := s) (vm0 := s.vm) X227 hx hZa howna (own_wd hw 181 rfl) (own_wS hw) eh227 hS0 hk0 (own_EW hw) (List.mem_of_getElem? (i := 1) rfl) CH0 (vs := [(.int (116 : Int32)), (.int (114 : Int32))]) (z := (2 : Int32)) ⟨by decide +kernel, by decide +kernel⟩ (by decide) (by decide) (g := (mkF m 71 #[.val (.ref x1), .val (.ref x1_value), .val (.ref x3), .val (.int (Int32.ofNat i_215)), .val (.int (Int32.ofNat n)), .val (.ref lg), .unset, .unset, .unset] [(.ref lg)])) rfl (hb hby d26_71) (n := 8) (by decide +kernel) (by decide) (by decide) (by decide)
        have O228 : Old Z n0 h228 := O0.ext E228
        have Z228 : n0 ≤ h228.size := Nat.le_trans Z0 E228.1
        have K228 : Keep h0 h228 [] := K0.ext E228
        have CH228 : CHv Z own_EL T228.vm h228 := R228.1
        have CR228 : CHr Z own_EL s.vm h0 T228.vm h228 := CR0.trans R228
        have F229 : Fld Z h228 lg "java/lang/String" "value" "[B" (.ref lv) := (F_lg_value.ext E228)
        have V230 : Arv Z h228 lv kl .byte (0 : Int32) [] (.int 0) := (V_lv.ext E228)
        obtain ⟨b231, T231, h231, k231, t231, kb231, X231, e231, E231, hS231, hk231, hZ231, hown231, Ex231, Co231, Va231, Ar231, lta231, ltb231, R231, Lt231, sep231, st231⟩ := ldcCH (s := s) (vm0 := T228.vm) X228 hx hZ228 hown228 (own_wd hw 182 rfl) (own_wS hw) e228 hS228 hk228 (own_EW hw) (List.mem_of_getElem? (i := 2) rfl) CH228 (vs := [(.int (97 : Int32)), (.int (122 : Int32))]) (z := (2 : Int32)) ⟨by decide +kernel, by decide +kernel⟩ (by decide) (by decide) (g := (mkF m 78 #[.val (.ref x1), .val (.ref x1_value), .val (.ref x3), .val (.int (Int32.ofNat i_215)), .val (.int (Int32.ofNat n)), .val (.ref lg), .unset, .unset, .unset] [(.ref lg)])) rfl (hb hby d26_78) (n := 8) (by decide +kernel) (by decide) (by decide) (by decide)
        have O231 : Old Z n0 h231 := O228.ext E231
        have Z231 : n0 ≤ h231.size := Nat.le_trans Z228 E231.1
        have K231 : Keep h0 h231 [] := K228.ext E231
        have CH231 : CHv Z own_EL T231.vm h231 := R231.1
        have CR231 : CHr Z own_EL s.vm h0 T231.vm h231 := CR228.trans R231
        have F232 : Fld Z h231 lg "java/lang/String" "value" "[B" (.ref lv) := (F229.ext E231)
        have V233 : Arv Z h231 lv kl .byte (0 : Int32) [] (.int 0) := (V230.ext E231)
        obtain ⟨b234, T234, h234, k234, t234, kb234, X234, e234, E234, hS234, hk234, hZ234, hown234, Ex234, Co234, Va234, Ar234, lta234, ltb234, R234, Lt234, sep234, st234⟩ := ldcCH (s := s) (vm0 := T231.vm) X231 hx hZ231 hown231 (own_wd hw 183 rfl) (own_wS hw) e231 hS231 hk231 (own_EW hw) (List.mem_of_getElem? (i := 3) rfl) CH231 (vs := [(.int (108 : Int32)), (.int (116 : Int32))]) (z := (2 : Int32)) ⟨by decide +kernel, by decide +kernel⟩ (by decide) (by decide) (g := (mkF m 85 #[.val (.ref x1), .val (.ref x1_value), .val (.ref x3), .val (.int (Int32.ofNat i_215)), .val (.int (Int32.ofNat n)), .val (.ref lg), .unset, .unset, .unset] [(.ref lg)])) rfl (hb hby d26_85) (n := 8) (by decide +kernel) (by decide) (by decide) (by decide)
        have O234 : Old Z n0 h234 := O231.ext E234
        have Z234 : n0 ≤ h234.size := Nat.le_trans Z231 E234.1
        have K234 : Keep h0 h234 [] := K231.ext E234
        have CH234 : CHv Z own_EL T234.vm h234 := R234.1
        have CR234 : CHr Z own_EL s.vm h0 T234.vm h234 := CR231.trans R234
        have F235 : Fld Z h234 lg "java/lang/String" "value" "[B" (.ref lv) := (F232.ext E234)
        have V236 : Arv Z h234 lv kl .byte (0 : Int32) [] (.int 0) := (V233.ext E234)
        obtain ⟨T237, h237, k237, X237, e237, E237, A237, st237⟩ := newP X234 hx hZ234 (own_wd hw 23 rfl) e234 (g := (mkF m 101 #[.val (.ref x1), .val (.ref x1_value), .val (.ref x3), .val (.int (Int32.ofNat i_215)), .val (.int (Int32.ofNat n)), .val (.ref lg), .unset, .unset, .unset] [(.int (Int32.ofNat n))])) rfl (hb hby d26_101) rfl (own_nn (by omega)) (cap := 24) (by rw [own_nat (by omega)]; omega) (by decide) (by decide) (by decide)
        obtain ⟨b237, g237⟩ : ∃ z, z = h234.size := ⟨_, rfl⟩
        rw [← g237] at A237 st237
        have O237 : Old Z n0 h237 := O234.ext E237
        have Z237 : n0 ≤ h237.size := Nat.le_trans Z234 E237.1
        have K237 : Keep h0 h237 [] := K234.ext E237
        have CH237 : CHv Z own_EL T234.vm h237 := CHv.ext E237 CH234
        have CR237 : CHr Z own_EL s.vm h0 T234.vm h237 := CR234.trans (CHr.ext E237 CH234)
        have g_b237 : n0 ≤ b237 := Nat.le_trans Z234 (Nat.le_of_eq g237.symm)
        have sz_b237 : h0.size ≤ b237 := Nat.le_trans K234.1 (Nat.le_of_eq g237.symm)
        have V237 : Arv Z h237 b237 k237 .byte (Int32.ofNat n) (own_fv own_zf n) (.int (0 : Int32)) := (Arv.new A237 (own_nn (by omega))).pad (own_fv0 _)
        have V238 : Arv Z h237 x1_value ks .byte (Int32.ofNat n) (own_fv f n) (.int 0) := ((((V_x1_value.ext E228).ext E231).ext E234).ext E237)
        obtain ⟨T239, h239, L239, X239, e239, N239, KK239, A239, st239⟩ := own_cp X237 hx hZ234 hown234 (own_wd hw 184 rfl) (own_wd hw 137 rfl) (own_wd hw 135 rfl) (own_wd hw 136 rfl) e237 (sp := 0) (dp := 0) (nn := i_215) (H := (own_mxf f i_215)) V238 V237 (by omega) (by omega) (by omega) (by omega) (by omega) (own_cplow hl_215) N227 g_b237 (g := (mkF m 111 #[.val (.ref x1), .val (.ref x1_value), .val (.ref x3), .val (.int (Int32.ofNat i_215)), .val (.int (Int32.ofNat n)), .val (.ref lg), .val (.ref b237), .unset, .unset] [(.int (Int32.ofNat i_215)), (.int (0 : Int32)), (.ref b237), (.int (0 : Int32)), (.ref x1_value)])) rfl (by rw [hml]; rfl) rfl (hb hby d26_111) (by decide) (W := 0) (by show 2 * 0 + _ ≤ _; exact Nat.le_of_eq rfl) (by decide)
        have sf240 : Safe Z own_EL T234.vm h237 b237 := (Safe.ext E237 CH234 (Safe.new (Nat.le_of_eq g237.symm)))
        have O239 : Old Z n0 h239 := O237.keep KK239 (allS g_b237 all0)
        have Z239 : n0 ≤ h239.size := Nat.le_trans Z237 KK239.1
        have K239 : Keep h0 h239 [] := K237.trans KK239 (allS (Or.inr sz_b237) all0)
        have CH239 : CHv Z own_EL T234.vm h239 := CHv.keep KK239 (sfS sf240 sf0) CH237
        have CR239 : CHr Z own_EL s.vm h0 T234.vm h239 := CR237.trans (CHr.keep KK239 (sfS sf240 sf0) CH237)
        have pre241 : ∀ t, Steps p.tables e below (T239.setTop (mkF m 117 #[.val (.ref x1), .val (.ref x1_value), .val (.ref x3), .val (.int (Int32.ofNat i_215)), .val (.int (Int32.ofNat n)), .val (.ref lg), .val (.ref b237), .val (.int (Int32.ofNat i_215)), .unset] [])) t → Steps p.tables e below (s₁.setTop (entryFrame m #[(.ref x1), (.ref x1_value), (.ref x3)] 9)) t := by
          intro t kt
          refine pre224 t ?_
          show Steps p.tables e below (T221.setTop (mkF m 58 #[.val (.ref x1), .val (.ref x1_value), .val (.ref x3), .val (.int (Int32.ofNat i_215)), .val (.int (Int32.ofNat n)), .val (.int (f i_215)), .unset, .unset, .unset] [(.int (Int32.ofNat n)), (.int (Int32.ofNat i_215))])) _
          refine XS.icmpYes X221.here hx rfl (pc0 := 58) (pc' := 63) rfl (hb hby d26_58) rfl (feq hc58).2 (by decide) (by decide) ?_
          refine XS.aloadN X221.here hx rfl (hb hby d26_63) rfl rfl ?_
          show Steps p.tables e below (T221.setTop (mkF m 64 #[.val (.ref x1), .val (.ref x1_value), .val (.ref x3), .val (.int (Int32.ofNat i_215)), .val (.int (Int32.ofNat n)), .val (.int (f i_215)), .unset, .unset, .unset] [(.ref x3)])) _
          refine st227.trans ?_
          show Steps p.tables e below (T227.setTop (mkF m 67 #[.val (.ref x1), .val (.ref x1_value), .val (.ref x3), .val (.int (Int32.ofNat i_215)), .val (.int (Int32.ofNat n)), .val (.int (f i_215)), .unset, .unset, .unset] [(.ref lg)])) _
          refine XS.astore X227.here hx rfl (hb hby d26_67) rfl rfl (l' := #[.val (.ref x1), .val (.ref x1_value), .val (.ref x3), .val (.int (Int32.ofNat i_215)), .val (.int (Int32.ofNat n)), .val (.ref lg), .unset, .unset, .unset]) rfl ?_
          refine XS.aload X227.here hx rfl (hb hby d26_69) rfl rfl ?_
          show Steps p.tables e below (T227.setTop (mkF m 71 #[.val (.ref x1), .val (.ref x1_value), .val (.ref x3), .val (.int (Int32.ofNat i_215)), .val (.int (Int32.ofNat n)), .val (.ref lg), .unset, .unset, .unset] [(.ref lg)])) _
          refine st228 _ ?_
          show Steps p.tables e below (T228.setTop (mkF m 73 #[.val (.ref x1), .val (.ref x1_value), .val (.ref x3), .val (.int (Int32.ofNat i_215)), .val (.int (Int32.ofNat n)), .val (.ref lg), .unset, .unset, .unset] [(.ref b228), (.ref lg)])) _
          refine Jvm.RoadKit.acmp (g := (mkF m 73 #[.val (.ref x1), .val (.ref x1_value), .val (.ref x3), .val (.int (Int32.ofNat i_215)), .val (.int (Int32.ofNat n)), .val (.ref lg), .unset, .unset, .unset] [(.ref b228), (.ref lg)])) X228 hx rfl rfl rfl (pc0 := 73) (pc' := 76) (same := false) rfl (hb hby d26_73) rfl (decide_eq_false fun q => (Fld.ne F229 Va228 (fun q => own_arvne V230 Ar228 (by decide) (Value.ref.inj q))) (Value.ref.inj q)) (by decide) (by decide) ?_
          refine XS.aload X228.here hx rfl (hb hby d26_76) rfl rfl ?_
          show Steps p.tables e below (T228.setTop (mkF m 78 #[.val (.ref x1), .val (.ref x1_value), .val (.ref x3), .val (.int (Int32.ofNat i_215)), .val (.int (Int32.ofNat n)), .val (.ref lg), .unset, .unset, .unset] [(.ref lg)])) _
          refine st231 _ ?_
          show Steps p.tables e below (T231.setTop (mkF m 80 #[.val (.ref x1), .val (.ref x1_value), .val (.ref x3), .val (.int (Int32.ofNat i_215)), .val (.int (Int32.ofNat n)), .val (.ref lg), .unset, .unset, .unset] [(.ref b231), (.ref lg)])) _
          refine Jvm.RoadKit.acmp (g := (mkF m 80 #[.val (.ref x1), .val (.ref x1_value), .val (.ref x3), .val (.int (Int32.ofNat i_215)), .val (.int (Int32.ofNat n)), .val (.ref lg), .unset, .unset, .unset] [(.ref b231), (.ref lg)])) X231 hx rfl rfl rfl (pc0 := 80) (pc' := 83) (same := false) rfl (hb hby d26_80) rfl (decide_eq_false fun q => (Fld.ne F232 Va231 (fun q => own_arvne V233 Ar231 (by decide) (Value.ref.inj q))) (Value.ref.inj q)) (by decide) (by decide) ?_
          refine XS.aload X231.here hx rfl (hb hby d26_83) rfl rfl ?_
          show Steps p.tables e below (T231.setTop (mkF m 85 #[.val (.ref x1), .val (.ref x1_value), .val (.ref x3), .val (.int (Int32.ofNat i_215)), .val (.int (Int32.ofNat n)), .val (.ref lg), .unset, .unset, .unset] [(.ref lg)])) _
          refine st234 _ ?_
          show Steps p.tables e below (T234.setTop (mkF m 87 #[.val (.ref x1), .val (.ref x1_value), .val (.ref x3), .val (.int (Int32.ofNat i_215)), .val (.int (Int32.ofNat n)), .val (.ref lg), .unset, .unset, .unset] [(.ref b234), (.ref lg)])) _
          refine Jvm.RoadKit.acmp (g := (mkF m 87 #[.val (.ref x1), .val (.ref x1_value), .val (.ref x3), .val (.int (Int32.ofNat i_215)), .val (.int (Int32.ofNat n)), .val (.ref lg), .unset, .unset, .unset] [(.ref b234), (.ref lg)])) X234 hx rfl rfl rfl (pc0 := 87) (pc' := 99) (same := false) rfl (hb hby d26_87) rfl (decide_eq_false fun q => (Fld.ne F235 Va234 (fun q => own_arvne V236 Ar234 (by decide) (Value.ref.inj q))) (Value.ref.inj q)) (by decide) (by decide) ?_
          refine XS.iload X234.here hx rfl (hb hby d26_99) rfl ?_
          show Steps p.tables e below (T234.setTop (mkF m 101 #[.val (.ref x1), .val (.ref x1_value), .val (.ref x3), .val (.int (Int32.ofNat i_215)), .val (.int (Int32.ofNat n)), .val (.ref lg), .unset, .unset, .unset] [(.int (Int32.ofNat n))])) _
          refine st237 _ ?_
          show Steps p.tables e below (T237.setTop (mkF m 103 #[.val (.ref x1), .val (.ref x1_value), .val (.ref x3), .val (.int (Int32.ofNat i_215)), .val (.int (Int32.ofNat n)), .val (.ref lg), .unset, .unset, .unset] [(.ref b237)])) _
          refine XS.astore X237.here hx rfl (hb hby d26_103) rfl rfl (l' := #[.val (.ref x1), .val (.ref x1_value), .val (.ref x3), .val (.int (Int32.ofNat i_215)), .val (.int (Int32.ofNat n)), .val (.ref lg), .val (.ref b237), .unset, .unset]) rfl ?_
          refine XS.aloadN X237.here hx rfl (hb hby d26_105) rfl rfl ?_
          refine XS.iconst X237.here hx rfl (hb hby d26_106) ?_
          refine XS.aload X237.here hx rfl (hb hby d26_107) rfl rfl ?_
          refine XS.iconst X237.here hx rfl (hb hby d26_109) ?_
          refine XS.iloadN X237.here hx rfl (hb hby d26_110) rfl ?_
          show Steps p.tables e below (T237.setTop (mkF m 111 #[.val (.ref x1), .val (.ref x1_value), .val (.ref x3), .val (.int (Int32.ofNat i_215)), .val (.int (Int32.ofNat n)), .val (.ref lg), .val (.ref b237), .unset, .unset] [(.int (Int32.ofNat i_215)), (.int (0 : Int32)), (.ref b237), (.int (0 : Int32)), (.ref x1_value)])) _
          refine st239 _ ?_
          show Steps p.tables e below (T239.setTop (mkF m 114 #[.val (.ref x1), .val (.ref x1_value), .val (.ref x3), .val (.int (Int32.ofNat i_215)), .val (.int (Int32.ofNat n)), .val (.ref lg), .val (.ref b237), .unset, .unset] [])) _
          refine XS.iloadN X239.here hx rfl (hb hby d26_114) rfl ?_
          refine XS.istore X239.here hx rfl (hb hby d26_115) rfl (l' := #[.val (.ref x1), .val (.ref x1_value), .val (.ref x3), .val (.int (Int32.ofNat i_215)), .val (.int (Int32.ofNat n)), .val (.ref lg), .val (.ref b237), .val (.int (Int32.ofNat i_215)), .unset]) rfl ?_
          exact kt
        refine own_ind (A := Nat × Slot) (fun (q_242, s8_242) => n - q_242) (fun (q_242, s8_242) T242 L242 h242 => (q_242 ≤ n) ∧ (s8_242 = .unset ∨ ∃ z : Int32, s8_242 = .val (.int z)) ∧ Stand p l e ({ frames := 2, cells := 8, slots := 64, locals := 27 } : Room) (s.setVm T234.vm) m #[(.ref x1), (.ref x1_value), (.ref x3)] below meth c T242 L242 7 60 ∧ T242.heap = h242 ∧ Fr n0 L242 ∧ Keep h239 h242 [b237] ∧ Arv Z h242 b237 k237 .byte (Int32.ofNat n) (own_fv (own_mxf f q_242) n) (.int (0 : Int32)) ∧ ∀ t, Steps p.tables e below (T242.setTop (mkF m 117 #[.val (.ref x1), .val (.ref x1_value), .val (.ref x3), .val (.int (Int32.ofNat i_215)), .val (.int (Int32.ofNat n)), .val (.ref lg), .val (.ref b237), .val (.int (Int32.ofNat q_242)), s8_242] [])) t → Steps p.tables e below (s₁.setTop (entryFrame m #[(.ref x1), (.ref x1_value), (.ref x3)] 9)) t) ?_ (i_215, .unset) T239 _ h239 ⟨(by omega), (Or.inl rfl), X239, e239, N239, (Keep.refl _ _), A239, pre241⟩
        rintro ⟨q_242, s8_242⟩ T242 L242 h242 ⟨hq_242, hs8_242, X242, e242, N242, KK242, J242_0, pre242⟩ ih242
        have sf243 : Safe Z own_EL T234.vm h239 b237 := (Safe.keep KK239 (sfS sf240 sf0) CH237 sf240)
        have O242 : Old Z n0 h242 := O239.keep KK242 (allS g_b237 all0)
        have Z242 : n0 ≤ h242.size := Nat.le_trans Z239 KK242.1
        have K242 : Keep h0 h242 [] := K239.trans KK242 (allS (Or.inr sz_b237) all0)
        have CH242 : CHv Z own_EL T234.vm h242 := CHv.keep KK242 (sfS sf243 sf0) CH239
        have CR242 : CHr Z own_EL s.vm h0 T234.vm h242 := CR239.trans (CHr.keep KK242 (sfS sf243 sf0) CH239)
        have pre244 : ∀ t, Steps p.tables e below (T242.setTop (mkF m 121 #[.val (.ref x1), .val (.ref x1_value), .val (.ref x3), .val (.int (Int32.ofNat i_215)), .val (.int (Int32.ofNat n)), .val (.ref lg), .val (.ref b237), .val (.int (Int32.ofNat q_242)), s8_242] [(.int (Int32.ofNat n)), (.int (Int32.ofNat q_242))])) t → Steps p.tables e below (s₁.setTop (entryFrame m #[(.ref x1), (.ref x1_value), (.ref x3)] 9)) t := by
          intro t kt
          refine pre242 t ?_
          show Steps p.tables e below (T242.setTop (mkF m 117 #[.val (.ref x1), .val (.ref x1_value), .val (.ref x3), .val (.int (Int32.ofNat i_215)), .val (.int (Int32.ofNat n)), .val (.ref lg), .val (.ref b237), .val (.int (Int32.ofNat q_242)), s8_242] [])) _
          refine XS.iload X242.here hx rfl (hb hby d26_117) rfl ?_
          refine XS.iload X242.here hx rfl (hb hby d26_119) rfl ?_
          exact kt
        by_cases hc121 : (Int32.ofNat q_242) < (Int32.ofNat n)
        · skip
          have nf245 : (q_242 < n) := (own_lt (i := q_242) (n := n) (by omega) (by omega)).mp hc121
          have V246 : Arv Z h242 x1_value ks .byte (Int32.ofNat n) (own_fv f n) (.int 0) := ((V238.keep KK239 (ninS (Nat.ne_of_lt (Nat.lt_of_lt_of_le (((V_x1_value.ext E228).ext E231).ext E234).lt (Nat.le_of_eq g237.symm))) nin0)).keep KK242 (ninS (Nat.ne_of_lt (Nat.lt_of_lt_of_le (((V_x1_value.ext E228).ext E231).ext E234).lt (Nat.le_of_eq g237.symm))) nin0))
          obtain ⟨cl_a247, Ar_a247, -, S_a247, N_a247, H_a247, -⟩ := id V246
          obtain ⟨hin_a247, hat_a247⟩ := own_rd (j := (Int32.ofNat q_242)) (i := q_242) S_a247 H_a247 rfl (by omega) (by omega)
          have rn248 : ((own_by (f q_242)) &&& (255 : Int32)) = (f q_242) := own_b255 (hp _ (by omega))
          obtain ⟨T249, X249, e249, st249⟩ := getS2 X242 hx hZ234 hown234 (host := "") (Or.inl (own_wd hw 141 rfl)) Via.refl e242 (S_instance.ext O242.2) (g := (mkF m 134 #[.val (.ref x1), .val (.ref x1_value), .val (.ref x3), .val (.int (Int32.ofNat i_215)), .val (.int (Int32.ofNat n)), .val (.ref lg), .val (.ref b237), .val (.int (Int32.ofNat q_242)), .val (.int (f q_242))] [])) rfl (hb hby d26_134)
          have C251 : Exa Z h242 st_instance "java/lang/CharacterDataLatin1" := ((((((E_st_instance.ext E228).ext E231).ext E234).ext E237).keep KK239).keep KK242)
          obtain ⟨cq250, kq250, q250a, q250b, q250c⟩ := isOf hZ234 e249 C251
          obtain ⟨_, _, ⟨T250, L250, k250, n250⟩, -, X250, ⟨Lc250, hQ250, l250, y250, z250⟩, st250⟩ := X249.virtualBack hx (y := (⟨"java/lang/CharacterDataLatin1", "toLowerCase", "(I)I"⟩ : MethodName)) (z := (⟨"java/lang/CharacterDataLatin1", "toLowerCase", "(I)I"⟩ : MethodName)) hown234 (mvT hZ234 (own_wd hw 143 rfl)) (mvT hZ234 (own_wd hw 144 rfl)) (notFace_of_selects (args := #[]) (mvT hZ234 (own_wd hw 146 rfl))) (mvT hZ234 (own_wd hw 146 rfl)) (mvT hZ234 (own_wd hw 145 rfl)) (by decide) (backOf (W := 0) (rm32 l Z a0 hw [] st_instance (f q_242) h242 n0 Z242 O242) hZ234 (own_wd hw 147 rfl) (own_wd hw 142 rfl) (by decide) (by decide)) q250a q250c (g := (mkF m 139 #[.val (.ref x1), .val (.ref x1_value), .val (.ref x3), .val (.int (Int32.ofNat i_215)), .val (.int (Int32.ofNat n)), .val (.ref lg), .val (.ref b237), .val (.int (Int32.ofNat q_242)), .val (.int (f q_242))] [(.int (f q_242)), (.ref st_instance)])) rfl (by rw [hml]; rfl) (Steps.refl _) (argsL := [(.int (f q_242))]) (rest := []) (lenOf pd_14 rfl) rfl (by show 2 * 0 + _ ≤ _; exact Nat.le_of_eq rfl) (hb hby d26_139) (fun _ _ => ⟨rfl, e249, (by decide : 7 + 0 ≤ _), (by decide : 60 + 0 ≤ _)⟩)
          dsimp only [Pt.U, Pt.locs, Pt.cells, Pt.slots] at X250 l250 y250 z250 st250 hQ250
          subst l250 y250 z250
          obtain ⟨rfl, N250q, eh250⟩ := hQ250
          have N250 := Fr.app N242 N250q
          have pp252 : ¬ ((own_low (f q_242)) < (0 : Int32)) := (own_lowr (hp q_242 (by omega))).1
          have pp253 : ¬ ((255 : Int32) < (own_low (f q_242))) := (own_lowr (hp q_242 (by omega))).2
          obtain ⟨_, _, ⟨T254, L254, k254, n254⟩, -, X254, ⟨Lc254, hQ254, l254, y254, z254⟩, st254⟩ := Jvm.LawKit.callS X250 hx (y := (⟨"java/lang/StringLatin1", "canEncode", "(I)Z"⟩ : MethodName)) hown234 (mvT hZ234 (own_wd hw 67 rfl)) (mvT hZ234 (own_wd hw 68 rfl)) (mvT hZ234 (own_wd hw 65 rfl)) (mvT hZ234 (own_wd hw 69 rfl)) (by decide) (backOf (W := 0) (rm15 l Z a0 hw [] (own_low (f q_242)) h242 n0 Z242 O242 pp252 pp253) hZ234 (own_wd hw 69 rfl) (own_wd hw 65 rfl) (by decide) (by decide)) (g := (mkF m 146 #[.val (.ref x1), .val (.ref x1_value), .val (.ref x3), .val (.int (Int32.ofNat i_215)), .val (.int (Int32.ofNat n)), .val (.ref lg), .val (.ref b237), .val (.int (Int32.ofNat q_242)), .val (.int (own_low (f q_242)))] [(.int (own_low (f q_242)))])) rfl (by rw [hml]; rfl) (argsL := [(.int (own_low (f q_242)))]) (rest := []) (lenOf pd_1 rfl) rfl (by show 2 * 0 + _ ≤ _; exact Nat.le_of_eq rfl) (hb hby d26_146) (fun _ _ => ⟨rfl, eh250, (by decide : 7 + 0 ≤ _), (by decide : 60 + 0 ≤ _)⟩)
          dsimp only [Pt.U, Pt.locs, Pt.cells, Pt.slots] at X254 l254 y254 z254 st254 hQ254
          subst l254 y254 z254
          obtain ⟨rfl, N254q, eh254⟩ := hQ254
          have N254 := Fr.app N250 N254q
          obtain ⟨cl_a255, Ar_a255, q_a255, S_a255, N_a255, H_a255, G_a255⟩ := id J242_0
          have hin_a255 : ¬ ((Int32.ofNat q_242) < 0 ∨ cl_a255.slots.size ≤ ((Int32.ofNat q_242)).toNatClampNeg) := own_in S_a255 (by omega) (by omega)
          obtain ⟨T256, h256, X256, e256, W256, st256⟩ := stB X254 hx hZ234 eh254 Ar_a255 (j := (Int32.ofNat q_242)) hin_a255 (g := (mkF m 168 #[.val (.ref x1), .val (.ref x1_value), .val (.ref x3), .val (.int (Int32.ofNat i_215)), .val (.int (Int32.ofNat n)), .val (.ref lg), .val (.ref b237), .val (.int (Int32.ofNat q_242)), .val (.int (own_low (f q_242)))] [(.int ((own_low (f q_242)).toInt8.toInt32)), (.int (Int32.ofNat q_242)), (.ref b237)])) rfl rfl (hb hby d26_168)
          have sf257 : Safe Z own_EL T234.vm h242 b237 := (Safe.keep KK242 (sfS sf243 sf0) CH239 sf243)
          have O256 : Old Z n0 h256 := O242.wr W256 g_b237
          have Z256 : n0 ≤ h256.size := Nat.le_trans Z242 (Keep.of_wr W256).1
          have K256 : Keep h0 h256 [] := K242.wr W256 (Or.inr sz_b237)
          have N256 := Fr.snoc X256 N254 g_b237
          have CH256 : CHv Z own_EL T234.vm h256 := CHv.wr W256 sf257 CH242
          have CR256 : CHr Z own_EL s.vm h0 T234.vm h256 := CR242.trans (CHr.wr W256 sf257 CH242)
          have V256 : Arv Z h256 b237 k237 .byte (Int32.ofNat n) (own_fv (own_mxf f (q_242 + 1)) n) (.int (0 : Int32)) := (Arv.set Ar_a255 q_a255 S_a255 N_a255 H_a255 G_a255 (fits_nar_byte _) W256 q_242 (own_nat (by omega)) (by rw [own_fvlen]; omega)).pad (own_setfv (by omega) (own_mxs f q_242) (own_mxo f q_242))
          have pre258 : ∀ t, Steps p.tables e below (T256.setTop (mkF m 117 #[.val (.ref x1), .val (.ref x1_value), .val (.ref x3), .val (.int (Int32.ofNat i_215)), .val (.int (Int32.ofNat n)), .val (.ref lg), .val (.ref b237), .val (.int ((Int32.ofNat q_242) + (1 : Int32))), .val (.int (own_low (f q_242)))] [])) t → Steps p.tables e below (s₁.setTop (entryFrame m #[(.ref x1), (.ref x1_value), (.ref x3)] 9)) t := by
            intro t kt
            refine pre244 t ?_
            show Steps p.tables e below (T242.setTop (mkF m 121 #[.val (.ref x1), .val (.ref x1_value), .val (.ref x3), .val (.int (Int32.ofNat i_215)), .val (.int (Int32.ofNat n)), .val (.ref lg), .val (.ref b237), .val (.int (Int32.ofNat q_242)), s8_242] [(.int (Int32.ofNat n)), (.int (Int32.ofNat q_242))])) _
            refine XS.icmpNo X242.here hx rfl (hb hby d26_121) rfl (tlt hc121).2.1 ?_
            refine XS.aloadN X242.here hx rfl (hb hby d26_124) rfl rfl ?_
            refine XS.iload X242.here hx rfl (hb hby d26_125) rfl ?_
            show Steps p.tables e below (T242.setTop (mkF m 127 #[.val (.ref x1), .val (.ref x1_value), .val (.ref x3), .val (.int (Int32.ofNat i_215)), .val (.int (Int32.ofNat n)), .val (.ref lg), .val (.ref b237), .val (.int (Int32.ofNat q_242)), s8_242] [(.int (Int32.ofNat q_242)), (.ref x1_value)])) _
            refine X242.baloadBytes hx (j := (Int32.ofNat q_242)) (v := (.int (own_by (f q_242)))) (by rw [e242]; exact Ar_a247.1) (State.isArrayOf_alike hZ234.alike Ar_a247.2.1) Ar_a247.2.2 hin_a247 hat_a247 (g := (mkF m 127 #[.val (.ref x1), .val (.ref x1_value), .val (.ref x3), .val (.int (Int32.ofNat i_215)), .val (.int (Int32.ofNat n)), .val (.ref lg), .val (.ref b237), .val (.int (Int32.ofNat q_242)), s8_242] [(.int (Int32.ofNat q_242)), (.ref x1_value)])) rfl rfl (hb hby d26_127) _ ?_
            refine XS.sipush X242.here hx rfl (hb hby d26_128) ?_
            refine XS.iand X242.here hx rfl (hb hby d26_131) rfl ?_
            show Steps p.tables e below (T242.setTop (mkF m 132 #[.val (.ref x1), .val (.ref x1_value), .val (.ref x3), .val (.int (Int32.ofNat i_215)), .val (.int (Int32.ofNat n)), .val (.ref lg), .val (.ref b237), .val (.int (Int32.ofNat q_242)), s8_242] [(.int ((own_by (f q_242)) &&& (255 : Int32)))])) _
            rw [rn248]
            refine XS.istore X242.here hx rfl (hb hby d26_132) rfl (l' := #[.val (.ref x1), .val (.ref x1_value), .val (.ref x3), .val (.int (Int32.ofNat i_215)), .val (.int (Int32.ofNat n)), .val (.ref lg), .val (.ref b237), .val (.int (Int32.ofNat q_242)), .val (.int (f q_242))]) (by rcases hs8_242 with q | ⟨z, q⟩ <;> rw [q] <;> rfl) ?_
            show Steps p.tables e below (T242.setTop (mkF m 134 #[.val (.ref x1), .val (.ref x1_value), .val (.ref x3), .val (.int (Int32.ofNat i_215)), .val (.int (Int32.ofNat n)), .val (.ref lg), .val (.ref b237), .val (.int (Int32.ofNat q_242)), .val (.int (f q_242))] [])) _
            refine st249 _ ?_
            show Steps p.tables e below (T249.setTop (mkF m 137 #[.val (.ref x1), .val (.ref x1_value), .val (.ref x3), .val (.int (Int32.ofNat i_215)), .val (.int (Int32.ofNat n)), .val (.ref lg), .val (.ref b237), .val (.int (Int32.ofNat q_242)), .val (.int (f q_242))] [(.ref st_instance)])) _
            refine XS.iload X249.here hx rfl (hb hby d26_137) rfl ?_
            show Steps p.tables e below (T249.setTop (mkF m 139 #[.val (.ref x1), .val (.ref x1_value), .val (.ref x3), .val (.int (Int32.ofNat i_215)), .val (.int (Int32.ofNat n)), .val (.ref lg), .val (.ref b237), .val (.int (Int32.ofNat q_242)), .val (.int (f q_242))] [(.int (f q_242)), (.ref st_instance)])) _
            refine st250.trans ?_
            show Steps p.tables e below (T250.setTop (mkF m 142 #[.val (.ref x1), .val (.ref x1_value), .val (.ref x3), .val (.int (Int32.ofNat i_215)), .val (.int (Int32.ofNat n)), .val (.ref lg), .val (.ref b237), .val (.int (Int32.ofNat q_242)), .val (.int (f q_242))] [(.int (own_low (f q_242)))])) _
            refine XS.istore X250.here hx rfl (hb hby d26_142) rfl (l' := #[.val (.ref x1), .val (.ref x1_value), .val (.ref x3), .val (.int (Int32.ofNat i_215)), .val (.int (Int32.ofNat n)), .val (.ref lg), .val (.ref b237), .val (.int (Int32.ofNat q_242)), .val (.int (own_low (f q_242)))]) rfl ?_
            refine XS.iload X250.here hx rfl (hb hby d26_144) rfl ?_
            show Steps p.tables e below (T250.setTop (mkF m 146 #[.val (.ref x1), .val (.ref x1_value), .val (.ref x3), .val (.int (Int32.ofNat i_215)), .val (.int (Int32.ofNat n)), .val (.ref lg), .val (.ref b237), .val (.int (Int32.ofNat q_242)), .val (.int (own_low (f q_242)))] [(.int (own_low (f q_242)))])) _
            refine st254 _ ?_
            show Steps p.tables e below (T254.setTop (mkF m 149 #[.val (.ref x1), .val (.ref x1_value), .val (.ref x3), .val (.int (Int32.ofNat i_215)), .val (.int (Int32.ofNat n)), .val (.ref lg), .val (.ref b237), .val (.int (Int32.ofNat q_242)), .val (.int (own_low (f q_242)))] [(.int (1 : Int32))])) _
            refine XS.ifYes X254.here hx rfl (pc0 := 149) (pc' := 161) rfl (hb hby d26_149) rfl ((if0 _ _).trans (feq (by decide : ¬ ((1 : Int32) = (0 : Int32)))).2) (by decide) (by decide) ?_
            refine XS.aload X254.here hx rfl (hb hby d26_161) rfl rfl ?_
            refine XS.iload X254.here hx rfl (hb hby d26_163) rfl ?_
            refine XS.iload X254.here hx rfl (hb hby d26_165) rfl ?_
            show Steps p.tables e below (T254.setTop (mkF m 167 #[.val (.ref x1), .val (.ref x1_value), .val (.ref x3), .val (.int (Int32.ofNat i_215)), .val (.int (Int32.ofNat n)), .val (.ref lg), .val (.ref b237), .val (.int (Int32.ofNat q_242)), .val (.int (own_low (f q_242)))] [(.int (own_low (f q_242))), (.int (Int32.ofNat q_242)), (.ref b237)])) _
            refine XS.i2b X254.here hx rfl (hb hby d26_167) rfl ?_
            show Steps p.tables e below (T254.setTop (mkF m 168 #[.val (.ref x1), .val (.ref x1_value), .val (.ref x3), .val (.int (Int32.ofNat i_215)), .val (.int (Int32.ofNat n)), .val (.ref lg), .val (.ref b237), .val (.int (Int32.ofNat q_242)), .val (.int (own_low (f q_242)))] [(.int ((own_low (f q_242)).toInt8.toInt32)), (.int (Int32.ofNat q_242)), (.ref b237)])) _
            refine st256 _ ?_
            show Steps p.tables e below (T256.setTop (mkF m 169 #[.val (.ref x1), .val (.ref x1_value), .val (.ref x3), .val (.int (Int32.ofNat i_215)), .val (.int (Int32.ofNat n)), .val (.ref lg), .val (.ref b237), .val (.int (Int32.ofNat q_242)), .val (.int (own_low (f q_242)))] [])) _
            refine XS.iinc X256.here hx rfl (hb hby d26_169) rfl (l' := #[.val (.ref x1), .val (.ref x1_value), .val (.ref x3), .val (.int (Int32.ofNat i_215)), .val (.int (Int32.ofNat n)), .val (.ref lg), .val (.ref b237), .val (.int ((Int32.ofNat q_242) + (1 : Int32))), .val (.int (own_low (f q_242)))]) rfl ?_
            refine XS.goto X256.here hx rfl (pc0 := 172) (pc' := 117) rfl (hb hby d26_172) (by decide) (by decide) ?_
            exact kt
          exact ih242 ((q_242 + 1), (.val (.int (own_low (f q_242))))) T256 _ h256 (by show _ - _ < _ - _; omega) ⟨(by omega), (Or.inr ⟨_, rfl⟩), X256, e256, N256, (KK242.wr W256 (Or.inl (List.mem_of_getElem? (i := 0) rfl))), V256, (fun t kt => pre258 t (by rw [own_one]; exact kt))⟩
        · skip
          have nf259 : ¬ (q_242 < n) := fun q => hc121 ((own_lt (i := q_242) (n := n) (by omega) (by omega)).mpr q)
          obtain ⟨T260, h260, X260, e260, E260, A260, D260, U260, st260⟩ := newO X242 hx hZ234 hown234 (own_wd hw 122 rfl) (own_wd hw 6 rfl) (own_wd hw 7 rfl) e242 (g := (mkF m 175 #[.val (.ref x1), .val (.ref x1_value), .val (.ref x3), .val (.int (Int32.ofNat i_215)), .val (.int (Int32.ofNat n)), .val (.ref lg), .val (.ref b237), .val (.int (Int32.ofNat q_242)), s8_242] [])) rfl (hb hby d26_175) (by decide) (by decide)
          obtain ⟨b260, g260⟩ : ∃ z, z = h242.size := ⟨_, rfl⟩
          rw [← g260] at A260 D260 st260
          have O260 : Old Z n0 h260 := O242.ext E260
          have Z260 : n0 ≤ h260.size := Nat.le_trans Z242 E260.1
          have K260 : Keep h0 h260 [] := K242.ext E260
          have CH260 : CHv Z own_EL T234.vm h260 := CHv.ext E260 CH242
          have CR260 : CHr Z own_EL s.vm h0 T234.vm h260 := CR242.trans (CHr.ext E260 CH242)
          have g_b260 : n0 ≤ b260 := Nat.le_trans Z242 (Nat.le_of_eq g260.symm)
          have sz_b260 : h0.size ≤ b260 := Nat.le_trans K242.1 (Nat.le_of_eq g260.symm)
          have F_b260_coder : Fld Z h260 b260 "java/lang/String" "coder" "B" (.int (0 : Int32)) := D260 (Or.inr (own_wd hw 31 rfl)) (ty := .byte) (by decide)
          have F_b260_value : Fld Z h260 b260 "java/lang/String" "value" "[B" .null := D260 (Or.inr (own_wd hw 33 rfl)) (ty := (.array .byte)) (by decide)
          obtain ⟨_, _, ⟨T261, L261, k261, n261⟩, -, X261, ⟨Lc261, hQ261, l261, y261, z261⟩, st261⟩ := X260.specialBack hx (y := (⟨"java/lang/String", "<init>", "([BB)V"⟩ : MethodName)) rfl hown234 (mvT hZ234 (own_wd hw 138 rfl)) (mvT hZ234 (own_wd hw 139 rfl)) (mvT hZ234 (own_wd hw 140 rfl)) (by decide) (backOf (W := 1) (rm31 l Z a0 hw [] b260 b237 .null (.int (0 : Int32)) h260 n0 Z260 O260 A260 F_b260_value g_b260 F_b260_coder) hZ234 (own_wd hw 140 rfl) (own_wd hw 7 rfl) (by decide) (by decide)) (g := (mkF m 182 #[.val (.ref x1), .val (.ref x1_value), .val (.ref x3), .val (.int (Int32.ofNat i_215)), .val (.int (Int32.ofNat n)), .val (.ref lg), .val (.ref b237), .val (.int (Int32.ofNat q_242)), s8_242] [(.int (0 : Int32)), (.ref b237), (.ref b260), (.ref b260)])) rfl (by rw [hml]; rfl) (Steps.refl _) (a := b260) (argsL := [(.ref b237), (.int (0 : Int32))]) (rest := [(.ref b260)]) (lenOf pd_9 rfl) rfl (by show 2 * 0 + _ ≤ _; exact Nat.le_of_eq rfl) (hb hby d26_182) (fun _ _ => ⟨rfl, e260, (by decide : 8 + 0 ≤ _), (by decide : 64 + 0 ≤ _)⟩)
          dsimp only [Pt.U, Pt.locs, Pt.cells, Pt.slots] at X261 l261 y261 z261 st261 hQ261
          subst l261 y261 z261
          obtain ⟨rfl, N261q, KK261, Q261_0, Q261_1, Q261_2⟩ := hQ261
          have N261 := Fr.app N242 N261q
          have sf262 : Safe Z own_EL T234.vm h260 b260 := (Safe.ext E260 CH242 (Safe.new (Nat.le_of_eq g260.symm)))
          have O261 : Old Z n0 T261.heap := O260.keep KK261 (allS g_b260 all0)
          have Z261 : n0 ≤ T261.heap.size := Nat.le_trans Z260 KK261.1
          have K261 : Keep h0 T261.heap [] := K260.trans KK261 (allS (Or.inr sz_b260) all0)
          have CH261 : CHv Z own_EL T234.vm T261.heap := CHv.keep KK261 (sfS sf262 sf0) CH260
          have CR261 : CHr Z own_EL s.vm h0 T234.vm T261.heap := CR260.trans (CHr.keep KK261 (sfS sf262 sf0) CH260)
          have V263 : Arv Z T261.heap b237 k237 .byte (Int32.ofNat n) (own_fv (own_mxf f q_242) n) (.int (0 : Int32)) := ((J242_0.ext E260).keep KK261 (ninS (Nat.ne_of_lt (Nat.lt_of_lt_of_le J242_0.lt (Nat.le_of_eq g260.symm))) nin0))
          obtain ⟨fs, hr, hrun, hended, hW, hsame⟩ := X261.leave (v := some (.ref b260)) (fun h => by rw [Bd.returns] at h; cases h)
          have hend := hS234.ended hW (show _ ≤ T261.heap.size from (Nat.le_trans (Nat.le_trans (Nat.le_trans (Nat.le_trans (Nat.le_trans hk234 E237.1) KK239.1) KK242.1) E260.1) KK261.1)) hsame
          have hcr : CHr Z own_EL s.vm s.heap T261.vm T261.heap := by
            rw [hh]
            exact CR261.trans (CHv.at X261 hZ234 (own_EW hw) CH261)
          refine ⟨_, _, pre244 _ ?_, hrun, hended, _, _, rfl, ?_, hcr, ⟨_, rfl⟩, hend.1, hend.2.1, hend.2.2.mono (by decide) (by decide)⟩
          · show Steps p.tables e below (T242.setTop (mkF m 121 #[.val (.ref x1), .val (.ref x1_value), .val (.ref x3), .val (.int (Int32.ofNat i_215)), .val (.int (Int32.ofNat n)), .val (.ref lg), .val (.ref b237), .val (.int (Int32.ofNat q_242)), s8_242] [(.int (Int32.ofNat n)), (.int (Int32.ofNat q_242))])) _
            refine XS.icmpYes X242.here hx rfl (pc0 := 121) (pc' := 175) rfl (hb hby d26_121) rfl (flt hc121).2.1 (by decide) (by decide) ?_
            show Steps p.tables e below (T242.setTop (mkF m 175 #[.val (.ref x1), .val (.ref x1_value), .val (.ref x3), .val (.int (Int32.ofNat i_215)), .val (.int (Int32.ofNat n)), .val (.ref lg), .val (.ref b237), .val (.int (Int32.ofNat q_242)), s8_242] [])) _
            refine st260 _ ?_
            show Steps p.tables e below (T260.setTop (mkF m 178 #[.val (.ref x1), .val (.ref x1_value), .val (.ref x3), .val (.int (Int32.ofNat i_215)), .val (.int (Int32.ofNat n)), .val (.ref lg), .val (.ref b237), .val (.int (Int32.ofNat q_242)), s8_242] [(.ref b260)])) _
            refine XS.dup X260.here hx rfl (hb hby d26_178) rfl rfl ?_
            refine XS.aload X260.here hx rfl (hb hby d26_179) rfl rfl ?_
            refine XS.iconst X260.here hx rfl (hb hby d26_181) ?_
            show Steps p.tables e below (T260.setTop (mkF m 182 #[.val (.ref x1), .val (.ref x1_value), .val (.ref x3), .val (.int (Int32.ofNat i_215)), .val (.int (Int32.ofNat n)), .val (.ref lg), .val (.ref b237), .val (.int (Int32.ofNat q_242)), s8_242] [(.int (0 : Int32)), (.ref b237), (.ref b260), (.ref b260)])) _
            refine st261.trans ?_
            show Steps p.tables e below (T261.setTop (mkF m 185 #[.val (.ref x1), .val (.ref x1_value), .val (.ref x3), .val (.int (Int32.ofNat i_215)), .val (.int (Int32.ofNat n)), .val (.ref lg), .val (.ref b237), .val (.int (Int32.ofNat q_242)), s8_242] [(.ref b260)])) _
            jvm_step X261.here [X261.here.top, hx, (hb hby d26_185), X261.method', Bd.returns, Value.isRef, FieldType.isReference]
            first | (intro acts; rw [hr _ acts rfl rfl rfl]) | rw [hr _ _ rfl rfl rfl]
            exact Steps.refl _
          · show Q26 Z x1 x3 x1_value ks f n lb lg lv kl st_instance h0 n0 _ T261.heap _
            exact ⟨b260, b237, k237, rfl, N261, K261, Q261_0, Q261_1, Q261_2, (by have w := V263; rw [own_fvcongr (f := own_mxf f q_242) (g := own_lw f) (fun j hj => if_pos (by omega))] at w; exact w)⟩
  · skip
    have nf264 : ¬ (i_215 < n) := fun q => hc21 ((own_lt (i := i_215) (n := n) (by omega) (by omega)).mpr q)
    have pre265 : ∀ t, Steps p.tables e below (T215.setTop (mkF m 58 #[.val (.ref x1), .val (.ref x1_value), .val (.ref x3), .val (.int (Int32.ofNat i_215)), .val (.int (Int32.ofNat n)), s5_215, .unset, .unset, .unset] [(.int (Int32.ofNat n)), (.int (Int32.ofNat i_215))])) t → Steps p.tables e below (s₁.setTop (entryFrame m #[(.ref x1), (.ref x1_value), (.ref x3)] 9)) t := by
      intro t kt
      refine pre216 t ?_
      show Steps p.tables e below (T215.setTop (mkF m 21 #[.val (.ref x1), .val (.ref x1_value), .val (.ref x3), .val (.int (Int32.ofNat i_215)), .val (.int (Int32.ofNat n)), s5_215, .unset, .unset, .unset] [(.int (Int32.ofNat n)), (.int (Int32.ofNat i_215))])) _
      refine XS.icmpYes X215.here hx rfl (pc0 := 21) (pc' := 55) rfl (hb hby d26_21) rfl (flt hc21).2.1 (by decide) (by decide) ?_
      refine XS.iloadN X215.here hx rfl (hb hby d26_55) rfl ?_
      refine XS.iload X215.here hx rfl (hb hby d26_56) rfl ?_
      exact kt
    by_cases hc58 : (Int32.ofNat i_215) = (Int32.ofNat n)
    · skip
      have nf266 : (i_215 = n) := (own_eq (i := i_215) (n := n) (by omega) (by omega)).mp hc58
      obtain ⟨fs, hr, hrun, hended, hW, hsame⟩ := X215.leave (v := some (.ref x1)) (fun h => by rw [Bd.returns] at h; cases h)
      have hend := hS0.ended hW (show _ ≤ T215.heap.size from by rw [e215]; exact hk0) hsame
      have hcr : CHr Z own_EL s.vm s.heap T215.vm T215.heap := by
        rw [hh, e215]
        exact CR0.trans (CHv.at X215 hZa (own_EW hw) CH0)
      refine ⟨_, _, pre265 _ ?_, hrun, hended, _, _, rfl, ?_, hcr, ⟨_, rfl⟩, hend.1, hend.2.1, hend.2.2.mono (by decide) (by decide)⟩
      · show Steps p.tables e below (T215.setTop (mkF m 58 #[.val (.ref x1), .val (.ref x1_value), .val (.ref x3), .val (.int (Int32.ofNat i_215)), .val (.int (Int32.ofNat n)), s5_215, .unset, .unset, .unset] [(.int (Int32.ofNat n)), (.int (Int32.ofNat i_215))])) _
        refine XS.icmpNo X215.here hx rfl (hb hby d26_58) rfl (teq hc58).2 ?_
        show Steps p.tables e below (T215.setTop (mkF m 61 #[.val (.ref x1), .val (.ref x1_value), .val (.ref x3), .val (.int (Int32.ofNat i_215)), .val (.int (Int32.ofNat n)), s5_215, .unset, .unset, .unset] [])) _
        refine XS.aloadN X215.here hx rfl (hb hby d26_61) rfl rfl ?_
        show Steps p.tables e below (T215.setTop (mkF m 62 #[.val (.ref x1), .val (.ref x1_value), .val (.ref x3), .val (.int (Int32.ofNat i_215)), .val (.int (Int32.ofNat n)), s5_215, .unset, .unset, .unset] [(.ref x1)])) _
        jvm_step X215.here [X215.here.top, hx, (hb hby d26_62), X215.method', Bd.returns, Value.isRef, FieldType.isReference]
        first | (intro acts; rw [hr _ acts rfl rfl rfl]) | rw [hr _ _ rfl rfl rfl]
        exact Steps.refl _
      · show Q26 Z x1 x3 x1_value ks f n lb lg lv kl st_instance h0 n0 _ T215.heap _
        rw [e215]
        exact ⟨x1, x1_value, ks, rfl, N215, K0, E_x1, F_x1_value, F_x1_coder, (by rw [own_fvcongr (f := own_lw f) (g := f) (fun j hj => hl_215 j (by omega))]; exact V_x1_value)⟩
    · skip
      have nf267 : ¬ (i_215 = n) := fun q => hc58 ((own_eq (i := i_215) (n := n) (by omega) (by omega)).mpr q)
      exact False.elim (by omega)
theorem d25_0 : decode jdk_42_method_109_code 0 = .ok (.aload_n 0, 1) := by decide +kernel
theorem d25_1 : decode jdk_42_method_109_code 1 = .ok (.invokevirtual 492, 3) := by decide +kernel
theorem d25_4 : decode jdk_42_method_109_code 4 = .ok (.ifCond .eq 15, 3) := by decide +kernel
theorem d25_7 : decode jdk_42_method_109_code 7 = .ok (.aload_n 0, 1) := by decide +kernel
theorem d25_8 : decode jdk_42_method_109_code 8 = .ok (.aload_n 0, 1) := by decide +kernel
theorem d25_9 : decode jdk_42_method_109_code 9 = .ok (.getfield 9, 3) := by decide +kernel
theorem d25_12 : decode jdk_42_method_109_code 12 = .ok (.aload_n 1, 1) := by decide +kernel
theorem pd_15 : parseMethodDescriptor "(Ljava/lang/String;[BLjava/util/Locale;)Ljava/lang/String;" = some ⟨[(.object "java/lang/String"), (.array .byte), (.object "java/util/Locale")], some (.object "java/lang/String")⟩ := by decide +kernel
theorem d25_13 : decode jdk_42_method_109_code 13 = .ok (.invokestatic 839, 3) := by decide +kernel
theorem d25_16 : decode jdk_42_method_109_code 16 = .ok (.goto 12, 3) := by decide +kernel
theorem d25_28 : decode jdk_42_method_109_code 28 = .ok (.areturn, 1) := by decide +kernel
theorem ef25 (m : MethodId) (tz : Addr) (x1 : Addr) : entryFrame m #[(.ref tz), (.ref x1)] 2 = mkF m 0 #[.val (.ref tz), .val (.ref x1)] [] := by first | (simp [entryFrame, mkF, argsToLocals, Value.category]; done) | rfl
def Q25 (Z : State) (tz : Addr) (x1 : Addr) (tz_value : Addr) (ks : ClassId) (f : Nat → Int32) (n : Nat) (lb : Addr) (lg : Addr) (lv : Addr) (kl : ClassId) (st_instance : Addr) (st_COMPACT_STRINGS : Int32) (h0 : Heap) (n0 : Nat) (v : Option Value) (h : Heap) (L : List Loc) : Prop := ∃ (b : Addr), ∃ (t : Addr), ∃ (kk : ClassId), v = some (.ref b) ∧ Fr n0 L ∧ Keep h0 h [] ∧ Exa Z h b "java/lang/String" ∧ Fld Z h b "java/lang/String" "value" "[B" (.ref t) ∧ Fld Z h b "java/lang/String" "coder" "B" (.int (0 : Int32)) ∧ Arv Z h t kk .byte (Int32.ofNat n) (own_fv (own_lw f) n) (.int 0)
set_option maxRecDepth 65536 in
set_option maxHeartbeats 40000000 in
theorem rm25 (l : Launch) (Z : State) (a0 : Array Value) (hw : ∀ d ∈ tables_1, d.before a0 Z = true) (ws : List Jvm.Cond) (tz : Addr) (x1 : Addr) (tz_value : Addr) (ks : ClassId) (f : Nat → Int32) (n : Nat) (lb : Addr) (lg : Addr) (lv : Addr) (kl : ClassId) (st_instance : Addr) (st_COMPACT_STRINGS : Int32) (h0 : Heap) (n0 : Nat) (Z0 : n0 ≤ h0.size) (O0 : Old Z n0 h0) (E_tz : Exa Z h0 tz "java/lang/String") (F_tz_value : Fld Z h0 tz "java/lang/String" "value" "[B" (.ref tz_value)) (F_tz_coder : Fld Z h0 tz "java/lang/String" "coder" "B" (.int (0 : Int32))) (V_tz_value : Arv Z h0 tz_value ks .byte (Int32.ofNat n) (own_fv f n) (.int 0)) (hp : ∀ j, j < n → ¬ f j < 0 ∧ ¬ (255 : Int32) < f j) (hn : n ≤ 24) (E_x1 : Exa Z h0 x1 "java/util/Locale") (F_x1_baseLocale : Fld Z h0 x1 "java/util/Locale" "baseLocale" "Lsun/util/locale/BaseLocale;" (.ref lb)) (E_lb : Exa Z h0 lb "sun/util/locale/BaseLocale") (F_lb_language : Fld Z h0 lb "sun/util/locale/BaseLocale" "language" "Ljava/lang/String;" (.ref lg)) (F_lg_value : Fld Z h0 lg "java/lang/String" "value" "[B" (.ref lv)) (V_lv : Arv Z h0 lv kl .byte (0 : Int32) [] (.int 0)) (S_instance : Sta Z Z.heap "java/lang/CharacterDataLatin1" "instance" "Ljava/lang/CharacterDataLatin1;" (.ref st_instance)) (E_st_instance : Exa Z h0 st_instance "java/lang/CharacterDataLatin1") (S_COMPACT_STRINGS : Sta Z Z.heap "java/lang/String" "COMPACT_STRINGS" "Z" (.int st_COMPACT_STRINGS)) (hcomp : ¬ (st_COMPACT_STRINGS = (0 : Int32))) :
    MetFree l (⟨"java/lang/String", "toLowerCase", "(Ljava/util/Locale;)Ljava/lang/String;"⟩ : MethodName) (head1 (Jvm.Cond.code (⟨"java/lang/String", "toLowerCase", "(Ljava/util/Locale;)Ljava/lang/String;"⟩ : MethodName) jdk_42_method_109_code 2 (some (.object "java/lang/String")) :: ws) ({ frames := 3, cells := 8, slots := 64, locals := 47 } : Room)) (fun a U => a = #[(.ref tz), (.ref x1)] ∧ Z.Warmed39 U.vm ∧ U.heap = h0 ∧ CHv Z own_EL U.vm h0) (fun _ _ _ _ _ => True) (fun _ U o U' => ∃ v L, o = .returned v ∧ Q25 Z tz x1 tz_value ks f n lb lg lv kl st_instance st_COMPACT_STRINGS h0 n0 v U'.heap L ∧ CHr Z own_EL U.vm U.heap U'.vm U'.heap ∧ ReturnedEndW U o U' L ({ frames := 3, cells := 8, slots := 64, locals := 47 } : Room).cells ({ frames := 3, cells := 8, slots := 64, locals := 47 } : Room).slots) := by
  refine MetFree.of_bodySF (plainFor_of_name pn_java_lang_String) hisR ?_
  intro p e s m args below meth c s₁ Bd hml0 hP hK
  obtain ⟨rfl, hZ, hh, CH0⟩ := hP
  have hx := Bd.exec
  have hby := Bd.bytes
  have hml : c.maxLocals = 2 := hml0
  have hown : (s.setVm s.vm).vm.findClass "java/lang/String" = some m.cls := findClass_of_methodNamed Bd.named
  have hnm := (name_of_methodNamed Bd.named Bd.method).1
  have X0 : Stand p l e ({ frames := 3, cells := 8, slots := 64, locals := 47 } : Room) (s.setVm s.vm) m #[(.ref tz), (.ref x1)] below meth c s₁ [] 0 0 := Stand.of_body Bd
  have e0 : s₁.heap = h0 := by rw [← hh, Bd.state]; rfl
  have N0 := Fr.nil n0
  have K0 : Keep h0 h0 [] := Keep.refl _ _
  have pre0 : ∀ t, Steps p.tables e below (s₁.setTop (mkF m 0 #[.val (.ref tz), .val (.ref x1)] [])) t → Steps p.tables e below (s₁.setTop (entryFrame m #[(.ref tz), (.ref x1)] 2)) t := fun t k => castTop (ef25 m tz x1) k
  have hZa : Z.Warmed39 (s.setVm s.vm).vm := hZ
  have howna : (s.setVm s.vm).vm.findClass "java/lang/String" = some m.cls := hown
  have hS0 : s.Since s.vm h0.size := (State.WarmedH.refl s).since _
  have hk0 : h0.size ≤ h0.size := Nat.le_refl _
  have CR0 : CHr Z own_EL s.vm h0 s.vm h0 := CHr.refl CH0
  obtain ⟨cq268, kq268, q268a, q268b, q268c⟩ := isOf hZa e0 E_tz
  obtain ⟨_, _, ⟨T268, L268, k268, n268⟩, -, X268, ⟨Lc268, hQ268, l268, y268, z268⟩, st268⟩ := X0.virtualBack hx (y := (⟨"java/lang/String", "isLatin1", "()Z"⟩ : MethodName)) (z := (⟨"java/lang/String", "isLatin1", "()Z"⟩ : MethodName)) howna (mvT hZa (own_wd hw 48 rfl)) (mvT hZa (own_wd hw 49 rfl)) (notFace_of_selects (args := #[]) (mvT hZa (own_wd hw 51 rfl))) (mvT hZa (own_wd hw 51 rfl)) (mvT hZa (own_wd hw 50 rfl)) (by decide) (backOf (W := 0) (rm11 l Z a0 hw [] tz st_COMPACT_STRINGS h0 n0 Z0 O0 F_tz_coder S_COMPACT_STRINGS hcomp) hZa (own_wd hw 52 rfl) (own_wd hw 7 rfl) (by decide) (by decide)) q268a q268c (g := (mkF m 1 #[.val (.ref tz), .val (.ref x1)] [(.ref tz)])) rfl (by rw [hml]; rfl) (Steps.refl _) (argsL := []) (rest := []) (lenOf pd_4 rfl) rfl (by show 2 * 0 + _ ≤ _; exact Nat.le_of_eq rfl) (hb hby d25_1) (fun _ _ => ⟨rfl, e0, (by decide : 0 + 0 ≤ _), (by decide : 0 + 0 ≤ _)⟩)
  dsimp only [Pt.U, Pt.locs, Pt.cells, Pt.slots] at X268 l268 y268 z268 st268 hQ268
  subst l268 y268 z268
  obtain ⟨rfl, N268q, eh268⟩ := hQ268
  have N268 := Fr.app N0 N268q
  obtain ⟨T269, X269, e269, st269⟩ := getF X268 hx hZa howna (host := "") (Or.inl (own_wd hw 32 rfl)) Via.refl eh268 F_tz_value (g := (mkF m 9 #[.val (.ref tz), .val (.ref x1)] [(.ref tz), (.ref tz)])) rfl rfl (hb hby d25_9)
  obtain ⟨_, _, ⟨T270, L270, k270, n270⟩, -, X270, hS270, hg270, ⟨Lc270, hQ270, l270, y270, z270, R270⟩, st270⟩ := callSS X269 hx (y := (⟨"java/lang/StringLatin1", "toLowerCase", "(Ljava/lang/String;[BLjava/util/Locale;)Ljava/lang/String;"⟩ : MethodName)) howna (mvT hZa (own_wd hw 114 rfl)) (mvT hZa (own_wd hw 115 rfl)) (mvT hZa (own_wd hw 65 rfl)) (mvT hZa (own_wd hw 116 rfl)) (by decide) (backOfSH (s := s) (vm0 := s.vm) (W := 0) (rm26 l Z a0 hw [] tz x1 tz_value ks f n lb lg lv kl st_instance h0 n0 Z0 O0 E_tz F_tz_value F_tz_coder V_tz_value hp (by omega) E_x1 F_x1_baseLocale E_lb F_lb_language F_lg_value V_lv S_instance E_st_instance) hZa (own_wd hw 116 rfl) (own_wd hw 65 rfl) (by decide) (by decide) (own_EW hw) CH0) (g := (mkF m 13 #[.val (.ref tz), .val (.ref x1)] [(.ref x1), (.ref tz_value), (.ref tz)])) rfl (by rw [hml]; rfl) (argsL := [(.ref tz), (.ref tz_value), (.ref x1)]) (rest := []) (lenOf pd_15 rfl) rfl (by show 2 * 0 + _ ≤ _; exact Nat.le_of_eq rfl) (hb hby d25_13) (fun _ _ => ⟨rfl, e269, (by decide : 0 + 8 ≤ _), (by decide : 0 + 64 ≤ _)⟩)
  dsimp only [Pt.U, Pt.locs, Pt.cells, Pt.slots] at X270 l270 y270 z270 st270 hQ270 hS270 hg270 R270
  subst l270 y270 z270
  obtain ⟨X270, hS270, hZ270, hown270⟩ := rebS hS0 hk0 X270 hS270 (by rw [← e269]; exact hg270) hZa howna
  obtain ⟨b_270, t_270, kk_270, rfl, N270q, KK270, Q270_0, Q270_1, Q270_2, Q270_3⟩ := hQ270
  have N270 := Fr.app N268 N270q
  have O270 : Old Z n0 T270.heap := O0.keep KK270 all0
  have Z270 : n0 ≤ T270.heap.size := Nat.le_trans Z0 KK270.1
  have K270 : Keep h0 T270.heap [] := K0.trans KK270 all0
  have CH270 : CHv Z own_EL T270.vm T270.heap := R270.1
  have CR270 : CHr Z own_EL s.vm h0 T270.vm T270.heap := CR0.trans R270
  obtain ⟨fs, hr, hrun, hended, hW, hsame⟩ := X270.leave (v := some (.ref b_270)) (fun h => by rw [Bd.returns] at h; cases h)
  have hend := hS270.ended hW (show _ ≤ T270.heap.size from (Nat.le_refl _)) hsame
  have hcr : CHr Z own_EL s.vm s.heap T270.vm T270.heap := by
    rw [hh]
    exact CR270.trans (CHv.at X270 hZ270 (own_EW hw) CH270)
  refine ⟨_, _, pre0 _ ?_, hrun, hended, _, _, rfl, ?_, hcr, ⟨_, rfl⟩, hend.1, hend.2.1, hend.2.2.mono (by decide) (by decide)⟩
  · show Steps p.tables e below (s₁.setTop (mkF m 0 #[.val (.ref tz), .val (.ref x1)] [])) _
    refine XS.aloadN X0.here hx rfl (hb hby d25_0) rfl rfl ?_
    show Steps p.tables e below (s₁.setTop (mkF m 1 #[.val (.ref tz), .val (.ref x1)] [(.ref tz)])) _
    refine st268.trans ?_
    show Steps p.tables e below (T268.setTop (mkF m 4 #[.val (.ref tz), .val (.ref x1)] [(.int (1 : Int32))])) _
    refine XS.ifNo X268.here hx rfl (hb hby d25_4) rfl ((if0 _ _).trans (feq (by decide : ¬ ((1 : Int32) = (0 : Int32)))).1) ?_
    refine XS.aloadN X268.here hx rfl (hb hby d25_7) rfl rfl ?_
    refine XS.aloadN X268.here hx rfl (hb hby d25_8) rfl rfl ?_
    show Steps p.tables e below (T268.setTop (mkF m 9 #[.val (.ref tz), .val (.ref x1)] [(.ref tz), (.ref tz)])) _
    refine st269 _ ?_
    show Steps p.tables e below (T269.setTop (mkF m 12 #[.val (.ref tz), .val (.ref x1)] [(.ref tz_value), (.ref tz)])) _
    refine XS.aloadN X269.here hx rfl (hb hby d25_12) rfl rfl ?_
    show Steps p.tables e below (T269.setTop (mkF m 13 #[.val (.ref tz), .val (.ref x1)] [(.ref x1), (.ref tz_value), (.ref tz)])) _
    refine st270.trans ?_
    show Steps p.tables e below (T270.setTop (mkF m 16 #[.val (.ref tz), .val (.ref x1)] [(.ref b_270)])) _
    refine XS.goto X270.here hx rfl (pc0 := 16) (pc' := 28) rfl (hb hby d25_16) (by decide) (by decide) ?_
    show Steps p.tables e below (T270.setTop (mkF m 28 #[.val (.ref tz), .val (.ref x1)] [(.ref b_270)])) _
    jvm_step X270.here [X270.here.top, hx, (hb hby d25_28), X270.method', Bd.returns, Value.isRef, FieldType.isReference]
    first | (intro acts; rw [hr _ acts rfl rfl rfl]) | rw [hr _ _ rfl rfl rfl]
    exact Steps.refl _
  · show Q25 Z tz x1 tz_value ks f n lb lg lv kl st_instance st_COMPACT_STRINGS h0 n0 _ T270.heap _
    exact ⟨b_270, t_270, kk_270, rfl, N270, K270, Q270_0, Q270_1, Q270_2, Q270_3⟩
theorem d8_0 : decode prog_13_method_5_code 0 = .ok (.aload_n 0, 1) := by decide +kernel
theorem d8_1 : decode prog_13_method_5_code 1 = .ok (.bipush 59, 2) := by decide +kernel
theorem d8_3 : decode prog_13_method_5_code 3 = .ok (.invokevirtual 85, 3) := by decide +kernel
theorem d8_6 : decode prog_13_method_5_code 6 = .ok (.istore_n 1, 1) := by decide +kernel
theorem d8_7 : decode prog_13_method_5_code 7 = .ok (.iload_n 1, 1) := by decide +kernel
theorem d8_8 : decode prog_13_method_5_code 8 = .ok (.ifCond .ge 7, 3) := by decide +kernel
theorem d8_15 : decode prog_13_method_5_code 15 = .ok (.aload_n 0, 1) := by decide +kernel
theorem d8_16 : decode prog_13_method_5_code 16 = .ok (.iconst 0, 1) := by decide +kernel
theorem d8_17 : decode prog_13_method_5_code 17 = .ok (.iload_n 1, 1) := by decide +kernel
theorem pd_16 : parseMethodDescriptor "(II)Ljava/lang/String;" = some ⟨[.int, .int], some (.object "java/lang/String")⟩ := by decide +kernel
theorem d8_18 : decode prog_13_method_5_code 18 = .ok (.invokevirtual 89, 3) := by decide +kernel
theorem d8_21 : decode prog_13_method_5_code 21 = .ok (.astore_n 2, 1) := by decide +kernel
theorem d8_22 : decode prog_13_method_5_code 22 = .ok (.aload_n 2, 1) := by decide +kernel
theorem d8_23 : decode prog_13_method_5_code 23 = .ok (.invokevirtual 93, 3) := by decide +kernel
theorem d8_26 : decode prog_13_method_5_code 26 = .ok (.getstatic 97, 3) := by decide +kernel
theorem pd_17 : parseMethodDescriptor "(Ljava/util/Locale;)Ljava/lang/String;" = some ⟨[(.object "java/util/Locale")], some (.object "java/lang/String")⟩ := by decide +kernel
theorem d8_29 : decode prog_13_method_5_code 29 = .ok (.invokevirtual 103, 3) := by decide +kernel
theorem d8_32 : decode prog_13_method_5_code 32 = .ok (.areturn, 1) := by decide +kernel
theorem d8_11 : decode prog_13_method_5_code 11 = .ok (.aload_n 0, 1) := by decide +kernel
theorem d8_12 : decode prog_13_method_5_code 12 = .ok (.goto 9, 3) := by decide +kernel
theorem pn_com_example_prueba_prueba_MediaTypes : plainName "com/example/prueba/prueba/MediaTypes" = true := by first | (simp [plainName, overriddenIn]; done) | decide +kernel
theorem ef8 (m : MethodId) (x1 : Addr) : entryFrame m #[(.ref x1)] 3 = mkF m 0 #[.val (.ref x1), .unset, .unset] [] := by first | (simp [entryFrame, mkF, argsToLocals, Value.category]; done) | rfl
def Q8 (Z : State) (x1 : Addr) (x1_value : Addr) (ks : ClassId) (f : Nat → Int32) (n : Nat) (lb : Addr) (lg : Addr) (lv : Addr) (kl : ClassId) (st_instance : Addr) (st_ROOT : Addr) (st_COMPACT_STRINGS : Int32) (st_fm : Value) (h0 : Heap) (n0 : Nat) (v : Option Value) (h : Heap) (L : List Loc) : Prop := ∃ (b : Addr), ∃ (t : Addr), ∃ (kk : ClassId), ∃ (ka : Nat), ∃ (ua : Nat), ∃ (ub : Nat), v = some (.ref b) ∧ Fr n0 L ∧ Keep h0 h [] ∧ Exa Z h b "java/lang/String" ∧ Fld Z h b "java/lang/String" "value" "[B" (.ref t) ∧ Fld Z h b "java/lang/String" "coder" "B" (.int (0 : Int32)) ∧ Arv Z h t kk .byte (Int32.ofNat (ub - ua)) (own_fv (own_lw (own_sh f ua)) (ub - ua)) (.int 0) ∧ (own_mt f n ka ua ub)
set_option maxRecDepth 65536 in
set_option maxHeartbeats 40000000 in
theorem rm8 (l : Launch) (Z : State) (a0 : Array Value) (hw : ∀ d ∈ tables_1, d.before a0 Z = true) (ws : List Jvm.Cond) (x1 : Addr) (x1_value : Addr) (ks : ClassId) (f : Nat → Int32) (n : Nat) (lb : Addr) (lg : Addr) (lv : Addr) (kl : ClassId) (st_instance : Addr) (st_ROOT : Addr) (st_COMPACT_STRINGS : Int32) (st_fm : Value) (h0 : Heap) (n0 : Nat) (Z0 : n0 ≤ h0.size) (O0 : Old Z n0 h0) (E_x1 : Exa Z h0 x1 "java/lang/String") (F_x1_value : Fld Z h0 x1 "java/lang/String" "value" "[B" (.ref x1_value)) (F_x1_coder : Fld Z h0 x1 "java/lang/String" "coder" "B" (.int (0 : Int32))) (V_x1_value : Arv Z h0 x1_value ks .byte (Int32.ofNat n) (own_fv f n) (.int 0)) (hp : ∀ j, j < n → ¬ f j < 0 ∧ ¬ (255 : Int32) < f j) (hn : n ≤ 24) (S_ROOT : Sta Z Z.heap "java/util/Locale" "ROOT" "Ljava/util/Locale;" (.ref st_ROOT)) (E_st_ROOT : Exa Z h0 st_ROOT "java/util/Locale") (F_st_ROOT_baseLocale : Fld Z h0 st_ROOT "java/util/Locale" "baseLocale" "Lsun/util/locale/BaseLocale;" (.ref lb)) (E_lb : Exa Z h0 lb "sun/util/locale/BaseLocale") (F_lb_language : Fld Z h0 lb "sun/util/locale/BaseLocale" "language" "Ljava/lang/String;" (.ref lg)) (F_lg_value : Fld Z h0 lg "java/lang/String" "value" "[B" (.ref lv)) (V_lv : Arv Z h0 lv kl .byte (0 : Int32) [] (.int 0)) (S_instance : Sta Z Z.heap "java/lang/CharacterDataLatin1" "instance" "Ljava/lang/CharacterDataLatin1;" (.ref st_instance)) (E_st_instance : Exa Z h0 st_instance "java/lang/CharacterDataLatin1") (S_COMPACT_STRINGS : Sta Z Z.heap "java/lang/String" "COMPACT_STRINGS" "Z" (.int st_COMPACT_STRINGS)) (hcomp : ¬ (st_COMPACT_STRINGS = (0 : Int32))) (S_fm : Sta Z Z.heap "jdk/internal/util/Preconditions" "SIOOBE_FORMATTER" "Ljava/util/function/BiFunction;" st_fm) (hfm : st_fm.isRef = true) :
    MetFree l (⟨"com/example/prueba/prueba/MediaTypes", "mediaType", "(Ljava/lang/String;)Ljava/lang/String;"⟩ : MethodName) (head1 (Jvm.Cond.code (⟨"com/example/prueba/prueba/MediaTypes", "mediaType", "(Ljava/lang/String;)Ljava/lang/String;"⟩ : MethodName) prog_13_method_5_code 3 (some (.object "java/lang/String")) :: ws) ({ frames := 6, cells := 12, slots := 120, locals := 91 } : Room)) (fun a U => a = #[(.ref x1)] ∧ Z.Warmed39 U.vm ∧ U.heap = h0 ∧ CHv Z own_EL U.vm h0) (fun _ _ _ _ _ => True) (fun _ U o U' => ∃ v L, o = .returned v ∧ Q8 Z x1 x1_value ks f n lb lg lv kl st_instance st_ROOT st_COMPACT_STRINGS st_fm h0 n0 v U'.heap L ∧ CHr Z own_EL U.vm U.heap U'.vm U'.heap ∧ ReturnedEndW U o U' L ({ frames := 6, cells := 12, slots := 120, locals := 91 } : Room).cells ({ frames := 6, cells := 12, slots := 120, locals := 91 } : Room).slots) := by
  refine MetFree.of_bodySF (plainFor_of_name pn_com_example_prueba_prueba_MediaTypes) hisR ?_
  intro p e s m args below meth c s₁ Bd hml0 hP hK
  obtain ⟨rfl, hZ, hh, CH0⟩ := hP
  have hx := Bd.exec
  have hby := Bd.bytes
  have hml : c.maxLocals = 3 := hml0
  have hown : (s.setVm s.vm).vm.findClass "com/example/prueba/prueba/MediaTypes" = some m.cls := findClass_of_methodNamed Bd.named
  have hnm := (name_of_methodNamed Bd.named Bd.method).1
  have X0 : Stand p l e ({ frames := 6, cells := 12, slots := 120, locals := 91 } : Room) (s.setVm s.vm) m #[(.ref x1)] below meth c s₁ [] 0 0 := Stand.of_body Bd
  have e0 : s₁.heap = h0 := by rw [← hh, Bd.state]; rfl
  have N0 := Fr.nil n0
  have K0 : Keep h0 h0 [] := Keep.refl _ _
  have pre0 : ∀ t, Steps p.tables e below (s₁.setTop (mkF m 0 #[.val (.ref x1), .unset, .unset] [])) t → Steps p.tables e below (s₁.setTop (entryFrame m #[(.ref x1)] 3)) t := fun t k => castTop (ef8 m x1) k
  have hZa : Z.Warmed39 (s.setVm s.vm).vm := hZ
  have howna : (s.setVm s.vm).vm.findClass "com/example/prueba/prueba/MediaTypes" = some m.cls := hown
  have hS0 : s.Since s.vm h0.size := (State.WarmedH.refl s).since _
  have hk0 : h0.size ≤ h0.size := Nat.le_refl _
  have CR0 : CHr Z own_EL s.vm h0 s.vm h0 := CHr.refl CH0
  obtain ⟨cq271, kq271, q271a, q271b, q271c⟩ := isOf hZa e0 E_x1
  obtain ⟨_, _, ⟨T271, L271, k271, n271⟩, -, X271, ⟨Lc271, hQ271, l271, y271, z271⟩, st271⟩ := X0.virtualBack hx (y := (⟨"java/lang/String", "indexOf", "(I)I"⟩ : MethodName)) (z := (⟨"java/lang/String", "indexOf", "(I)I"⟩ : MethodName)) howna (mvT hZa (own_wd hw 38 rfl)) (mvT hZa (own_wd hw 39 rfl)) (notFace_of_selects (args := #[]) (mvT hZa (own_wd hw 41 rfl))) (mvT hZa (own_wd hw 41 rfl)) (mvT hZa (own_wd hw 40 rfl)) (by decide) (backOf (W := 0) (rm9 l Z a0 hw [] x1 x1_value ks f n st_COMPACT_STRINGS h0 n0 Z0 O0 E_x1 F_x1_value F_x1_coder V_x1_value hp (by omega) S_COMPACT_STRINGS hcomp) hZa (own_wd hw 42 rfl) (own_wd hw 7 rfl) (by decide) (by decide)) q271a q271c (g := (mkF m 3 #[.val (.ref x1), .unset, .unset] [(.int (59 : Int32)), (.ref x1)])) rfl (by rw [hml]; rfl) (Steps.refl _) (argsL := [(.int (59 : Int32))]) (rest := []) (lenOf pd_14 rfl) rfl (by show 2 * 0 + _ ≤ _; exact Nat.le_of_eq rfl) (hb hby d8_3) (fun _ _ => ⟨rfl, e0, (by decide : 0 + 0 ≤ _), (by decide : 0 + 0 ≤ _)⟩)
  dsimp only [Pt.U, Pt.locs, Pt.cells, Pt.slots] at X271 l271 y271 z271 st271 hQ271
  subst l271 y271 z271
  obtain ⟨r_271, rfl, N271q, eh271, Q271_0⟩ := hQ271
  have N271 := Fr.app N0 N271q
  have pre272 : ∀ t, Steps p.tables e below (T271.setTop (mkF m 6 #[.val (.ref x1), .unset, .unset] [(.int r_271)])) t → Steps p.tables e below (s₁.setTop (entryFrame m #[(.ref x1)] 3)) t := by
    intro t kt
    refine pre0 t ?_
    show Steps p.tables e below (s₁.setTop (mkF m 0 #[.val (.ref x1), .unset, .unset] [])) _
    refine XS.aloadN X0.here hx rfl (hb hby d8_0) rfl rfl ?_
    refine XS.bipush X0.here hx rfl (hb hby d8_1) ?_
    show Steps p.tables e below (s₁.setTop (mkF m 3 #[.val (.ref x1), .unset, .unset] [(.int (59 : Int32)), (.ref x1)])) _
    refine st271.trans ?_
    exact kt
  rcases Q271_0 with ⟨kx, hkx, hr, hfx, hjx⟩ | ⟨hr, hjx⟩
  · skip
    subst hr
    obtain ⟨cq273, kq273, q273a, q273b, q273c⟩ := isOf hZa eh271 E_x1
    obtain ⟨_, _, ⟨T273, L273, k273, n273⟩, -, X273, hS273, hg273, ⟨Lc273, hQ273, l273, y273, z273, R273⟩, st273⟩ := X271.virtualBackS hx (y := (⟨"java/lang/String", "substring", "(II)Ljava/lang/String;"⟩ : MethodName)) (z := (⟨"java/lang/String", "substring", "(II)Ljava/lang/String;"⟩ : MethodName)) howna (mvT hZa (own_wd hw 80 rfl)) (mvT hZa (own_wd hw 81 rfl)) (notFace_of_selects (args := #[]) (mvT hZa (own_wd hw 83 rfl))) (mvT hZa (own_wd hw 83 rfl)) (mvT hZa (own_wd hw 82 rfl)) (by decide) (backOfSH (s := s) (vm0 := s.vm) (W := 0) (rm19 l Z a0 hw [] x1 x1_value ks f n kx st_COMPACT_STRINGS st_fm h0 n0 Z0 O0 E_x1 F_x1_value F_x1_coder V_x1_value (by omega) (by omega) S_COMPACT_STRINGS hcomp S_fm hfm) hZa (own_wd hw 84 rfl) (own_wd hw 7 rfl) (by decide) (by decide) (own_EW hw) CH0) q273a q273c (g := (mkF m 18 #[.val (.ref x1), .val (.int (Int32.ofNat kx)), .unset] [(.int (Int32.ofNat kx)), (.int (0 : Int32)), (.ref x1)])) rfl (by rw [hml]; rfl) (Steps.refl _) (argsL := [(.int (0 : Int32)), (.int (Int32.ofNat kx))]) (rest := []) (lenOf pd_16 rfl) rfl (by show 2 * 0 + _ ≤ _; exact Nat.le_of_eq rfl) (hb hby d8_18) (fun _ _ => ⟨rfl, eh271, (by decide : 0 + 2 ≤ _), (by decide : 0 + 28 ≤ _)⟩)
    dsimp only [Pt.U, Pt.locs, Pt.cells, Pt.slots] at X273 l273 y273 z273 st273 hQ273 hS273 hg273 R273
    subst l273 y273 z273
    obtain ⟨X273, hS273, hZ273, hown273⟩ := rebS hS0 hk0 X273 hS273 (by rw [← eh271]; exact hg273) hZa howna
    obtain ⟨b_273, t_273, kk_273, rfl, N273q, KK273, Q273_0, Q273_1, Q273_2, Q273_3⟩ := hQ273
    have N273 := Fr.app N271 N273q
    have O273 : Old Z n0 T273.heap := O0.keep KK273 all0
    have Z273 : n0 ≤ T273.heap.size := Nat.le_trans Z0 KK273.1
    have K273 : Keep h0 T273.heap [] := K0.trans KK273 all0
    have CH273 : CHv Z own_EL T273.vm T273.heap := R273.1
    have CR273 : CHr Z own_EL s.vm h0 T273.vm T273.heap := CR0.trans R273
    obtain ⟨cq274, kq274, q274a, q274b, q274c⟩ := isOf hZ273 rfl Q273_0
    obtain ⟨_, _, ⟨T274, L274, k274, n274⟩, -, X274, hS274, hg274, ⟨Lc274, hQ274, l274, y274, z274, R274⟩, st274⟩ := X273.virtualBackS hx (y := (⟨"java/lang/String", "trim", "()Ljava/lang/String;"⟩ : MethodName)) (z := (⟨"java/lang/String", "trim", "()Ljava/lang/String;"⟩ : MethodName)) hown273 (mvT hZ273 (own_wd hw 99 rfl)) (mvT hZ273 (own_wd hw 100 rfl)) (notFace_of_selects (args := #[]) (mvT hZ273 (own_wd hw 102 rfl))) (mvT hZ273 (own_wd hw 102 rfl)) (mvT hZ273 (own_wd hw 101 rfl)) (by decide) (backOfSH (s := s) (vm0 := T273.vm) (W := 0) (rm23 l Z a0 hw [] b_273 t_273 kk_273 f kx st_COMPACT_STRINGS T273.heap n0 Z273 O273 Q273_0 Q273_1 Q273_2 Q273_3 (fun j hj => hp j (by omega)) (by omega) S_COMPACT_STRINGS hcomp) hZ273 (own_wd hw 103 rfl) (own_wd hw 7 rfl) (by decide) (by decide) (own_EW hw) CH273) q274a q274c (g := (mkF m 23 #[.val (.ref x1), .val (.int (Int32.ofNat kx)), .val (.ref b_273)] [(.ref b_273)])) rfl (by rw [hml]; rfl) (Steps.refl _) (argsL := []) (rest := []) (lenOf pd_13 rfl) rfl (by show 2 * 0 + _ ≤ _; exact Nat.le_of_eq rfl) (hb hby d8_23) (fun _ _ => ⟨rfl, rfl, (by decide : 2 + 2 ≤ _), (by decide : 28 + 28 ≤ _)⟩)
    dsimp only [Pt.U, Pt.locs, Pt.cells, Pt.slots] at X274 l274 y274 z274 st274 hQ274 hS274 hg274 R274
    subst l274 y274 z274
    obtain ⟨X274, hS274, hZ274, hown274⟩ := rebS hS273 (Nat.le_refl _) X274 hS274 hg274 hZ273 hown273
    obtain ⟨b_274, t_274, kk_274, ua_274, ub_274, rfl, N274q, KK274, Q274_0, Q274_1, Q274_2, Q274_3, Q274_4⟩ := hQ274
    have N274 := Fr.app N273 N274q
    have O274 : Old Z n0 T274.heap := O273.keep KK274 all0
    have Z274 : n0 ≤ T274.heap.size := Nat.le_trans Z273 KK274.1
    have K274 : Keep h0 T274.heap [] := K273.trans KK274 all0
    have CH274 : CHv Z own_EL T274.vm T274.heap := R274.1
    have CR274 : CHr Z own_EL s.vm h0 T274.vm T274.heap := CR273.trans R274
    obtain ⟨T275, X275, e275, st275⟩ := getS2 X274 hx hZ274 hown274 (host := "") (Or.inl (own_wd hw 107 rfl)) Via.refl rfl (S_ROOT.ext O274.2) (g := (mkF m 26 #[.val (.ref x1), .val (.int (Int32.ofNat kx)), .val (.ref b_273)] [(.ref b_274)])) rfl (hb hby d8_26)
    have F276 : Fld Z T274.heap st_ROOT "java/util/Locale" "baseLocale" "Lsun/util/locale/BaseLocale;" (.ref lb) := ((F_st_ROOT_baseLocale.keep KK273 nin0).keep KK274 nin0)
    have F277 : Fld Z T274.heap lb "sun/util/locale/BaseLocale" "language" "Ljava/lang/String;" (.ref lg) := ((F_lb_language.keep KK273 nin0).keep KK274 nin0)
    have F278 : Fld Z T274.heap lg "java/lang/String" "value" "[B" (.ref lv) := ((F_lg_value.keep KK273 nin0).keep KK274 nin0)
    have C279 : Exa Z T274.heap st_ROOT "java/util/Locale" := ((E_st_ROOT.keep KK273).keep KK274)
    have C280 : Exa Z T274.heap lb "sun/util/locale/BaseLocale" := ((E_lb.keep KK273).keep KK274)
    have V281 : Arv Z T274.heap lv kl .byte (0 : Int32) [] (.int 0) := ((V_lv.keep KK273 nin0).keep KK274 nin0)
    have C282 : Exa Z T274.heap st_instance "java/lang/CharacterDataLatin1" := ((E_st_instance.keep KK273).keep KK274)
    obtain ⟨cq283, kq283, q283a, q283b, q283c⟩ := isOf hZ274 e275 Q274_0
    obtain ⟨_, _, ⟨T283, L283, k283, n283⟩, -, X283, hS283, hg283, ⟨Lc283, hQ283, l283, y283, z283, R283⟩, st283⟩ := X275.virtualBackS hx (y := (⟨"java/lang/String", "toLowerCase", "(Ljava/util/Locale;)Ljava/lang/String;"⟩ : MethodName)) (z := (⟨"java/lang/String", "toLowerCase", "(Ljava/util/Locale;)Ljava/lang/String;"⟩ : MethodName)) hown274 (mvT hZ274 (own_wd hw 109 rfl)) (mvT hZ274 (own_wd hw 110 rfl)) (notFace_of_selects (args := #[]) (mvT hZ274 (own_wd hw 112 rfl))) (mvT hZ274 (own_wd hw 112 rfl)) (mvT hZ274 (own_wd hw 111 rfl)) (by decide) (backOfSH (s := s) (vm0 := T274.vm) (W := 0) (rm25 l Z a0 hw [] b_274 st_ROOT t_274 kk_274 (own_sh f ua_274) (ub_274 - ua_274) lb lg lv kl st_instance st_COMPACT_STRINGS T274.heap n0 Z274 O274 Q274_0 Q274_1 Q274_2 Q274_3 (own_hpsh hp Q274_4 (by omega)) (by have q := Q274_4.2.1; omega) C279 F276 C280 F277 F278 V281 S_instance C282 S_COMPACT_STRINGS hcomp) hZ274 (own_wd hw 113 rfl) (own_wd hw 7 rfl) (by decide) (by decide) (own_EW hw) CH274) q283a q283c (g := (mkF m 29 #[.val (.ref x1), .val (.int (Int32.ofNat kx)), .val (.ref b_273)] [(.ref st_ROOT), (.ref b_274)])) rfl (by rw [hml]; rfl) (Steps.refl _) (argsL := [(.ref st_ROOT)]) (rest := []) (lenOf pd_17 rfl) rfl (by show 2 * 0 + _ ≤ _; exact Nat.le_of_eq rfl) (hb hby d8_29) (fun _ _ => ⟨rfl, e275, (by decide : 4 + 8 ≤ _), (by decide : 56 + 64 ≤ _)⟩)
    dsimp only [Pt.U, Pt.locs, Pt.cells, Pt.slots] at X283 l283 y283 z283 st283 hQ283 hS283 hg283 R283
    subst l283 y283 z283
    obtain ⟨X283, hS283, hZ283, hown283⟩ := rebS hS274 (Nat.le_refl _) X283 hS283 (by rw [← e275]; exact hg283) hZ274 hown274
    obtain ⟨b_283, t_283, kk_283, rfl, N283q, KK283, Q283_0, Q283_1, Q283_2, Q283_3⟩ := hQ283
    have N283 := Fr.app N274 N283q
    have O283 : Old Z n0 T283.heap := O274.keep KK283 all0
    have Z283 : n0 ≤ T283.heap.size := Nat.le_trans Z274 KK283.1
    have K283 : Keep h0 T283.heap [] := K274.trans KK283 all0
    have CH283 : CHv Z own_EL T283.vm T283.heap := R283.1
    have CR283 : CHr Z own_EL s.vm h0 T283.vm T283.heap := CR274.trans R283
    obtain ⟨fs, hr, hrun, hended, hW, hsame⟩ := X283.leave (v := some (.ref b_283)) (fun h => by rw [Bd.returns] at h; cases h)
    have hend := hS283.ended hW (show _ ≤ T283.heap.size from (Nat.le_refl _)) hsame
    have hcr : CHr Z own_EL s.vm s.heap T283.vm T283.heap := by
      rw [hh]
      exact CR283.trans (CHv.at X283 hZ283 (own_EW hw) CH283)
    refine ⟨_, _, pre272 _ ?_, hrun, hended, _, _, rfl, ?_, hcr, ⟨_, rfl⟩, hend.1, hend.2.1, hend.2.2.mono (by decide) (by decide)⟩
    · show Steps p.tables e below (T271.setTop (mkF m 6 #[.val (.ref x1), .unset, .unset] [(.int (Int32.ofNat kx))])) _
      refine XS.istoreN X271.here hx rfl (hb hby d8_6) rfl (l' := #[.val (.ref x1), .val (.int (Int32.ofNat kx)), .unset]) rfl ?_
      refine XS.iloadN X271.here hx rfl (hb hby d8_7) rfl ?_
      refine XS.ifYes X271.here hx rfl (pc0 := 8) (pc' := 15) rfl (hb hby d8_8) rfl ((if0 _ _).trans (flt (own_nn (by omega))).2.1) (by decide) (by decide) ?_
      refine XS.aloadN X271.here hx rfl (hb hby d8_15) rfl rfl ?_
      refine XS.iconst X271.here hx rfl (hb hby d8_16) ?_
      show Steps p.tables e below (T271.setTop (mkF m 17 #[.val (.ref x1), .val (.int (Int32.ofNat kx)), .unset] [(.int (0 : Int32)), (.ref x1)])) _
      refine XS.iloadN X271.here hx rfl (hb hby d8_17) rfl ?_
      show Steps p.tables e below (T271.setTop (mkF m 18 #[.val (.ref x1), .val (.int (Int32.ofNat kx)), .unset] [(.int (Int32.ofNat kx)), (.int (0 : Int32)), (.ref x1)])) _
      refine st273.trans ?_
      show Steps p.tables e below (T273.setTop (mkF m 21 #[.val (.ref x1), .val (.int (Int32.ofNat kx)), .unset] [(.ref b_273)])) _
      refine XS.astoreN X273.here hx rfl (hb hby d8_21) rfl rfl (l' := #[.val (.ref x1), .val (.int (Int32.ofNat kx)), .val (.ref b_273)]) rfl ?_
      refine XS.aloadN X273.here hx rfl (hb hby d8_22) rfl rfl ?_
      show Steps p.tables e below (T273.setTop (mkF m 23 #[.val (.ref x1), .val (.int (Int32.ofNat kx)), .val (.ref b_273)] [(.ref b_273)])) _
      refine st274.trans ?_
      show Steps p.tables e below (T274.setTop (mkF m 26 #[.val (.ref x1), .val (.int (Int32.ofNat kx)), .val (.ref b_273)] [(.ref b_274)])) _
      refine st275 _ ?_
      show Steps p.tables e below (T275.setTop (mkF m 29 #[.val (.ref x1), .val (.int (Int32.ofNat kx)), .val (.ref b_273)] [(.ref st_ROOT), (.ref b_274)])) _
      refine st283.trans ?_
      show Steps p.tables e below (T283.setTop (mkF m 32 #[.val (.ref x1), .val (.int (Int32.ofNat kx)), .val (.ref b_273)] [(.ref b_283)])) _
      jvm_step X283.here [X283.here.top, hx, (hb hby d8_32), X283.method', Bd.returns, Value.isRef, FieldType.isReference]
      first | (intro acts; rw [hr _ acts rfl rfl rfl]) | rw [hr _ _ rfl rfl rfl]
      exact Steps.refl _
    · show Q8 Z x1 x1_value ks f n lb lg lv kl st_instance st_ROOT st_COMPACT_STRINGS st_fm h0 n0 _ T283.heap _
      exact ⟨b_283, t_283, kk_283, kx, ua_274, ub_274, rfl, N283, K283, Q283_0, Q283_1, Q283_2, Q283_3, ⟨⟨by omega, hjx, fun _ => hfx⟩, Q274_4⟩⟩
  · skip
    subst hr
    obtain ⟨cq284, kq284, q284a, q284b, q284c⟩ := isOf hZa eh271 E_x1
    obtain ⟨_, _, ⟨T284, L284, k284, n284⟩, -, X284, hS284, hg284, ⟨Lc284, hQ284, l284, y284, z284, R284⟩, st284⟩ := X271.virtualBackS hx (y := (⟨"java/lang/String", "trim", "()Ljava/lang/String;"⟩ : MethodName)) (z := (⟨"java/lang/String", "trim", "()Ljava/lang/String;"⟩ : MethodName)) howna (mvT hZa (own_wd hw 99 rfl)) (mvT hZa (own_wd hw 100 rfl)) (notFace_of_selects (args := #[]) (mvT hZa (own_wd hw 102 rfl))) (mvT hZa (own_wd hw 102 rfl)) (mvT hZa (own_wd hw 101 rfl)) (by decide) (backOfSH (s := s) (vm0 := s.vm) (W := 0) (rm23 l Z a0 hw [] x1 x1_value ks f n st_COMPACT_STRINGS h0 n0 Z0 O0 E_x1 F_x1_value F_x1_coder V_x1_value hp (by omega) S_COMPACT_STRINGS hcomp) hZa (own_wd hw 103 rfl) (own_wd hw 7 rfl) (by decide) (by decide) (own_EW hw) CH0) q284a q284c (g := (mkF m 23 #[.val (.ref x1), .val (.int (-1 : Int32)), .val (.ref x1)] [(.ref x1)])) rfl (by rw [hml]; rfl) (Steps.refl _) (argsL := []) (rest := []) (lenOf pd_13 rfl) rfl (by show 2 * 0 + _ ≤ _; exact Nat.le_of_eq rfl) (hb hby d8_23) (fun _ _ => ⟨rfl, eh271, (by decide : 0 + 2 ≤ _), (by decide : 0 + 28 ≤ _)⟩)
    dsimp only [Pt.U, Pt.locs, Pt.cells, Pt.slots] at X284 l284 y284 z284 st284 hQ284 hS284 hg284 R284
    subst l284 y284 z284
    obtain ⟨X284, hS284, hZ284, hown284⟩ := rebS hS0 hk0 X284 hS284 (by rw [← eh271]; exact hg284) hZa howna
    obtain ⟨b_284, t_284, kk_284, ua_284, ub_284, rfl, N284q, KK284, Q284_0, Q284_1, Q284_2, Q284_3, Q284_4⟩ := hQ284
    have N284 := Fr.app N271 N284q
    have O284 : Old Z n0 T284.heap := O0.keep KK284 all0
    have Z284 : n0 ≤ T284.heap.size := Nat.le_trans Z0 KK284.1
    have K284 : Keep h0 T284.heap [] := K0.trans KK284 all0
    have CH284 : CHv Z own_EL T284.vm T284.heap := R284.1
    have CR284 : CHr Z own_EL s.vm h0 T284.vm T284.heap := CR0.trans R284
    obtain ⟨T285, X285, e285, st285⟩ := getS2 X284 hx hZ284 hown284 (host := "") (Or.inl (own_wd hw 107 rfl)) Via.refl rfl (S_ROOT.ext O284.2) (g := (mkF m 26 #[.val (.ref x1), .val (.int (-1 : Int32)), .val (.ref x1)] [(.ref b_284)])) rfl (hb hby d8_26)
    have F286 : Fld Z T284.heap st_ROOT "java/util/Locale" "baseLocale" "Lsun/util/locale/BaseLocale;" (.ref lb) := (F_st_ROOT_baseLocale.keep KK284 nin0)
    have F287 : Fld Z T284.heap lb "sun/util/locale/BaseLocale" "language" "Ljava/lang/String;" (.ref lg) := (F_lb_language.keep KK284 nin0)
    have F288 : Fld Z T284.heap lg "java/lang/String" "value" "[B" (.ref lv) := (F_lg_value.keep KK284 nin0)
    have C289 : Exa Z T284.heap st_ROOT "java/util/Locale" := (E_st_ROOT.keep KK284)
    have C290 : Exa Z T284.heap lb "sun/util/locale/BaseLocale" := (E_lb.keep KK284)
    have V291 : Arv Z T284.heap lv kl .byte (0 : Int32) [] (.int 0) := (V_lv.keep KK284 nin0)
    have C292 : Exa Z T284.heap st_instance "java/lang/CharacterDataLatin1" := (E_st_instance.keep KK284)
    obtain ⟨cq293, kq293, q293a, q293b, q293c⟩ := isOf hZ284 e285 Q284_0
    obtain ⟨_, _, ⟨T293, L293, k293, n293⟩, -, X293, hS293, hg293, ⟨Lc293, hQ293, l293, y293, z293, R293⟩, st293⟩ := X285.virtualBackS hx (y := (⟨"java/lang/String", "toLowerCase", "(Ljava/util/Locale;)Ljava/lang/String;"⟩ : MethodName)) (z := (⟨"java/lang/String", "toLowerCase", "(Ljava/util/Locale;)Ljava/lang/String;"⟩ : MethodName)) hown284 (mvT hZ284 (own_wd hw 109 rfl)) (mvT hZ284 (own_wd hw 110 rfl)) (notFace_of_selects (args := #[]) (mvT hZ284 (own_wd hw 112 rfl))) (mvT hZ284 (own_wd hw 112 rfl)) (mvT hZ284 (own_wd hw 111 rfl)) (by decide) (backOfSH (s := s) (vm0 := T284.vm) (W := 0) (rm25 l Z a0 hw [] b_284 st_ROOT t_284 kk_284 (own_sh f ua_284) (ub_284 - ua_284) lb lg lv kl st_instance st_COMPACT_STRINGS T284.heap n0 Z284 O284 Q284_0 Q284_1 Q284_2 Q284_3 (own_hpsh hp Q284_4 (by omega)) (by have q := Q284_4.2.1; omega) C289 F286 C290 F287 F288 V291 S_instance C292 S_COMPACT_STRINGS hcomp) hZ284 (own_wd hw 113 rfl) (own_wd hw 7 rfl) (by decide) (by decide) (own_EW hw) CH284) q293a q293c (g := (mkF m 29 #[.val (.ref x1), .val (.int (-1 : Int32)), .val (.ref x1)] [(.ref st_ROOT), (.ref b_284)])) rfl (by rw [hml]; rfl) (Steps.refl _) (argsL := [(.ref st_ROOT)]) (rest := []) (lenOf pd_17 rfl) rfl (by show 2 * 0 + _ ≤ _; exact Nat.le_of_eq rfl) (hb hby d8_29) (fun _ _ => ⟨rfl, e285, (by decide : 2 + 8 ≤ _), (by decide : 28 + 64 ≤ _)⟩)
    dsimp only [Pt.U, Pt.locs, Pt.cells, Pt.slots] at X293 l293 y293 z293 st293 hQ293 hS293 hg293 R293
    subst l293 y293 z293
    obtain ⟨X293, hS293, hZ293, hown293⟩ := rebS hS284 (Nat.le_refl _) X293 hS293 (by rw [← e285]; exact hg293) hZ284 hown284
    obtain ⟨b_293, t_293, kk_293, rfl, N293q, KK293, Q293_0, Q293_1, Q293_2, Q293_3⟩ := hQ293
    have N293 := Fr.app N284 N293q
    have O293 : Old Z n0 T293.heap := O284.keep KK293 all0
    have Z293 : n0 ≤ T293.heap.size := Nat.le_trans Z284 KK293.1
    have K293 : Keep h0 T293.heap [] := K284.trans KK293 all0
    have CH293 : CHv Z own_EL T293.vm T293.heap := R293.1
    have CR293 : CHr Z own_EL s.vm h0 T293.vm T293.heap := CR284.trans R293
    obtain ⟨fs, hr, hrun, hended, hW, hsame⟩ := X293.leave (v := some (.ref b_293)) (fun h => by rw [Bd.returns] at h; cases h)
    have hend := hS293.ended hW (show _ ≤ T293.heap.size from (Nat.le_refl _)) hsame
    have hcr : CHr Z own_EL s.vm s.heap T293.vm T293.heap := by
      rw [hh]
      exact CR293.trans (CHv.at X293 hZ293 (own_EW hw) CH293)
    refine ⟨_, _, pre272 _ ?_, hrun, hended, _, _, rfl, ?_, hcr, ⟨_, rfl⟩, hend.1, hend.2.1, hend.2.2.mono (by decide) (by decide)⟩
    · show Steps p.tables e below (T271.setTop (mkF m 6 #[.val (.ref x1), .unset, .unset] [(.int (-1 : Int32))])) _
      refine XS.istoreN X271.here hx rfl (hb hby d8_6) rfl (l' := #[.val (.ref x1), .val (.int (-1 : Int32)), .unset]) rfl ?_
      refine XS.iloadN X271.here hx rfl (hb hby d8_7) rfl ?_
      refine XS.ifNo X271.here hx rfl (hb hby d8_8) rfl ((if0 _ _).trans (tlt (by decide)).2.1) ?_
      refine XS.aloadN X271.here hx rfl (hb hby d8_11) rfl rfl ?_
      refine XS.goto X271.here hx rfl (pc0 := 12) (pc' := 21) rfl (hb hby d8_12) (by decide) (by decide) ?_
      show Steps p.tables e below (T271.setTop (mkF m 21 #[.val (.ref x1), .val (.int (-1 : Int32)), .unset] [(.ref x1)])) _
      refine XS.astoreN X271.here hx rfl (hb hby d8_21) rfl rfl (l' := #[.val (.ref x1), .val (.int (-1 : Int32)), .val (.ref x1)]) rfl ?_
      refine XS.aloadN X271.here hx rfl (hb hby d8_22) rfl rfl ?_
      show Steps p.tables e below (T271.setTop (mkF m 23 #[.val (.ref x1), .val (.int (-1 : Int32)), .val (.ref x1)] [(.ref x1)])) _
      refine st284.trans ?_
      show Steps p.tables e below (T284.setTop (mkF m 26 #[.val (.ref x1), .val (.int (-1 : Int32)), .val (.ref x1)] [(.ref b_284)])) _
      refine st285 _ ?_
      show Steps p.tables e below (T285.setTop (mkF m 29 #[.val (.ref x1), .val (.int (-1 : Int32)), .val (.ref x1)] [(.ref st_ROOT), (.ref b_284)])) _
      refine st293.trans ?_
      show Steps p.tables e below (T293.setTop (mkF m 32 #[.val (.ref x1), .val (.int (-1 : Int32)), .val (.ref x1)] [(.ref b_293)])) _
      jvm_step X293.here [X293.here.top, hx, (hb hby d8_32), X293.method', Bd.returns, Value.isRef, FieldType.isReference]
      first | (intro acts; rw [hr _ acts rfl rfl rfl]) | rw [hr _ _ rfl rfl rfl]
      exact Steps.refl _
    · show Q8 Z x1 x1_value ks f n lb lg lv kl st_instance st_ROOT st_COMPACT_STRINGS st_fm h0 n0 _ T293.heap _
      exact ⟨b_293, t_293, kk_293, n, ua_284, ub_284, rfl, N293, K293, Q293_0, Q293_1, Q293_2, Q293_3, ⟨⟨by omega, hjx, fun q => absurd q (by omega)⟩, Q284_4⟩⟩
theorem d1_0 : decode method_2_code 0 = .ok (.iload_n 0, 1) := by decide +kernel
theorem d1_1 : decode method_2_code 1 = .ok (.sipush 255, 3) := by decide +kernel
theorem d1_4 : decode method_2_code 4 = .ok (.iand, 1) := by decide +kernel
theorem d1_5 : decode method_2_code 5 = .ok (.istore_n 1, 1) := by decide +kernel
theorem d1_6 : decode method_2_code 6 = .ok (.iload_n 0, 1) := by decide +kernel
theorem d1_7 : decode method_2_code 7 = .ok (.bipush 8, 2) := by decide +kernel
theorem d1_9 : decode method_2_code 9 = .ok (.iushr, 1) := by decide +kernel
theorem d1_10 : decode method_2_code 10 = .ok (.iconst 3, 1) := by decide +kernel
theorem d1_11 : decode method_2_code 11 = .ok (.iand, 1) := by decide +kernel
theorem d1_12 : decode method_2_code 12 = .ok (.istore_n 2, 1) := by decide +kernel
theorem d1_13 : decode method_2_code 13 = .ok (.iload_n 2, 1) := by decide +kernel
theorem d1_14 : decode method_2_code 14 = .ok (.ifCond .ne 6, 3) := by decide +kernel
theorem d1_17 : decode method_2_code 17 = .ok (.bipush 59, 2) := by decide +kernel
theorem d1_19 : decode method_2_code 19 = .ok (.ireturn, 1) := by decide +kernel
theorem d1_20 : decode method_2_code 20 = .ok (.iload_n 2, 1) := by decide +kernel
theorem d1_21 : decode method_2_code 21 = .ok (.iconst 1, 1) := by decide +kernel
theorem d1_22 : decode method_2_code 22 = .ok (.if_icmp .ne 9, 3) := by decide +kernel
theorem d1_25 : decode method_2_code 25 = .ok (.iload_n 1, 1) := by decide +kernel
theorem d1_26 : decode method_2_code 26 = .ok (.bipush 33, 2) := by decide +kernel
theorem d1_28 : decode method_2_code 28 = .ok (.irem, 1) := by decide +kernel
theorem d1_29 : decode method_2_code 29 = .ok (.i2c, 1) := by decide +kernel
theorem d1_30 : decode method_2_code 30 = .ok (.ireturn, 1) := by decide +kernel
theorem d1_31 : decode method_2_code 31 = .ok (.iload_n 2, 1) := by decide +kernel
theorem d1_32 : decode method_2_code 32 = .ok (.iconst 2, 1) := by decide +kernel
theorem d1_33 : decode method_2_code 33 = .ok (.if_icmp .ne 12, 3) := by decide +kernel
theorem d1_36 : decode method_2_code 36 = .ok (.bipush 65, 2) := by decide +kernel
theorem d1_38 : decode method_2_code 38 = .ok (.iload_n 1, 1) := by decide +kernel
theorem d1_39 : decode method_2_code 39 = .ok (.bipush 26, 2) := by decide +kernel
theorem d1_41 : decode method_2_code 41 = .ok (.irem, 1) := by decide +kernel
theorem d1_42 : decode method_2_code 42 = .ok (.iadd, 1) := by decide +kernel
theorem d1_43 : decode method_2_code 43 = .ok (.i2c, 1) := by decide +kernel
theorem d1_44 : decode method_2_code 44 = .ok (.ireturn, 1) := by decide +kernel
theorem d1_45 : decode method_2_code 45 = .ok (.iload_n 1, 1) := by decide +kernel
theorem d1_46 : decode method_2_code 46 = .ok (.i2c, 1) := by decide +kernel
theorem d1_47 : decode method_2_code 47 = .ok (.ireturn, 1) := by decide +kernel
theorem pn_com_example_prueba_prueba_MediaTypesMediaTypePinLaw : plainName "com/example/prueba/prueba/MediaTypesMediaTypePinLaw" = true := by first | (simp [plainName, overriddenIn]; done) | decide +kernel
theorem ef1 (m : MethodId) (x1 : Int32) : entryFrame m #[(.int x1)] 3 = mkF m 0 #[.val (.int x1), .unset, .unset] [] := by first | (simp [entryFrame, mkF, argsToLocals, Value.category]; done) | rfl
def Q1 (Z : State) (x1 : Int32) (h0 : Heap) (n0 : Nat) (v : Option Value) (h : Heap) (L : List Loc) : Prop := ∃ (vc : Int32), v = some (.int vc) ∧ Fr n0 L ∧ h = h0 ∧ (¬ vc < 0 ∧ ¬ (255 : Int32) < vc)
set_option maxRecDepth 65536 in
set_option maxHeartbeats 40000000 in
theorem rm1 (l : Launch) (Z : State) (a0 : Array Value) (hw : ∀ d ∈ tables_1, d.before a0 Z = true) (ws : List Jvm.Cond) (x1 : Int32) (h0 : Heap) (n0 : Nat) (Z0 : n0 ≤ h0.size) (O0 : Old Z n0 h0) :
    MetFree l (⟨"com/example/prueba/prueba/MediaTypesMediaTypePinLaw", "draw", "(I)C"⟩ : MethodName) (head1 (Jvm.Cond.code (⟨"com/example/prueba/prueba/MediaTypesMediaTypePinLaw", "draw", "(I)C"⟩ : MethodName) method_2_code 3 (some .char) :: ws) ({ frames := 0, cells := 0, slots := 0, locals := 0 } : Room)) (fun a U => a = #[(.int x1)] ∧ Z.Warmed39 U.vm ∧ U.heap = h0) (fun _ _ _ _ _ => True) (fun _ U o U' => ∃ v L, o = .returned v ∧ Q1 Z x1 h0 n0 v U'.heap L ∧ FrameEnd U o U' L ({ frames := 0, cells := 0, slots := 0, locals := 0 } : Room).cells ({ frames := 0, cells := 0, slots := 0, locals := 0 } : Room).slots) := by
  refine MetFree.of_bodySF (plainFor_of_name pn_com_example_prueba_prueba_MediaTypesMediaTypePinLaw) hisR ?_
  intro p e s m args below meth c s₁ Bd hml0 hP hK
  obtain ⟨rfl, hZ, hh⟩ := hP
  have hx := Bd.exec
  have hby := Bd.bytes
  have hml : c.maxLocals = 3 := hml0
  have hown : s.vm.findClass "com/example/prueba/prueba/MediaTypesMediaTypePinLaw" = some m.cls := findClass_of_methodNamed Bd.named
  have hnm := (name_of_methodNamed Bd.named Bd.method).1
  have X0 : Stand p l e ({ frames := 0, cells := 0, slots := 0, locals := 0 } : Room) s m #[(.int x1)] below meth c s₁ [] 0 0 := Stand.of_body Bd
  have e0 : s₁.heap = h0 := by rw [← hh, Bd.state]; rfl
  have N0 := Fr.nil n0
  have K0 : Keep h0 h0 [] := Keep.refl _ _
  have pre0 : ∀ t, Steps p.tables e below (s₁.setTop (mkF m 0 #[.val (.int x1), .unset, .unset] [])) t → Steps p.tables e below (s₁.setTop (entryFrame m #[(.int x1)] 3)) t := fun t k => castTop (ef1 m x1) k
  have pre294 : ∀ t, Steps p.tables e below (s₁.setTop (mkF m 14 #[.val (.int x1), .val (.int (x1 &&& (255 : Int32))), .val (.int (((x1.toUInt32 >>> ((8 : Int32) &&& 31).toUInt32).toInt32) &&& (3 : Int32)))] [(.int (((x1.toUInt32 >>> ((8 : Int32) &&& 31).toUInt32).toInt32) &&& (3 : Int32)))])) t → Steps p.tables e below (s₁.setTop (entryFrame m #[(.int x1)] 3)) t := by
    intro t kt
    refine pre0 t ?_
    show Steps p.tables e below (s₁.setTop (mkF m 0 #[.val (.int x1), .unset, .unset] [])) _
    refine XS.iloadN X0.here hx rfl (hb hby d1_0) rfl ?_
    refine XS.sipush X0.here hx rfl (hb hby d1_1) ?_
    refine XS.iand X0.here hx rfl (hb hby d1_4) rfl ?_
    refine XS.istoreN X0.here hx rfl (hb hby d1_5) rfl (l' := #[.val (.int x1), .val (.int (x1 &&& (255 : Int32))), .unset]) rfl ?_
    refine XS.iloadN X0.here hx rfl (hb hby d1_6) rfl ?_
    refine XS.bipush X0.here hx rfl (hb hby d1_7) ?_
    show Steps p.tables e below (s₁.setTop (mkF m 9 #[.val (.int x1), .val (.int (x1 &&& (255 : Int32))), .unset] [(.int (8 : Int32)), (.int x1)])) _
    refine XS.iushr X0.here hx rfl (hb hby d1_9) rfl ?_
    refine XS.iconst X0.here hx rfl (hb hby d1_10) ?_
    refine XS.iand X0.here hx rfl (hb hby d1_11) rfl ?_
    refine XS.istoreN X0.here hx rfl (hb hby d1_12) rfl (l' := #[.val (.int x1), .val (.int (x1 &&& (255 : Int32))), .val (.int (((x1.toUInt32 >>> ((8 : Int32) &&& 31).toUInt32).toInt32) &&& (3 : Int32)))]) rfl ?_
    refine XS.iloadN X0.here hx rfl (hb hby d1_13) rfl ?_
    exact kt
  by_cases hc14 : (((x1.toUInt32 >>> ((8 : Int32) &&& 31).toUInt32).toInt32) &&& (3 : Int32)) = (0 : Int32)
  · skip
    obtain ⟨fs, hr, hrun, hended, hW, hsame⟩ := X0.leave (v := some (.int (59 : Int32))) (fun h => by rw [Bd.returns] at h; cases h)
    refine ⟨_, _, pre294 _ ?_, hrun, hended, _, _, rfl, ?_, ⟨_, rfl⟩, hW, hsame.mono (by decide) (by decide)⟩
    · show Steps p.tables e below (s₁.setTop (mkF m 14 #[.val (.int x1), .val (.int (x1 &&& (255 : Int32))), .val (.int (((x1.toUInt32 >>> ((8 : Int32) &&& 31).toUInt32).toInt32) &&& (3 : Int32)))] [(.int (((x1.toUInt32 >>> ((8 : Int32) &&& 31).toUInt32).toInt32) &&& (3 : Int32)))])) _
      refine XS.ifNo X0.here hx rfl (hb hby d1_14) rfl ((if0 _ _).trans (teq hc14).2) ?_
      show Steps p.tables e below (s₁.setTop (mkF m 17 #[.val (.int x1), .val (.int (x1 &&& (255 : Int32))), .val (.int (((x1.toUInt32 >>> ((8 : Int32) &&& 31).toUInt32).toInt32) &&& (3 : Int32)))] [])) _
      refine XS.bipush X0.here hx rfl (hb hby d1_17) ?_
      show Steps p.tables e below (s₁.setTop (mkF m 19 #[.val (.int x1), .val (.int (x1 &&& (255 : Int32))), .val (.int (((x1.toUInt32 >>> ((8 : Int32) &&& 31).toUInt32).toInt32) &&& (3 : Int32)))] [(.int (59 : Int32))])) _
      exact retN X0 hx (t := .char) Bd.returns (by simp) (hb hby d1_19) hr
    · show Q1 Z x1 h0 n0 _ s₁.heap _
      rw [e0]
      exact ⟨(59 : Int32), rfl, N0, rfl, (by decide)⟩
  · skip
    have pre295 : ∀ t, Steps p.tables e below (s₁.setTop (mkF m 22 #[.val (.int x1), .val (.int (x1 &&& (255 : Int32))), .val (.int (((x1.toUInt32 >>> ((8 : Int32) &&& 31).toUInt32).toInt32) &&& (3 : Int32)))] [(.int (1 : Int32)), (.int (((x1.toUInt32 >>> ((8 : Int32) &&& 31).toUInt32).toInt32) &&& (3 : Int32)))])) t → Steps p.tables e below (s₁.setTop (entryFrame m #[(.int x1)] 3)) t := by
      intro t kt
      refine pre294 t ?_
      show Steps p.tables e below (s₁.setTop (mkF m 14 #[.val (.int x1), .val (.int (x1 &&& (255 : Int32))), .val (.int (((x1.toUInt32 >>> ((8 : Int32) &&& 31).toUInt32).toInt32) &&& (3 : Int32)))] [(.int (((x1.toUInt32 >>> ((8 : Int32) &&& 31).toUInt32).toInt32) &&& (3 : Int32)))])) _
      refine XS.ifYes X0.here hx rfl (pc0 := 14) (pc' := 20) rfl (hb hby d1_14) rfl ((if0 _ _).trans (feq hc14).2) (by decide) (by decide) ?_
      show Steps p.tables e below (s₁.setTop (mkF m 20 #[.val (.int x1), .val (.int (x1 &&& (255 : Int32))), .val (.int (((x1.toUInt32 >>> ((8 : Int32) &&& 31).toUInt32).toInt32) &&& (3 : Int32)))] [])) _
      refine XS.iloadN X0.here hx rfl (hb hby d1_20) rfl ?_
      refine XS.iconst X0.here hx rfl (hb hby d1_21) ?_
      exact kt
    by_cases hc22 : (((x1.toUInt32 >>> ((8 : Int32) &&& 31).toUInt32).toInt32) &&& (3 : Int32)) = (1 : Int32)
    · skip
      obtain ⟨fs, hr, hrun, hended, hW, hsame⟩ := X0.leave (v := some (.int ((((x1 &&& (255 : Int32)) % (33 : Int32)).toUInt32.toUInt16.toUInt32.toInt32).toUInt32.toUInt16.toUInt32.toInt32))) (fun h => by rw [Bd.returns] at h; cases h)
      refine ⟨_, _, pre295 _ ?_, hrun, hended, _, _, rfl, ?_, ⟨_, rfl⟩, hW, hsame.mono (by decide) (by decide)⟩
      · show Steps p.tables e below (s₁.setTop (mkF m 22 #[.val (.int x1), .val (.int (x1 &&& (255 : Int32))), .val (.int (((x1.toUInt32 >>> ((8 : Int32) &&& 31).toUInt32).toInt32) &&& (3 : Int32)))] [(.int (1 : Int32)), (.int (((x1.toUInt32 >>> ((8 : Int32) &&& 31).toUInt32).toInt32) &&& (3 : Int32)))])) _
        refine XS.icmpNo X0.here hx rfl (hb hby d1_22) rfl (teq hc22).2 ?_
        refine XS.iloadN X0.here hx rfl (hb hby d1_25) rfl ?_
        refine XS.bipush X0.here hx rfl (hb hby d1_26) ?_
        show Steps p.tables e below (s₁.setTop (mkF m 28 #[.val (.int x1), .val (.int (x1 &&& (255 : Int32))), .val (.int (((x1.toUInt32 >>> ((8 : Int32) &&& 31).toUInt32).toInt32) &&& (3 : Int32)))] [(.int (33 : Int32)), (.int (x1 &&& (255 : Int32)))])) _
        refine iremM X0 hx rfl (hb hby d1_28) rfl (by decide) ?_
        refine XS.i2c X0.here hx rfl (hb hby d1_29) rfl ?_
        show Steps p.tables e below (s₁.setTop (mkF m 30 #[.val (.int x1), .val (.int (x1 &&& (255 : Int32))), .val (.int (((x1.toUInt32 >>> ((8 : Int32) &&& 31).toUInt32).toInt32) &&& (3 : Int32)))] [(.int (((x1 &&& (255 : Int32)) % (33 : Int32)).toUInt32.toUInt16.toUInt32.toInt32))])) _
        exact retN X0 hx (t := .char) Bd.returns (by simp) (hb hby d1_30) hr
      · show Q1 Z x1 h0 n0 _ s₁.heap _
        rw [e0]
        exact ⟨((((x1 &&& (255 : Int32)) % (33 : Int32)).toUInt32.toUInt16.toUInt32.toInt32).toUInt32.toUInt16.toUInt32.toInt32), rfl, N0, rfl, (own_draw30 x1)⟩
    · skip
      have pre296 : ∀ t, Steps p.tables e below (s₁.setTop (mkF m 33 #[.val (.int x1), .val (.int (x1 &&& (255 : Int32))), .val (.int (((x1.toUInt32 >>> ((8 : Int32) &&& 31).toUInt32).toInt32) &&& (3 : Int32)))] [(.int (2 : Int32)), (.int (((x1.toUInt32 >>> ((8 : Int32) &&& 31).toUInt32).toInt32) &&& (3 : Int32)))])) t → Steps p.tables e below (s₁.setTop (entryFrame m #[(.int x1)] 3)) t := by
        intro t kt
        refine pre295 t ?_
        show Steps p.tables e below (s₁.setTop (mkF m 22 #[.val (.int x1), .val (.int (x1 &&& (255 : Int32))), .val (.int (((x1.toUInt32 >>> ((8 : Int32) &&& 31).toUInt32).toInt32) &&& (3 : Int32)))] [(.int (1 : Int32)), (.int (((x1.toUInt32 >>> ((8 : Int32) &&& 31).toUInt32).toInt32) &&& (3 : Int32)))])) _
        refine XS.icmpYes X0.here hx rfl (pc0 := 22) (pc' := 31) rfl (hb hby d1_22) rfl (feq hc22).2 (by decide) (by decide) ?_
        refine XS.iloadN X0.here hx rfl (hb hby d1_31) rfl ?_
        refine XS.iconst X0.here hx rfl (hb hby d1_32) ?_
        exact kt
      by_cases hc33 : (((x1.toUInt32 >>> ((8 : Int32) &&& 31).toUInt32).toInt32) &&& (3 : Int32)) = (2 : Int32)
      · skip
        obtain ⟨fs, hr, hrun, hended, hW, hsame⟩ := X0.leave (v := some (.int ((((65 : Int32) + ((x1 &&& (255 : Int32)) % (26 : Int32))).toUInt32.toUInt16.toUInt32.toInt32).toUInt32.toUInt16.toUInt32.toInt32))) (fun h => by rw [Bd.returns] at h; cases h)
        refine ⟨_, _, pre296 _ ?_, hrun, hended, _, _, rfl, ?_, ⟨_, rfl⟩, hW, hsame.mono (by decide) (by decide)⟩
        · show Steps p.tables e below (s₁.setTop (mkF m 33 #[.val (.int x1), .val (.int (x1 &&& (255 : Int32))), .val (.int (((x1.toUInt32 >>> ((8 : Int32) &&& 31).toUInt32).toInt32) &&& (3 : Int32)))] [(.int (2 : Int32)), (.int (((x1.toUInt32 >>> ((8 : Int32) &&& 31).toUInt32).toInt32) &&& (3 : Int32)))])) _
          refine XS.icmpNo X0.here hx rfl (hb hby d1_33) rfl (teq hc33).2 ?_
          show Steps p.tables e below (s₁.setTop (mkF m 36 #[.val (.int x1), .val (.int (x1 &&& (255 : Int32))), .val (.int (((x1.toUInt32 >>> ((8 : Int32) &&& 31).toUInt32).toInt32) &&& (3 : Int32)))] [])) _
          refine XS.bipush X0.here hx rfl (hb hby d1_36) ?_
          refine XS.iloadN X0.here hx rfl (hb hby d1_38) rfl ?_
          refine XS.bipush X0.here hx rfl (hb hby d1_39) ?_
          show Steps p.tables e below (s₁.setTop (mkF m 41 #[.val (.int x1), .val (.int (x1 &&& (255 : Int32))), .val (.int (((x1.toUInt32 >>> ((8 : Int32) &&& 31).toUInt32).toInt32) &&& (3 : Int32)))] [(.int (26 : Int32)), (.int (x1 &&& (255 : Int32))), (.int (65 : Int32))])) _
          refine iremM X0 hx rfl (hb hby d1_41) rfl (by decide) ?_
          refine XS.iadd X0.here hx rfl (hb hby d1_42) rfl ?_
          refine XS.i2c X0.here hx rfl (hb hby d1_43) rfl ?_
          show Steps p.tables e below (s₁.setTop (mkF m 44 #[.val (.int x1), .val (.int (x1 &&& (255 : Int32))), .val (.int (((x1.toUInt32 >>> ((8 : Int32) &&& 31).toUInt32).toInt32) &&& (3 : Int32)))] [(.int (((65 : Int32) + ((x1 &&& (255 : Int32)) % (26 : Int32))).toUInt32.toUInt16.toUInt32.toInt32))])) _
          exact retN X0 hx (t := .char) Bd.returns (by simp) (hb hby d1_44) hr
        · show Q1 Z x1 h0 n0 _ s₁.heap _
          rw [e0]
          exact ⟨((((65 : Int32) + ((x1 &&& (255 : Int32)) % (26 : Int32))).toUInt32.toUInt16.toUInt32.toInt32).toUInt32.toUInt16.toUInt32.toInt32), rfl, N0, rfl, (own_draw44 x1)⟩
      · skip
        obtain ⟨fs, hr, hrun, hended, hW, hsame⟩ := X0.leave (v := some (.int (((x1 &&& (255 : Int32)).toUInt32.toUInt16.toUInt32.toInt32).toUInt32.toUInt16.toUInt32.toInt32))) (fun h => by rw [Bd.returns] at h; cases h)
        refine ⟨_, _, pre296 _ ?_, hrun, hended, _, _, rfl, ?_, ⟨_, rfl⟩, hW, hsame.mono (by decide) (by decide)⟩
        · show Steps p.tables e below (s₁.setTop (mkF m 33 #[.val (.int x1), .val (.int (x1 &&& (255 : Int32))), .val (.int (((x1.toUInt32 >>> ((8 : Int32) &&& 31).toUInt32).toInt32) &&& (3 : Int32)))] [(.int (2 : Int32)), (.int (((x1.toUInt32 >>> ((8 : Int32) &&& 31).toUInt32).toInt32) &&& (3 : Int32)))])) _
          refine XS.icmpYes X0.here hx rfl (pc0 := 33) (pc' := 45) rfl (hb hby d1_33) rfl (feq hc33).2 (by decide) (by decide) ?_
          show Steps p.tables e below (s₁.setTop (mkF m 45 #[.val (.int x1), .val (.int (x1 &&& (255 : Int32))), .val (.int (((x1.toUInt32 >>> ((8 : Int32) &&& 31).toUInt32).toInt32) &&& (3 : Int32)))] [])) _
          refine XS.iloadN X0.here hx rfl (hb hby d1_45) rfl ?_
          refine XS.i2c X0.here hx rfl (hb hby d1_46) rfl ?_
          show Steps p.tables e below (s₁.setTop (mkF m 47 #[.val (.int x1), .val (.int (x1 &&& (255 : Int32))), .val (.int (((x1.toUInt32 >>> ((8 : Int32) &&& 31).toUInt32).toInt32) &&& (3 : Int32)))] [(.int ((x1 &&& (255 : Int32)).toUInt32.toUInt16.toUInt32.toInt32))])) _
          exact retN X0 hx (t := .char) Bd.returns (by simp) (hb hby d1_47) hr
        · show Q1 Z x1 h0 n0 _ s₁.heap _
          rw [e0]
          exact ⟨(((x1 &&& (255 : Int32)).toUInt32.toUInt16.toUInt32.toInt32).toUInt32.toUInt16.toUInt32.toInt32), rfl, N0, rfl, (own_draw47 x1)⟩
theorem d37_0 : decode method_3_code 0 = .ok (.iload_n 0, 1) := by decide +kernel
theorem d37_1 : decode method_3_code 1 = .ok (.bipush 65, 2) := by decide +kernel
theorem d37_3 : decode method_3_code 3 = .ok (.if_icmp .lt 15, 3) := by decide +kernel
theorem d37_18 : decode method_3_code 18 = .ok (.iload_n 0, 1) := by decide +kernel
theorem d37_19 : decode method_3_code 19 = .ok (.sipush 192, 3) := by decide +kernel
theorem d37_22 : decode method_3_code 22 = .ok (.if_icmp .lt 23, 3) := by decide +kernel
theorem d37_45 : decode method_3_code 45 = .ok (.iload_n 0, 1) := by decide +kernel
theorem d37_46 : decode method_3_code 46 = .ok (.ireturn, 1) := by decide +kernel
theorem d37_25 : decode method_3_code 25 = .ok (.iload_n 0, 1) := by decide +kernel
theorem d37_26 : decode method_3_code 26 = .ok (.sipush 222, 3) := by decide +kernel
theorem d37_29 : decode method_3_code 29 = .ok (.if_icmp .gt 16, 3) := by decide +kernel
theorem d37_32 : decode method_3_code 32 = .ok (.iload_n 0, 1) := by decide +kernel
theorem d37_33 : decode method_3_code 33 = .ok (.sipush 215, 3) := by decide +kernel
theorem d37_36 : decode method_3_code 36 = .ok (.if_icmp .eq 9, 3) := by decide +kernel
theorem d37_39 : decode method_3_code 39 = .ok (.iload_n 0, 1) := by decide +kernel
theorem d37_40 : decode method_3_code 40 = .ok (.bipush 32, 2) := by decide +kernel
theorem d37_42 : decode method_3_code 42 = .ok (.iadd, 1) := by decide +kernel
theorem d37_43 : decode method_3_code 43 = .ok (.i2c, 1) := by decide +kernel
theorem d37_44 : decode method_3_code 44 = .ok (.ireturn, 1) := by decide +kernel
theorem d37_6 : decode method_3_code 6 = .ok (.iload_n 0, 1) := by decide +kernel
theorem d37_7 : decode method_3_code 7 = .ok (.bipush 90, 2) := by decide +kernel
theorem d37_9 : decode method_3_code 9 = .ok (.if_icmp .gt 9, 3) := by decide +kernel
theorem d37_12 : decode method_3_code 12 = .ok (.iload_n 0, 1) := by decide +kernel
theorem d37_13 : decode method_3_code 13 = .ok (.bipush 32, 2) := by decide +kernel
theorem d37_15 : decode method_3_code 15 = .ok (.iadd, 1) := by decide +kernel
theorem d37_16 : decode method_3_code 16 = .ok (.i2c, 1) := by decide +kernel
theorem d37_17 : decode method_3_code 17 = .ok (.ireturn, 1) := by decide +kernel
theorem ef37 (m : MethodId) (x1 : Int32) : entryFrame m #[(.int x1)] 1 = mkF m 0 #[.val (.int x1)] [] := by first | (simp [entryFrame, mkF, argsToLocals, Value.category]; done) | rfl
def Q37 (Z : State) (x1 : Int32) (h0 : Heap) (n0 : Nat) (v : Option Value) (h : Heap) (L : List Loc) : Prop := v = some (.int (own_lower x1)) ∧ Fr n0 L ∧ h = h0
set_option maxRecDepth 65536 in
set_option maxHeartbeats 40000000 in
theorem rm37 (l : Launch) (Z : State) (a0 : Array Value) (hw : ∀ d ∈ tables_1, d.before a0 Z = true) (ws : List Jvm.Cond) (x1 : Int32) (h0 : Heap) (n0 : Nat) (Z0 : n0 ≤ h0.size) (O0 : Old Z n0 h0) :
    MetFree l (⟨"com/example/prueba/prueba/MediaTypesMediaTypePinLaw", "lower", "(C)C"⟩ : MethodName) (head1 (Jvm.Cond.code (⟨"com/example/prueba/prueba/MediaTypesMediaTypePinLaw", "lower", "(C)C"⟩ : MethodName) method_3_code 1 (some .char) :: ws) ({ frames := 0, cells := 0, slots := 0, locals := 0 } : Room)) (fun a U => a = #[(.int x1)] ∧ Z.Warmed39 U.vm ∧ U.heap = h0) (fun _ _ _ _ _ => True) (fun _ U o U' => ∃ v L, o = .returned v ∧ Q37 Z x1 h0 n0 v U'.heap L ∧ FrameEnd U o U' L ({ frames := 0, cells := 0, slots := 0, locals := 0 } : Room).cells ({ frames := 0, cells := 0, slots := 0, locals := 0 } : Room).slots) := by
  refine MetFree.of_bodySF (plainFor_of_name pn_com_example_prueba_prueba_MediaTypesMediaTypePinLaw) hisR ?_
  intro p e s m args below meth c s₁ Bd hml0 hP hK
  obtain ⟨rfl, hZ, hh⟩ := hP
  have hx := Bd.exec
  have hby := Bd.bytes
  have hml : c.maxLocals = 1 := hml0
  have hown : s.vm.findClass "com/example/prueba/prueba/MediaTypesMediaTypePinLaw" = some m.cls := findClass_of_methodNamed Bd.named
  have hnm := (name_of_methodNamed Bd.named Bd.method).1
  have X0 : Stand p l e ({ frames := 0, cells := 0, slots := 0, locals := 0 } : Room) s m #[(.int x1)] below meth c s₁ [] 0 0 := Stand.of_body Bd
  have e0 : s₁.heap = h0 := by rw [← hh, Bd.state]; rfl
  have N0 := Fr.nil n0
  have K0 : Keep h0 h0 [] := Keep.refl _ _
  have pre0 : ∀ t, Steps p.tables e below (s₁.setTop (mkF m 0 #[.val (.int x1)] [])) t → Steps p.tables e below (s₁.setTop (entryFrame m #[(.int x1)] 1)) t := fun t k => castTop (ef37 m x1) k
  have pre297 : ∀ t, Steps p.tables e below (s₁.setTop (mkF m 3 #[.val (.int x1)] [(.int (65 : Int32)), (.int x1)])) t → Steps p.tables e below (s₁.setTop (entryFrame m #[(.int x1)] 1)) t := by
    intro t kt
    refine pre0 t ?_
    show Steps p.tables e below (s₁.setTop (mkF m 0 #[.val (.int x1)] [])) _
    refine XS.iloadN X0.here hx rfl (hb hby d37_0) rfl ?_
    refine XS.bipush X0.here hx rfl (hb hby d37_1) ?_
    exact kt
  by_cases hc3 : x1 < (65 : Int32)
  · skip
    have pre298 : ∀ t, Steps p.tables e below (s₁.setTop (mkF m 22 #[.val (.int x1)] [(.int (192 : Int32)), (.int x1)])) t → Steps p.tables e below (s₁.setTop (entryFrame m #[(.int x1)] 1)) t := by
      intro t kt
      refine pre297 t ?_
      show Steps p.tables e below (s₁.setTop (mkF m 3 #[.val (.int x1)] [(.int (65 : Int32)), (.int x1)])) _
      refine XS.icmpYes X0.here hx rfl (pc0 := 3) (pc' := 18) rfl (hb hby d37_3) rfl (tlt hc3).1 (by decide) (by decide) ?_
      refine XS.iloadN X0.here hx rfl (hb hby d37_18) rfl ?_
      refine XS.sipush X0.here hx rfl (hb hby d37_19) ?_
      exact kt
    by_cases hc22 : x1 < (192 : Int32)
    · skip
      obtain ⟨fs, hr, hrun, hended, hW, hsame⟩ := X0.leave (v := some (.int (x1.toUInt32.toUInt16.toUInt32.toInt32))) (fun h => by rw [Bd.returns] at h; cases h)
      refine ⟨_, _, pre298 _ ?_, hrun, hended, _, _, rfl, ?_, ⟨_, rfl⟩, hW, hsame.mono (by decide) (by decide)⟩
      · show Steps p.tables e below (s₁.setTop (mkF m 22 #[.val (.int x1)] [(.int (192 : Int32)), (.int x1)])) _
        refine XS.icmpYes X0.here hx rfl (pc0 := 22) (pc' := 45) rfl (hb hby d37_22) rfl (tlt hc22).1 (by decide) (by decide) ?_
        show Steps p.tables e below (s₁.setTop (mkF m 45 #[.val (.int x1)] [])) _
        refine XS.iloadN X0.here hx rfl (hb hby d37_45) rfl ?_
        show Steps p.tables e below (s₁.setTop (mkF m 46 #[.val (.int x1)] [(.int x1)])) _
        exact retN X0 hx (t := .char) Bd.returns (by simp) (hb hby d37_46) hr
      · show Q37 Z x1 h0 n0 _ s₁.heap _
        rw [e0]
        exact ⟨(by unfold own_lower; (repeat first | rw [if_pos (by assumption)] | rw [if_neg (by assumption)]); try rfl), N0, rfl⟩
    · skip
      have pre299 : ∀ t, Steps p.tables e below (s₁.setTop (mkF m 29 #[.val (.int x1)] [(.int (222 : Int32)), (.int x1)])) t → Steps p.tables e below (s₁.setTop (entryFrame m #[(.int x1)] 1)) t := by
        intro t kt
        refine pre298 t ?_
        show Steps p.tables e below (s₁.setTop (mkF m 22 #[.val (.int x1)] [(.int (192 : Int32)), (.int x1)])) _
        refine XS.icmpNo X0.here hx rfl (hb hby d37_22) rfl (flt hc22).1 ?_
        show Steps p.tables e below (s₁.setTop (mkF m 25 #[.val (.int x1)] [])) _
        refine XS.iloadN X0.here hx rfl (hb hby d37_25) rfl ?_
        refine XS.sipush X0.here hx rfl (hb hby d37_26) ?_
        exact kt
      by_cases hc29 : (222 : Int32) < x1
      · skip
        obtain ⟨fs, hr, hrun, hended, hW, hsame⟩ := X0.leave (v := some (.int (x1.toUInt32.toUInt16.toUInt32.toInt32))) (fun h => by rw [Bd.returns] at h; cases h)
        refine ⟨_, _, pre299 _ ?_, hrun, hended, _, _, rfl, ?_, ⟨_, rfl⟩, hW, hsame.mono (by decide) (by decide)⟩
        · show Steps p.tables e below (s₁.setTop (mkF m 29 #[.val (.int x1)] [(.int (222 : Int32)), (.int x1)])) _
          refine XS.icmpYes X0.here hx rfl (pc0 := 29) (pc' := 45) rfl (hb hby d37_29) rfl (tlt hc29).2.2.1 (by decide) (by decide) ?_
          refine XS.iloadN X0.here hx rfl (hb hby d37_45) rfl ?_
          show Steps p.tables e below (s₁.setTop (mkF m 46 #[.val (.int x1)] [(.int x1)])) _
          exact retN X0 hx (t := .char) Bd.returns (by simp) (hb hby d37_46) hr
        · show Q37 Z x1 h0 n0 _ s₁.heap _
          rw [e0]
          exact ⟨(by unfold own_lower; (repeat first | rw [if_pos (by assumption)] | rw [if_neg (by assumption)]); try rfl), N0, rfl⟩
      · skip
        have pre300 : ∀ t, Steps p.tables e below (s₁.setTop (mkF m 36 #[.val (.int x1)] [(.int (215 : Int32)), (.int x1)])) t → Steps p.tables e below (s₁.setTop (entryFrame m #[(.int x1)] 1)) t := by
          intro t kt
          refine pre299 t ?_
          show Steps p.tables e below (s₁.setTop (mkF m 29 #[.val (.int x1)] [(.int (222 : Int32)), (.int x1)])) _
          refine XS.icmpNo X0.here hx rfl (hb hby d37_29) rfl (flt hc29).2.2.1 ?_
          refine XS.iloadN X0.here hx rfl (hb hby d37_32) rfl ?_
          refine XS.sipush X0.here hx rfl (hb hby d37_33) ?_
          exact kt
        by_cases hc36 : x1 = (215 : Int32)
        · skip
          obtain ⟨fs, hr, hrun, hended, hW, hsame⟩ := X0.leave (v := some (.int (x1.toUInt32.toUInt16.toUInt32.toInt32))) (fun h => by rw [Bd.returns] at h; cases h)
          refine ⟨_, _, pre300 _ ?_, hrun, hended, _, _, rfl, ?_, ⟨_, rfl⟩, hW, hsame.mono (by decide) (by decide)⟩
          · show Steps p.tables e below (s₁.setTop (mkF m 36 #[.val (.int x1)] [(.int (215 : Int32)), (.int x1)])) _
            refine XS.icmpYes X0.here hx rfl (pc0 := 36) (pc' := 45) rfl (hb hby d37_36) rfl (teq hc36).1 (by decide) (by decide) ?_
            show Steps p.tables e below (s₁.setTop (mkF m 45 #[.val (.int x1)] [])) _
            refine XS.iloadN X0.here hx rfl (hb hby d37_45) rfl ?_
            show Steps p.tables e below (s₁.setTop (mkF m 46 #[.val (.int x1)] [(.int x1)])) _
            exact retN X0 hx (t := .char) Bd.returns (by simp) (hb hby d37_46) hr
          · show Q37 Z x1 h0 n0 _ s₁.heap _
            rw [e0]
            exact ⟨(by unfold own_lower; (repeat first | rw [if_pos (by assumption)] | rw [if_neg (by assumption)]); try rfl), N0, rfl⟩
        · skip
          obtain ⟨fs, hr, hrun, hended, hW, hsame⟩ := X0.leave (v := some (.int (((x1 + (32 : Int32)).toUInt32.toUInt16.toUInt32.toInt32).toUInt32.toUInt16.toUInt32.toInt32))) (fun h => by rw [Bd.returns] at h; cases h)
          refine ⟨_, _, pre300 _ ?_, hrun, hended, _, _, rfl, ?_, ⟨_, rfl⟩, hW, hsame.mono (by decide) (by decide)⟩
          · show Steps p.tables e below (s₁.setTop (mkF m 36 #[.val (.int x1)] [(.int (215 : Int32)), (.int x1)])) _
            refine XS.icmpNo X0.here hx rfl (hb hby d37_36) rfl (feq hc36).1 ?_
            show Steps p.tables e below (s₁.setTop (mkF m 39 #[.val (.int x1)] [])) _
            refine XS.iloadN X0.here hx rfl (hb hby d37_39) rfl ?_
            refine XS.bipush X0.here hx rfl (hb hby d37_40) ?_
            refine XS.iadd X0.here hx rfl (hb hby d37_42) rfl ?_
            refine XS.i2c X0.here hx rfl (hb hby d37_43) rfl ?_
            show Steps p.tables e below (s₁.setTop (mkF m 44 #[.val (.int x1)] [(.int ((x1 + (32 : Int32)).toUInt32.toUInt16.toUInt32.toInt32))])) _
            exact retN X0 hx (t := .char) Bd.returns (by simp) (hb hby d37_44) hr
          · show Q37 Z x1 h0 n0 _ s₁.heap _
            rw [e0]
            exact ⟨(by unfold own_lower; (repeat first | rw [if_pos (by assumption)] | rw [if_neg (by assumption)]); try rfl), N0, rfl⟩
  · skip
    have pre301 : ∀ t, Steps p.tables e below (s₁.setTop (mkF m 9 #[.val (.int x1)] [(.int (90 : Int32)), (.int x1)])) t → Steps p.tables e below (s₁.setTop (entryFrame m #[(.int x1)] 1)) t := by
      intro t kt
      refine pre297 t ?_
      show Steps p.tables e below (s₁.setTop (mkF m 3 #[.val (.int x1)] [(.int (65 : Int32)), (.int x1)])) _
      refine XS.icmpNo X0.here hx rfl (hb hby d37_3) rfl (flt hc3).1 ?_
      refine XS.iloadN X0.here hx rfl (hb hby d37_6) rfl ?_
      refine XS.bipush X0.here hx rfl (hb hby d37_7) ?_
      exact kt
    by_cases hc9 : (90 : Int32) < x1
    · skip
      have pre302 : ∀ t, Steps p.tables e below (s₁.setTop (mkF m 22 #[.val (.int x1)] [(.int (192 : Int32)), (.int x1)])) t → Steps p.tables e below (s₁.setTop (entryFrame m #[(.int x1)] 1)) t := by
        intro t kt
        refine pre301 t ?_
        show Steps p.tables e below (s₁.setTop (mkF m 9 #[.val (.int x1)] [(.int (90 : Int32)), (.int x1)])) _
        refine XS.icmpYes X0.here hx rfl (pc0 := 9) (pc' := 18) rfl (hb hby d37_9) rfl (tlt hc9).2.2.1 (by decide) (by decide) ?_
        show Steps p.tables e below (s₁.setTop (mkF m 18 #[.val (.int x1)] [])) _
        refine XS.iloadN X0.here hx rfl (hb hby d37_18) rfl ?_
        refine XS.sipush X0.here hx rfl (hb hby d37_19) ?_
        exact kt
      by_cases hc22 : x1 < (192 : Int32)
      · skip
        obtain ⟨fs, hr, hrun, hended, hW, hsame⟩ := X0.leave (v := some (.int (x1.toUInt32.toUInt16.toUInt32.toInt32))) (fun h => by rw [Bd.returns] at h; cases h)
        refine ⟨_, _, pre302 _ ?_, hrun, hended, _, _, rfl, ?_, ⟨_, rfl⟩, hW, hsame.mono (by decide) (by decide)⟩
        · show Steps p.tables e below (s₁.setTop (mkF m 22 #[.val (.int x1)] [(.int (192 : Int32)), (.int x1)])) _
          refine XS.icmpYes X0.here hx rfl (pc0 := 22) (pc' := 45) rfl (hb hby d37_22) rfl (tlt hc22).1 (by decide) (by decide) ?_
          refine XS.iloadN X0.here hx rfl (hb hby d37_45) rfl ?_
          show Steps p.tables e below (s₁.setTop (mkF m 46 #[.val (.int x1)] [(.int x1)])) _
          exact retN X0 hx (t := .char) Bd.returns (by simp) (hb hby d37_46) hr
        · show Q37 Z x1 h0 n0 _ s₁.heap _
          rw [e0]
          exact ⟨(by unfold own_lower; (repeat first | rw [if_pos (by assumption)] | rw [if_neg (by assumption)]); try rfl), N0, rfl⟩
      · skip
        have pre303 : ∀ t, Steps p.tables e below (s₁.setTop (mkF m 29 #[.val (.int x1)] [(.int (222 : Int32)), (.int x1)])) t → Steps p.tables e below (s₁.setTop (entryFrame m #[(.int x1)] 1)) t := by
          intro t kt
          refine pre302 t ?_
          show Steps p.tables e below (s₁.setTop (mkF m 22 #[.val (.int x1)] [(.int (192 : Int32)), (.int x1)])) _
          refine XS.icmpNo X0.here hx rfl (hb hby d37_22) rfl (flt hc22).1 ?_
          refine XS.iloadN X0.here hx rfl (hb hby d37_25) rfl ?_
          refine XS.sipush X0.here hx rfl (hb hby d37_26) ?_
          exact kt
        by_cases hc29 : (222 : Int32) < x1
        · skip
          obtain ⟨fs, hr, hrun, hended, hW, hsame⟩ := X0.leave (v := some (.int (x1.toUInt32.toUInt16.toUInt32.toInt32))) (fun h => by rw [Bd.returns] at h; cases h)
          refine ⟨_, _, pre303 _ ?_, hrun, hended, _, _, rfl, ?_, ⟨_, rfl⟩, hW, hsame.mono (by decide) (by decide)⟩
          · show Steps p.tables e below (s₁.setTop (mkF m 29 #[.val (.int x1)] [(.int (222 : Int32)), (.int x1)])) _
            refine XS.icmpYes X0.here hx rfl (pc0 := 29) (pc' := 45) rfl (hb hby d37_29) rfl (tlt hc29).2.2.1 (by decide) (by decide) ?_
            show Steps p.tables e below (s₁.setTop (mkF m 45 #[.val (.int x1)] [])) _
            refine XS.iloadN X0.here hx rfl (hb hby d37_45) rfl ?_
            show Steps p.tables e below (s₁.setTop (mkF m 46 #[.val (.int x1)] [(.int x1)])) _
            exact retN X0 hx (t := .char) Bd.returns (by simp) (hb hby d37_46) hr
          · show Q37 Z x1 h0 n0 _ s₁.heap _
            rw [e0]
            exact ⟨(by unfold own_lower; (repeat first | rw [if_pos (by assumption)] | rw [if_neg (by assumption)]); try rfl), N0, rfl⟩
        · skip
          have pre304 : ∀ t, Steps p.tables e below (s₁.setTop (mkF m 36 #[.val (.int x1)] [(.int (215 : Int32)), (.int x1)])) t → Steps p.tables e below (s₁.setTop (entryFrame m #[(.int x1)] 1)) t := by
            intro t kt
            refine pre303 t ?_
            show Steps p.tables e below (s₁.setTop (mkF m 29 #[.val (.int x1)] [(.int (222 : Int32)), (.int x1)])) _
            refine XS.icmpNo X0.here hx rfl (hb hby d37_29) rfl (flt hc29).2.2.1 ?_
            show Steps p.tables e below (s₁.setTop (mkF m 32 #[.val (.int x1)] [])) _
            refine XS.iloadN X0.here hx rfl (hb hby d37_32) rfl ?_
            refine XS.sipush X0.here hx rfl (hb hby d37_33) ?_
            exact kt
          by_cases hc36 : x1 = (215 : Int32)
          · skip
            obtain ⟨fs, hr, hrun, hended, hW, hsame⟩ := X0.leave (v := some (.int (x1.toUInt32.toUInt16.toUInt32.toInt32))) (fun h => by rw [Bd.returns] at h; cases h)
            refine ⟨_, _, pre304 _ ?_, hrun, hended, _, _, rfl, ?_, ⟨_, rfl⟩, hW, hsame.mono (by decide) (by decide)⟩
            · show Steps p.tables e below (s₁.setTop (mkF m 36 #[.val (.int x1)] [(.int (215 : Int32)), (.int x1)])) _
              refine XS.icmpYes X0.here hx rfl (pc0 := 36) (pc' := 45) rfl (hb hby d37_36) rfl (teq hc36).1 (by decide) (by decide) ?_
              refine XS.iloadN X0.here hx rfl (hb hby d37_45) rfl ?_
              show Steps p.tables e below (s₁.setTop (mkF m 46 #[.val (.int x1)] [(.int x1)])) _
              exact retN X0 hx (t := .char) Bd.returns (by simp) (hb hby d37_46) hr
            · show Q37 Z x1 h0 n0 _ s₁.heap _
              rw [e0]
              exact ⟨(by unfold own_lower; (repeat first | rw [if_pos (by assumption)] | rw [if_neg (by assumption)]); try rfl), N0, rfl⟩
          · skip
            obtain ⟨fs, hr, hrun, hended, hW, hsame⟩ := X0.leave (v := some (.int (((x1 + (32 : Int32)).toUInt32.toUInt16.toUInt32.toInt32).toUInt32.toUInt16.toUInt32.toInt32))) (fun h => by rw [Bd.returns] at h; cases h)
            refine ⟨_, _, pre304 _ ?_, hrun, hended, _, _, rfl, ?_, ⟨_, rfl⟩, hW, hsame.mono (by decide) (by decide)⟩
            · show Steps p.tables e below (s₁.setTop (mkF m 36 #[.val (.int x1)] [(.int (215 : Int32)), (.int x1)])) _
              refine XS.icmpNo X0.here hx rfl (hb hby d37_36) rfl (feq hc36).1 ?_
              refine XS.iloadN X0.here hx rfl (hb hby d37_39) rfl ?_
              refine XS.bipush X0.here hx rfl (hb hby d37_40) ?_
              refine XS.iadd X0.here hx rfl (hb hby d37_42) rfl ?_
              show Steps p.tables e below (s₁.setTop (mkF m 43 #[.val (.int x1)] [(.int (x1 + (32 : Int32)))])) _
              refine XS.i2c X0.here hx rfl (hb hby d37_43) rfl ?_
              show Steps p.tables e below (s₁.setTop (mkF m 44 #[.val (.int x1)] [(.int ((x1 + (32 : Int32)).toUInt32.toUInt16.toUInt32.toInt32))])) _
              exact retN X0 hx (t := .char) Bd.returns (by simp) (hb hby d37_44) hr
            · show Q37 Z x1 h0 n0 _ s₁.heap _
              rw [e0]
              exact ⟨(by unfold own_lower; (repeat first | rw [if_pos (by assumption)] | rw [if_neg (by assumption)]); try rfl), N0, rfl⟩
    · skip
      obtain ⟨fs, hr, hrun, hended, hW, hsame⟩ := X0.leave (v := some (.int (((x1 + (32 : Int32)).toUInt32.toUInt16.toUInt32.toInt32).toUInt32.toUInt16.toUInt32.toInt32))) (fun h => by rw [Bd.returns] at h; cases h)
      refine ⟨_, _, pre301 _ ?_, hrun, hended, _, _, rfl, ?_, ⟨_, rfl⟩, hW, hsame.mono (by decide) (by decide)⟩
      · show Steps p.tables e below (s₁.setTop (mkF m 9 #[.val (.int x1)] [(.int (90 : Int32)), (.int x1)])) _
        refine XS.icmpNo X0.here hx rfl (hb hby d37_9) rfl (flt hc9).2.2.1 ?_
        show Steps p.tables e below (s₁.setTop (mkF m 12 #[.val (.int x1)] [])) _
        refine XS.iloadN X0.here hx rfl (hb hby d37_12) rfl ?_
        refine XS.bipush X0.here hx rfl (hb hby d37_13) ?_
        refine XS.iadd X0.here hx rfl (hb hby d37_15) rfl ?_
        refine XS.i2c X0.here hx rfl (hb hby d37_16) rfl ?_
        show Steps p.tables e below (s₁.setTop (mkF m 17 #[.val (.int x1)] [(.int ((x1 + (32 : Int32)).toUInt32.toUInt16.toUInt32.toInt32))])) _
        exact retN X0 hx (t := .char) Bd.returns (by simp) (hb hby d37_17) hr
      · show Q37 Z x1 h0 n0 _ s₁.heap _
        rw [e0]
        exact ⟨(by unfold own_lower; (repeat first | rw [if_pos (by assumption)] | rw [if_neg (by assumption)]); try rfl), N0, rfl⟩
theorem d16_9 : decode jdk_29_method_65_code 9 = .ok (.iload_n 1, 1) := by decide +kernel
theorem ef16 (m : MethodId) (x1 : Int32) (x2 : Int32) : entryFrame m #[(.int x1), (.int x2)] 2 = mkF m 0 #[.val (.int x1), .val (.int x2)] [] := by first | (simp [entryFrame, mkF, argsToLocals, Value.category]; done) | rfl
def Q16 (Z : State) (x1 : Int32) (x2 : Int32) (h0 : Heap) (n0 : Nat) (v : Option Value) (h : Heap) (L : List Loc) : Prop := v = some (.int (own_max x1 x2)) ∧ Fr n0 L ∧ h = h0
set_option maxRecDepth 65536 in
set_option maxHeartbeats 40000000 in
theorem rm16 (l : Launch) (Z : State) (a0 : Array Value) (hw : ∀ d ∈ tables_1, d.before a0 Z = true) (ws : List Jvm.Cond) (x1 : Int32) (x2 : Int32) (h0 : Heap) (n0 : Nat) (Z0 : n0 ≤ h0.size) (O0 : Old Z n0 h0) :
    MetFree l (⟨"java/lang/Math", "max", "(II)I"⟩ : MethodName) (head1 (Jvm.Cond.code (⟨"java/lang/Math", "max", "(II)I"⟩ : MethodName) jdk_29_method_65_code 2 (some .int) :: ws) ({ frames := 0, cells := 0, slots := 0, locals := 0 } : Room)) (fun a U => a = #[(.int x1), (.int x2)] ∧ Z.Warmed39 U.vm ∧ U.heap = h0) (fun _ _ _ _ _ => True) (fun _ U o U' => ∃ v L, o = .returned v ∧ Q16 Z x1 x2 h0 n0 v U'.heap L ∧ FrameEnd U o U' L ({ frames := 0, cells := 0, slots := 0, locals := 0 } : Room).cells ({ frames := 0, cells := 0, slots := 0, locals := 0 } : Room).slots) := by
  refine MetFree.of_bodySF (Jvm.Free.JP.mathPlain rfl (by decide +kernel)) hisR ?_
  intro p e s m args below meth c s₁ Bd hml0 hP hK
  obtain ⟨rfl, hZ, hh⟩ := hP
  have hx := Bd.exec
  have hby := Bd.bytes
  have hml : c.maxLocals = 2 := hml0
  have hown : s.vm.findClass "java/lang/Math" = some m.cls := findClass_of_methodNamed Bd.named
  have hnm := (name_of_methodNamed Bd.named Bd.method).1
  have X0 : Stand p l e ({ frames := 0, cells := 0, slots := 0, locals := 0 } : Room) s m #[(.int x1), (.int x2)] below meth c s₁ [] 0 0 := Stand.of_body Bd
  have e0 : s₁.heap = h0 := by rw [← hh, Bd.state]; rfl
  have N0 := Fr.nil n0
  have K0 : Keep h0 h0 [] := Keep.refl _ _
  have pre0 : ∀ t, Steps p.tables e below (s₁.setTop (mkF m 0 #[.val (.int x1), .val (.int x2)] [])) t → Steps p.tables e below (s₁.setTop (entryFrame m #[(.int x1), (.int x2)] 2)) t := fun t k => castTop (ef16 m x1 x2) k
  have pre305 : ∀ t, Steps p.tables e below (s₁.setTop (mkF m 2 #[.val (.int x1), .val (.int x2)] [(.int x2), (.int x1)])) t → Steps p.tables e below (s₁.setTop (entryFrame m #[(.int x1), (.int x2)] 2)) t := by
    intro t kt
    refine pre0 t ?_
    show Steps p.tables e below (s₁.setTop (mkF m 0 #[.val (.int x1), .val (.int x2)] [])) _
    refine XS.iloadN X0.here hx rfl (hb hby d16_0) rfl ?_
    refine XS.iloadN X0.here hx rfl (hb hby d16_1) rfl ?_
    exact kt
  by_cases hc2 : x1 < x2
  · skip
    obtain ⟨fs, hr, hrun, hended, hW, hsame⟩ := X0.leave (v := some (.int x2)) (fun h => by rw [Bd.returns] at h; cases h)
    refine ⟨_, _, pre305 _ ?_, hrun, hended, _, _, rfl, ?_, ⟨_, rfl⟩, hW, hsame.mono (by decide) (by decide)⟩
    · show Steps p.tables e below (s₁.setTop (mkF m 2 #[.val (.int x1), .val (.int x2)] [(.int x2), (.int x1)])) _
      refine XS.icmpYes X0.here hx rfl (pc0 := 2) (pc' := 9) rfl (hb hby d16_2) rfl (tlt hc2).1 (by decide) (by decide) ?_
      refine XS.iloadN X0.here hx rfl (hb hby d16_9) rfl ?_
      show Steps p.tables e below (s₁.setTop (mkF m 10 #[.val (.int x1), .val (.int x2)] [(.int x2)])) _
      exact retI X0 hx Bd.returns (hb hby d16_10) hr
    · show Q16 Z x1 x2 h0 n0 _ s₁.heap _
      rw [e0]
      exact ⟨(by unfold own_max; first | rw [if_pos (by assumption)] | rw [if_neg (by assumption)]), N0, rfl⟩
  · skip
    obtain ⟨fs, hr, hrun, hended, hW, hsame⟩ := X0.leave (v := some (.int x1)) (fun h => by rw [Bd.returns] at h; cases h)
    refine ⟨_, _, pre305 _ ?_, hrun, hended, _, _, rfl, ?_, ⟨_, rfl⟩, hW, hsame.mono (by decide) (by decide)⟩
    · show Steps p.tables e below (s₁.setTop (mkF m 2 #[.val (.int x1), .val (.int x2)] [(.int x2), (.int x1)])) _
      refine XS.icmpNo X0.here hx rfl (hb hby d16_2) rfl (flt hc2).1 ?_
      refine XS.iloadN X0.here hx rfl (hb hby d16_5) rfl ?_
      refine XS.goto X0.here hx rfl (pc0 := 6) (pc' := 10) rfl (hb hby d16_6) (by decide) (by decide) ?_
      show Steps p.tables e below (s₁.setTop (mkF m 10 #[.val (.int x1), .val (.int x2)] [(.int x1)])) _
      exact retI X0 hx Bd.returns (hb hby d16_10) hr
    · show Q16 Z x1 x2 h0 n0 _ s₁.heap _
      rw [e0]
      exact ⟨(by unfold own_max; first | rw [if_pos (by assumption)] | rw [if_neg (by assumption)]), N0, rfl⟩
theorem d36_0 : decode jdk_41_method_11_code 0 = .ok (.iload_n 0, 1) := by decide +kernel
theorem d36_1 : decode jdk_41_method_11_code 1 = .ok (.ifCond .lt 8, 3) := by decide +kernel
theorem d36_4 : decode jdk_41_method_11_code 4 = .ok (.iload_n 0, 1) := by decide +kernel
theorem d36_5 : decode jdk_41_method_11_code 5 = .ok (.iload_n 1, 1) := by decide +kernel
theorem d36_6 : decode jdk_41_method_11_code 6 = .ok (.if_icmp .lt 10, 3) := by decide +kernel
theorem d36_16 : decode jdk_41_method_11_code 16 = .ok (.iload_n 0, 1) := by decide +kernel
theorem d36_17 : decode jdk_41_method_11_code 17 = .ok (.ireturn, 1) := by decide +kernel
theorem ef36_r (m : MethodId) (x1 : Int32) (x2 : Int32) (x3 : Addr) : entryFrame m #[(.int x1), (.int x2), (.ref x3)] 3 = mkF m 0 #[.val (.int x1), .val (.int x2), .val (.ref x3)] [] := by first | (simp [entryFrame, mkF, argsToLocals, Value.category]; done) | rfl
def Q36_r (Z : State) (x1 : Int32) (x2 : Int32) (x3 : Addr) (h0 : Heap) (n0 : Nat) (v : Option Value) (h : Heap) (L : List Loc) : Prop := v = some (.int x1) ∧ Fr n0 L ∧ h = h0
set_option maxRecDepth 65536 in
set_option maxHeartbeats 40000000 in
theorem rm36_r (l : Launch) (Z : State) (a0 : Array Value) (hw : ∀ d ∈ tables_1, d.before a0 Z = true) (ws : List Jvm.Cond) (x1 : Int32) (x2 : Int32) (x3 : Addr) (h0 : Heap) (n0 : Nat) (Z0 : n0 ≤ h0.size) (O0 : Old Z n0 h0) (hge : ¬ (x1 < (0 : Int32))) (hlt : x1 < x2) :
    MetFree l (⟨"jdk/internal/util/Preconditions", "checkIndex", "(IILjava/util/function/BiFunction;)I"⟩ : MethodName) (head1 (Jvm.Cond.code (⟨"jdk/internal/util/Preconditions", "checkIndex", "(IILjava/util/function/BiFunction;)I"⟩ : MethodName) jdk_41_method_11_code 3 (some .int) :: ws) ({ frames := 0, cells := 0, slots := 0, locals := 0 } : Room)) (fun a U => a = #[(.int x1), (.int x2), (.ref x3)] ∧ Z.Warmed39 U.vm ∧ U.heap = h0) (fun _ _ _ _ _ => True) (fun _ U o U' => ∃ v L, o = .returned v ∧ Q36_r Z x1 x2 x3 h0 n0 v U'.heap L ∧ FrameEnd U o U' L ({ frames := 0, cells := 0, slots := 0, locals := 0 } : Room).cells ({ frames := 0, cells := 0, slots := 0, locals := 0 } : Room).slots) := by
  refine MetFree.of_bodySF (plainFor_of_name pn_jdk_internal_util_Preconditions) hisR ?_
  intro p e s m args below meth c s₁ Bd hml0 hP hK
  obtain ⟨rfl, hZ, hh⟩ := hP
  have hx := Bd.exec
  have hby := Bd.bytes
  have hml : c.maxLocals = 3 := hml0
  have hown : s.vm.findClass "jdk/internal/util/Preconditions" = some m.cls := findClass_of_methodNamed Bd.named
  have hnm := (name_of_methodNamed Bd.named Bd.method).1
  have X0 : Stand p l e ({ frames := 0, cells := 0, slots := 0, locals := 0 } : Room) s m #[(.int x1), (.int x2), (.ref x3)] below meth c s₁ [] 0 0 := Stand.of_body Bd
  have e0 : s₁.heap = h0 := by rw [← hh, Bd.state]; rfl
  have N0 := Fr.nil n0
  have K0 : Keep h0 h0 [] := Keep.refl _ _
  have pre0 : ∀ t, Steps p.tables e below (s₁.setTop (mkF m 0 #[.val (.int x1), .val (.int x2), .val (.ref x3)] [])) t → Steps p.tables e below (s₁.setTop (entryFrame m #[(.int x1), (.int x2), (.ref x3)] 3)) t := fun t k => castTop (ef36_r m x1 x2 x3) k
  obtain ⟨fs, hr, hrun, hended, hW, hsame⟩ := X0.leave (v := some (.int x1)) (fun h => by rw [Bd.returns] at h; cases h)
  refine ⟨_, _, pre0 _ ?_, hrun, hended, _, _, rfl, ?_, ⟨_, rfl⟩, hW, hsame.mono (by decide) (by decide)⟩
  · show Steps p.tables e below (s₁.setTop (mkF m 0 #[.val (.int x1), .val (.int x2), .val (.ref x3)] [])) _
    refine XS.iloadN X0.here hx rfl (hb hby d36_0) rfl ?_
    refine XS.ifNo X0.here hx rfl (hb hby d36_1) rfl ((if0 _ _).trans (flt hge).1) ?_
    refine XS.iloadN X0.here hx rfl (hb hby d36_4) rfl ?_
    refine XS.iloadN X0.here hx rfl (hb hby d36_5) rfl ?_
    refine XS.icmpYes X0.here hx rfl (pc0 := 6) (pc' := 16) rfl (hb hby d36_6) rfl (tlt hlt).1 (by decide) (by decide) ?_
    refine XS.iloadN X0.here hx rfl (hb hby d36_16) rfl ?_
    show Steps p.tables e below (s₁.setTop (mkF m 17 #[.val (.int x1), .val (.int x2), .val (.ref x3)] [(.int x1)])) _
    exact retI X0 hx Bd.returns (hb hby d36_17) hr
  · show Q36_r Z x1 x2 x3 h0 n0 _ s₁.heap _
    rw [e0]
    exact ⟨rfl, N0, rfl⟩
theorem ef36_n (m : MethodId) (x1 : Int32) (x2 : Int32) : entryFrame m #[(.int x1), (.int x2), .null] 3 = mkF m 0 #[.val (.int x1), .val (.int x2), .val .null] [] := by first | (simp [entryFrame, mkF, argsToLocals, Value.category]; done) | rfl
def Q36_n (Z : State) (x1 : Int32) (x2 : Int32) (h0 : Heap) (n0 : Nat) (v : Option Value) (h : Heap) (L : List Loc) : Prop := v = some (.int x1) ∧ Fr n0 L ∧ h = h0
set_option maxRecDepth 65536 in
set_option maxHeartbeats 40000000 in
theorem rm36_n (l : Launch) (Z : State) (a0 : Array Value) (hw : ∀ d ∈ tables_1, d.before a0 Z = true) (ws : List Jvm.Cond) (x1 : Int32) (x2 : Int32) (h0 : Heap) (n0 : Nat) (Z0 : n0 ≤ h0.size) (O0 : Old Z n0 h0) (hge : ¬ (x1 < (0 : Int32))) (hlt : x1 < x2) :
    MetFree l (⟨"jdk/internal/util/Preconditions", "checkIndex", "(IILjava/util/function/BiFunction;)I"⟩ : MethodName) (head1 (Jvm.Cond.code (⟨"jdk/internal/util/Preconditions", "checkIndex", "(IILjava/util/function/BiFunction;)I"⟩ : MethodName) jdk_41_method_11_code 3 (some .int) :: ws) ({ frames := 0, cells := 0, slots := 0, locals := 0 } : Room)) (fun a U => a = #[(.int x1), (.int x2), .null] ∧ Z.Warmed39 U.vm ∧ U.heap = h0) (fun _ _ _ _ _ => True) (fun _ U o U' => ∃ v L, o = .returned v ∧ Q36_n Z x1 x2 h0 n0 v U'.heap L ∧ FrameEnd U o U' L ({ frames := 0, cells := 0, slots := 0, locals := 0 } : Room).cells ({ frames := 0, cells := 0, slots := 0, locals := 0 } : Room).slots) := by
  refine MetFree.of_bodySF (plainFor_of_name pn_jdk_internal_util_Preconditions) hisR ?_
  intro p e s m args below meth c s₁ Bd hml0 hP hK
  obtain ⟨rfl, hZ, hh⟩ := hP
  have hx := Bd.exec
  have hby := Bd.bytes
  have hml : c.maxLocals = 3 := hml0
  have hown : s.vm.findClass "jdk/internal/util/Preconditions" = some m.cls := findClass_of_methodNamed Bd.named
  have hnm := (name_of_methodNamed Bd.named Bd.method).1
  have X0 : Stand p l e ({ frames := 0, cells := 0, slots := 0, locals := 0 } : Room) s m #[(.int x1), (.int x2), .null] below meth c s₁ [] 0 0 := Stand.of_body Bd
  have e0 : s₁.heap = h0 := by rw [← hh, Bd.state]; rfl
  have N0 := Fr.nil n0
  have K0 : Keep h0 h0 [] := Keep.refl _ _
  have pre0 : ∀ t, Steps p.tables e below (s₁.setTop (mkF m 0 #[.val (.int x1), .val (.int x2), .val .null] [])) t → Steps p.tables e below (s₁.setTop (entryFrame m #[(.int x1), (.int x2), .null] 3)) t := fun t k => castTop (ef36_n m x1 x2) k
  obtain ⟨fs, hr, hrun, hended, hW, hsame⟩ := X0.leave (v := some (.int x1)) (fun h => by rw [Bd.returns] at h; cases h)
  refine ⟨_, _, pre0 _ ?_, hrun, hended, _, _, rfl, ?_, ⟨_, rfl⟩, hW, hsame.mono (by decide) (by decide)⟩
  · show Steps p.tables e below (s₁.setTop (mkF m 0 #[.val (.int x1), .val (.int x2), .val .null] [])) _
    refine XS.iloadN X0.here hx rfl (hb hby d36_0) rfl ?_
    refine XS.ifNo X0.here hx rfl (hb hby d36_1) rfl ((if0 _ _).trans (flt hge).1) ?_
    refine XS.iloadN X0.here hx rfl (hb hby d36_4) rfl ?_
    refine XS.iloadN X0.here hx rfl (hb hby d36_5) rfl ?_
    refine XS.icmpYes X0.here hx rfl (pc0 := 6) (pc' := 16) rfl (hb hby d36_6) rfl (tlt hlt).1 (by decide) (by decide) ?_
    refine XS.iloadN X0.here hx rfl (hb hby d36_16) rfl ?_
    show Steps p.tables e below (s₁.setTop (mkF m 17 #[.val (.int x1), .val (.int x2), .val .null] [(.int x1)])) _
    exact retI X0 hx Bd.returns (hb hby d36_17) hr
  · show Q36_n Z x1 x2 h0 n0 _ s₁.heap _
    rw [e0]
    exact ⟨rfl, N0, rfl⟩
theorem d35_0 : decode jdk_42_method_155_code 0 = .ok (.iload_n 0, 1) := by decide +kernel
theorem d35_1 : decode jdk_42_method_155_code 1 = .ok (.iload_n 1, 1) := by decide +kernel
theorem d35_2 : decode jdk_42_method_155_code 2 = .ok (.getstatic 1053, 3) := by decide +kernel
theorem pd_18 : parseMethodDescriptor "(IILjava/util/function/BiFunction;)I" = some ⟨[.int, .int, (.object "java/util/function/BiFunction")], some .int⟩ := by decide +kernel
theorem d35_5 : decode jdk_42_method_155_code 5 = .ok (.invokestatic 1059, 3) := by decide +kernel
theorem d35_8 : decode jdk_42_method_155_code 8 = .ok (.pop, 1) := by decide +kernel
theorem d35_9 : decode jdk_42_method_155_code 9 = .ok (.return_, 1) := by decide +kernel
theorem ef35 (m : MethodId) (x1 : Int32) (x2 : Int32) : entryFrame m #[(.int x1), (.int x2)] 2 = mkF m 0 #[.val (.int x1), .val (.int x2)] [] := by first | (simp [entryFrame, mkF, argsToLocals, Value.category]; done) | rfl
def Q35 (Z : State) (x1 : Int32) (x2 : Int32) (st_fm : Value) (h0 : Heap) (n0 : Nat) (v : Option Value) (h : Heap) (L : List Loc) : Prop := v = none ∧ Fr n0 L ∧ h = h0
set_option maxRecDepth 65536 in
set_option maxHeartbeats 40000000 in
theorem rm35 (l : Launch) (Z : State) (a0 : Array Value) (hw : ∀ d ∈ tables_1, d.before a0 Z = true) (ws : List Jvm.Cond) (x1 : Int32) (x2 : Int32) (st_fm : Value) (h0 : Heap) (n0 : Nat) (Z0 : n0 ≤ h0.size) (O0 : Old Z n0 h0) (hge : ¬ (x1 < (0 : Int32))) (hlt : x1 < x2) (S_fm : Sta Z Z.heap "jdk/internal/util/Preconditions" "SIOOBE_FORMATTER" "Ljava/util/function/BiFunction;" st_fm) (hfm : st_fm.isRef = true) :
    MetFree l (⟨"java/lang/String", "checkIndex", "(II)V"⟩ : MethodName) (head1 (Jvm.Cond.code (⟨"java/lang/String", "checkIndex", "(II)V"⟩ : MethodName) jdk_42_method_155_code 2 none :: ws) ({ frames := 1, cells := 0, slots := 0, locals := 14 } : Room)) (fun a U => a = #[(.int x1), (.int x2)] ∧ Z.Warmed39 U.vm ∧ U.heap = h0) (fun _ _ _ _ _ => True) (fun _ U o U' => ∃ v L, o = .returned v ∧ Q35 Z x1 x2 st_fm h0 n0 v U'.heap L ∧ FrameEnd U o U' L ({ frames := 1, cells := 0, slots := 0, locals := 14 } : Room).cells ({ frames := 1, cells := 0, slots := 0, locals := 14 } : Room).slots) := by
  refine MetFree.of_bodySF (plainFor_of_name pn_java_lang_String) hisR ?_
  intro p e s m args below meth c s₁ Bd hml0 hP hK
  obtain ⟨rfl, hZ, hh⟩ := hP
  have hx := Bd.exec
  have hby := Bd.bytes
  have hml : c.maxLocals = 2 := hml0
  have hown : s.vm.findClass "java/lang/String" = some m.cls := findClass_of_methodNamed Bd.named
  have hnm := (name_of_methodNamed Bd.named Bd.method).1
  have X0 : Stand p l e ({ frames := 1, cells := 0, slots := 0, locals := 14 } : Room) s m #[(.int x1), (.int x2)] below meth c s₁ [] 0 0 := Stand.of_body Bd
  have e0 : s₁.heap = h0 := by rw [← hh, Bd.state]; rfl
  have N0 := Fr.nil n0
  have K0 : Keep h0 h0 [] := Keep.refl _ _
  have pre0 : ∀ t, Steps p.tables e below (s₁.setTop (mkF m 0 #[.val (.int x1), .val (.int x2)] [])) t → Steps p.tables e below (s₁.setTop (entryFrame m #[(.int x1), (.int x2)] 2)) t := fun t k => castTop (ef35 m x1 x2) k
  rcases own_isref hfm with ⟨fa, hfe⟩ | hfe
  · skip
    rw [hfe] at S_fm
    obtain ⟨T306, X306, e306, st306⟩ := getS2 X0 hx hZ hown (host := "") (Or.inl (own_wd hw 88 rfl)) Via.refl e0 (S_fm.ext O0.2) (g := (mkF m 2 #[.val (.int x1), .val (.int x2)] [(.int x2), (.int x1)])) rfl (hb hby d35_2)
    have pp307 : ¬ (x1 < (0 : Int32)) := hge
    have pp308 : x1 < x2 := hlt
    obtain ⟨_, _, ⟨T309, L309, k309, n309⟩, -, X309, ⟨Lc309, hQ309, l309, y309, z309⟩, st309⟩ := Jvm.LawKit.callS X306 hx (y := (⟨"jdk/internal/util/Preconditions", "checkIndex", "(IILjava/util/function/BiFunction;)I"⟩ : MethodName)) hown (mvT hZ (own_wd hw 159 rfl)) (mvT hZ (own_wd hw 160 rfl)) (mvT hZ (own_wd hw 89 rfl)) (mvT hZ (own_wd hw 161 rfl)) (by decide) (backOf (W := 0) (rm36_r l Z a0 hw [] x1 x2 fa h0 n0 Z0 O0 pp307 pp308) hZ (own_wd hw 161 rfl) (own_wd hw 89 rfl) (by decide) (by decide)) (g := (mkF m 5 #[.val (.int x1), .val (.int x2)] [(.ref fa), (.int x2), (.int x1)])) rfl (by rw [hml]; rfl) (argsL := [(.int x1), (.int x2), (.ref fa)]) (rest := []) (lenOf pd_18 rfl) rfl (by show 2 * 0 + _ ≤ _; exact Nat.le_of_eq rfl) (hb hby d35_5) (fun _ _ => ⟨rfl, e306, (by decide : 0 + 0 ≤ _), (by decide : 0 + 0 ≤ _)⟩)
    dsimp only [Pt.U, Pt.locs, Pt.cells, Pt.slots] at X309 l309 y309 z309 st309 hQ309
    subst l309 y309 z309
    obtain ⟨rfl, N309q, eh309⟩ := hQ309
    have N309 := Fr.app N0 N309q
    obtain ⟨fs, hr, hrun, hended, hW, hsame⟩ := X309.leave (v := none) (fun _ => rfl)
    refine ⟨_, _, pre0 _ ?_, hrun, hended, _, _, rfl, ?_, ⟨_, rfl⟩, hW, hsame.mono (by decide) (by decide)⟩
    · show Steps p.tables e below (s₁.setTop (mkF m 0 #[.val (.int x1), .val (.int x2)] [])) _
      refine XS.iloadN X0.here hx rfl (hb hby d35_0) rfl ?_
      refine XS.iloadN X0.here hx rfl (hb hby d35_1) rfl ?_
      show Steps p.tables e below (s₁.setTop (mkF m 2 #[.val (.int x1), .val (.int x2)] [(.int x2), (.int x1)])) _
      refine st306 _ ?_
      show Steps p.tables e below (T306.setTop (mkF m 5 #[.val (.int x1), .val (.int x2)] [(.ref fa), (.int x2), (.int x1)])) _
      refine st309 _ ?_
      show Steps p.tables e below (T309.setTop (mkF m 8 #[.val (.int x1), .val (.int x2)] [(.int x1)])) _
      refine XS.pop X309.here hx rfl (hb hby d35_8) rfl rfl ?_
      show Steps p.tables e below (T309.setTop (mkF m 9 #[.val (.int x1), .val (.int x2)] [])) _
      exact X309.returnOut hx Bd.returns (hb hby d35_9) hr
    · show Q35 Z x1 x2 st_fm h0 n0 _ T309.heap _
      rw [eh309]
      exact ⟨rfl, N309, rfl⟩
  · skip
    rw [hfe] at S_fm
    obtain ⟨T310, X310, e310, st310⟩ := getS2 X0 hx hZ hown (host := "") (Or.inl (own_wd hw 88 rfl)) Via.refl e0 (S_fm.ext O0.2) (g := (mkF m 2 #[.val (.int x1), .val (.int x2)] [(.int x2), (.int x1)])) rfl (hb hby d35_2)
    have pp311 : ¬ (x1 < (0 : Int32)) := hge
    have pp312 : x1 < x2 := hlt
    obtain ⟨_, _, ⟨T313, L313, k313, n313⟩, -, X313, ⟨Lc313, hQ313, l313, y313, z313⟩, st313⟩ := Jvm.LawKit.callS X310 hx (y := (⟨"jdk/internal/util/Preconditions", "checkIndex", "(IILjava/util/function/BiFunction;)I"⟩ : MethodName)) hown (mvT hZ (own_wd hw 159 rfl)) (mvT hZ (own_wd hw 160 rfl)) (mvT hZ (own_wd hw 89 rfl)) (mvT hZ (own_wd hw 161 rfl)) (by decide) (backOf (W := 0) (rm36_n l Z a0 hw [] x1 x2 h0 n0 Z0 O0 pp311 pp312) hZ (own_wd hw 161 rfl) (own_wd hw 89 rfl) (by decide) (by decide)) (g := (mkF m 5 #[.val (.int x1), .val (.int x2)] [.null, (.int x2), (.int x1)])) rfl (by rw [hml]; rfl) (argsL := [(.int x1), (.int x2), .null]) (rest := []) (lenOf pd_18 rfl) rfl (by show 2 * 0 + _ ≤ _; exact Nat.le_of_eq rfl) (hb hby d35_5) (fun _ _ => ⟨rfl, e310, (by decide : 0 + 0 ≤ _), (by decide : 0 + 0 ≤ _)⟩)
    dsimp only [Pt.U, Pt.locs, Pt.cells, Pt.slots] at X313 l313 y313 z313 st313 hQ313
    subst l313 y313 z313
    obtain ⟨rfl, N313q, eh313⟩ := hQ313
    have N313 := Fr.app N0 N313q
    obtain ⟨fs, hr, hrun, hended, hW, hsame⟩ := X313.leave (v := none) (fun _ => rfl)
    refine ⟨_, _, pre0 _ ?_, hrun, hended, _, _, rfl, ?_, ⟨_, rfl⟩, hW, hsame.mono (by decide) (by decide)⟩
    · show Steps p.tables e below (s₁.setTop (mkF m 0 #[.val (.int x1), .val (.int x2)] [])) _
      refine XS.iloadN X0.here hx rfl (hb hby d35_0) rfl ?_
      refine XS.iloadN X0.here hx rfl (hb hby d35_1) rfl ?_
      show Steps p.tables e below (s₁.setTop (mkF m 2 #[.val (.int x1), .val (.int x2)] [(.int x2), (.int x1)])) _
      refine st310 _ ?_
      show Steps p.tables e below (T310.setTop (mkF m 5 #[.val (.int x1), .val (.int x2)] [.null, (.int x2), (.int x1)])) _
      refine st313 _ ?_
      show Steps p.tables e below (T313.setTop (mkF m 8 #[.val (.int x1), .val (.int x2)] [(.int x1)])) _
      refine XS.pop X313.here hx rfl (hb hby d35_8) rfl rfl ?_
      show Steps p.tables e below (T313.setTop (mkF m 9 #[.val (.int x1), .val (.int x2)] [])) _
      exact X313.returnOut hx Bd.returns (hb hby d35_9) hr
    · show Q35 Z x1 x2 st_fm h0 n0 _ T313.heap _
      rw [eh313]
      exact ⟨rfl, N313, rfl⟩
theorem d34_0 : decode jdk_43_method_2_code 0 = .ok (.iload_n 1, 1) := by decide +kernel
theorem d34_1 : decode jdk_43_method_2_code 1 = .ok (.aload_n 0, 1) := by decide +kernel
theorem d34_2 : decode jdk_43_method_2_code 2 = .ok (.arraylength, 1) := by decide +kernel
theorem d34_3 : decode jdk_43_method_2_code 3 = .ok (.invokestatic 9, 3) := by decide +kernel
theorem d34_6 : decode jdk_43_method_2_code 6 = .ok (.aload_n 0, 1) := by decide +kernel
theorem d34_7 : decode jdk_43_method_2_code 7 = .ok (.iload_n 1, 1) := by decide +kernel
theorem d34_8 : decode jdk_43_method_2_code 8 = .ok (.baload, 1) := by decide +kernel
theorem d34_9 : decode jdk_43_method_2_code 9 = .ok (.sipush 255, 3) := by decide +kernel
theorem d34_12 : decode jdk_43_method_2_code 12 = .ok (.iand, 1) := by decide +kernel
theorem d34_13 : decode jdk_43_method_2_code 13 = .ok (.i2c, 1) := by decide +kernel
theorem d34_14 : decode jdk_43_method_2_code 14 = .ok (.ireturn, 1) := by decide +kernel
theorem ef34 (m : MethodId) (x1 : Addr) : entryFrame m #[(.ref x1), (.int (Int32.ofNat ix))] 2 = mkF m 0 #[.val (.ref x1), .val (.int (Int32.ofNat ix))] [] := by first | (simp [entryFrame, mkF, argsToLocals, Value.category]; done) | rfl
def Q34 (Z : State) (x1 : Addr) (ks : ClassId) (f : Nat → Int32) (n : Nat) (ix : Nat) (st_fm : Value) (h0 : Heap) (n0 : Nat) (v : Option Value) (h : Heap) (L : List Loc) : Prop := v = some (.int (f ix)) ∧ Fr n0 L ∧ h = h0
set_option maxRecDepth 65536 in
set_option maxHeartbeats 40000000 in
theorem rm34 (l : Launch) (Z : State) (a0 : Array Value) (hw : ∀ d ∈ tables_1, d.before a0 Z = true) (ws : List Jvm.Cond) (x1 : Addr) (ks : ClassId) (f : Nat → Int32) (n : Nat) (ix : Nat) (st_fm : Value) (h0 : Heap) (n0 : Nat) (Z0 : n0 ≤ h0.size) (O0 : Old Z n0 h0) (V_x1 : Arv Z h0 x1 ks .byte (Int32.ofNat n) (own_fv f n) (.int 0)) (hp : ∀ j, j < n → ¬ f j < 0 ∧ ¬ (255 : Int32) < f j) (hn : n ≤ 24) (hix : ix < n) (S_fm : Sta Z Z.heap "jdk/internal/util/Preconditions" "SIOOBE_FORMATTER" "Ljava/util/function/BiFunction;" st_fm) (hfm : st_fm.isRef = true) :
    MetFree l (⟨"java/lang/StringLatin1", "charAt", "([BI)C"⟩ : MethodName) (head1 (Jvm.Cond.code (⟨"java/lang/StringLatin1", "charAt", "([BI)C"⟩ : MethodName) jdk_43_method_2_code 2 (some .char) :: ws) ({ frames := 2, cells := 0, slots := 0, locals := 27 } : Room)) (fun a U => a = #[(.ref x1), (.int (Int32.ofNat ix))] ∧ Z.Warmed39 U.vm ∧ U.heap = h0) (fun _ _ _ _ _ => True) (fun _ U o U' => ∃ v L, o = .returned v ∧ Q34 Z x1 ks f n ix st_fm h0 n0 v U'.heap L ∧ FrameEnd U o U' L ({ frames := 2, cells := 0, slots := 0, locals := 27 } : Room).cells ({ frames := 2, cells := 0, slots := 0, locals := 27 } : Room).slots) := by
  refine MetFree.of_bodySF (plainFor_of_name pn_java_lang_StringLatin1) hisR ?_
  intro p e s m args below meth c s₁ Bd hml0 hP hK
  obtain ⟨rfl, hZ, hh⟩ := hP
  have hx := Bd.exec
  have hby := Bd.bytes
  have hml : c.maxLocals = 2 := hml0
  have hown : s.vm.findClass "java/lang/StringLatin1" = some m.cls := findClass_of_methodNamed Bd.named
  have hnm := (name_of_methodNamed Bd.named Bd.method).1
  have X0 : Stand p l e ({ frames := 2, cells := 0, slots := 0, locals := 27 } : Room) s m #[(.ref x1), (.int (Int32.ofNat ix))] below meth c s₁ [] 0 0 := Stand.of_body Bd
  have e0 : s₁.heap = h0 := by rw [← hh, Bd.state]; rfl
  have N0 := Fr.nil n0
  have K0 : Keep h0 h0 [] := Keep.refl _ _
  have pre0 : ∀ t, Steps p.tables e below (s₁.setTop (mkF m 0 #[.val (.ref x1), .val (.int (Int32.ofNat ix))] [])) t → Steps p.tables e below (s₁.setTop (entryFrame m #[(.ref x1), (.int (Int32.ofNat ix))] 2)) t := fun t k => castTop (ef34 m x1) k
  obtain ⟨cl_a314, Ar_a314, -, S_a314, N_a314, -, -⟩ := id V_x1
  have pp315 : ¬ ((Int32.ofNat ix) < (0 : Int32)) := own_nn (by omega)
  have pp316 : (Int32.ofNat ix) < (Int32.ofNat n) := (own_lt (by omega) (by omega)).mpr (by omega)
  obtain ⟨_, _, ⟨T317, L317, k317, n317⟩, -, X317, ⟨Lc317, hQ317, l317, y317, z317⟩, st317⟩ := Jvm.LawKit.callS X0 hx (y := (⟨"java/lang/String", "checkIndex", "(II)V"⟩ : MethodName)) hown (mvT hZ (own_wd hw 156 rfl)) (mvT hZ (own_wd hw 157 rfl)) (mvT hZ (own_wd hw 7 rfl)) (mvT hZ (own_wd hw 158 rfl)) (by decide) (backOf (W := 0) (rm35 l Z a0 hw [] (Int32.ofNat ix) (Int32.ofNat n) st_fm h0 n0 Z0 O0 pp315 pp316 S_fm hfm) hZ (own_wd hw 158 rfl) (own_wd hw 7 rfl) (by decide) (by decide)) (g := (mkF m 3 #[.val (.ref x1), .val (.int (Int32.ofNat ix))] [(.int (Int32.ofNat n)), (.int (Int32.ofNat ix))])) rfl (by rw [hml]; rfl) (argsL := [(.int (Int32.ofNat ix)), (.int (Int32.ofNat n))]) (rest := []) (lenOf pd_7 rfl) rfl (by show 2 * 0 + _ ≤ _; exact Nat.le_of_eq rfl) (hb hby d34_3) (fun _ _ => ⟨rfl, e0, (by decide : 0 + 0 ≤ _), (by decide : 0 + 0 ≤ _)⟩)
  dsimp only [Pt.U, Pt.locs, Pt.cells, Pt.slots] at X317 l317 y317 z317 st317 hQ317
  subst l317 y317 z317
  obtain ⟨rfl, N317q, eh317⟩ := hQ317
  have N317 := Fr.app N0 N317q
  obtain ⟨cl_a318, Ar_a318, -, S_a318, N_a318, H_a318, -⟩ := id V_x1
  obtain ⟨hin_a318, hat_a318⟩ := own_rd (j := (Int32.ofNat ix)) (i := ix) S_a318 H_a318 rfl (by omega) (by omega)
  have rn319 : ((own_by (f ix)) &&& (255 : Int32)) = (f ix) := own_b255 (hp _ (by omega))
  have rn320 : ((f ix).toUInt32.toUInt16.toUInt32.toInt32) = (f ix) := own_c16 (hp _ (by omega))
  obtain ⟨fs, hr, hrun, hended, hW, hsame⟩ := X317.leave (v := some (.int ((f ix).toUInt32.toUInt16.toUInt32.toInt32))) (fun h => by rw [Bd.returns] at h; cases h)
  refine ⟨_, _, pre0 _ ?_, hrun, hended, _, _, rfl, ?_, ⟨_, rfl⟩, hW, hsame.mono (by decide) (by decide)⟩
  · show Steps p.tables e below (s₁.setTop (mkF m 0 #[.val (.ref x1), .val (.int (Int32.ofNat ix))] [])) _
    refine XS.iloadN X0.here hx rfl (hb hby d34_0) rfl ?_
    refine XS.aloadN X0.here hx rfl (hb hby d34_1) rfl rfl ?_
    show Steps p.tables e below (s₁.setTop (mkF m 2 #[.val (.ref x1), .val (.int (Int32.ofNat ix))] [(.ref x1), (.int (Int32.ofNat ix))])) _
    refine X0.arraylength hx (by rw [e0]; exact Ar_a314.1) (State.isArrayOf_alike hZ.alike Ar_a314.2.1) (g := (mkF m 2 #[.val (.ref x1), .val (.int (Int32.ofNat ix))] [(.ref x1), (.int (Int32.ofNat ix))])) rfl rfl (hb hby d34_2) _ ?_
    rw [len_of S_a314 N_a314]
    show Steps p.tables e below (s₁.setTop (mkF m 3 #[.val (.ref x1), .val (.int (Int32.ofNat ix))] [(.int (Int32.ofNat n)), (.int (Int32.ofNat ix))])) _
    refine st317 _ ?_
    show Steps p.tables e below (T317.setTop (mkF m 6 #[.val (.ref x1), .val (.int (Int32.ofNat ix))] [])) _
    refine XS.aloadN X317.here hx rfl (hb hby d34_6) rfl rfl ?_
    refine XS.iloadN X317.here hx rfl (hb hby d34_7) rfl ?_
    show Steps p.tables e below (T317.setTop (mkF m 8 #[.val (.ref x1), .val (.int (Int32.ofNat ix))] [(.int (Int32.ofNat ix)), (.ref x1)])) _
    refine X317.baloadBytes hx (j := (Int32.ofNat ix)) (v := (.int (own_by (f ix)))) (by rw [eh317]; exact Ar_a318.1) (State.isArrayOf_alike hZ.alike Ar_a318.2.1) Ar_a318.2.2 hin_a318 hat_a318 (g := (mkF m 8 #[.val (.ref x1), .val (.int (Int32.ofNat ix))] [(.int (Int32.ofNat ix)), (.ref x1)])) rfl rfl (hb hby d34_8) _ ?_
    refine XS.sipush X317.here hx rfl (hb hby d34_9) ?_
    refine XS.iand X317.here hx rfl (hb hby d34_12) rfl ?_
    show Steps p.tables e below (T317.setTop (mkF m 13 #[.val (.ref x1), .val (.int (Int32.ofNat ix))] [(.int ((own_by (f ix)) &&& (255 : Int32)))])) _
    rw [rn319]
    refine XS.i2c X317.here hx rfl (hb hby d34_13) rfl ?_
    show Steps p.tables e below (T317.setTop (mkF m 14 #[.val (.ref x1), .val (.int (Int32.ofNat ix))] [(.int ((f ix).toUInt32.toUInt16.toUInt32.toInt32))])) _
    rw [rn320]
    show Steps p.tables e below (T317.setTop (mkF m 14 #[.val (.ref x1), .val (.int (Int32.ofNat ix))] [(.int (f ix))])) _
    exact retN X317 hx (t := .char) Bd.returns (by simp) (hb hby d34_14) hr
  · show Q34 Z x1 ks f n ix st_fm h0 n0 _ T317.heap _
    rw [eh317]
    exact ⟨(by rw [own_c16 (hp _ (by omega))]), N317, rfl⟩
theorem d33_0 : decode jdk_42_method_56_code 0 = .ok (.aload_n 0, 1) := by decide +kernel
theorem d33_1 : decode jdk_42_method_56_code 1 = .ok (.invokevirtual 492, 3) := by decide +kernel
theorem d33_4 : decode jdk_42_method_56_code 4 = .ok (.ifCond .eq 12, 3) := by decide +kernel
theorem d33_7 : decode jdk_42_method_56_code 7 = .ok (.aload_n 0, 1) := by decide +kernel
theorem d33_8 : decode jdk_42_method_56_code 8 = .ok (.getfield 9, 3) := by decide +kernel
theorem d33_11 : decode jdk_42_method_56_code 11 = .ok (.iload_n 1, 1) := by decide +kernel
theorem pd_19 : parseMethodDescriptor "([BI)C" = some ⟨[(.array .byte), .int], some .char⟩ := by decide +kernel
theorem d33_12 : decode jdk_42_method_56_code 12 = .ok (.invokestatic 495, 3) := by decide +kernel
theorem d33_15 : decode jdk_42_method_56_code 15 = .ok (.ireturn, 1) := by decide +kernel
theorem ef33 (m : MethodId) (tz : Addr) : entryFrame m #[(.ref tz), (.int (Int32.ofNat ix))] 2 = mkF m 0 #[.val (.ref tz), .val (.int (Int32.ofNat ix))] [] := by first | (simp [entryFrame, mkF, argsToLocals, Value.category]; done) | rfl
def Q33 (Z : State) (tz : Addr) (tz_value : Addr) (ks : ClassId) (f : Nat → Int32) (n : Nat) (ix : Nat) (st_COMPACT_STRINGS : Int32) (st_fm : Value) (h0 : Heap) (n0 : Nat) (v : Option Value) (h : Heap) (L : List Loc) : Prop := v = some (.int (f ix)) ∧ Fr n0 L ∧ h = h0
set_option maxRecDepth 65536 in
set_option maxHeartbeats 40000000 in
theorem rm33 (l : Launch) (Z : State) (a0 : Array Value) (hw : ∀ d ∈ tables_1, d.before a0 Z = true) (ws : List Jvm.Cond) (tz : Addr) (tz_value : Addr) (ks : ClassId) (f : Nat → Int32) (n : Nat) (ix : Nat) (st_COMPACT_STRINGS : Int32) (st_fm : Value) (h0 : Heap) (n0 : Nat) (Z0 : n0 ≤ h0.size) (O0 : Old Z n0 h0) (E_tz : Exa Z h0 tz "java/lang/String") (F_tz_value : Fld Z h0 tz "java/lang/String" "value" "[B" (.ref tz_value)) (F_tz_coder : Fld Z h0 tz "java/lang/String" "coder" "B" (.int (0 : Int32))) (V_tz_value : Arv Z h0 tz_value ks .byte (Int32.ofNat n) (own_fv f n) (.int 0)) (hp : ∀ j, j < n → ¬ f j < 0 ∧ ¬ (255 : Int32) < f j) (hn : n ≤ 24) (hix : ix < n) (S_COMPACT_STRINGS : Sta Z Z.heap "java/lang/String" "COMPACT_STRINGS" "Z" (.int st_COMPACT_STRINGS)) (hcomp : ¬ (st_COMPACT_STRINGS = (0 : Int32))) (S_fm : Sta Z Z.heap "jdk/internal/util/Preconditions" "SIOOBE_FORMATTER" "Ljava/util/function/BiFunction;" st_fm) (hfm : st_fm.isRef = true) :
    MetFree l (⟨"java/lang/String", "charAt", "(I)C"⟩ : MethodName) (head1 (Jvm.Cond.code (⟨"java/lang/String", "charAt", "(I)C"⟩ : MethodName) jdk_42_method_56_code 2 (some .char) :: ws) ({ frames := 3, cells := 0, slots := 0, locals := 40 } : Room)) (fun a U => a = #[(.ref tz), (.int (Int32.ofNat ix))] ∧ Z.Warmed39 U.vm ∧ U.heap = h0) (fun _ _ _ _ _ => True) (fun _ U o U' => ∃ v L, o = .returned v ∧ Q33 Z tz tz_value ks f n ix st_COMPACT_STRINGS st_fm h0 n0 v U'.heap L ∧ FrameEnd U o U' L ({ frames := 3, cells := 0, slots := 0, locals := 40 } : Room).cells ({ frames := 3, cells := 0, slots := 0, locals := 40 } : Room).slots) := by
  refine MetFree.of_bodySF (plainFor_of_name pn_java_lang_String) hisR ?_
  intro p e s m args below meth c s₁ Bd hml0 hP hK
  obtain ⟨rfl, hZ, hh⟩ := hP
  have hx := Bd.exec
  have hby := Bd.bytes
  have hml : c.maxLocals = 2 := hml0
  have hown : s.vm.findClass "java/lang/String" = some m.cls := findClass_of_methodNamed Bd.named
  have hnm := (name_of_methodNamed Bd.named Bd.method).1
  have X0 : Stand p l e ({ frames := 3, cells := 0, slots := 0, locals := 40 } : Room) s m #[(.ref tz), (.int (Int32.ofNat ix))] below meth c s₁ [] 0 0 := Stand.of_body Bd
  have e0 : s₁.heap = h0 := by rw [← hh, Bd.state]; rfl
  have N0 := Fr.nil n0
  have K0 : Keep h0 h0 [] := Keep.refl _ _
  have pre0 : ∀ t, Steps p.tables e below (s₁.setTop (mkF m 0 #[.val (.ref tz), .val (.int (Int32.ofNat ix))] [])) t → Steps p.tables e below (s₁.setTop (entryFrame m #[(.ref tz), (.int (Int32.ofNat ix))] 2)) t := fun t k => castTop (ef33 m tz) k
  obtain ⟨cq321, kq321, q321a, q321b, q321c⟩ := isOf hZ e0 E_tz
  obtain ⟨_, _, ⟨T321, L321, k321, n321⟩, -, X321, ⟨Lc321, hQ321, l321, y321, z321⟩, st321⟩ := X0.virtualBack hx (y := (⟨"java/lang/String", "isLatin1", "()Z"⟩ : MethodName)) (z := (⟨"java/lang/String", "isLatin1", "()Z"⟩ : MethodName)) hown (mvT hZ (own_wd hw 48 rfl)) (mvT hZ (own_wd hw 49 rfl)) (notFace_of_selects (args := #[]) (mvT hZ (own_wd hw 51 rfl))) (mvT hZ (own_wd hw 51 rfl)) (mvT hZ (own_wd hw 50 rfl)) (by decide) (backOf (W := 0) (rm11 l Z a0 hw [] tz st_COMPACT_STRINGS h0 n0 Z0 O0 F_tz_coder S_COMPACT_STRINGS hcomp) hZ (own_wd hw 52 rfl) (own_wd hw 7 rfl) (by decide) (by decide)) q321a q321c (g := (mkF m 1 #[.val (.ref tz), .val (.int (Int32.ofNat ix))] [(.ref tz)])) rfl (by rw [hml]; rfl) (Steps.refl _) (argsL := []) (rest := []) (lenOf pd_4 rfl) rfl (by show 2 * 0 + _ ≤ _; exact Nat.le_of_eq rfl) (hb hby d33_1) (fun _ _ => ⟨rfl, e0, (by decide : 0 + 0 ≤ _), (by decide : 0 + 0 ≤ _)⟩)
  dsimp only [Pt.U, Pt.locs, Pt.cells, Pt.slots] at X321 l321 y321 z321 st321 hQ321
  subst l321 y321 z321
  obtain ⟨rfl, N321q, eh321⟩ := hQ321
  have N321 := Fr.app N0 N321q
  obtain ⟨T322, X322, e322, st322⟩ := getF X321 hx hZ hown (host := "") (Or.inl (own_wd hw 32 rfl)) Via.refl eh321 F_tz_value (g := (mkF m 8 #[.val (.ref tz), .val (.int (Int32.ofNat ix))] [(.ref tz)])) rfl rfl (hb hby d33_8)
  obtain ⟨_, _, ⟨T323, L323, k323, n323⟩, -, X323, ⟨Lc323, hQ323, l323, y323, z323⟩, st323⟩ := Jvm.LawKit.callS X322 hx (y := (⟨"java/lang/StringLatin1", "charAt", "([BI)C"⟩ : MethodName)) hown (mvT hZ (own_wd hw 153 rfl)) (mvT hZ (own_wd hw 154 rfl)) (mvT hZ (own_wd hw 65 rfl)) (mvT hZ (own_wd hw 155 rfl)) (by decide) (backOf (W := 0) (rm34 l Z a0 hw [] tz_value ks f n ix st_fm h0 n0 Z0 O0 V_tz_value hp (by omega) (by omega) S_fm hfm) hZ (own_wd hw 155 rfl) (own_wd hw 65 rfl) (by decide) (by decide)) (g := (mkF m 12 #[.val (.ref tz), .val (.int (Int32.ofNat ix))] [(.int (Int32.ofNat ix)), (.ref tz_value)])) rfl (by rw [hml]; rfl) (argsL := [(.ref tz_value), (.int (Int32.ofNat ix))]) (rest := []) (lenOf pd_19 rfl) rfl (by show 2 * 0 + _ ≤ _; exact Nat.le_of_eq rfl) (hb hby d33_12) (fun _ _ => ⟨rfl, e322, (by decide : 0 + 0 ≤ _), (by decide : 0 + 0 ≤ _)⟩)
  dsimp only [Pt.U, Pt.locs, Pt.cells, Pt.slots] at X323 l323 y323 z323 st323 hQ323
  subst l323 y323 z323
  obtain ⟨rfl, N323q, eh323⟩ := hQ323
  have N323 := Fr.app N321 N323q
  obtain ⟨fs, hr, hrun, hended, hW, hsame⟩ := X323.leave (v := some (.int ((f ix).toUInt32.toUInt16.toUInt32.toInt32))) (fun h => by rw [Bd.returns] at h; cases h)
  refine ⟨_, _, pre0 _ ?_, hrun, hended, _, _, rfl, ?_, ⟨_, rfl⟩, hW, hsame.mono (by decide) (by decide)⟩
  · show Steps p.tables e below (s₁.setTop (mkF m 0 #[.val (.ref tz), .val (.int (Int32.ofNat ix))] [])) _
    refine XS.aloadN X0.here hx rfl (hb hby d33_0) rfl rfl ?_
    show Steps p.tables e below (s₁.setTop (mkF m 1 #[.val (.ref tz), .val (.int (Int32.ofNat ix))] [(.ref tz)])) _
    refine st321.trans ?_
    show Steps p.tables e below (T321.setTop (mkF m 4 #[.val (.ref tz), .val (.int (Int32.ofNat ix))] [(.int (1 : Int32))])) _
    refine XS.ifNo X321.here hx rfl (hb hby d33_4) rfl ((if0 _ _).trans (feq (by decide : ¬ ((1 : Int32) = (0 : Int32)))).1) ?_
    refine XS.aloadN X321.here hx rfl (hb hby d33_7) rfl rfl ?_
    show Steps p.tables e below (T321.setTop (mkF m 8 #[.val (.ref tz), .val (.int (Int32.ofNat ix))] [(.ref tz)])) _
    refine st322 _ ?_
    show Steps p.tables e below (T322.setTop (mkF m 11 #[.val (.ref tz), .val (.int (Int32.ofNat ix))] [(.ref tz_value)])) _
    refine XS.iloadN X322.here hx rfl (hb hby d33_11) rfl ?_
    show Steps p.tables e below (T322.setTop (mkF m 12 #[.val (.ref tz), .val (.int (Int32.ofNat ix))] [(.int (Int32.ofNat ix)), (.ref tz_value)])) _
    refine st323 _ ?_
    show Steps p.tables e below (T323.setTop (mkF m 15 #[.val (.ref tz), .val (.int (Int32.ofNat ix))] [(.int (f ix))])) _
    exact retN X323 hx (t := .char) Bd.returns (by simp) (hb hby d33_15) hr
  · show Q33 Z tz tz_value ks f n ix st_COMPACT_STRINGS st_fm h0 n0 _ T323.heap _
    rw [eh323]
    exact ⟨(by rw [own_c16 (hp _ (by omega))]), N323, rfl⟩
theorem d27_0 : decode method_4_code 0 = .ok (.iload_n 1, 1) := by decide +kernel
theorem d27_1 : decode method_4_code 1 = .ok (.iload_n 2, 1) := by decide +kernel
theorem d27_2 : decode method_4_code 2 = .ok (.if_icmp .ge 20, 3) := by decide +kernel
theorem d27_22 : decode method_4_code 22 = .ok (.iconst 1, 1) := by decide +kernel
theorem d27_23 : decode method_4_code 23 = .ok (.goto 4, 3) := by decide +kernel
theorem d27_27 : decode method_4_code 27 = .ok (.ireturn, 1) := by decide +kernel
theorem ef27_f (m : MethodId) (x1 : Addr) (x2 : Int32) (x3 : Int32) (x4 : Addr) (x5 : Int32) : entryFrame m #[(.ref x1), (.int x2), (.int x3), (.ref x4), (.int x5)] 5 = mkF m 0 #[.val (.ref x1), .val (.int x2), .val (.int x3), .val (.ref x4), .val (.int x5)] [] := by first | (simp [entryFrame, mkF, argsToLocals, Value.category]; done) | rfl
def Q27_f (Z : State) (x1 : Addr) (x2 : Int32) (x3 : Int32) (x4 : Addr) (x5 : Int32) (h0 : Heap) (n0 : Nat) (v : Option Value) (h : Heap) (L : List Loc) : Prop := v = some (.int (1 : Int32)) ∧ Fr n0 L ∧ h = h0
set_option maxRecDepth 65536 in
set_option maxHeartbeats 40000000 in
theorem rm27_f (l : Launch) (Z : State) (a0 : Array Value) (hw : ∀ d ∈ tables_1, d.before a0 Z = true) (ws : List Jvm.Cond) (x1 : Addr) (x2 : Int32) (x3 : Int32) (x4 : Addr) (x5 : Int32) (h0 : Heap) (n0 : Nat) (Z0 : n0 ≤ h0.size) (O0 : Old Z n0 h0) (hfar : ¬ (x2 < x3)) :
    MetFree l (⟨"com/example/prueba/prueba/MediaTypesMediaTypePinLaw", "at", "(Ljava/lang/String;II[CI)Z"⟩ : MethodName) (head1 (Jvm.Cond.code (⟨"com/example/prueba/prueba/MediaTypesMediaTypePinLaw", "at", "(Ljava/lang/String;II[CI)Z"⟩ : MethodName) method_4_code 5 (some .boolean) :: ws) ({ frames := 0, cells := 0, slots := 0, locals := 0 } : Room)) (fun a U => a = #[(.ref x1), (.int x2), (.int x3), (.ref x4), (.int x5)] ∧ Z.Warmed39 U.vm ∧ U.heap = h0) (fun _ _ _ _ _ => True) (fun _ U o U' => ∃ v L, o = .returned v ∧ Q27_f Z x1 x2 x3 x4 x5 h0 n0 v U'.heap L ∧ FrameEnd U o U' L ({ frames := 0, cells := 0, slots := 0, locals := 0 } : Room).cells ({ frames := 0, cells := 0, slots := 0, locals := 0 } : Room).slots) := by
  refine MetFree.of_bodySF (plainFor_of_name pn_com_example_prueba_prueba_MediaTypesMediaTypePinLaw) hisR ?_
  intro p e s m args below meth c s₁ Bd hml0 hP hK
  obtain ⟨rfl, hZ, hh⟩ := hP
  have hx := Bd.exec
  have hby := Bd.bytes
  have hml : c.maxLocals = 5 := hml0
  have hown : s.vm.findClass "com/example/prueba/prueba/MediaTypesMediaTypePinLaw" = some m.cls := findClass_of_methodNamed Bd.named
  have hnm := (name_of_methodNamed Bd.named Bd.method).1
  have X0 : Stand p l e ({ frames := 0, cells := 0, slots := 0, locals := 0 } : Room) s m #[(.ref x1), (.int x2), (.int x3), (.ref x4), (.int x5)] below meth c s₁ [] 0 0 := Stand.of_body Bd
  have e0 : s₁.heap = h0 := by rw [← hh, Bd.state]; rfl
  have N0 := Fr.nil n0
  have K0 : Keep h0 h0 [] := Keep.refl _ _
  have pre0 : ∀ t, Steps p.tables e below (s₁.setTop (mkF m 0 #[.val (.ref x1), .val (.int x2), .val (.int x3), .val (.ref x4), .val (.int x5)] [])) t → Steps p.tables e below (s₁.setTop (entryFrame m #[(.ref x1), (.int x2), (.int x3), (.ref x4), (.int x5)] 5)) t := fun t k => castTop (ef27_f m x1 x2 x3 x4 x5) k
  obtain ⟨fs, hr, hrun, hended, hW, hsame⟩ := X0.leave (v := some (.int (1 : Int32))) (fun h => by rw [Bd.returns] at h; cases h)
  refine ⟨_, _, pre0 _ ?_, hrun, hended, _, _, rfl, ?_, ⟨_, rfl⟩, hW, hsame.mono (by decide) (by decide)⟩
  · show Steps p.tables e below (s₁.setTop (mkF m 0 #[.val (.ref x1), .val (.int x2), .val (.int x3), .val (.ref x4), .val (.int x5)] [])) _
    refine XS.iloadN X0.here hx rfl (hb hby d27_0) rfl ?_
    refine XS.iloadN X0.here hx rfl (hb hby d27_1) rfl ?_
    refine XS.icmpYes X0.here hx rfl (pc0 := 2) (pc' := 22) rfl (hb hby d27_2) rfl (flt hfar).2.1 (by decide) (by decide) ?_
    refine XS.iconst X0.here hx rfl (hb hby d27_22) ?_
    refine XS.goto X0.here hx rfl (pc0 := 23) (pc' := 27) rfl (hb hby d27_23) (by decide) (by decide) ?_
    show Steps p.tables e below (s₁.setTop (mkF m 27 #[.val (.ref x1), .val (.int x2), .val (.int x3), .val (.ref x4), .val (.int x5)] [(.int (1 : Int32))])) _
    exact retN X0 hx (t := .boolean) Bd.returns (by simp) (hb hby d27_27) hr
  · show Q27_f Z x1 x2 x3 x4 x5 h0 n0 _ s₁.heap _
    rw [e0]
    exact ⟨rfl, N0, rfl⟩
theorem d27_5 : decode method_4_code 5 = .ok (.aload_n 0, 1) := by decide +kernel
theorem d27_6 : decode method_4_code 6 = .ok (.iload_n 1, 1) := by decide +kernel
theorem pd_20 : parseMethodDescriptor "(I)C" = some ⟨[.int], some .char⟩ := by decide +kernel
theorem d27_7 : decode method_4_code 7 = .ok (.invokevirtual 7, 3) := by decide +kernel
theorem d27_10 : decode method_4_code 10 = .ok (.aload_n 3, 1) := by decide +kernel
theorem d27_11 : decode method_4_code 11 = .ok (.iload 4, 2) := by decide +kernel
theorem d27_13 : decode method_4_code 13 = .ok (.iload_n 1, 1) := by decide +kernel
theorem d27_14 : decode method_4_code 14 = .ok (.iadd, 1) := by decide +kernel
theorem d27_15 : decode method_4_code 15 = .ok (.caload, 1) := by decide +kernel
theorem pd_21 : parseMethodDescriptor "(C)C" = some ⟨[.char], some .char⟩ := by decide +kernel
theorem d27_16 : decode method_4_code 16 = .ok (.invokestatic 13, 3) := by decide +kernel
theorem d27_19 : decode method_4_code 19 = .ok (.if_icmp .ne 7, 3) := by decide +kernel
theorem ef27_n (m : MethodId) (x1 : Addr) (x4 : Addr) : entryFrame m #[(.ref x1), (.int (Int32.ofNat ix)), (.int (Int32.ofNat n)), (.ref x4), (.int (Int32.ofNat ua))] 5 = mkF m 0 #[.val (.ref x1), .val (.int (Int32.ofNat ix)), .val (.int (Int32.ofNat n)), .val (.ref x4), .val (.int (Int32.ofNat ua))] [] := by first | (simp [entryFrame, mkF, argsToLocals, Value.category]; done) | rfl
def Q27_n (Z : State) (x1 : Addr) (x4 : Addr) (x1_value : Addr) (ks : ClassId) (f : Nat → Int32) (n : Nat) (ix : Nat) (kc : ClassId) (fc : Nat → Int32) (ua : Nat) (st_COMPACT_STRINGS : Int32) (st_fm : Value) (h0 : Heap) (n0 : Nat) (v : Option Value) (h : Heap) (L : List Loc) : Prop := v = some (.int (1 : Int32)) ∧ Fr n0 L ∧ h = h0
set_option maxRecDepth 65536 in
set_option maxHeartbeats 40000000 in
theorem rm27_n (l : Launch) (Z : State) (a0 : Array Value) (hw : ∀ d ∈ tables_1, d.before a0 Z = true) (ws : List Jvm.Cond) (x1 : Addr) (x4 : Addr) (x1_value : Addr) (ks : ClassId) (f : Nat → Int32) (n : Nat) (ix : Nat) (kc : ClassId) (fc : Nat → Int32) (ua : Nat) (st_COMPACT_STRINGS : Int32) (st_fm : Value) (h0 : Heap) (n0 : Nat) (Z0 : n0 ≤ h0.size) (O0 : Old Z n0 h0) (E_x1 : Exa Z h0 x1 "java/lang/String") (F_x1_value : Fld Z h0 x1 "java/lang/String" "value" "[B" (.ref x1_value)) (F_x1_coder : Fld Z h0 x1 "java/lang/String" "coder" "B" (.int (0 : Int32))) (V_x1_value : Arv Z h0 x1_value ks .byte (Int32.ofNat n) (own_fv f n) (.int 0)) (hp : ∀ j, j < n → ¬ f j < 0 ∧ ¬ (255 : Int32) < f j) (hn : n ≤ 24) (hix : ix < n) (V_x4 : Arv Z h0 x4 kc .char (4 : Int32) (own_cv fc 4) (.int (0 : Int32))) (hin : ua + ix < 4) (hsml : f ix = own_lower (fc (ua + ix))) (S_COMPACT_STRINGS : Sta Z Z.heap "java/lang/String" "COMPACT_STRINGS" "Z" (.int st_COMPACT_STRINGS)) (hcomp : ¬ (st_COMPACT_STRINGS = (0 : Int32))) (S_fm : Sta Z Z.heap "jdk/internal/util/Preconditions" "SIOOBE_FORMATTER" "Ljava/util/function/BiFunction;" st_fm) (hfm : st_fm.isRef = true) :
    MetFree l (⟨"com/example/prueba/prueba/MediaTypesMediaTypePinLaw", "at", "(Ljava/lang/String;II[CI)Z"⟩ : MethodName) (head1 (Jvm.Cond.code (⟨"com/example/prueba/prueba/MediaTypesMediaTypePinLaw", "at", "(Ljava/lang/String;II[CI)Z"⟩ : MethodName) method_4_code 5 (some .boolean) :: ws) ({ frames := 4, cells := 0, slots := 0, locals := 53 } : Room)) (fun a U => a = #[(.ref x1), (.int (Int32.ofNat ix)), (.int (Int32.ofNat n)), (.ref x4), (.int (Int32.ofNat ua))] ∧ Z.Warmed39 U.vm ∧ U.heap = h0) (fun _ _ _ _ _ => True) (fun _ U o U' => ∃ v L, o = .returned v ∧ Q27_n Z x1 x4 x1_value ks f n ix kc fc ua st_COMPACT_STRINGS st_fm h0 n0 v U'.heap L ∧ FrameEnd U o U' L ({ frames := 4, cells := 0, slots := 0, locals := 53 } : Room).cells ({ frames := 4, cells := 0, slots := 0, locals := 53 } : Room).slots) := by
  refine MetFree.of_bodySF (plainFor_of_name pn_com_example_prueba_prueba_MediaTypesMediaTypePinLaw) hisR ?_
  intro p e s m args below meth c s₁ Bd hml0 hP hK
  obtain ⟨rfl, hZ, hh⟩ := hP
  have hx := Bd.exec
  have hby := Bd.bytes
  have hml : c.maxLocals = 5 := hml0
  have hown : s.vm.findClass "com/example/prueba/prueba/MediaTypesMediaTypePinLaw" = some m.cls := findClass_of_methodNamed Bd.named
  have hnm := (name_of_methodNamed Bd.named Bd.method).1
  have X0 : Stand p l e ({ frames := 4, cells := 0, slots := 0, locals := 53 } : Room) s m #[(.ref x1), (.int (Int32.ofNat ix)), (.int (Int32.ofNat n)), (.ref x4), (.int (Int32.ofNat ua))] below meth c s₁ [] 0 0 := Stand.of_body Bd
  have e0 : s₁.heap = h0 := by rw [← hh, Bd.state]; rfl
  have N0 := Fr.nil n0
  have K0 : Keep h0 h0 [] := Keep.refl _ _
  have pre0 : ∀ t, Steps p.tables e below (s₁.setTop (mkF m 0 #[.val (.ref x1), .val (.int (Int32.ofNat ix)), .val (.int (Int32.ofNat n)), .val (.ref x4), .val (.int (Int32.ofNat ua))] [])) t → Steps p.tables e below (s₁.setTop (entryFrame m #[(.ref x1), (.int (Int32.ofNat ix)), (.int (Int32.ofNat n)), (.ref x4), (.int (Int32.ofNat ua))] 5)) t := fun t k => castTop (ef27_n m x1 x4) k
  obtain ⟨cq324, kq324, q324a, q324b, q324c⟩ := isOf hZ e0 E_x1
  obtain ⟨_, _, ⟨T324, L324, k324, n324⟩, -, X324, ⟨Lc324, hQ324, l324, y324, z324⟩, st324⟩ := X0.virtualBack hx (y := (⟨"java/lang/String", "charAt", "(I)C"⟩ : MethodName)) (z := (⟨"java/lang/String", "charAt", "(I)C"⟩ : MethodName)) hown (mvT hZ (own_wd hw 148 rfl)) (mvT hZ (own_wd hw 149 rfl)) (notFace_of_selects (args := #[]) (mvT hZ (own_wd hw 151 rfl))) (mvT hZ (own_wd hw 151 rfl)) (mvT hZ (own_wd hw 150 rfl)) (by decide) (backOf (W := 0) (rm33 l Z a0 hw [] x1 x1_value ks f n ix st_COMPACT_STRINGS st_fm h0 n0 Z0 O0 E_x1 F_x1_value F_x1_coder V_x1_value hp (by omega) (by omega) S_COMPACT_STRINGS hcomp S_fm hfm) hZ (own_wd hw 152 rfl) (own_wd hw 7 rfl) (by decide) (by decide)) q324a q324c (g := (mkF m 7 #[.val (.ref x1), .val (.int (Int32.ofNat ix)), .val (.int (Int32.ofNat n)), .val (.ref x4), .val (.int (Int32.ofNat ua))] [(.int (Int32.ofNat ix)), (.ref x1)])) rfl (by rw [hml]; rfl) (Steps.refl _) (argsL := [(.int (Int32.ofNat ix))]) (rest := []) (lenOf pd_20 rfl) rfl (by show 2 * 0 + _ ≤ _; exact Nat.le_of_eq rfl) (hb hby d27_7) (fun _ _ => ⟨rfl, e0, (by decide : 0 + 0 ≤ _), (by decide : 0 + 0 ≤ _)⟩)
  dsimp only [Pt.U, Pt.locs, Pt.cells, Pt.slots] at X324 l324 y324 z324 st324 hQ324
  subst l324 y324 z324
  obtain ⟨rfl, N324q, eh324⟩ := hQ324
  have N324 := Fr.app N0 N324q
  have rn325 : ((Int32.ofNat ua) + (Int32.ofNat ix)) = (Int32.ofNat (ua + ix)) := own_add _ _
  obtain ⟨cl_a326, Ar_a326, -, S_a326, N_a326, H_a326, -⟩ := id V_x4
  obtain ⟨hin_a326, hat_a326⟩ := own_rdc (j := (Int32.ofNat (ua + ix))) (i := (ua + ix)) (n := 4) S_a326 H_a326 rfl (by omega) (by omega)
  obtain ⟨_, _, ⟨T327, L327, k327, n327⟩, -, X327, ⟨Lc327, hQ327, l327, y327, z327⟩, st327⟩ := Jvm.LawKit.callS X324 hx (y := (⟨"com/example/prueba/prueba/MediaTypesMediaTypePinLaw", "lower", "(C)C"⟩ : MethodName)) hown (mvT hZ (own_wd hw 162 rfl)) (mvT hZ (own_wd hw 163 rfl)) (mvT hZ (own_wd hw 3 rfl)) (mvT hZ (own_wd hw 164 rfl)) (by decide) (backOf (W := 1) (rm37 l Z a0 hw [] (fc (ua + ix)) h0 n0 Z0 O0) hZ (own_wd hw 164 rfl) (own_wd hw 3 rfl) (by decide) (by decide)) (g := (mkF m 16 #[.val (.ref x1), .val (.int (Int32.ofNat ix)), .val (.int (Int32.ofNat n)), .val (.ref x4), .val (.int (Int32.ofNat ua))] [(.int (fc (ua + ix))), (.int (f ix))])) rfl (by rw [hml]; rfl) (argsL := [(.int (fc (ua + ix)))]) (rest := [(.int (f ix))]) (lenOf pd_21 rfl) rfl (by show 2 * 0 + _ ≤ _; exact Nat.le_of_eq rfl) (hb hby d27_16) (fun _ _ => ⟨rfl, eh324, (by decide : 0 + 0 ≤ _), (by decide : 0 + 0 ≤ _)⟩)
  dsimp only [Pt.U, Pt.locs, Pt.cells, Pt.slots] at X327 l327 y327 z327 st327 hQ327
  subst l327 y327 z327
  obtain ⟨rfl, N327q, eh327⟩ := hQ327
  have N327 := Fr.app N324 N327q
  obtain ⟨fs, hr, hrun, hended, hW, hsame⟩ := X327.leave (v := some (.int (1 : Int32))) (fun h => by rw [Bd.returns] at h; cases h)
  refine ⟨_, _, pre0 _ ?_, hrun, hended, _, _, rfl, ?_, ⟨_, rfl⟩, hW, hsame.mono (by decide) (by decide)⟩
  · show Steps p.tables e below (s₁.setTop (mkF m 0 #[.val (.ref x1), .val (.int (Int32.ofNat ix)), .val (.int (Int32.ofNat n)), .val (.ref x4), .val (.int (Int32.ofNat ua))] [])) _
    refine XS.iloadN X0.here hx rfl (hb hby d27_0) rfl ?_
    refine XS.iloadN X0.here hx rfl (hb hby d27_1) rfl ?_
    refine XS.icmpNo X0.here hx rfl (hb hby d27_2) rfl (tlt ((own_lt (by omega) (by omega)).mpr (by omega))).2.1 ?_
    refine XS.aloadN X0.here hx rfl (hb hby d27_5) rfl rfl ?_
    refine XS.iloadN X0.here hx rfl (hb hby d27_6) rfl ?_
    show Steps p.tables e below (s₁.setTop (mkF m 7 #[.val (.ref x1), .val (.int (Int32.ofNat ix)), .val (.int (Int32.ofNat n)), .val (.ref x4), .val (.int (Int32.ofNat ua))] [(.int (Int32.ofNat ix)), (.ref x1)])) _
    refine st324.trans ?_
    show Steps p.tables e below (T324.setTop (mkF m 10 #[.val (.ref x1), .val (.int (Int32.ofNat ix)), .val (.int (Int32.ofNat n)), .val (.ref x4), .val (.int (Int32.ofNat ua))] [(.int (f ix))])) _
    refine XS.aloadN X324.here hx rfl (hb hby d27_10) rfl rfl ?_
    refine XS.iload X324.here hx rfl (hb hby d27_11) rfl ?_
    refine XS.iloadN X324.here hx rfl (hb hby d27_13) rfl ?_
    refine XS.iadd X324.here hx rfl (hb hby d27_14) rfl ?_
    show Steps p.tables e below (T324.setTop (mkF m 15 #[.val (.ref x1), .val (.int (Int32.ofNat ix)), .val (.int (Int32.ofNat n)), .val (.ref x4), .val (.int (Int32.ofNat ua))] [(.int ((Int32.ofNat ua) + (Int32.ofNat ix))), (.ref x4), (.int (f ix))])) _
    rw [rn325]
    show Steps p.tables e below (T324.setTop (mkF m 15 #[.val (.ref x1), .val (.int (Int32.ofNat ix)), .val (.int (Int32.ofNat n)), .val (.ref x4), .val (.int (Int32.ofNat ua))] [(.int (Int32.ofNat (ua + ix))), (.ref x4), (.int (f ix))])) _
    refine X324.caload hx (j := (Int32.ofNat (ua + ix))) (v := (.int (fc (ua + ix)))) (by rw [eh324]; exact Ar_a326.1) (State.isArrayOf_alike hZ.alike Ar_a326.2.1) Ar_a326.2.2 hin_a326 hat_a326 (g := (mkF m 15 #[.val (.ref x1), .val (.int (Int32.ofNat ix)), .val (.int (Int32.ofNat n)), .val (.ref x4), .val (.int (Int32.ofNat ua))] [(.int (Int32.ofNat (ua + ix))), (.ref x4), (.int (f ix))])) rfl rfl (hb hby d27_15) _ ?_
    show Steps p.tables e below (T324.setTop (mkF m 16 #[.val (.ref x1), .val (.int (Int32.ofNat ix)), .val (.int (Int32.ofNat n)), .val (.ref x4), .val (.int (Int32.ofNat ua))] [(.int (fc (ua + ix))), (.int (f ix))])) _
    refine st327 _ ?_
    show Steps p.tables e below (T327.setTop (mkF m 19 #[.val (.ref x1), .val (.int (Int32.ofNat ix)), .val (.int (Int32.ofNat n)), .val (.ref x4), .val (.int (Int32.ofNat ua))] [(.int (own_lower (fc (ua + ix)))), (.int (f ix))])) _
    refine XS.icmpNo X327.here hx rfl (hb hby d27_19) rfl (teq hsml).2 ?_
    refine XS.iconst X327.here hx rfl (hb hby d27_22) ?_
    refine XS.goto X327.here hx rfl (pc0 := 23) (pc' := 27) rfl (hb hby d27_23) (by decide) (by decide) ?_
    show Steps p.tables e below (T327.setTop (mkF m 27 #[.val (.ref x1), .val (.int (Int32.ofNat ix)), .val (.int (Int32.ofNat n)), .val (.ref x4), .val (.int (Int32.ofNat ua))] [(.int (1 : Int32))])) _
    exact retN X327 hx (t := .boolean) Bd.returns (by simp) (hb hby d27_27) hr
  · show Q27_n Z x1 x4 x1_value ks f n ix kc fc ua st_COMPACT_STRINGS st_fm h0 n0 _ T327.heap _
    rw [eh327]
    exact ⟨rfl, N327, rfl⟩
theorem pd_22 : parseMethodDescriptor "([C)V" = some ⟨[(.array .char)], none⟩ := by decide +kernel
theorem pd_23 : parseMethodDescriptor "(Ljava/lang/String;)Ljava/lang/String;" = some ⟨[(.object "java/lang/String")], some (.object "java/lang/String")⟩ := by decide +kernel
theorem pd_24 : parseMethodDescriptor "(Ljava/lang/String;II[CI)Z" = some ⟨[(.object "java/lang/String"), .int, .int, (.array .char), .int], some .boolean⟩ := by decide +kernel
theorem ef0 (m : MethodId) (x1 : Int32) (x2 : Int32) (x3 : Int32) (x4 : Int32) : entryFrame m #[(.int x1), (.int x2), (.int x3), (.int x4)] maxLocals = mkF m 0 #[.val (.int x1), .val (.int x2), .val (.int x3), .val (.int x4), .unset, .unset, .unset, .unset, .unset, .unset, .unset, .unset, .unset, .unset, .unset] [] := by first | (simp [entryFrame, mkF, argsToLocals, Value.category, maxLocals]; done) | rfl
def Q0 (Z : State) (x1 : Int32) (x2 : Int32) (x3 : Int32) (x4 : Int32) (st_ROOT : Addr) (st_ROOT_baseLocale : Addr) (st_ROOT_baseLocale_language : Addr) (st_ROOT_baseLocale_language_value : Addr) (k_st_ROOT_baseLocale_language_value : ClassId) (st_instance : Addr) (st_COMPACT_STRINGS : Int32) (st_fm : Value) (h0 : Heap) (n0 : Nat) (v : Option Value) (h : Heap) (L : List Loc) : Prop := v = some (.int (1 : Int32)) ∧ Fr n0 L ∧ Keep h0 h []
set_option maxRecDepth 65536 in
set_option maxHeartbeats 40000000 in
theorem rm0 (l : Launch) (Z : State) (a0 : Array Value) (hw : ∀ d ∈ tables_1, d.before a0 Z = true) (ws : List Jvm.Cond) (x1 : Int32) (x2 : Int32) (x3 : Int32) (x4 : Int32) (st_ROOT : Addr) (st_ROOT_baseLocale : Addr) (st_ROOT_baseLocale_language : Addr) (st_ROOT_baseLocale_language_value : Addr) (k_st_ROOT_baseLocale_language_value : ClassId) (st_instance : Addr) (st_COMPACT_STRINGS : Int32) (st_fm : Value) (h0 : Heap) (n0 : Nat) (Z0 : n0 ≤ h0.size) (O0 : Old Z n0 h0) (S_ROOT : Sta Z Z.heap "java/util/Locale" "ROOT" "Ljava/util/Locale;" (.ref st_ROOT)) (EZ_st_ROOT : Exa Z Z.heap st_ROOT "java/util/Locale") (FZ_st_ROOT_baseLocale : Fld Z Z.heap st_ROOT "java/util/Locale" "baseLocale" "Lsun/util/locale/BaseLocale;" (.ref st_ROOT_baseLocale)) (EZ_st_ROOT_baseLocale : Exa Z Z.heap st_ROOT_baseLocale "sun/util/locale/BaseLocale") (FZ_st_ROOT_baseLocale_language : Fld Z Z.heap st_ROOT_baseLocale "sun/util/locale/BaseLocale" "language" "Ljava/lang/String;" (.ref st_ROOT_baseLocale_language)) (FZ_st_ROOT_baseLocale_language_value : Fld Z Z.heap st_ROOT_baseLocale_language "java/lang/String" "value" "[B" (.ref st_ROOT_baseLocale_language_value)) (VZ_st_ROOT_baseLocale_language_value : Arv Z Z.heap st_ROOT_baseLocale_language_value k_st_ROOT_baseLocale_language_value .byte (0 : Int32) [] (.int (0 : Int32))) (S_instance : Sta Z Z.heap "java/lang/CharacterDataLatin1" "instance" "Ljava/lang/CharacterDataLatin1;" (.ref st_instance)) (EZ_st_instance : Exa Z Z.heap st_instance "java/lang/CharacterDataLatin1") (S_COMPACT_STRINGS : Sta Z Z.heap "java/lang/String" "COMPACT_STRINGS" "Z" (.int st_COMPACT_STRINGS)) (hcomp : ¬ (st_COMPACT_STRINGS = (0 : Int32))) (S_fm : Sta Z Z.heap "jdk/internal/util/Preconditions" "SIOOBE_FORMATTER" "Ljava/util/function/BiFunction;" st_fm) (hfm : st_fm.isRef = true) :
    MetFree l x (head1 (Jvm.Cond.code x code maxLocals ret :: ws) room_1) (fun a U => a = #[(.int x1), (.int x2), (.int x3), (.int x4)] ∧ Z.Warmed39 U.vm ∧ U.heap = h0 ∧ CHv Z own_EL U.vm h0) (fun _ _ _ _ _ => True) (fun _ U o U' => ∃ v L, o = .returned v ∧ Q0 Z x1 x2 x3 x4 st_ROOT st_ROOT_baseLocale st_ROOT_baseLocale_language st_ROOT_baseLocale_language_value k_st_ROOT_baseLocale_language_value st_instance st_COMPACT_STRINGS st_fm h0 n0 v U'.heap L ∧ CHr Z own_EL U.vm U.heap U'.vm U'.heap ∧ ReturnedEndW U o U' L room_1.cells room_1.slots) := by
  refine MetFree.of_bodySF (plainFor_of_name pn_com_example_prueba_prueba_MediaTypesMediaTypePinLaw) hisR ?_
  intro p e s m args below meth c s₁ Bd hml0 hP hK
  obtain ⟨rfl, hZ, hh, CH0⟩ := hP
  have hx := Bd.exec
  have hby := Bd.bytes
  have hml : c.maxLocals = 15 := hml0
  have hown : (s.setVm s.vm).vm.findClass "com/example/prueba/prueba/MediaTypesMediaTypePinLaw" = some m.cls := findClass_of_methodNamed Bd.named
  have hnm := (name_of_methodNamed Bd.named Bd.method).1
  have X0 : Stand p l e room_1 (s.setVm s.vm) m #[(.int x1), (.int x2), (.int x3), (.int x4)] below meth c s₁ [] 0 0 := Stand.of_body Bd
  have e0 : s₁.heap = h0 := by rw [← hh, Bd.state]; rfl
  have N0 := Fr.nil n0
  have K0 : Keep h0 h0 [] := Keep.refl _ _
  have pre0 : ∀ t, Steps p.tables e below (s₁.setTop (mkF m 0 #[.val (.int x1), .val (.int x2), .val (.int x3), .val (.int x4), .unset, .unset, .unset, .unset, .unset, .unset, .unset, .unset, .unset, .unset, .unset] [])) t → Steps p.tables e below (s₁.setTop (entryFrame m #[(.int x1), (.int x2), (.int x3), (.int x4)] maxLocals)) t := fun t k => castTop (ef0 m x1 x2 x3 x4) k
  have hZa : Z.Warmed39 (s.setVm s.vm).vm := hZ
  have howna : (s.setVm s.vm).vm.findClass "com/example/prueba/prueba/MediaTypesMediaTypePinLaw" = some m.cls := hown
  have hS0 : s.Since s.vm h0.size := (State.WarmedH.refl s).since _
  have hk0 : h0.size ≤ h0.size := Nat.le_refl _
  have CR0 : CHr Z own_EL s.vm h0 s.vm h0 := CHr.refl CH0
  have C328 : Exa Z h0 st_ROOT "java/util/Locale" := EZ_st_ROOT.ext O0.2
  have F329 : Fld Z h0 st_ROOT "java/util/Locale" "baseLocale" "Lsun/util/locale/BaseLocale;" (.ref st_ROOT_baseLocale) := FZ_st_ROOT_baseLocale.ext O0.2
  have C330 : Exa Z h0 st_ROOT_baseLocale "sun/util/locale/BaseLocale" := EZ_st_ROOT_baseLocale.ext O0.2
  have F331 : Fld Z h0 st_ROOT_baseLocale "sun/util/locale/BaseLocale" "language" "Ljava/lang/String;" (.ref st_ROOT_baseLocale_language) := FZ_st_ROOT_baseLocale_language.ext O0.2
  have F332 : Fld Z h0 st_ROOT_baseLocale_language "java/lang/String" "value" "[B" (.ref st_ROOT_baseLocale_language_value) := FZ_st_ROOT_baseLocale_language_value.ext O0.2
  have V333 : Arv Z h0 st_ROOT_baseLocale_language_value k_st_ROOT_baseLocale_language_value .byte (0 : Int32) [] (.int (0 : Int32)) := VZ_st_ROOT_baseLocale_language_value.ext O0.2
  have C334 : Exa Z h0 st_instance "java/lang/CharacterDataLatin1" := EZ_st_instance.ext O0.2
  obtain ⟨T335, h335, k335, X335, e335, E335, A335, st335⟩ := newP X0 hx hZa (own_wd hw 0 rfl) e0 (g := (mkF m 1 #[.val (.int x1), .val (.int x2), .val (.int x3), .val (.int x4), .unset, .unset, .unset, .unset, .unset, .unset, .unset, .unset, .unset, .unset, .unset] [(.int (4 : Int32))])) rfl (hb hby at_1) rfl (by decide) (cap := 4) (by decide) (by decide) (by decide) (by decide)
  obtain ⟨b335, g335⟩ : ∃ z, z = h0.size := ⟨_, rfl⟩
  rw [← g335] at A335 st335
  have O335 : Old Z n0 h335 := O0.ext E335
  have Z335 : n0 ≤ h335.size := Nat.le_trans Z0 E335.1
  have K335 : Keep h0 h335 [] := K0.ext E335
  have CH335 : CHv Z own_EL s.vm h335 := CHv.ext E335 CH0
  have CR335 : CHr Z own_EL s.vm h0 s.vm h335 := CR0.trans (CHr.ext E335 CH0)
  have g_b335 : n0 ≤ b335 := Nat.le_trans Z0 (Nat.le_of_eq g335.symm)
  have sz_b335 : h0.size ≤ b335 := Nat.le_trans K0.1 (Nat.le_of_eq g335.symm)
  have V335 : Arv Z h335 b335 k335 .char (4 : Int32) [(.int (0 : Int32)), (.int (0 : Int32)), (.int (0 : Int32)), (.int (0 : Int32))] (.int (0 : Int32)) := (Arv.new A335 (by decide)).pad (pad_rep [] (.int (0 : Int32)) 4)
  obtain ⟨_, _, ⟨T336, L336, k336, n336⟩, -, X336, ⟨Lc336, hQ336, l336, y336, z336⟩, st336⟩ := Jvm.LawKit.callS X335 hx (y := (⟨"com/example/prueba/prueba/MediaTypesMediaTypePinLaw", "draw", "(I)C"⟩ : MethodName)) howna (mvT hZa (own_wd hw 1 rfl)) (mvT hZa (own_wd hw 2 rfl)) (mvT hZa (own_wd hw 3 rfl)) (mvT hZa (own_wd hw 4 rfl)) (by decide) (backOf (W := 2) (rm1 l Z a0 hw [] x1 h335 n0 Z335 O335) hZa (own_wd hw 4 rfl) (own_wd hw 3 rfl) (by decide) (by decide)) (g := (mkF m 9 #[.val (.int x1), .val (.int x2), .val (.int x3), .val (.int x4), .val (.ref b335), .unset, .unset, .unset, .unset, .unset, .unset, .unset, .unset, .unset, .unset] [(.int x1), (.int (0 : Int32)), (.ref b335)])) rfl (by rw [hml]; rfl) (argsL := [(.int x1)]) (rest := [(.int (0 : Int32)), (.ref b335)]) (lenOf pd_20 rfl) rfl (by show 2 * 0 + _ ≤ _; exact Nat.le_of_eq rfl) (hb hby at_9) (fun _ _ => ⟨rfl, e335, (by decide : 1 + 0 ≤ _), (by decide : 4 + 0 ≤ _)⟩)
  dsimp only [Pt.U, Pt.locs, Pt.cells, Pt.slots] at X336 l336 y336 z336 st336 hQ336
  subst l336 y336 z336
  obtain ⟨vc_336, rfl, N336q, eh336, Q336_0⟩ := hQ336
  have N336 := Fr.app N0 N336q
  obtain ⟨cl_a337, Ar_a337, q_a337, S_a337, N_a337, H_a337, G_a337⟩ := id V335
  have hin_a337 : ¬ ((0 : Int32) < 0 ∨ cl_a337.slots.size ≤ ((0 : Int32)).toNatClampNeg) := inb_of S_a337 ⟨by decide, by decide⟩
  obtain ⟨T338, h338, X338, e338, W338, st338⟩ := stC X336 hx hZa eh336 Ar_a337 (j := (0 : Int32)) hin_a337 (g := (mkF m 12 #[.val (.int x1), .val (.int x2), .val (.int x3), .val (.int x4), .val (.ref b335), .unset, .unset, .unset, .unset, .unset, .unset, .unset, .unset, .unset, .unset] [(.int vc_336), (.int (0 : Int32)), (.ref b335)])) rfl rfl (hb hby at_12)
  have O338 : Old Z n0 h338 := O335.wr W338 g_b335
  have Z338 : n0 ≤ h338.size := Nat.le_trans Z335 (Keep.of_wr W338).1
  have K338 : Keep h0 h338 [] := K335.wr W338 (Or.inr sz_b335)
  have N338 := Fr.snoc X338 N336 g_b335
  have CH338 : CHv Z own_EL s.vm h338 := CHv.wr W338 (Safe.arv hZa.alike V335 (by decide)) CH335
  have CR338 : CHr Z own_EL s.vm h0 s.vm h338 := CR335.trans (CHr.wr W338 (Safe.arv hZa.alike V335 (by decide)) CH335)
  have V338 : Arv Z h338 b335 k335 .char (4 : Int32) [(.int vc_336.toUInt32.toUInt16.toUInt32.toInt32), (.int (0 : Int32)), (.int (0 : Int32)), (.int (0 : Int32))] (.int (0 : Int32)) := Arv.set Ar_a337 q_a337 S_a337 N_a337 H_a337 G_a337 (fits_nar_char _) W338 0 rfl (Nat.le_of_ble_eq_true rfl)
  obtain ⟨_, _, ⟨T339, L339, k339, n339⟩, -, X339, ⟨Lc339, hQ339, l339, y339, z339⟩, st339⟩ := Jvm.LawKit.callS X338 hx (y := (⟨"com/example/prueba/prueba/MediaTypesMediaTypePinLaw", "draw", "(I)C"⟩ : MethodName)) howna (mvT hZa (own_wd hw 1 rfl)) (mvT hZa (own_wd hw 2 rfl)) (mvT hZa (own_wd hw 3 rfl)) (mvT hZa (own_wd hw 4 rfl)) (by decide) (backOf (W := 2) (rm1 l Z a0 hw [] x2 h338 n0 Z338 O338) hZa (own_wd hw 4 rfl) (own_wd hw 3 rfl) (by decide) (by decide)) (g := (mkF m 17 #[.val (.int x1), .val (.int x2), .val (.int x3), .val (.int x4), .val (.ref b335), .unset, .unset, .unset, .unset, .unset, .unset, .unset, .unset, .unset, .unset] [(.int x2), (.int (1 : Int32)), (.ref b335)])) rfl (by rw [hml]; rfl) (argsL := [(.int x2)]) (rest := [(.int (1 : Int32)), (.ref b335)]) (lenOf pd_20 rfl) rfl (by show 2 * 0 + _ ≤ _; exact Nat.le_of_eq rfl) (hb hby at_17) (fun _ _ => ⟨rfl, e338, (by decide : 1 + 0 ≤ _), (by decide : 4 + 0 ≤ _)⟩)
  dsimp only [Pt.U, Pt.locs, Pt.cells, Pt.slots] at X339 l339 y339 z339 st339 hQ339
  subst l339 y339 z339
  obtain ⟨vc_339, rfl, N339q, eh339, Q339_0⟩ := hQ339
  have N339 := Fr.app N338 N339q
  obtain ⟨cl_a340, Ar_a340, q_a340, S_a340, N_a340, H_a340, G_a340⟩ := id V338
  have hin_a340 : ¬ ((1 : Int32) < 0 ∨ cl_a340.slots.size ≤ ((1 : Int32)).toNatClampNeg) := inb_of S_a340 ⟨by decide, by decide⟩
  obtain ⟨T341, h341, X341, e341, W341, st341⟩ := stC X339 hx hZa eh339 Ar_a340 (j := (1 : Int32)) hin_a340 (g := (mkF m 20 #[.val (.int x1), .val (.int x2), .val (.int x3), .val (.int x4), .val (.ref b335), .unset, .unset, .unset, .unset, .unset, .unset, .unset, .unset, .unset, .unset] [(.int vc_339), (.int (1 : Int32)), (.ref b335)])) rfl rfl (hb hby at_20)
  have O341 : Old Z n0 h341 := O338.wr W341 g_b335
  have Z341 : n0 ≤ h341.size := Nat.le_trans Z338 (Keep.of_wr W341).1
  have K341 : Keep h0 h341 [] := K338.wr W341 (Or.inr sz_b335)
  have N341 := Fr.snoc X341 N339 g_b335
  have CH341 : CHv Z own_EL s.vm h341 := CHv.wr W341 (Safe.arv hZa.alike V338 (by decide)) CH338
  have CR341 : CHr Z own_EL s.vm h0 s.vm h341 := CR338.trans (CHr.wr W341 (Safe.arv hZa.alike V338 (by decide)) CH338)
  have V341 : Arv Z h341 b335 k335 .char (4 : Int32) [(.int vc_336.toUInt32.toUInt16.toUInt32.toInt32), (.int vc_339.toUInt32.toUInt16.toUInt32.toInt32), (.int (0 : Int32)), (.int (0 : Int32))] (.int (0 : Int32)) := Arv.set Ar_a340 q_a340 S_a340 N_a340 H_a340 G_a340 (fits_nar_char _) W341 1 rfl (Nat.le_of_ble_eq_true rfl)
  obtain ⟨_, _, ⟨T342, L342, k342, n342⟩, -, X342, ⟨Lc342, hQ342, l342, y342, z342⟩, st342⟩ := Jvm.LawKit.callS X341 hx (y := (⟨"com/example/prueba/prueba/MediaTypesMediaTypePinLaw", "draw", "(I)C"⟩ : MethodName)) howna (mvT hZa (own_wd hw 1 rfl)) (mvT hZa (own_wd hw 2 rfl)) (mvT hZa (own_wd hw 3 rfl)) (mvT hZa (own_wd hw 4 rfl)) (by decide) (backOf (W := 2) (rm1 l Z a0 hw [] x3 h341 n0 Z341 O341) hZa (own_wd hw 4 rfl) (own_wd hw 3 rfl) (by decide) (by decide)) (g := (mkF m 25 #[.val (.int x1), .val (.int x2), .val (.int x3), .val (.int x4), .val (.ref b335), .unset, .unset, .unset, .unset, .unset, .unset, .unset, .unset, .unset, .unset] [(.int x3), (.int (2 : Int32)), (.ref b335)])) rfl (by rw [hml]; rfl) (argsL := [(.int x3)]) (rest := [(.int (2 : Int32)), (.ref b335)]) (lenOf pd_20 rfl) rfl (by show 2 * 0 + _ ≤ _; exact Nat.le_of_eq rfl) (hb hby at_25) (fun _ _ => ⟨rfl, e341, (by decide : 1 + 0 ≤ _), (by decide : 4 + 0 ≤ _)⟩)
  dsimp only [Pt.U, Pt.locs, Pt.cells, Pt.slots] at X342 l342 y342 z342 st342 hQ342
  subst l342 y342 z342
  obtain ⟨vc_342, rfl, N342q, eh342, Q342_0⟩ := hQ342
  have N342 := Fr.app N341 N342q
  obtain ⟨cl_a343, Ar_a343, q_a343, S_a343, N_a343, H_a343, G_a343⟩ := id V341
  have hin_a343 : ¬ ((2 : Int32) < 0 ∨ cl_a343.slots.size ≤ ((2 : Int32)).toNatClampNeg) := inb_of S_a343 ⟨by decide, by decide⟩
  obtain ⟨T344, h344, X344, e344, W344, st344⟩ := stC X342 hx hZa eh342 Ar_a343 (j := (2 : Int32)) hin_a343 (g := (mkF m 28 #[.val (.int x1), .val (.int x2), .val (.int x3), .val (.int x4), .val (.ref b335), .unset, .unset, .unset, .unset, .unset, .unset, .unset, .unset, .unset, .unset] [(.int vc_342), (.int (2 : Int32)), (.ref b335)])) rfl rfl (hb hby at_28)
  have O344 : Old Z n0 h344 := O341.wr W344 g_b335
  have Z344 : n0 ≤ h344.size := Nat.le_trans Z341 (Keep.of_wr W344).1
  have K344 : Keep h0 h344 [] := K341.wr W344 (Or.inr sz_b335)
  have N344 := Fr.snoc X344 N342 g_b335
  have CH344 : CHv Z own_EL s.vm h344 := CHv.wr W344 (Safe.arv hZa.alike V341 (by decide)) CH341
  have CR344 : CHr Z own_EL s.vm h0 s.vm h344 := CR341.trans (CHr.wr W344 (Safe.arv hZa.alike V341 (by decide)) CH341)
  have V344 : Arv Z h344 b335 k335 .char (4 : Int32) [(.int vc_336.toUInt32.toUInt16.toUInt32.toInt32), (.int vc_339.toUInt32.toUInt16.toUInt32.toInt32), (.int vc_342.toUInt32.toUInt16.toUInt32.toInt32), (.int (0 : Int32))] (.int (0 : Int32)) := Arv.set Ar_a343 q_a343 S_a343 N_a343 H_a343 G_a343 (fits_nar_char _) W344 2 rfl (Nat.le_of_ble_eq_true rfl)
  obtain ⟨_, _, ⟨T345, L345, k345, n345⟩, -, X345, ⟨Lc345, hQ345, l345, y345, z345⟩, st345⟩ := Jvm.LawKit.callS X344 hx (y := (⟨"com/example/prueba/prueba/MediaTypesMediaTypePinLaw", "draw", "(I)C"⟩ : MethodName)) howna (mvT hZa (own_wd hw 1 rfl)) (mvT hZa (own_wd hw 2 rfl)) (mvT hZa (own_wd hw 3 rfl)) (mvT hZa (own_wd hw 4 rfl)) (by decide) (backOf (W := 2) (rm1 l Z a0 hw [] x4 h344 n0 Z344 O344) hZa (own_wd hw 4 rfl) (own_wd hw 3 rfl) (by decide) (by decide)) (g := (mkF m 33 #[.val (.int x1), .val (.int x2), .val (.int x3), .val (.int x4), .val (.ref b335), .unset, .unset, .unset, .unset, .unset, .unset, .unset, .unset, .unset, .unset] [(.int x4), (.int (3 : Int32)), (.ref b335)])) rfl (by rw [hml]; rfl) (argsL := [(.int x4)]) (rest := [(.int (3 : Int32)), (.ref b335)]) (lenOf pd_20 rfl) rfl (by show 2 * 0 + _ ≤ _; exact Nat.le_of_eq rfl) (hb hby at_33) (fun _ _ => ⟨rfl, e344, (by decide : 1 + 0 ≤ _), (by decide : 4 + 0 ≤ _)⟩)
  dsimp only [Pt.U, Pt.locs, Pt.cells, Pt.slots] at X345 l345 y345 z345 st345 hQ345
  subst l345 y345 z345
  obtain ⟨vc_345, rfl, N345q, eh345, Q345_0⟩ := hQ345
  have N345 := Fr.app N344 N345q
  obtain ⟨cl_a346, Ar_a346, q_a346, S_a346, N_a346, H_a346, G_a346⟩ := id V344
  have hin_a346 : ¬ ((3 : Int32) < 0 ∨ cl_a346.slots.size ≤ ((3 : Int32)).toNatClampNeg) := inb_of S_a346 ⟨by decide, by decide⟩
  obtain ⟨T347, h347, X347, e347, W347, st347⟩ := stC X345 hx hZa eh345 Ar_a346 (j := (3 : Int32)) hin_a346 (g := (mkF m 36 #[.val (.int x1), .val (.int x2), .val (.int x3), .val (.int x4), .val (.ref b335), .unset, .unset, .unset, .unset, .unset, .unset, .unset, .unset, .unset, .unset] [(.int vc_345), (.int (3 : Int32)), (.ref b335)])) rfl rfl (hb hby at_36)
  have O347 : Old Z n0 h347 := O344.wr W347 g_b335
  have Z347 : n0 ≤ h347.size := Nat.le_trans Z344 (Keep.of_wr W347).1
  have K347 : Keep h0 h347 [] := K344.wr W347 (Or.inr sz_b335)
  have N347 := Fr.snoc X347 N345 g_b335
  have CH347 : CHv Z own_EL s.vm h347 := CHv.wr W347 (Safe.arv hZa.alike V344 (by decide)) CH344
  have CR347 : CHr Z own_EL s.vm h0 s.vm h347 := CR344.trans (CHr.wr W347 (Safe.arv hZa.alike V344 (by decide)) CH344)
  have V347 : Arv Z h347 b335 k335 .char (4 : Int32) [(.int vc_336.toUInt32.toUInt16.toUInt32.toInt32), (.int vc_339.toUInt32.toUInt16.toUInt32.toInt32), (.int vc_342.toUInt32.toUInt16.toUInt32.toInt32), (.int vc_345.toUInt32.toUInt16.toUInt32.toInt32)] (.int (0 : Int32)) := Arv.set Ar_a346 q_a346 S_a346 N_a346 H_a346 G_a346 (fits_nar_char _) W347 3 rfl (Nat.le_of_ble_eq_true rfl)
  have V348 : Arv Z h347 b335 k335 .char (4 : Int32) [(.int vc_336), (.int vc_339), (.int vc_342), (.int vc_345)] (.int (0 : Int32)) := by have q := V347; rw [own_c16 Q336_0, own_c16 Q339_0, own_c16 Q342_0, own_c16 Q345_0] at q; exact q
  obtain ⟨T349, h349, X349, e349, E349, A349, D349, U349, st349⟩ := newO X347 hx hZa howna (own_wd hw 5 rfl) (own_wd hw 6 rfl) (own_wd hw 7 rfl) e347 (g := (mkF m 37 #[.val (.int x1), .val (.int x2), .val (.int x3), .val (.int x4), .val (.ref b335), .unset, .unset, .unset, .unset, .unset, .unset, .unset, .unset, .unset, .unset] [])) rfl (hb hby at_37) (by decide) (by decide)
  obtain ⟨b349, g349⟩ : ∃ z, z = h347.size := ⟨_, rfl⟩
  rw [← g349] at A349 D349 st349
  have O349 : Old Z n0 h349 := O347.ext E349
  have Z349 : n0 ≤ h349.size := Nat.le_trans Z347 E349.1
  have K349 : Keep h0 h349 [] := K347.ext E349
  have CH349 : CHv Z own_EL s.vm h349 := CHv.ext E349 CH347
  have CR349 : CHr Z own_EL s.vm h0 s.vm h349 := CR347.trans (CHr.ext E349 CH347)
  have g_b349 : n0 ≤ b349 := Nat.le_trans Z347 (Nat.le_of_eq g349.symm)
  have sz_b349 : h0.size ≤ b349 := Nat.le_trans K347.1 (Nat.le_of_eq g349.symm)
  have F_b349_coder : Fld Z h349 b349 "java/lang/String" "coder" "B" (.int (0 : Int32)) := D349 (Or.inr (own_wd hw 31 rfl)) (ty := .byte) (by decide)
  have F_b349_value : Fld Z h349 b349 "java/lang/String" "value" "[B" .null := D349 (Or.inr (own_wd hw 33 rfl)) (ty := (.array .byte)) (by decide)
  have V350 : Arv Z h349 b335 k335 .char (4 : Int32) [(.int vc_336), (.int vc_339), (.int vc_342), (.int vc_345)] (.int (0 : Int32)) := (V348.ext E349)
  have hp351 : ∀ c ∈ ([vc_336, vc_339, vc_342, vc_345] : List Int32), ¬ c < 0 ∧ ¬ (255 : Int32) < c := by
    intro c hc
    simp only [List.mem_cons, List.not_mem_nil, or_false] at hc
    rcases hc with rfl | rfl | rfl | rfl
    · exact Q336_0
    · exact Q339_0
    · exact Q342_0
    · exact Q345_0
  obtain ⟨_, _, ⟨T352, L352, k352, n352⟩, -, X352, ⟨Lc352, hQ352, l352, y352, z352⟩, st352⟩ := X349.specialBack hx (y := (⟨"java/lang/String", "<init>", "([C)V"⟩ : MethodName)) rfl howna (mvT hZa (own_wd hw 8 rfl)) (mvT hZa (own_wd hw 9 rfl)) (mvT hZa (own_wd hw 10 rfl)) (by decide) (StrChars.Road.backV (W := 1) hZa (own_hws hw) (kI := 4) (own_wd hw 6 rfl) (cs := ([vc_336, vc_339, vc_342, vc_345] : List Int32)) (bs := ([vc_336, vc_339, vc_342, vc_345] : List Int32).map (fun c => c.toInt8.toInt32)) (n := 4) g_b349 Z349 A349 F_b349_value F_b349_coder V350 (S_COMPACT_STRINGS.ext O349.2) hcomp rfl rfl (by decide) (by decide) hp351 rfl (by decide) (by decide)) (g := (mkF m 43 #[.val (.int x1), .val (.int x2), .val (.int x3), .val (.int x4), .val (.ref b335), .unset, .unset, .unset, .unset, .unset, .unset, .unset, .unset, .unset, .unset] [(.ref b335), (.ref b349), (.ref b349)])) rfl (by rw [hml]; rfl) (Steps.refl _) (a := b349) (argsL := [(.ref b335)]) (rest := [(.ref b349)]) (lenOf pd_22 rfl) rfl (by show 2 * 0 + _ ≤ _; exact Nat.le_of_eq rfl) (hb hby at_43) (fun _ _ => ⟨rfl, e349, (by decide : 2 + 1 ≤ _), (by decide : 8 + 4 ≤ _)⟩)
  dsimp only [Pt.U, Pt.locs, Pt.cells, Pt.slots] at X352 l352 y352 z352 st352 hQ352
  subst l352 y352 z352
  obtain ⟨rfl, N352q, KK352, E352, C352, t352, kb352, g_t352, s352, ne352, V352, A352⟩ := hQ352
  have N352 := Fr.app N347 N352q
  have sf353 : Safe Z own_EL s.vm h349 b349 := (Safe.ext E349 CH347 (Safe.new (Nat.le_of_eq g349.symm)))
  have O352 : Old Z n0 T352.heap := O349.keep KK352 (allS g_b349 all0)
  have Z352 : n0 ≤ T352.heap.size := Nat.le_trans Z349 KK352.1
  have K352 : Keep h0 T352.heap [] := K349.trans KK352 (allS (Or.inr sz_b349) all0)
  have CH352 : CHv Z own_EL s.vm T352.heap := CHv.keep KK352 (sfS sf353 sf0) CH349
  have CR352 : CHr Z own_EL s.vm h0 s.vm T352.heap := CR349.trans (CHr.keep KK352 (sfS sf353 sf0) CH349)
  have sz_t352 : h0.size ≤ t352 := Nat.le_trans K349.1 s352
  have Ae352 : Arv Z T352.heap t352 kb352 .byte (4 : Int32) [(.int (vc_336.toInt8.toInt32)), (.int (vc_339.toInt8.toInt32)), (.int (vc_342.toInt8.toInt32)), (.int (vc_345.toInt8.toInt32))] (.int 0) := A352
  have F354 : Fld Z T352.heap st_ROOT "java/util/Locale" "baseLocale" "Lsun/util/locale/BaseLocale;" (.ref st_ROOT_baseLocale) := (FZ_st_ROOT_baseLocale.ext O352.2)
  have F355 : Fld Z T352.heap st_ROOT_baseLocale "sun/util/locale/BaseLocale" "language" "Ljava/lang/String;" (.ref st_ROOT_baseLocale_language) := (FZ_st_ROOT_baseLocale_language.ext O352.2)
  have F356 : Fld Z T352.heap st_ROOT_baseLocale_language "java/lang/String" "value" "[B" (.ref st_ROOT_baseLocale_language_value) := (FZ_st_ROOT_baseLocale_language_value.ext O352.2)
  have C357 : Exa Z T352.heap st_ROOT "java/util/Locale" := (EZ_st_ROOT.ext O352.2)
  have C358 : Exa Z T352.heap st_ROOT_baseLocale "sun/util/locale/BaseLocale" := (EZ_st_ROOT_baseLocale.ext O352.2)
  have V359 : Arv Z T352.heap st_ROOT_baseLocale_language_value k_st_ROOT_baseLocale_language_value .byte (0 : Int32) [] (.int (0 : Int32)) := (VZ_st_ROOT_baseLocale_language_value.ext O352.2)
  have C360 : Exa Z T352.heap st_instance "java/lang/CharacterDataLatin1" := (EZ_st_instance.ext O352.2)
  obtain ⟨_, _, ⟨T361, L361, k361, n361⟩, -, X361, hS361, hg361, ⟨Lc361, hQ361, l361, y361, z361, R361⟩, st361⟩ := callSS X352 hx (y := (⟨"com/example/prueba/prueba/MediaTypes", "mediaType", "(Ljava/lang/String;)Ljava/lang/String;"⟩ : MethodName)) howna (mvT hZa (own_wd hw 34 rfl)) (mvT hZa (own_wd hw 35 rfl)) (mvT hZa (own_wd hw 36 rfl)) (mvT hZa (own_wd hw 37 rfl)) (by decide) (backOfSH (s := s) (vm0 := s.vm) (W := 0) (rm8 l Z a0 hw [] b349 t352 kb352 (own_l4 vc_336 vc_339 vc_342 vc_345) 4 st_ROOT_baseLocale st_ROOT_baseLocale_language st_ROOT_baseLocale_language_value k_st_ROOT_baseLocale_language_value st_instance st_ROOT st_COMPACT_STRINGS st_fm T352.heap n0 Z352 O352 E352 V352 C352 Ae352 (own_hp4 Q336_0 Q339_0 Q342_0 Q345_0) (by omega) S_ROOT C357 F354 C358 F355 F356 V359 S_instance C360 S_COMPACT_STRINGS hcomp S_fm hfm) hZa (own_wd hw 37 rfl) (own_wd hw 36 rfl) (by decide) (by decide) (own_EW hw) CH352) (g := (mkF m 50 #[.val (.int x1), .val (.int x2), .val (.int x3), .val (.int x4), .val (.ref b335), .val (.ref b349), .unset, .unset, .unset, .unset, .unset, .unset, .unset, .unset, .unset] [(.ref b349)])) rfl (by rw [hml]; rfl) (argsL := [(.ref b349)]) (rest := []) (lenOf pd_23 rfl) rfl (by show 2 * 0 + _ ≤ _; exact Nat.le_of_eq rfl) (hb hby at_50) (fun _ _ => ⟨rfl, rfl, (by decide : 3 + 12 ≤ _), (by decide : 12 + 120 ≤ _)⟩)
  dsimp only [Pt.U, Pt.locs, Pt.cells, Pt.slots] at X361 l361 y361 z361 st361 hQ361 hS361 hg361 R361
  subst l361 y361 z361
  obtain ⟨X361, hS361, hZ361, hown361⟩ := rebS hS0 (Nat.le_trans (Nat.le_trans (Nat.le_trans (Nat.le_trans (Nat.le_trans (Nat.le_trans (Nat.le_trans hk0 E335.1) (Keep.of_wr W338).1) (Keep.of_wr W341).1) (Keep.of_wr W344).1) (Keep.of_wr W347).1) E349.1) KK352.1) X361 hS361 hg361 hZa howna
  obtain ⟨b_361, t_361, kk_361, ka_361, ua_361, ub_361, rfl, N361q, KK361, Q361_0, Q361_1, Q361_2, Q361_3, Q361_4⟩ := hQ361
  have N361 := Fr.app N352 N361q
  have O361 : Old Z n0 T361.heap := O352.keep KK361 all0
  have Z361 : n0 ≤ T361.heap.size := Nat.le_trans Z352 KK361.1
  have K361 : Keep h0 T361.heap [] := K352.trans KK361 all0
  have CH361 : CHv Z own_EL T361.vm T361.heap := R361.1
  have CR361 : CHr Z own_EL s.vm h0 T361.vm T361.heap := CR352.trans R361
  obtain ⟨hua, hub⟩ := own_mtle Q361_4
  have pre362 : ∀ t, Steps p.tables e below (T361.setTop (mkF m 58 #[.val (.int x1), .val (.int x2), .val (.int x3), .val (.int x4), .val (.ref b335), .val (.ref b349), .val (.ref b_361), .val (.int (4 : Int32)), .unset, .unset, .unset, .unset, .unset, .unset, .unset] [])) t → Steps p.tables e below (s₁.setTop (entryFrame m #[(.int x1), (.int x2), (.int x3), (.int x4)] maxLocals)) t := by
    intro t kt
    refine pre0 t ?_
    show Steps p.tables e below (s₁.setTop (mkF m 0 #[.val (.int x1), .val (.int x2), .val (.int x3), .val (.int x4), .unset, .unset, .unset, .unset, .unset, .unset, .unset, .unset, .unset, .unset, .unset] [])) _
    refine XS.iconst X0.here hx rfl (hb hby at_0) ?_
    show Steps p.tables e below (s₁.setTop (mkF m 1 #[.val (.int x1), .val (.int x2), .val (.int x3), .val (.int x4), .unset, .unset, .unset, .unset, .unset, .unset, .unset, .unset, .unset, .unset, .unset] [(.int (4 : Int32))])) _
    refine st335 _ ?_
    show Steps p.tables e below (T335.setTop (mkF m 3 #[.val (.int x1), .val (.int x2), .val (.int x3), .val (.int x4), .unset, .unset, .unset, .unset, .unset, .unset, .unset, .unset, .unset, .unset, .unset] [(.ref b335)])) _
    refine XS.astore X335.here hx rfl (hb hby at_3) rfl rfl (l' := #[.val (.int x1), .val (.int x2), .val (.int x3), .val (.int x4), .val (.ref b335), .unset, .unset, .unset, .unset, .unset, .unset, .unset, .unset, .unset, .unset]) rfl ?_
    refine XS.aload X335.here hx rfl (hb hby at_5) rfl rfl ?_
    refine XS.iconst X335.here hx rfl (hb hby at_7) ?_
    refine XS.iloadN X335.here hx rfl (hb hby at_8) rfl ?_
    show Steps p.tables e below (T335.setTop (mkF m 9 #[.val (.int x1), .val (.int x2), .val (.int x3), .val (.int x4), .val (.ref b335), .unset, .unset, .unset, .unset, .unset, .unset, .unset, .unset, .unset, .unset] [(.int x1), (.int (0 : Int32)), (.ref b335)])) _
    refine st336 _ ?_
    show Steps p.tables e below (T336.setTop (mkF m 12 #[.val (.int x1), .val (.int x2), .val (.int x3), .val (.int x4), .val (.ref b335), .unset, .unset, .unset, .unset, .unset, .unset, .unset, .unset, .unset, .unset] [(.int vc_336), (.int (0 : Int32)), (.ref b335)])) _
    refine st338 _ ?_
    show Steps p.tables e below (T338.setTop (mkF m 13 #[.val (.int x1), .val (.int x2), .val (.int x3), .val (.int x4), .val (.ref b335), .unset, .unset, .unset, .unset, .unset, .unset, .unset, .unset, .unset, .unset] [])) _
    refine XS.aload X338.here hx rfl (hb hby at_13) rfl rfl ?_
    refine XS.iconst X338.here hx rfl (hb hby at_15) ?_
    refine XS.iloadN X338.here hx rfl (hb hby at_16) rfl ?_
    show Steps p.tables e below (T338.setTop (mkF m 17 #[.val (.int x1), .val (.int x2), .val (.int x3), .val (.int x4), .val (.ref b335), .unset, .unset, .unset, .unset, .unset, .unset, .unset, .unset, .unset, .unset] [(.int x2), (.int (1 : Int32)), (.ref b335)])) _
    refine st339 _ ?_
    show Steps p.tables e below (T339.setTop (mkF m 20 #[.val (.int x1), .val (.int x2), .val (.int x3), .val (.int x4), .val (.ref b335), .unset, .unset, .unset, .unset, .unset, .unset, .unset, .unset, .unset, .unset] [(.int vc_339), (.int (1 : Int32)), (.ref b335)])) _
    refine st341 _ ?_
    show Steps p.tables e below (T341.setTop (mkF m 21 #[.val (.int x1), .val (.int x2), .val (.int x3), .val (.int x4), .val (.ref b335), .unset, .unset, .unset, .unset, .unset, .unset, .unset, .unset, .unset, .unset] [])) _
    refine XS.aload X341.here hx rfl (hb hby at_21) rfl rfl ?_
    refine XS.iconst X341.here hx rfl (hb hby at_23) ?_
    refine XS.iloadN X341.here hx rfl (hb hby at_24) rfl ?_
    show Steps p.tables e below (T341.setTop (mkF m 25 #[.val (.int x1), .val (.int x2), .val (.int x3), .val (.int x4), .val (.ref b335), .unset, .unset, .unset, .unset, .unset, .unset, .unset, .unset, .unset, .unset] [(.int x3), (.int (2 : Int32)), (.ref b335)])) _
    refine st342 _ ?_
    show Steps p.tables e below (T342.setTop (mkF m 28 #[.val (.int x1), .val (.int x2), .val (.int x3), .val (.int x4), .val (.ref b335), .unset, .unset, .unset, .unset, .unset, .unset, .unset, .unset, .unset, .unset] [(.int vc_342), (.int (2 : Int32)), (.ref b335)])) _
    refine st344 _ ?_
    show Steps p.tables e below (T344.setTop (mkF m 29 #[.val (.int x1), .val (.int x2), .val (.int x3), .val (.int x4), .val (.ref b335), .unset, .unset, .unset, .unset, .unset, .unset, .unset, .unset, .unset, .unset] [])) _
    refine XS.aload X344.here hx rfl (hb hby at_29) rfl rfl ?_
    refine XS.iconst X344.here hx rfl (hb hby at_31) ?_
    refine XS.iloadN X344.here hx rfl (hb hby at_32) rfl ?_
    show Steps p.tables e below (T344.setTop (mkF m 33 #[.val (.int x1), .val (.int x2), .val (.int x3), .val (.int x4), .val (.ref b335), .unset, .unset, .unset, .unset, .unset, .unset, .unset, .unset, .unset, .unset] [(.int x4), (.int (3 : Int32)), (.ref b335)])) _
    refine st345 _ ?_
    show Steps p.tables e below (T345.setTop (mkF m 36 #[.val (.int x1), .val (.int x2), .val (.int x3), .val (.int x4), .val (.ref b335), .unset, .unset, .unset, .unset, .unset, .unset, .unset, .unset, .unset, .unset] [(.int vc_345), (.int (3 : Int32)), (.ref b335)])) _
    refine st347 _ ?_
    show Steps p.tables e below (T347.setTop (mkF m 37 #[.val (.int x1), .val (.int x2), .val (.int x3), .val (.int x4), .val (.ref b335), .unset, .unset, .unset, .unset, .unset, .unset, .unset, .unset, .unset, .unset] [])) _
    refine st349 _ ?_
    show Steps p.tables e below (T349.setTop (mkF m 40 #[.val (.int x1), .val (.int x2), .val (.int x3), .val (.int x4), .val (.ref b335), .unset, .unset, .unset, .unset, .unset, .unset, .unset, .unset, .unset, .unset] [(.ref b349)])) _
    refine XS.dup X349.here hx rfl (hb hby at_40) rfl rfl ?_
    refine XS.aload X349.here hx rfl (hb hby at_41) rfl rfl ?_
    show Steps p.tables e below (T349.setTop (mkF m 43 #[.val (.int x1), .val (.int x2), .val (.int x3), .val (.int x4), .val (.ref b335), .unset, .unset, .unset, .unset, .unset, .unset, .unset, .unset, .unset, .unset] [(.ref b335), (.ref b349), (.ref b349)])) _
    refine st352.trans ?_
    show Steps p.tables e below (T352.setTop (mkF m 46 #[.val (.int x1), .val (.int x2), .val (.int x3), .val (.int x4), .val (.ref b335), .unset, .unset, .unset, .unset, .unset, .unset, .unset, .unset, .unset, .unset] [(.ref b349)])) _
    refine XS.astore X352.here hx rfl (hb hby at_46) rfl rfl (l' := #[.val (.int x1), .val (.int x2), .val (.int x3), .val (.int x4), .val (.ref b335), .val (.ref b349), .unset, .unset, .unset, .unset, .unset, .unset, .unset, .unset, .unset]) rfl ?_
    refine XS.aload X352.here hx rfl (hb hby at_48) rfl rfl ?_
    show Steps p.tables e below (T352.setTop (mkF m 50 #[.val (.int x1), .val (.int x2), .val (.int x3), .val (.int x4), .val (.ref b335), .val (.ref b349), .unset, .unset, .unset, .unset, .unset, .unset, .unset, .unset, .unset] [(.ref b349)])) _
    refine st361.trans ?_
    show Steps p.tables e below (T361.setTop (mkF m 53 #[.val (.int x1), .val (.int x2), .val (.int x3), .val (.int x4), .val (.ref b335), .val (.ref b349), .unset, .unset, .unset, .unset, .unset, .unset, .unset, .unset, .unset] [(.ref b_361)])) _
    refine XS.astore X361.here hx rfl (hb hby at_53) rfl rfl (l' := #[.val (.int x1), .val (.int x2), .val (.int x3), .val (.int x4), .val (.ref b335), .val (.ref b349), .val (.ref b_361), .unset, .unset, .unset, .unset, .unset, .unset, .unset, .unset]) rfl ?_
    refine XS.iconst X361.here hx rfl (hb hby at_55) ?_
    refine XS.istore X361.here hx rfl (hb hby at_56) rfl (l' := #[.val (.int x1), .val (.int x2), .val (.int x3), .val (.int x4), .val (.ref b335), .val (.ref b349), .val (.ref b_361), .val (.int (4 : Int32)), .unset, .unset, .unset, .unset, .unset, .unset, .unset]) rfl ?_
    exact kt
  obtain ⟨jv58_363, T363, L363, X363, e363, N363, J363_0, k363⟩ : ∃ (jv58_363 : Int32) (T363 : State) (L363 : List Loc), Stand p l e room_1 (s.setVm T361.vm) m #[(.int x1), (.int x2), (.int x3), (.int x4)] below meth c T363 L363 15 132 ∧ T363.heap = T361.heap ∧ Fr n0 L363 ∧ (jv58_363 = (if vc_345 = (59 : Int32) then (3 : Int32) else (4 : Int32))) ∧ ∀ t, Steps p.tables e below (T363.setTop (mkF m 70 #[.val (.int x1), .val (.int x2), .val (.int x3), .val (.int x4), .val (.ref b335), .val (.ref b349), .val (.ref b_361), .val (.int jv58_363), .unset, .unset, .unset, .unset, .unset, .unset, .unset] [])) t → Steps p.tables e below (T361.setTop (mkF m 58 #[.val (.int x1), .val (.int x2), .val (.int x3), .val (.int x4), .val (.ref b335), .val (.ref b349), .val (.ref b_361), .val (.int (4 : Int32)), .unset, .unset, .unset, .unset, .unset, .unset, .unset] [])) t := by
    have pj363 : ∀ t, Steps p.tables e below (T361.setTop (mkF m 58 #[.val (.int x1), .val (.int x2), .val (.int x3), .val (.int x4), .val (.ref b335), .val (.ref b349), .val (.ref b_361), .val (.int (4 : Int32)), .unset, .unset, .unset, .unset, .unset, .unset, .unset] [])) t → Steps p.tables e below (T361.setTop (mkF m 58 #[.val (.int x1), .val (.int x2), .val (.int x3), .val (.int x4), .val (.ref b335), .val (.ref b349), .val (.ref b_361), .val (.int (4 : Int32)), .unset, .unset, .unset, .unset, .unset, .unset, .unset] [])) t := fun _ k => k
    have V364 : Arv Z T361.heap b335 k335 .char (4 : Int32) [(.int vc_336), (.int vc_339), (.int vc_342), (.int vc_345)] (.int (0 : Int32)) := ((V350.keep KK352 (ninS (Nat.ne_of_lt (Nat.lt_of_lt_of_le V348.lt (Nat.le_of_eq g349.symm))) nin0)).keep KK361 nin0)
    obtain ⟨cl_a365, Ar_a365, -, S_a365, N_a365, H_a365, -⟩ := id V364
    have hin_a365 : ¬ ((3 : Int32) < 0 ∨ cl_a365.slots.size ≤ ((3 : Int32)).toNatClampNeg) := inb_of S_a365 ⟨by decide, by decide⟩
    have hat_a365 : cl_a365.slots[((3 : Int32)).toNatClampNeg]? = some (.int vc_345) := H_a365.at hin_a365 rfl
    have pre366 : ∀ t, Steps p.tables e below (T361.setTop (mkF m 64 #[.val (.int x1), .val (.int x2), .val (.int x3), .val (.int x4), .val (.ref b335), .val (.ref b349), .val (.ref b_361), .val (.int (4 : Int32)), .unset, .unset, .unset, .unset, .unset, .unset, .unset] [(.int (59 : Int32)), (.int vc_345)])) t → Steps p.tables e below (T361.setTop (mkF m 58 #[.val (.int x1), .val (.int x2), .val (.int x3), .val (.int x4), .val (.ref b335), .val (.ref b349), .val (.ref b_361), .val (.int (4 : Int32)), .unset, .unset, .unset, .unset, .unset, .unset, .unset] [])) t := by
      intro t kt
      refine pj363 t ?_
      show Steps p.tables e below (T361.setTop (mkF m 58 #[.val (.int x1), .val (.int x2), .val (.int x3), .val (.int x4), .val (.ref b335), .val (.ref b349), .val (.ref b_361), .val (.int (4 : Int32)), .unset, .unset, .unset, .unset, .unset, .unset, .unset] [])) _
      refine XS.aload X361.here hx rfl (hb hby at_58) rfl rfl ?_
      refine XS.iconst X361.here hx rfl (hb hby at_60) ?_
      show Steps p.tables e below (T361.setTop (mkF m 61 #[.val (.int x1), .val (.int x2), .val (.int x3), .val (.int x4), .val (.ref b335), .val (.ref b349), .val (.ref b_361), .val (.int (4 : Int32)), .unset, .unset, .unset, .unset, .unset, .unset, .unset] [(.int (3 : Int32)), (.ref b335)])) _
      refine X361.caload hx (j := (3 : Int32)) (v := (.int vc_345)) Ar_a365.1 (State.isArrayOf_alike hZ361.alike Ar_a365.2.1) Ar_a365.2.2 hin_a365 hat_a365 (g := (mkF m 61 #[.val (.int x1), .val (.int x2), .val (.int x3), .val (.int x4), .val (.ref b335), .val (.ref b349), .val (.ref b_361), .val (.int (4 : Int32)), .unset, .unset, .unset, .unset, .unset, .unset, .unset] [(.int (3 : Int32)), (.ref b335)])) rfl rfl (hb hby at_61) _ ?_
      refine XS.bipush X361.here hx rfl (hb hby at_62) ?_
      exact kt
    by_cases hc64 : vc_345 = (59 : Int32)
    · skip
      have pre367 : ∀ t, Steps p.tables e below (T361.setTop (mkF m 70 #[.val (.int x1), .val (.int x2), .val (.int x3), .val (.int x4), .val (.ref b335), .val (.ref b349), .val (.ref b_361), .val (.int (3 : Int32)), .unset, .unset, .unset, .unset, .unset, .unset, .unset] [])) t → Steps p.tables e below (T361.setTop (mkF m 58 #[.val (.int x1), .val (.int x2), .val (.int x3), .val (.int x4), .val (.ref b335), .val (.ref b349), .val (.ref b_361), .val (.int (4 : Int32)), .unset, .unset, .unset, .unset, .unset, .unset, .unset] [])) t := by
        intro t kt
        refine pre366 t ?_
        show Steps p.tables e below (T361.setTop (mkF m 64 #[.val (.int x1), .val (.int x2), .val (.int x3), .val (.int x4), .val (.ref b335), .val (.ref b349), .val (.ref b_361), .val (.int (4 : Int32)), .unset, .unset, .unset, .unset, .unset, .unset, .unset] [(.int (59 : Int32)), (.int vc_345)])) _
        refine XS.icmpNo X361.here hx rfl (hb hby at_64) rfl (teq hc64).2 ?_
        refine XS.iconst X361.here hx rfl (hb hby at_67) ?_
        refine XS.istore X361.here hx rfl (hb hby at_68) rfl (l' := #[.val (.int x1), .val (.int x2), .val (.int x3), .val (.int x4), .val (.ref b335), .val (.ref b349), .val (.ref b_361), .val (.int (3 : Int32)), .unset, .unset, .unset, .unset, .unset, .unset, .unset]) rfl ?_
        exact kt
      exact ⟨(3 : Int32), T361, _, X361, rfl, N361, (if_pos hc64).symm, pre367⟩
    · skip
      have pre368 : ∀ t, Steps p.tables e below (T361.setTop (mkF m 70 #[.val (.int x1), .val (.int x2), .val (.int x3), .val (.int x4), .val (.ref b335), .val (.ref b349), .val (.ref b_361), .val (.int (4 : Int32)), .unset, .unset, .unset, .unset, .unset, .unset, .unset] [])) t → Steps p.tables e below (T361.setTop (mkF m 58 #[.val (.int x1), .val (.int x2), .val (.int x3), .val (.int x4), .val (.ref b335), .val (.ref b349), .val (.ref b_361), .val (.int (4 : Int32)), .unset, .unset, .unset, .unset, .unset, .unset, .unset] [])) t := by
        intro t kt
        refine pre366 t ?_
        show Steps p.tables e below (T361.setTop (mkF m 64 #[.val (.int x1), .val (.int x2), .val (.int x3), .val (.int x4), .val (.ref b335), .val (.ref b349), .val (.ref b_361), .val (.int (4 : Int32)), .unset, .unset, .unset, .unset, .unset, .unset, .unset] [(.int (59 : Int32)), (.int vc_345)])) _
        refine XS.icmpYes X361.here hx rfl (pc0 := 64) (pc' := 70) rfl (hb hby at_64) rfl (feq hc64).2 (by decide) (by decide) ?_
        exact kt
      exact ⟨(4 : Int32), T361, _, X361, rfl, N361, (if_neg hc64).symm, pre368⟩
  have pre369 : ∀ t, Steps p.tables e below (T363.setTop (mkF m 70 #[.val (.int x1), .val (.int x2), .val (.int x3), .val (.int x4), .val (.ref b335), .val (.ref b349), .val (.ref b_361), .val (.int jv58_363), .unset, .unset, .unset, .unset, .unset, .unset, .unset] [])) t → Steps p.tables e below (s₁.setTop (entryFrame m #[(.int x1), (.int x2), (.int x3), (.int x4)] maxLocals)) t := by
    intro t kt
    refine pre362 t ?_
    show Steps p.tables e below (T361.setTop (mkF m 58 #[.val (.int x1), .val (.int x2), .val (.int x3), .val (.int x4), .val (.ref b335), .val (.ref b349), .val (.ref b_361), .val (.int (4 : Int32)), .unset, .unset, .unset, .unset, .unset, .unset, .unset] [])) _
    refine k363 _ ?_
    exact kt
  obtain ⟨jv70_370, T370, L370, X370, e370, N370, J370_0, k370⟩ : ∃ (jv70_370 : Int32) (T370 : State) (L370 : List Loc), Stand p l e room_1 (s.setVm T361.vm) m #[(.int x1), (.int x2), (.int x3), (.int x4)] below meth c T370 L370 15 132 ∧ T370.heap = T361.heap ∧ Fr n0 L370 ∧ (jv70_370 = (if vc_342 = (59 : Int32) then (2 : Int32) else jv58_363)) ∧ ∀ t, Steps p.tables e below (T370.setTop (mkF m 82 #[.val (.int x1), .val (.int x2), .val (.int x3), .val (.int x4), .val (.ref b335), .val (.ref b349), .val (.ref b_361), .val (.int jv70_370), .unset, .unset, .unset, .unset, .unset, .unset, .unset] [])) t → Steps p.tables e below (T363.setTop (mkF m 70 #[.val (.int x1), .val (.int x2), .val (.int x3), .val (.int x4), .val (.ref b335), .val (.ref b349), .val (.ref b_361), .val (.int jv58_363), .unset, .unset, .unset, .unset, .unset, .unset, .unset] [])) t := by
    have pj370 : ∀ t, Steps p.tables e below (T363.setTop (mkF m 70 #[.val (.int x1), .val (.int x2), .val (.int x3), .val (.int x4), .val (.ref b335), .val (.ref b349), .val (.ref b_361), .val (.int jv58_363), .unset, .unset, .unset, .unset, .unset, .unset, .unset] [])) t → Steps p.tables e below (T363.setTop (mkF m 70 #[.val (.int x1), .val (.int x2), .val (.int x3), .val (.int x4), .val (.ref b335), .val (.ref b349), .val (.ref b_361), .val (.int jv58_363), .unset, .unset, .unset, .unset, .unset, .unset, .unset] [])) t := fun _ k => k
    have V371 : Arv Z T361.heap b335 k335 .char (4 : Int32) [(.int vc_336), (.int vc_339), (.int vc_342), (.int vc_345)] (.int (0 : Int32)) := ((V350.keep KK352 (ninS (Nat.ne_of_lt (Nat.lt_of_lt_of_le V348.lt (Nat.le_of_eq g349.symm))) nin0)).keep KK361 nin0)
    obtain ⟨cl_a372, Ar_a372, -, S_a372, N_a372, H_a372, -⟩ := id V371
    have hin_a372 : ¬ ((2 : Int32) < 0 ∨ cl_a372.slots.size ≤ ((2 : Int32)).toNatClampNeg) := inb_of S_a372 ⟨by decide, by decide⟩
    have hat_a372 : cl_a372.slots[((2 : Int32)).toNatClampNeg]? = some (.int vc_342) := H_a372.at hin_a372 rfl
    have pre373 : ∀ t, Steps p.tables e below (T363.setTop (mkF m 76 #[.val (.int x1), .val (.int x2), .val (.int x3), .val (.int x4), .val (.ref b335), .val (.ref b349), .val (.ref b_361), .val (.int jv58_363), .unset, .unset, .unset, .unset, .unset, .unset, .unset] [(.int (59 : Int32)), (.int vc_342)])) t → Steps p.tables e below (T363.setTop (mkF m 70 #[.val (.int x1), .val (.int x2), .val (.int x3), .val (.int x4), .val (.ref b335), .val (.ref b349), .val (.ref b_361), .val (.int jv58_363), .unset, .unset, .unset, .unset, .unset, .unset, .unset] [])) t := by
      intro t kt
      refine pj370 t ?_
      show Steps p.tables e below (T363.setTop (mkF m 70 #[.val (.int x1), .val (.int x2), .val (.int x3), .val (.int x4), .val (.ref b335), .val (.ref b349), .val (.ref b_361), .val (.int jv58_363), .unset, .unset, .unset, .unset, .unset, .unset, .unset] [])) _
      refine XS.aload X363.here hx rfl (hb hby at_70) rfl rfl ?_
      refine XS.iconst X363.here hx rfl (hb hby at_72) ?_
      show Steps p.tables e below (T363.setTop (mkF m 73 #[.val (.int x1), .val (.int x2), .val (.int x3), .val (.int x4), .val (.ref b335), .val (.ref b349), .val (.ref b_361), .val (.int jv58_363), .unset, .unset, .unset, .unset, .unset, .unset, .unset] [(.int (2 : Int32)), (.ref b335)])) _
      refine X363.caload hx (j := (2 : Int32)) (v := (.int vc_342)) (by rw [e363]; exact Ar_a372.1) (State.isArrayOf_alike hZ361.alike Ar_a372.2.1) Ar_a372.2.2 hin_a372 hat_a372 (g := (mkF m 73 #[.val (.int x1), .val (.int x2), .val (.int x3), .val (.int x4), .val (.ref b335), .val (.ref b349), .val (.ref b_361), .val (.int jv58_363), .unset, .unset, .unset, .unset, .unset, .unset, .unset] [(.int (2 : Int32)), (.ref b335)])) rfl rfl (hb hby at_73) _ ?_
      refine XS.bipush X363.here hx rfl (hb hby at_74) ?_
      exact kt
    by_cases hc76 : vc_342 = (59 : Int32)
    · skip
      have pre374 : ∀ t, Steps p.tables e below (T363.setTop (mkF m 82 #[.val (.int x1), .val (.int x2), .val (.int x3), .val (.int x4), .val (.ref b335), .val (.ref b349), .val (.ref b_361), .val (.int (2 : Int32)), .unset, .unset, .unset, .unset, .unset, .unset, .unset] [])) t → Steps p.tables e below (T363.setTop (mkF m 70 #[.val (.int x1), .val (.int x2), .val (.int x3), .val (.int x4), .val (.ref b335), .val (.ref b349), .val (.ref b_361), .val (.int jv58_363), .unset, .unset, .unset, .unset, .unset, .unset, .unset] [])) t := by
        intro t kt
        refine pre373 t ?_
        show Steps p.tables e below (T363.setTop (mkF m 76 #[.val (.int x1), .val (.int x2), .val (.int x3), .val (.int x4), .val (.ref b335), .val (.ref b349), .val (.ref b_361), .val (.int jv58_363), .unset, .unset, .unset, .unset, .unset, .unset, .unset] [(.int (59 : Int32)), (.int vc_342)])) _
        refine XS.icmpNo X363.here hx rfl (hb hby at_76) rfl (teq hc76).2 ?_
        refine XS.iconst X363.here hx rfl (hb hby at_79) ?_
        refine XS.istore X363.here hx rfl (hb hby at_80) rfl (l' := #[.val (.int x1), .val (.int x2), .val (.int x3), .val (.int x4), .val (.ref b335), .val (.ref b349), .val (.ref b_361), .val (.int (2 : Int32)), .unset, .unset, .unset, .unset, .unset, .unset, .unset]) rfl ?_
        exact kt
      exact ⟨(2 : Int32), T363, _, X363, e363, N363, (if_pos hc76).symm, pre374⟩
    · skip
      have pre375 : ∀ t, Steps p.tables e below (T363.setTop (mkF m 82 #[.val (.int x1), .val (.int x2), .val (.int x3), .val (.int x4), .val (.ref b335), .val (.ref b349), .val (.ref b_361), .val (.int jv58_363), .unset, .unset, .unset, .unset, .unset, .unset, .unset] [])) t → Steps p.tables e below (T363.setTop (mkF m 70 #[.val (.int x1), .val (.int x2), .val (.int x3), .val (.int x4), .val (.ref b335), .val (.ref b349), .val (.ref b_361), .val (.int jv58_363), .unset, .unset, .unset, .unset, .unset, .unset, .unset] [])) t := by
        intro t kt
        refine pre373 t ?_
        show Steps p.tables e below (T363.setTop (mkF m 76 #[.val (.int x1), .val (.int x2), .val (.int x3), .val (.int x4), .val (.ref b335), .val (.ref b349), .val (.ref b_361), .val (.int jv58_363), .unset, .unset, .unset, .unset, .unset, .unset, .unset] [(.int (59 : Int32)), (.int vc_342)])) _
        refine XS.icmpYes X363.here hx rfl (pc0 := 76) (pc' := 82) rfl (hb hby at_76) rfl (feq hc76).2 (by decide) (by decide) ?_
        exact kt
      exact ⟨jv58_363, T363, _, X363, e363, N363, (if_neg hc76).symm, pre375⟩
  have pre376 : ∀ t, Steps p.tables e below (T370.setTop (mkF m 82 #[.val (.int x1), .val (.int x2), .val (.int x3), .val (.int x4), .val (.ref b335), .val (.ref b349), .val (.ref b_361), .val (.int jv70_370), .unset, .unset, .unset, .unset, .unset, .unset, .unset] [])) t → Steps p.tables e below (s₁.setTop (entryFrame m #[(.int x1), (.int x2), (.int x3), (.int x4)] maxLocals)) t := by
    intro t kt
    refine pre369 t ?_
    show Steps p.tables e below (T363.setTop (mkF m 70 #[.val (.int x1), .val (.int x2), .val (.int x3), .val (.int x4), .val (.ref b335), .val (.ref b349), .val (.ref b_361), .val (.int jv58_363), .unset, .unset, .unset, .unset, .unset, .unset, .unset] [])) _
    refine k370 _ ?_
    exact kt
  obtain ⟨jv82_377, T377, L377, X377, e377, N377, J377_0, k377⟩ : ∃ (jv82_377 : Int32) (T377 : State) (L377 : List Loc), Stand p l e room_1 (s.setVm T361.vm) m #[(.int x1), (.int x2), (.int x3), (.int x4)] below meth c T377 L377 15 132 ∧ T377.heap = T361.heap ∧ Fr n0 L377 ∧ (jv82_377 = (if vc_339 = (59 : Int32) then (1 : Int32) else jv70_370)) ∧ ∀ t, Steps p.tables e below (T377.setTop (mkF m 94 #[.val (.int x1), .val (.int x2), .val (.int x3), .val (.int x4), .val (.ref b335), .val (.ref b349), .val (.ref b_361), .val (.int jv82_377), .unset, .unset, .unset, .unset, .unset, .unset, .unset] [])) t → Steps p.tables e below (T370.setTop (mkF m 82 #[.val (.int x1), .val (.int x2), .val (.int x3), .val (.int x4), .val (.ref b335), .val (.ref b349), .val (.ref b_361), .val (.int jv70_370), .unset, .unset, .unset, .unset, .unset, .unset, .unset] [])) t := by
    have pj377 : ∀ t, Steps p.tables e below (T370.setTop (mkF m 82 #[.val (.int x1), .val (.int x2), .val (.int x3), .val (.int x4), .val (.ref b335), .val (.ref b349), .val (.ref b_361), .val (.int jv70_370), .unset, .unset, .unset, .unset, .unset, .unset, .unset] [])) t → Steps p.tables e below (T370.setTop (mkF m 82 #[.val (.int x1), .val (.int x2), .val (.int x3), .val (.int x4), .val (.ref b335), .val (.ref b349), .val (.ref b_361), .val (.int jv70_370), .unset, .unset, .unset, .unset, .unset, .unset, .unset] [])) t := fun _ k => k
    have V378 : Arv Z T361.heap b335 k335 .char (4 : Int32) [(.int vc_336), (.int vc_339), (.int vc_342), (.int vc_345)] (.int (0 : Int32)) := ((V350.keep KK352 (ninS (Nat.ne_of_lt (Nat.lt_of_lt_of_le V348.lt (Nat.le_of_eq g349.symm))) nin0)).keep KK361 nin0)
    obtain ⟨cl_a379, Ar_a379, -, S_a379, N_a379, H_a379, -⟩ := id V378
    have hin_a379 : ¬ ((1 : Int32) < 0 ∨ cl_a379.slots.size ≤ ((1 : Int32)).toNatClampNeg) := inb_of S_a379 ⟨by decide, by decide⟩
    have hat_a379 : cl_a379.slots[((1 : Int32)).toNatClampNeg]? = some (.int vc_339) := H_a379.at hin_a379 rfl
    have pre380 : ∀ t, Steps p.tables e below (T370.setTop (mkF m 88 #[.val (.int x1), .val (.int x2), .val (.int x3), .val (.int x4), .val (.ref b335), .val (.ref b349), .val (.ref b_361), .val (.int jv70_370), .unset, .unset, .unset, .unset, .unset, .unset, .unset] [(.int (59 : Int32)), (.int vc_339)])) t → Steps p.tables e below (T370.setTop (mkF m 82 #[.val (.int x1), .val (.int x2), .val (.int x3), .val (.int x4), .val (.ref b335), .val (.ref b349), .val (.ref b_361), .val (.int jv70_370), .unset, .unset, .unset, .unset, .unset, .unset, .unset] [])) t := by
      intro t kt
      refine pj377 t ?_
      show Steps p.tables e below (T370.setTop (mkF m 82 #[.val (.int x1), .val (.int x2), .val (.int x3), .val (.int x4), .val (.ref b335), .val (.ref b349), .val (.ref b_361), .val (.int jv70_370), .unset, .unset, .unset, .unset, .unset, .unset, .unset] [])) _
      refine XS.aload X370.here hx rfl (hb hby at_82) rfl rfl ?_
      refine XS.iconst X370.here hx rfl (hb hby at_84) ?_
      show Steps p.tables e below (T370.setTop (mkF m 85 #[.val (.int x1), .val (.int x2), .val (.int x3), .val (.int x4), .val (.ref b335), .val (.ref b349), .val (.ref b_361), .val (.int jv70_370), .unset, .unset, .unset, .unset, .unset, .unset, .unset] [(.int (1 : Int32)), (.ref b335)])) _
      refine X370.caload hx (j := (1 : Int32)) (v := (.int vc_339)) (by rw [e370]; exact Ar_a379.1) (State.isArrayOf_alike hZ361.alike Ar_a379.2.1) Ar_a379.2.2 hin_a379 hat_a379 (g := (mkF m 85 #[.val (.int x1), .val (.int x2), .val (.int x3), .val (.int x4), .val (.ref b335), .val (.ref b349), .val (.ref b_361), .val (.int jv70_370), .unset, .unset, .unset, .unset, .unset, .unset, .unset] [(.int (1 : Int32)), (.ref b335)])) rfl rfl (hb hby at_85) _ ?_
      refine XS.bipush X370.here hx rfl (hb hby at_86) ?_
      exact kt
    by_cases hc88 : vc_339 = (59 : Int32)
    · skip
      have pre381 : ∀ t, Steps p.tables e below (T370.setTop (mkF m 94 #[.val (.int x1), .val (.int x2), .val (.int x3), .val (.int x4), .val (.ref b335), .val (.ref b349), .val (.ref b_361), .val (.int (1 : Int32)), .unset, .unset, .unset, .unset, .unset, .unset, .unset] [])) t → Steps p.tables e below (T370.setTop (mkF m 82 #[.val (.int x1), .val (.int x2), .val (.int x3), .val (.int x4), .val (.ref b335), .val (.ref b349), .val (.ref b_361), .val (.int jv70_370), .unset, .unset, .unset, .unset, .unset, .unset, .unset] [])) t := by
        intro t kt
        refine pre380 t ?_
        show Steps p.tables e below (T370.setTop (mkF m 88 #[.val (.int x1), .val (.int x2), .val (.int x3), .val (.int x4), .val (.ref b335), .val (.ref b349), .val (.ref b_361), .val (.int jv70_370), .unset, .unset, .unset, .unset, .unset, .unset, .unset] [(.int (59 : Int32)), (.int vc_339)])) _
        refine XS.icmpNo X370.here hx rfl (hb hby at_88) rfl (teq hc88).2 ?_
        refine XS.iconst X370.here hx rfl (hb hby at_91) ?_
        refine XS.istore X370.here hx rfl (hb hby at_92) rfl (l' := #[.val (.int x1), .val (.int x2), .val (.int x3), .val (.int x4), .val (.ref b335), .val (.ref b349), .val (.ref b_361), .val (.int (1 : Int32)), .unset, .unset, .unset, .unset, .unset, .unset, .unset]) rfl ?_
        exact kt
      exact ⟨(1 : Int32), T370, _, X370, e370, N370, (if_pos hc88).symm, pre381⟩
    · skip
      have pre382 : ∀ t, Steps p.tables e below (T370.setTop (mkF m 94 #[.val (.int x1), .val (.int x2), .val (.int x3), .val (.int x4), .val (.ref b335), .val (.ref b349), .val (.ref b_361), .val (.int jv70_370), .unset, .unset, .unset, .unset, .unset, .unset, .unset] [])) t → Steps p.tables e below (T370.setTop (mkF m 82 #[.val (.int x1), .val (.int x2), .val (.int x3), .val (.int x4), .val (.ref b335), .val (.ref b349), .val (.ref b_361), .val (.int jv70_370), .unset, .unset, .unset, .unset, .unset, .unset, .unset] [])) t := by
        intro t kt
        refine pre380 t ?_
        show Steps p.tables e below (T370.setTop (mkF m 88 #[.val (.int x1), .val (.int x2), .val (.int x3), .val (.int x4), .val (.ref b335), .val (.ref b349), .val (.ref b_361), .val (.int jv70_370), .unset, .unset, .unset, .unset, .unset, .unset, .unset] [(.int (59 : Int32)), (.int vc_339)])) _
        refine XS.icmpYes X370.here hx rfl (pc0 := 88) (pc' := 94) rfl (hb hby at_88) rfl (feq hc88).2 (by decide) (by decide) ?_
        exact kt
      exact ⟨jv70_370, T370, _, X370, e370, N370, (if_neg hc88).symm, pre382⟩
  have pre383 : ∀ t, Steps p.tables e below (T377.setTop (mkF m 94 #[.val (.int x1), .val (.int x2), .val (.int x3), .val (.int x4), .val (.ref b335), .val (.ref b349), .val (.ref b_361), .val (.int jv82_377), .unset, .unset, .unset, .unset, .unset, .unset, .unset] [])) t → Steps p.tables e below (s₁.setTop (entryFrame m #[(.int x1), (.int x2), (.int x3), (.int x4)] maxLocals)) t := by
    intro t kt
    refine pre376 t ?_
    show Steps p.tables e below (T370.setTop (mkF m 82 #[.val (.int x1), .val (.int x2), .val (.int x3), .val (.int x4), .val (.ref b335), .val (.ref b349), .val (.ref b_361), .val (.int jv70_370), .unset, .unset, .unset, .unset, .unset, .unset, .unset] [])) _
    refine k377 _ ?_
    exact kt
  obtain ⟨jv94_384, T384, L384, X384, e384, N384, J384_0, k384⟩ : ∃ (jv94_384 : Int32) (T384 : State) (L384 : List Loc), Stand p l e room_1 (s.setVm T361.vm) m #[(.int x1), (.int x2), (.int x3), (.int x4)] below meth c T384 L384 15 132 ∧ T384.heap = T361.heap ∧ Fr n0 L384 ∧ (jv94_384 = (if vc_336 = (59 : Int32) then (0 : Int32) else jv82_377)) ∧ ∀ t, Steps p.tables e below (T384.setTop (mkF m 106 #[.val (.int x1), .val (.int x2), .val (.int x3), .val (.int x4), .val (.ref b335), .val (.ref b349), .val (.ref b_361), .val (.int jv94_384), .unset, .unset, .unset, .unset, .unset, .unset, .unset] [])) t → Steps p.tables e below (T377.setTop (mkF m 94 #[.val (.int x1), .val (.int x2), .val (.int x3), .val (.int x4), .val (.ref b335), .val (.ref b349), .val (.ref b_361), .val (.int jv82_377), .unset, .unset, .unset, .unset, .unset, .unset, .unset] [])) t := by
    have pj384 : ∀ t, Steps p.tables e below (T377.setTop (mkF m 94 #[.val (.int x1), .val (.int x2), .val (.int x3), .val (.int x4), .val (.ref b335), .val (.ref b349), .val (.ref b_361), .val (.int jv82_377), .unset, .unset, .unset, .unset, .unset, .unset, .unset] [])) t → Steps p.tables e below (T377.setTop (mkF m 94 #[.val (.int x1), .val (.int x2), .val (.int x3), .val (.int x4), .val (.ref b335), .val (.ref b349), .val (.ref b_361), .val (.int jv82_377), .unset, .unset, .unset, .unset, .unset, .unset, .unset] [])) t := fun _ k => k
    have V385 : Arv Z T361.heap b335 k335 .char (4 : Int32) [(.int vc_336), (.int vc_339), (.int vc_342), (.int vc_345)] (.int (0 : Int32)) := ((V350.keep KK352 (ninS (Nat.ne_of_lt (Nat.lt_of_lt_of_le V348.lt (Nat.le_of_eq g349.symm))) nin0)).keep KK361 nin0)
    obtain ⟨cl_a386, Ar_a386, -, S_a386, N_a386, H_a386, -⟩ := id V385
    have hin_a386 : ¬ ((0 : Int32) < 0 ∨ cl_a386.slots.size ≤ ((0 : Int32)).toNatClampNeg) := inb_of S_a386 ⟨by decide, by decide⟩
    have hat_a386 : cl_a386.slots[((0 : Int32)).toNatClampNeg]? = some (.int vc_336) := H_a386.at hin_a386 rfl
    have pre387 : ∀ t, Steps p.tables e below (T377.setTop (mkF m 100 #[.val (.int x1), .val (.int x2), .val (.int x3), .val (.int x4), .val (.ref b335), .val (.ref b349), .val (.ref b_361), .val (.int jv82_377), .unset, .unset, .unset, .unset, .unset, .unset, .unset] [(.int (59 : Int32)), (.int vc_336)])) t → Steps p.tables e below (T377.setTop (mkF m 94 #[.val (.int x1), .val (.int x2), .val (.int x3), .val (.int x4), .val (.ref b335), .val (.ref b349), .val (.ref b_361), .val (.int jv82_377), .unset, .unset, .unset, .unset, .unset, .unset, .unset] [])) t := by
      intro t kt
      refine pj384 t ?_
      show Steps p.tables e below (T377.setTop (mkF m 94 #[.val (.int x1), .val (.int x2), .val (.int x3), .val (.int x4), .val (.ref b335), .val (.ref b349), .val (.ref b_361), .val (.int jv82_377), .unset, .unset, .unset, .unset, .unset, .unset, .unset] [])) _
      refine XS.aload X377.here hx rfl (hb hby at_94) rfl rfl ?_
      refine XS.iconst X377.here hx rfl (hb hby at_96) ?_
      show Steps p.tables e below (T377.setTop (mkF m 97 #[.val (.int x1), .val (.int x2), .val (.int x3), .val (.int x4), .val (.ref b335), .val (.ref b349), .val (.ref b_361), .val (.int jv82_377), .unset, .unset, .unset, .unset, .unset, .unset, .unset] [(.int (0 : Int32)), (.ref b335)])) _
      refine X377.caload hx (j := (0 : Int32)) (v := (.int vc_336)) (by rw [e377]; exact Ar_a386.1) (State.isArrayOf_alike hZ361.alike Ar_a386.2.1) Ar_a386.2.2 hin_a386 hat_a386 (g := (mkF m 97 #[.val (.int x1), .val (.int x2), .val (.int x3), .val (.int x4), .val (.ref b335), .val (.ref b349), .val (.ref b_361), .val (.int jv82_377), .unset, .unset, .unset, .unset, .unset, .unset, .unset] [(.int (0 : Int32)), (.ref b335)])) rfl rfl (hb hby at_97) _ ?_
      refine XS.bipush X377.here hx rfl (hb hby at_98) ?_
      exact kt
    by_cases hc100 : vc_336 = (59 : Int32)
    · skip
      have pre388 : ∀ t, Steps p.tables e below (T377.setTop (mkF m 106 #[.val (.int x1), .val (.int x2), .val (.int x3), .val (.int x4), .val (.ref b335), .val (.ref b349), .val (.ref b_361), .val (.int (0 : Int32)), .unset, .unset, .unset, .unset, .unset, .unset, .unset] [])) t → Steps p.tables e below (T377.setTop (mkF m 94 #[.val (.int x1), .val (.int x2), .val (.int x3), .val (.int x4), .val (.ref b335), .val (.ref b349), .val (.ref b_361), .val (.int jv82_377), .unset, .unset, .unset, .unset, .unset, .unset, .unset] [])) t := by
        intro t kt
        refine pre387 t ?_
        show Steps p.tables e below (T377.setTop (mkF m 100 #[.val (.int x1), .val (.int x2), .val (.int x3), .val (.int x4), .val (.ref b335), .val (.ref b349), .val (.ref b_361), .val (.int jv82_377), .unset, .unset, .unset, .unset, .unset, .unset, .unset] [(.int (59 : Int32)), (.int vc_336)])) _
        refine XS.icmpNo X377.here hx rfl (hb hby at_100) rfl (teq hc100).2 ?_
        refine XS.iconst X377.here hx rfl (hb hby at_103) ?_
        refine XS.istore X377.here hx rfl (hb hby at_104) rfl (l' := #[.val (.int x1), .val (.int x2), .val (.int x3), .val (.int x4), .val (.ref b335), .val (.ref b349), .val (.ref b_361), .val (.int (0 : Int32)), .unset, .unset, .unset, .unset, .unset, .unset, .unset]) rfl ?_
        exact kt
      exact ⟨(0 : Int32), T377, _, X377, e377, N377, (if_pos hc100).symm, pre388⟩
    · skip
      have pre389 : ∀ t, Steps p.tables e below (T377.setTop (mkF m 106 #[.val (.int x1), .val (.int x2), .val (.int x3), .val (.int x4), .val (.ref b335), .val (.ref b349), .val (.ref b_361), .val (.int jv82_377), .unset, .unset, .unset, .unset, .unset, .unset, .unset] [])) t → Steps p.tables e below (T377.setTop (mkF m 94 #[.val (.int x1), .val (.int x2), .val (.int x3), .val (.int x4), .val (.ref b335), .val (.ref b349), .val (.ref b_361), .val (.int jv82_377), .unset, .unset, .unset, .unset, .unset, .unset, .unset] [])) t := by
        intro t kt
        refine pre387 t ?_
        show Steps p.tables e below (T377.setTop (mkF m 100 #[.val (.int x1), .val (.int x2), .val (.int x3), .val (.int x4), .val (.ref b335), .val (.ref b349), .val (.ref b_361), .val (.int jv82_377), .unset, .unset, .unset, .unset, .unset, .unset, .unset] [(.int (59 : Int32)), (.int vc_336)])) _
        refine XS.icmpYes X377.here hx rfl (pc0 := 100) (pc' := 106) rfl (hb hby at_100) rfl (feq hc100).2 (by decide) (by decide) ?_
        exact kt
      exact ⟨jv82_377, T377, _, X377, e377, N377, (if_neg hc100).symm, pre389⟩
  have pre390 : ∀ t, Steps p.tables e below (T384.setTop (mkF m 106 #[.val (.int x1), .val (.int x2), .val (.int x3), .val (.int x4), .val (.ref b335), .val (.ref b349), .val (.ref b_361), .val (.int jv94_384), .unset, .unset, .unset, .unset, .unset, .unset, .unset] [])) t → Steps p.tables e below (s₁.setTop (entryFrame m #[(.int x1), (.int x2), (.int x3), (.int x4)] maxLocals)) t := by
    intro t kt
    refine pre383 t ?_
    show Steps p.tables e below (T377.setTop (mkF m 94 #[.val (.int x1), .val (.int x2), .val (.int x3), .val (.int x4), .val (.ref b335), .val (.ref b349), .val (.ref b_361), .val (.int jv82_377), .unset, .unset, .unset, .unset, .unset, .unset, .unset] [])) _
    refine k384 _ ?_
    exact kt
  obtain ⟨jv106_391, T391, L391, X391, e391, N391, J391_0, k391⟩ : ∃ (jv106_391 : Int32) (T391 : State) (L391 : List Loc), Stand p l e room_1 (s.setVm T361.vm) m #[(.int x1), (.int x2), (.int x3), (.int x4)] below meth c T391 L391 15 132 ∧ T391.heap = T361.heap ∧ Fr n0 L391 ∧ (jv106_391 = (own_b ((0 : Int32) < jv94_384 ∧ (32 : Int32) < vc_336))) ∧ ∀ t, Steps p.tables e below (T391.setTop (mkF m 126 #[.val (.int x1), .val (.int x2), .val (.int x3), .val (.int x4), .val (.ref b335), .val (.ref b349), .val (.ref b_361), .val (.int jv94_384), .unset, .unset, .unset, .unset, .unset, .unset, .unset] [(.int jv106_391)])) t → Steps p.tables e below (T384.setTop (mkF m 106 #[.val (.int x1), .val (.int x2), .val (.int x3), .val (.int x4), .val (.ref b335), .val (.ref b349), .val (.ref b_361), .val (.int jv94_384), .unset, .unset, .unset, .unset, .unset, .unset, .unset] [])) t := by
    have pj391 : ∀ t, Steps p.tables e below (T384.setTop (mkF m 106 #[.val (.int x1), .val (.int x2), .val (.int x3), .val (.int x4), .val (.ref b335), .val (.ref b349), .val (.ref b_361), .val (.int jv94_384), .unset, .unset, .unset, .unset, .unset, .unset, .unset] [])) t → Steps p.tables e below (T384.setTop (mkF m 106 #[.val (.int x1), .val (.int x2), .val (.int x3), .val (.int x4), .val (.ref b335), .val (.ref b349), .val (.ref b_361), .val (.int jv94_384), .unset, .unset, .unset, .unset, .unset, .unset, .unset] [])) t := fun _ k => k
    have pre392 : ∀ t, Steps p.tables e below (T384.setTop (mkF m 109 #[.val (.int x1), .val (.int x2), .val (.int x3), .val (.int x4), .val (.ref b335), .val (.ref b349), .val (.ref b_361), .val (.int jv94_384), .unset, .unset, .unset, .unset, .unset, .unset, .unset] [(.int jv94_384), (.int (0 : Int32))])) t → Steps p.tables e below (T384.setTop (mkF m 106 #[.val (.int x1), .val (.int x2), .val (.int x3), .val (.int x4), .val (.ref b335), .val (.ref b349), .val (.ref b_361), .val (.int jv94_384), .unset, .unset, .unset, .unset, .unset, .unset, .unset] [])) t := by
      intro t kt
      refine pj391 t ?_
      show Steps p.tables e below (T384.setTop (mkF m 106 #[.val (.int x1), .val (.int x2), .val (.int x3), .val (.int x4), .val (.ref b335), .val (.ref b349), .val (.ref b_361), .val (.int jv94_384), .unset, .unset, .unset, .unset, .unset, .unset, .unset] [])) _
      refine XS.iconst X384.here hx rfl (hb hby at_106) ?_
      refine XS.iload X384.here hx rfl (hb hby at_107) rfl ?_
      exact kt
    by_cases hc109 : (0 : Int32) < jv94_384
    · skip
      have V393 : Arv Z T361.heap b335 k335 .char (4 : Int32) [(.int vc_336), (.int vc_339), (.int vc_342), (.int vc_345)] (.int (0 : Int32)) := ((V350.keep KK352 (ninS (Nat.ne_of_lt (Nat.lt_of_lt_of_le V348.lt (Nat.le_of_eq g349.symm))) nin0)).keep KK361 nin0)
      obtain ⟨cl_a394, Ar_a394, -, S_a394, N_a394, H_a394, -⟩ := id V393
      have hin_a394 : ¬ ((0 : Int32) < 0 ∨ cl_a394.slots.size ≤ ((0 : Int32)).toNatClampNeg) := inb_of S_a394 ⟨by decide, by decide⟩
      have hat_a394 : cl_a394.slots[((0 : Int32)).toNatClampNeg]? = some (.int vc_336) := H_a394.at hin_a394 rfl
      have pre395 : ∀ t, Steps p.tables e below (T384.setTop (mkF m 118 #[.val (.int x1), .val (.int x2), .val (.int x3), .val (.int x4), .val (.ref b335), .val (.ref b349), .val (.ref b_361), .val (.int jv94_384), .unset, .unset, .unset, .unset, .unset, .unset, .unset] [(.int (32 : Int32)), (.int vc_336)])) t → Steps p.tables e below (T384.setTop (mkF m 106 #[.val (.int x1), .val (.int x2), .val (.int x3), .val (.int x4), .val (.ref b335), .val (.ref b349), .val (.ref b_361), .val (.int jv94_384), .unset, .unset, .unset, .unset, .unset, .unset, .unset] [])) t := by
        intro t kt
        refine pre392 t ?_
        show Steps p.tables e below (T384.setTop (mkF m 109 #[.val (.int x1), .val (.int x2), .val (.int x3), .val (.int x4), .val (.ref b335), .val (.ref b349), .val (.ref b_361), .val (.int jv94_384), .unset, .unset, .unset, .unset, .unset, .unset, .unset] [(.int jv94_384), (.int (0 : Int32))])) _
        refine XS.icmpNo X384.here hx rfl (hb hby at_109) rfl (tlt hc109).2.1 ?_
        refine XS.aload X384.here hx rfl (hb hby at_112) rfl rfl ?_
        refine XS.iconst X384.here hx rfl (hb hby at_114) ?_
        show Steps p.tables e below (T384.setTop (mkF m 115 #[.val (.int x1), .val (.int x2), .val (.int x3), .val (.int x4), .val (.ref b335), .val (.ref b349), .val (.ref b_361), .val (.int jv94_384), .unset, .unset, .unset, .unset, .unset, .unset, .unset] [(.int (0 : Int32)), (.ref b335)])) _
        refine X384.caload hx (j := (0 : Int32)) (v := (.int vc_336)) (by rw [e384]; exact Ar_a394.1) (State.isArrayOf_alike hZ361.alike Ar_a394.2.1) Ar_a394.2.2 hin_a394 hat_a394 (g := (mkF m 115 #[.val (.int x1), .val (.int x2), .val (.int x3), .val (.int x4), .val (.ref b335), .val (.ref b349), .val (.ref b_361), .val (.int jv94_384), .unset, .unset, .unset, .unset, .unset, .unset, .unset] [(.int (0 : Int32)), (.ref b335)])) rfl rfl (hb hby at_115) _ ?_
        refine XS.bipush X384.here hx rfl (hb hby at_116) ?_
        exact kt
      by_cases hc118 : (32 : Int32) < vc_336
      · skip
        have pre396 : ∀ t, Steps p.tables e below (T384.setTop (mkF m 126 #[.val (.int x1), .val (.int x2), .val (.int x3), .val (.int x4), .val (.ref b335), .val (.ref b349), .val (.ref b_361), .val (.int jv94_384), .unset, .unset, .unset, .unset, .unset, .unset, .unset] [(.int (1 : Int32))])) t → Steps p.tables e below (T384.setTop (mkF m 106 #[.val (.int x1), .val (.int x2), .val (.int x3), .val (.int x4), .val (.ref b335), .val (.ref b349), .val (.ref b_361), .val (.int jv94_384), .unset, .unset, .unset, .unset, .unset, .unset, .unset] [])) t := by
          intro t kt
          refine pre395 t ?_
          show Steps p.tables e below (T384.setTop (mkF m 118 #[.val (.int x1), .val (.int x2), .val (.int x3), .val (.int x4), .val (.ref b335), .val (.ref b349), .val (.ref b_361), .val (.int jv94_384), .unset, .unset, .unset, .unset, .unset, .unset, .unset] [(.int (32 : Int32)), (.int vc_336)])) _
          refine XS.icmpNo X384.here hx rfl (hb hby at_118) rfl (tlt hc118).2.2.2 ?_
          refine XS.iconst X384.here hx rfl (hb hby at_121) ?_
          refine XS.goto X384.here hx rfl (pc0 := 122) (pc' := 126) rfl (hb hby at_122) (by decide) (by decide) ?_
          exact kt
        exact ⟨(1 : Int32), T384, _, X384, e384, N384, (own_bt ⟨hc109, hc118⟩).symm, pre396⟩
      · skip
        have pre397 : ∀ t, Steps p.tables e below (T384.setTop (mkF m 126 #[.val (.int x1), .val (.int x2), .val (.int x3), .val (.int x4), .val (.ref b335), .val (.ref b349), .val (.ref b_361), .val (.int jv94_384), .unset, .unset, .unset, .unset, .unset, .unset, .unset] [(.int (0 : Int32))])) t → Steps p.tables e below (T384.setTop (mkF m 106 #[.val (.int x1), .val (.int x2), .val (.int x3), .val (.int x4), .val (.ref b335), .val (.ref b349), .val (.ref b_361), .val (.int jv94_384), .unset, .unset, .unset, .unset, .unset, .unset, .unset] [])) t := by
          intro t kt
          refine pre395 t ?_
          show Steps p.tables e below (T384.setTop (mkF m 118 #[.val (.int x1), .val (.int x2), .val (.int x3), .val (.int x4), .val (.ref b335), .val (.ref b349), .val (.ref b_361), .val (.int jv94_384), .unset, .unset, .unset, .unset, .unset, .unset, .unset] [(.int (32 : Int32)), (.int vc_336)])) _
          refine XS.icmpYes X384.here hx rfl (pc0 := 118) (pc' := 125) rfl (hb hby at_118) rfl (flt hc118).2.2.2 (by decide) (by decide) ?_
          refine XS.iconst X384.here hx rfl (hb hby at_125) ?_
          exact kt
        exact ⟨(0 : Int32), T384, _, X384, e384, N384, (own_bf (fun q => hc118 q.2)).symm, pre397⟩
    · skip
      have pre398 : ∀ t, Steps p.tables e below (T384.setTop (mkF m 126 #[.val (.int x1), .val (.int x2), .val (.int x3), .val (.int x4), .val (.ref b335), .val (.ref b349), .val (.ref b_361), .val (.int jv94_384), .unset, .unset, .unset, .unset, .unset, .unset, .unset] [(.int (0 : Int32))])) t → Steps p.tables e below (T384.setTop (mkF m 106 #[.val (.int x1), .val (.int x2), .val (.int x3), .val (.int x4), .val (.ref b335), .val (.ref b349), .val (.ref b_361), .val (.int jv94_384), .unset, .unset, .unset, .unset, .unset, .unset, .unset] [])) t := by
        intro t kt
        refine pre392 t ?_
        show Steps p.tables e below (T384.setTop (mkF m 109 #[.val (.int x1), .val (.int x2), .val (.int x3), .val (.int x4), .val (.ref b335), .val (.ref b349), .val (.ref b_361), .val (.int jv94_384), .unset, .unset, .unset, .unset, .unset, .unset, .unset] [(.int jv94_384), (.int (0 : Int32))])) _
        refine XS.icmpYes X384.here hx rfl (pc0 := 109) (pc' := 125) rfl (hb hby at_109) rfl (flt hc109).2.1 (by decide) (by decide) ?_
        refine XS.iconst X384.here hx rfl (hb hby at_125) ?_
        exact kt
      exact ⟨(0 : Int32), T384, _, X384, e384, N384, (own_bf (fun q => hc109 q.1)).symm, pre398⟩
  have pre399 : ∀ t, Steps p.tables e below (T391.setTop (mkF m 128 #[.val (.int x1), .val (.int x2), .val (.int x3), .val (.int x4), .val (.ref b335), .val (.ref b349), .val (.ref b_361), .val (.int jv94_384), .val (.int jv106_391), .unset, .unset, .unset, .unset, .unset, .unset] [])) t → Steps p.tables e below (s₁.setTop (entryFrame m #[(.int x1), (.int x2), (.int x3), (.int x4)] maxLocals)) t := by
    intro t kt
    refine pre390 t ?_
    show Steps p.tables e below (T384.setTop (mkF m 106 #[.val (.int x1), .val (.int x2), .val (.int x3), .val (.int x4), .val (.ref b335), .val (.ref b349), .val (.ref b_361), .val (.int jv94_384), .unset, .unset, .unset, .unset, .unset, .unset, .unset] [])) _
    refine k391 _ ?_
    refine XS.istore X391.here hx rfl (hb hby at_126) rfl (l' := #[.val (.int x1), .val (.int x2), .val (.int x3), .val (.int x4), .val (.ref b335), .val (.ref b349), .val (.ref b_361), .val (.int jv94_384), .val (.int jv106_391), .unset, .unset, .unset, .unset, .unset, .unset]) rfl ?_
    exact kt
  obtain ⟨jv128_400, T400, L400, X400, e400, N400, J400_0, k400⟩ : ∃ (jv128_400 : Int32) (T400 : State) (L400 : List Loc), Stand p l e room_1 (s.setVm T361.vm) m #[(.int x1), (.int x2), (.int x3), (.int x4)] below meth c T400 L400 15 132 ∧ T400.heap = T361.heap ∧ Fr n0 L400 ∧ (jv128_400 = (own_b ((1 : Int32) < jv94_384 ∧ (32 : Int32) < vc_339))) ∧ ∀ t, Steps p.tables e below (T400.setTop (mkF m 148 #[.val (.int x1), .val (.int x2), .val (.int x3), .val (.int x4), .val (.ref b335), .val (.ref b349), .val (.ref b_361), .val (.int jv94_384), .val (.int jv106_391), .unset, .unset, .unset, .unset, .unset, .unset] [(.int jv128_400)])) t → Steps p.tables e below (T391.setTop (mkF m 128 #[.val (.int x1), .val (.int x2), .val (.int x3), .val (.int x4), .val (.ref b335), .val (.ref b349), .val (.ref b_361), .val (.int jv94_384), .val (.int jv106_391), .unset, .unset, .unset, .unset, .unset, .unset] [])) t := by
    have pj400 : ∀ t, Steps p.tables e below (T391.setTop (mkF m 128 #[.val (.int x1), .val (.int x2), .val (.int x3), .val (.int x4), .val (.ref b335), .val (.ref b349), .val (.ref b_361), .val (.int jv94_384), .val (.int jv106_391), .unset, .unset, .unset, .unset, .unset, .unset] [])) t → Steps p.tables e below (T391.setTop (mkF m 128 #[.val (.int x1), .val (.int x2), .val (.int x3), .val (.int x4), .val (.ref b335), .val (.ref b349), .val (.ref b_361), .val (.int jv94_384), .val (.int jv106_391), .unset, .unset, .unset, .unset, .unset, .unset] [])) t := fun _ k => k
    have pre401 : ∀ t, Steps p.tables e below (T391.setTop (mkF m 131 #[.val (.int x1), .val (.int x2), .val (.int x3), .val (.int x4), .val (.ref b335), .val (.ref b349), .val (.ref b_361), .val (.int jv94_384), .val (.int jv106_391), .unset, .unset, .unset, .unset, .unset, .unset] [(.int jv94_384), (.int (1 : Int32))])) t → Steps p.tables e below (T391.setTop (mkF m 128 #[.val (.int x1), .val (.int x2), .val (.int x3), .val (.int x4), .val (.ref b335), .val (.ref b349), .val (.ref b_361), .val (.int jv94_384), .val (.int jv106_391), .unset, .unset, .unset, .unset, .unset, .unset] [])) t := by
      intro t kt
      refine pj400 t ?_
      show Steps p.tables e below (T391.setTop (mkF m 128 #[.val (.int x1), .val (.int x2), .val (.int x3), .val (.int x4), .val (.ref b335), .val (.ref b349), .val (.ref b_361), .val (.int jv94_384), .val (.int jv106_391), .unset, .unset, .unset, .unset, .unset, .unset] [])) _
      refine XS.iconst X391.here hx rfl (hb hby at_128) ?_
      refine XS.iload X391.here hx rfl (hb hby at_129) rfl ?_
      exact kt
    by_cases hc131 : (1 : Int32) < jv94_384
    · skip
      have V402 : Arv Z T361.heap b335 k335 .char (4 : Int32) [(.int vc_336), (.int vc_339), (.int vc_342), (.int vc_345)] (.int (0 : Int32)) := ((V350.keep KK352 (ninS (Nat.ne_of_lt (Nat.lt_of_lt_of_le V348.lt (Nat.le_of_eq g349.symm))) nin0)).keep KK361 nin0)
      obtain ⟨cl_a403, Ar_a403, -, S_a403, N_a403, H_a403, -⟩ := id V402
      have hin_a403 : ¬ ((1 : Int32) < 0 ∨ cl_a403.slots.size ≤ ((1 : Int32)).toNatClampNeg) := inb_of S_a403 ⟨by decide, by decide⟩
      have hat_a403 : cl_a403.slots[((1 : Int32)).toNatClampNeg]? = some (.int vc_339) := H_a403.at hin_a403 rfl
      have pre404 : ∀ t, Steps p.tables e below (T391.setTop (mkF m 140 #[.val (.int x1), .val (.int x2), .val (.int x3), .val (.int x4), .val (.ref b335), .val (.ref b349), .val (.ref b_361), .val (.int jv94_384), .val (.int jv106_391), .unset, .unset, .unset, .unset, .unset, .unset] [(.int (32 : Int32)), (.int vc_339)])) t → Steps p.tables e below (T391.setTop (mkF m 128 #[.val (.int x1), .val (.int x2), .val (.int x3), .val (.int x4), .val (.ref b335), .val (.ref b349), .val (.ref b_361), .val (.int jv94_384), .val (.int jv106_391), .unset, .unset, .unset, .unset, .unset, .unset] [])) t := by
        intro t kt
        refine pre401 t ?_
        show Steps p.tables e below (T391.setTop (mkF m 131 #[.val (.int x1), .val (.int x2), .val (.int x3), .val (.int x4), .val (.ref b335), .val (.ref b349), .val (.ref b_361), .val (.int jv94_384), .val (.int jv106_391), .unset, .unset, .unset, .unset, .unset, .unset] [(.int jv94_384), (.int (1 : Int32))])) _
        refine XS.icmpNo X391.here hx rfl (hb hby at_131) rfl (tlt hc131).2.1 ?_
        refine XS.aload X391.here hx rfl (hb hby at_134) rfl rfl ?_
        refine XS.iconst X391.here hx rfl (hb hby at_136) ?_
        show Steps p.tables e below (T391.setTop (mkF m 137 #[.val (.int x1), .val (.int x2), .val (.int x3), .val (.int x4), .val (.ref b335), .val (.ref b349), .val (.ref b_361), .val (.int jv94_384), .val (.int jv106_391), .unset, .unset, .unset, .unset, .unset, .unset] [(.int (1 : Int32)), (.ref b335)])) _
        refine X391.caload hx (j := (1 : Int32)) (v := (.int vc_339)) (by rw [e391]; exact Ar_a403.1) (State.isArrayOf_alike hZ361.alike Ar_a403.2.1) Ar_a403.2.2 hin_a403 hat_a403 (g := (mkF m 137 #[.val (.int x1), .val (.int x2), .val (.int x3), .val (.int x4), .val (.ref b335), .val (.ref b349), .val (.ref b_361), .val (.int jv94_384), .val (.int jv106_391), .unset, .unset, .unset, .unset, .unset, .unset] [(.int (1 : Int32)), (.ref b335)])) rfl rfl (hb hby at_137) _ ?_
        refine XS.bipush X391.here hx rfl (hb hby at_138) ?_
        exact kt
      by_cases hc140 : (32 : Int32) < vc_339
      · skip
        have pre405 : ∀ t, Steps p.tables e below (T391.setTop (mkF m 148 #[.val (.int x1), .val (.int x2), .val (.int x3), .val (.int x4), .val (.ref b335), .val (.ref b349), .val (.ref b_361), .val (.int jv94_384), .val (.int jv106_391), .unset, .unset, .unset, .unset, .unset, .unset] [(.int (1 : Int32))])) t → Steps p.tables e below (T391.setTop (mkF m 128 #[.val (.int x1), .val (.int x2), .val (.int x3), .val (.int x4), .val (.ref b335), .val (.ref b349), .val (.ref b_361), .val (.int jv94_384), .val (.int jv106_391), .unset, .unset, .unset, .unset, .unset, .unset] [])) t := by
          intro t kt
          refine pre404 t ?_
          show Steps p.tables e below (T391.setTop (mkF m 140 #[.val (.int x1), .val (.int x2), .val (.int x3), .val (.int x4), .val (.ref b335), .val (.ref b349), .val (.ref b_361), .val (.int jv94_384), .val (.int jv106_391), .unset, .unset, .unset, .unset, .unset, .unset] [(.int (32 : Int32)), (.int vc_339)])) _
          refine XS.icmpNo X391.here hx rfl (hb hby at_140) rfl (tlt hc140).2.2.2 ?_
          refine XS.iconst X391.here hx rfl (hb hby at_143) ?_
          refine XS.goto X391.here hx rfl (pc0 := 144) (pc' := 148) rfl (hb hby at_144) (by decide) (by decide) ?_
          exact kt
        exact ⟨(1 : Int32), T391, _, X391, e391, N391, (own_bt ⟨hc131, hc140⟩).symm, pre405⟩
      · skip
        have pre406 : ∀ t, Steps p.tables e below (T391.setTop (mkF m 148 #[.val (.int x1), .val (.int x2), .val (.int x3), .val (.int x4), .val (.ref b335), .val (.ref b349), .val (.ref b_361), .val (.int jv94_384), .val (.int jv106_391), .unset, .unset, .unset, .unset, .unset, .unset] [(.int (0 : Int32))])) t → Steps p.tables e below (T391.setTop (mkF m 128 #[.val (.int x1), .val (.int x2), .val (.int x3), .val (.int x4), .val (.ref b335), .val (.ref b349), .val (.ref b_361), .val (.int jv94_384), .val (.int jv106_391), .unset, .unset, .unset, .unset, .unset, .unset] [])) t := by
          intro t kt
          refine pre404 t ?_
          show Steps p.tables e below (T391.setTop (mkF m 140 #[.val (.int x1), .val (.int x2), .val (.int x3), .val (.int x4), .val (.ref b335), .val (.ref b349), .val (.ref b_361), .val (.int jv94_384), .val (.int jv106_391), .unset, .unset, .unset, .unset, .unset, .unset] [(.int (32 : Int32)), (.int vc_339)])) _
          refine XS.icmpYes X391.here hx rfl (pc0 := 140) (pc' := 147) rfl (hb hby at_140) rfl (flt hc140).2.2.2 (by decide) (by decide) ?_
          refine XS.iconst X391.here hx rfl (hb hby at_147) ?_
          exact kt
        exact ⟨(0 : Int32), T391, _, X391, e391, N391, (own_bf (fun q => hc140 q.2)).symm, pre406⟩
    · skip
      have pre407 : ∀ t, Steps p.tables e below (T391.setTop (mkF m 148 #[.val (.int x1), .val (.int x2), .val (.int x3), .val (.int x4), .val (.ref b335), .val (.ref b349), .val (.ref b_361), .val (.int jv94_384), .val (.int jv106_391), .unset, .unset, .unset, .unset, .unset, .unset] [(.int (0 : Int32))])) t → Steps p.tables e below (T391.setTop (mkF m 128 #[.val (.int x1), .val (.int x2), .val (.int x3), .val (.int x4), .val (.ref b335), .val (.ref b349), .val (.ref b_361), .val (.int jv94_384), .val (.int jv106_391), .unset, .unset, .unset, .unset, .unset, .unset] [])) t := by
        intro t kt
        refine pre401 t ?_
        show Steps p.tables e below (T391.setTop (mkF m 131 #[.val (.int x1), .val (.int x2), .val (.int x3), .val (.int x4), .val (.ref b335), .val (.ref b349), .val (.ref b_361), .val (.int jv94_384), .val (.int jv106_391), .unset, .unset, .unset, .unset, .unset, .unset] [(.int jv94_384), (.int (1 : Int32))])) _
        refine XS.icmpYes X391.here hx rfl (pc0 := 131) (pc' := 147) rfl (hb hby at_131) rfl (flt hc131).2.1 (by decide) (by decide) ?_
        refine XS.iconst X391.here hx rfl (hb hby at_147) ?_
        exact kt
      exact ⟨(0 : Int32), T391, _, X391, e391, N391, (own_bf (fun q => hc131 q.1)).symm, pre407⟩
  have pre408 : ∀ t, Steps p.tables e below (T400.setTop (mkF m 150 #[.val (.int x1), .val (.int x2), .val (.int x3), .val (.int x4), .val (.ref b335), .val (.ref b349), .val (.ref b_361), .val (.int jv94_384), .val (.int jv106_391), .val (.int jv128_400), .unset, .unset, .unset, .unset, .unset] [])) t → Steps p.tables e below (s₁.setTop (entryFrame m #[(.int x1), (.int x2), (.int x3), (.int x4)] maxLocals)) t := by
    intro t kt
    refine pre399 t ?_
    show Steps p.tables e below (T391.setTop (mkF m 128 #[.val (.int x1), .val (.int x2), .val (.int x3), .val (.int x4), .val (.ref b335), .val (.ref b349), .val (.ref b_361), .val (.int jv94_384), .val (.int jv106_391), .unset, .unset, .unset, .unset, .unset, .unset] [])) _
    refine k400 _ ?_
    refine XS.istore X400.here hx rfl (hb hby at_148) rfl (l' := #[.val (.int x1), .val (.int x2), .val (.int x3), .val (.int x4), .val (.ref b335), .val (.ref b349), .val (.ref b_361), .val (.int jv94_384), .val (.int jv106_391), .val (.int jv128_400), .unset, .unset, .unset, .unset, .unset]) rfl ?_
    exact kt
  obtain ⟨jv150_409, T409, L409, X409, e409, N409, J409_0, k409⟩ : ∃ (jv150_409 : Int32) (T409 : State) (L409 : List Loc), Stand p l e room_1 (s.setVm T361.vm) m #[(.int x1), (.int x2), (.int x3), (.int x4)] below meth c T409 L409 15 132 ∧ T409.heap = T361.heap ∧ Fr n0 L409 ∧ (jv150_409 = (own_b ((2 : Int32) < jv94_384 ∧ (32 : Int32) < vc_342))) ∧ ∀ t, Steps p.tables e below (T409.setTop (mkF m 170 #[.val (.int x1), .val (.int x2), .val (.int x3), .val (.int x4), .val (.ref b335), .val (.ref b349), .val (.ref b_361), .val (.int jv94_384), .val (.int jv106_391), .val (.int jv128_400), .unset, .unset, .unset, .unset, .unset] [(.int jv150_409)])) t → Steps p.tables e below (T400.setTop (mkF m 150 #[.val (.int x1), .val (.int x2), .val (.int x3), .val (.int x4), .val (.ref b335), .val (.ref b349), .val (.ref b_361), .val (.int jv94_384), .val (.int jv106_391), .val (.int jv128_400), .unset, .unset, .unset, .unset, .unset] [])) t := by
    have pj409 : ∀ t, Steps p.tables e below (T400.setTop (mkF m 150 #[.val (.int x1), .val (.int x2), .val (.int x3), .val (.int x4), .val (.ref b335), .val (.ref b349), .val (.ref b_361), .val (.int jv94_384), .val (.int jv106_391), .val (.int jv128_400), .unset, .unset, .unset, .unset, .unset] [])) t → Steps p.tables e below (T400.setTop (mkF m 150 #[.val (.int x1), .val (.int x2), .val (.int x3), .val (.int x4), .val (.ref b335), .val (.ref b349), .val (.ref b_361), .val (.int jv94_384), .val (.int jv106_391), .val (.int jv128_400), .unset, .unset, .unset, .unset, .unset] [])) t := fun _ k => k
    have pre410 : ∀ t, Steps p.tables e below (T400.setTop (mkF m 153 #[.val (.int x1), .val (.int x2), .val (.int x3), .val (.int x4), .val (.ref b335), .val (.ref b349), .val (.ref b_361), .val (.int jv94_384), .val (.int jv106_391), .val (.int jv128_400), .unset, .unset, .unset, .unset, .unset] [(.int jv94_384), (.int (2 : Int32))])) t → Steps p.tables e below (T400.setTop (mkF m 150 #[.val (.int x1), .val (.int x2), .val (.int x3), .val (.int x4), .val (.ref b335), .val (.ref b349), .val (.ref b_361), .val (.int jv94_384), .val (.int jv106_391), .val (.int jv128_400), .unset, .unset, .unset, .unset, .unset] [])) t := by
      intro t kt
      refine pj409 t ?_
      show Steps p.tables e below (T400.setTop (mkF m 150 #[.val (.int x1), .val (.int x2), .val (.int x3), .val (.int x4), .val (.ref b335), .val (.ref b349), .val (.ref b_361), .val (.int jv94_384), .val (.int jv106_391), .val (.int jv128_400), .unset, .unset, .unset, .unset, .unset] [])) _
      refine XS.iconst X400.here hx rfl (hb hby at_150) ?_
      refine XS.iload X400.here hx rfl (hb hby at_151) rfl ?_
      exact kt
    by_cases hc153 : (2 : Int32) < jv94_384
    · skip
      have V411 : Arv Z T361.heap b335 k335 .char (4 : Int32) [(.int vc_336), (.int vc_339), (.int vc_342), (.int vc_345)] (.int (0 : Int32)) := ((V350.keep KK352 (ninS (Nat.ne_of_lt (Nat.lt_of_lt_of_le V348.lt (Nat.le_of_eq g349.symm))) nin0)).keep KK361 nin0)
      obtain ⟨cl_a412, Ar_a412, -, S_a412, N_a412, H_a412, -⟩ := id V411
      have hin_a412 : ¬ ((2 : Int32) < 0 ∨ cl_a412.slots.size ≤ ((2 : Int32)).toNatClampNeg) := inb_of S_a412 ⟨by decide, by decide⟩
      have hat_a412 : cl_a412.slots[((2 : Int32)).toNatClampNeg]? = some (.int vc_342) := H_a412.at hin_a412 rfl
      have pre413 : ∀ t, Steps p.tables e below (T400.setTop (mkF m 162 #[.val (.int x1), .val (.int x2), .val (.int x3), .val (.int x4), .val (.ref b335), .val (.ref b349), .val (.ref b_361), .val (.int jv94_384), .val (.int jv106_391), .val (.int jv128_400), .unset, .unset, .unset, .unset, .unset] [(.int (32 : Int32)), (.int vc_342)])) t → Steps p.tables e below (T400.setTop (mkF m 150 #[.val (.int x1), .val (.int x2), .val (.int x3), .val (.int x4), .val (.ref b335), .val (.ref b349), .val (.ref b_361), .val (.int jv94_384), .val (.int jv106_391), .val (.int jv128_400), .unset, .unset, .unset, .unset, .unset] [])) t := by
        intro t kt
        refine pre410 t ?_
        show Steps p.tables e below (T400.setTop (mkF m 153 #[.val (.int x1), .val (.int x2), .val (.int x3), .val (.int x4), .val (.ref b335), .val (.ref b349), .val (.ref b_361), .val (.int jv94_384), .val (.int jv106_391), .val (.int jv128_400), .unset, .unset, .unset, .unset, .unset] [(.int jv94_384), (.int (2 : Int32))])) _
        refine XS.icmpNo X400.here hx rfl (hb hby at_153) rfl (tlt hc153).2.1 ?_
        refine XS.aload X400.here hx rfl (hb hby at_156) rfl rfl ?_
        refine XS.iconst X400.here hx rfl (hb hby at_158) ?_
        show Steps p.tables e below (T400.setTop (mkF m 159 #[.val (.int x1), .val (.int x2), .val (.int x3), .val (.int x4), .val (.ref b335), .val (.ref b349), .val (.ref b_361), .val (.int jv94_384), .val (.int jv106_391), .val (.int jv128_400), .unset, .unset, .unset, .unset, .unset] [(.int (2 : Int32)), (.ref b335)])) _
        refine X400.caload hx (j := (2 : Int32)) (v := (.int vc_342)) (by rw [e400]; exact Ar_a412.1) (State.isArrayOf_alike hZ361.alike Ar_a412.2.1) Ar_a412.2.2 hin_a412 hat_a412 (g := (mkF m 159 #[.val (.int x1), .val (.int x2), .val (.int x3), .val (.int x4), .val (.ref b335), .val (.ref b349), .val (.ref b_361), .val (.int jv94_384), .val (.int jv106_391), .val (.int jv128_400), .unset, .unset, .unset, .unset, .unset] [(.int (2 : Int32)), (.ref b335)])) rfl rfl (hb hby at_159) _ ?_
        refine XS.bipush X400.here hx rfl (hb hby at_160) ?_
        exact kt
      by_cases hc162 : (32 : Int32) < vc_342
      · skip
        have pre414 : ∀ t, Steps p.tables e below (T400.setTop (mkF m 170 #[.val (.int x1), .val (.int x2), .val (.int x3), .val (.int x4), .val (.ref b335), .val (.ref b349), .val (.ref b_361), .val (.int jv94_384), .val (.int jv106_391), .val (.int jv128_400), .unset, .unset, .unset, .unset, .unset] [(.int (1 : Int32))])) t → Steps p.tables e below (T400.setTop (mkF m 150 #[.val (.int x1), .val (.int x2), .val (.int x3), .val (.int x4), .val (.ref b335), .val (.ref b349), .val (.ref b_361), .val (.int jv94_384), .val (.int jv106_391), .val (.int jv128_400), .unset, .unset, .unset, .unset, .unset] [])) t := by
          intro t kt
          refine pre413 t ?_
          show Steps p.tables e below (T400.setTop (mkF m 162 #[.val (.int x1), .val (.int x2), .val (.int x3), .val (.int x4), .val (.ref b335), .val (.ref b349), .val (.ref b_361), .val (.int jv94_384), .val (.int jv106_391), .val (.int jv128_400), .unset, .unset, .unset, .unset, .unset] [(.int (32 : Int32)), (.int vc_342)])) _
          refine XS.icmpNo X400.here hx rfl (hb hby at_162) rfl (tlt hc162).2.2.2 ?_
          refine XS.iconst X400.here hx rfl (hb hby at_165) ?_
          refine XS.goto X400.here hx rfl (pc0 := 166) (pc' := 170) rfl (hb hby at_166) (by decide) (by decide) ?_
          exact kt
        exact ⟨(1 : Int32), T400, _, X400, e400, N400, (own_bt ⟨hc153, hc162⟩).symm, pre414⟩
      · skip
        have pre415 : ∀ t, Steps p.tables e below (T400.setTop (mkF m 170 #[.val (.int x1), .val (.int x2), .val (.int x3), .val (.int x4), .val (.ref b335), .val (.ref b349), .val (.ref b_361), .val (.int jv94_384), .val (.int jv106_391), .val (.int jv128_400), .unset, .unset, .unset, .unset, .unset] [(.int (0 : Int32))])) t → Steps p.tables e below (T400.setTop (mkF m 150 #[.val (.int x1), .val (.int x2), .val (.int x3), .val (.int x4), .val (.ref b335), .val (.ref b349), .val (.ref b_361), .val (.int jv94_384), .val (.int jv106_391), .val (.int jv128_400), .unset, .unset, .unset, .unset, .unset] [])) t := by
          intro t kt
          refine pre413 t ?_
          show Steps p.tables e below (T400.setTop (mkF m 162 #[.val (.int x1), .val (.int x2), .val (.int x3), .val (.int x4), .val (.ref b335), .val (.ref b349), .val (.ref b_361), .val (.int jv94_384), .val (.int jv106_391), .val (.int jv128_400), .unset, .unset, .unset, .unset, .unset] [(.int (32 : Int32)), (.int vc_342)])) _
          refine XS.icmpYes X400.here hx rfl (pc0 := 162) (pc' := 169) rfl (hb hby at_162) rfl (flt hc162).2.2.2 (by decide) (by decide) ?_
          refine XS.iconst X400.here hx rfl (hb hby at_169) ?_
          exact kt
        exact ⟨(0 : Int32), T400, _, X400, e400, N400, (own_bf (fun q => hc162 q.2)).symm, pre415⟩
    · skip
      have pre416 : ∀ t, Steps p.tables e below (T400.setTop (mkF m 170 #[.val (.int x1), .val (.int x2), .val (.int x3), .val (.int x4), .val (.ref b335), .val (.ref b349), .val (.ref b_361), .val (.int jv94_384), .val (.int jv106_391), .val (.int jv128_400), .unset, .unset, .unset, .unset, .unset] [(.int (0 : Int32))])) t → Steps p.tables e below (T400.setTop (mkF m 150 #[.val (.int x1), .val (.int x2), .val (.int x3), .val (.int x4), .val (.ref b335), .val (.ref b349), .val (.ref b_361), .val (.int jv94_384), .val (.int jv106_391), .val (.int jv128_400), .unset, .unset, .unset, .unset, .unset] [])) t := by
        intro t kt
        refine pre410 t ?_
        show Steps p.tables e below (T400.setTop (mkF m 153 #[.val (.int x1), .val (.int x2), .val (.int x3), .val (.int x4), .val (.ref b335), .val (.ref b349), .val (.ref b_361), .val (.int jv94_384), .val (.int jv106_391), .val (.int jv128_400), .unset, .unset, .unset, .unset, .unset] [(.int jv94_384), (.int (2 : Int32))])) _
        refine XS.icmpYes X400.here hx rfl (pc0 := 153) (pc' := 169) rfl (hb hby at_153) rfl (flt hc153).2.1 (by decide) (by decide) ?_
        refine XS.iconst X400.here hx rfl (hb hby at_169) ?_
        exact kt
      exact ⟨(0 : Int32), T400, _, X400, e400, N400, (own_bf (fun q => hc153 q.1)).symm, pre416⟩
  have pre417 : ∀ t, Steps p.tables e below (T409.setTop (mkF m 172 #[.val (.int x1), .val (.int x2), .val (.int x3), .val (.int x4), .val (.ref b335), .val (.ref b349), .val (.ref b_361), .val (.int jv94_384), .val (.int jv106_391), .val (.int jv128_400), .val (.int jv150_409), .unset, .unset, .unset, .unset] [])) t → Steps p.tables e below (s₁.setTop (entryFrame m #[(.int x1), (.int x2), (.int x3), (.int x4)] maxLocals)) t := by
    intro t kt
    refine pre408 t ?_
    show Steps p.tables e below (T400.setTop (mkF m 150 #[.val (.int x1), .val (.int x2), .val (.int x3), .val (.int x4), .val (.ref b335), .val (.ref b349), .val (.ref b_361), .val (.int jv94_384), .val (.int jv106_391), .val (.int jv128_400), .unset, .unset, .unset, .unset, .unset] [])) _
    refine k409 _ ?_
    refine XS.istore X409.here hx rfl (hb hby at_170) rfl (l' := #[.val (.int x1), .val (.int x2), .val (.int x3), .val (.int x4), .val (.ref b335), .val (.ref b349), .val (.ref b_361), .val (.int jv94_384), .val (.int jv106_391), .val (.int jv128_400), .val (.int jv150_409), .unset, .unset, .unset, .unset]) rfl ?_
    exact kt
  obtain ⟨jv172_418, T418, L418, X418, e418, N418, J418_0, k418⟩ : ∃ (jv172_418 : Int32) (T418 : State) (L418 : List Loc), Stand p l e room_1 (s.setVm T361.vm) m #[(.int x1), (.int x2), (.int x3), (.int x4)] below meth c T418 L418 15 132 ∧ T418.heap = T361.heap ∧ Fr n0 L418 ∧ (jv172_418 = (own_b ((3 : Int32) < jv94_384 ∧ (32 : Int32) < vc_345))) ∧ ∀ t, Steps p.tables e below (T418.setTop (mkF m 192 #[.val (.int x1), .val (.int x2), .val (.int x3), .val (.int x4), .val (.ref b335), .val (.ref b349), .val (.ref b_361), .val (.int jv94_384), .val (.int jv106_391), .val (.int jv128_400), .val (.int jv150_409), .unset, .unset, .unset, .unset] [(.int jv172_418)])) t → Steps p.tables e below (T409.setTop (mkF m 172 #[.val (.int x1), .val (.int x2), .val (.int x3), .val (.int x4), .val (.ref b335), .val (.ref b349), .val (.ref b_361), .val (.int jv94_384), .val (.int jv106_391), .val (.int jv128_400), .val (.int jv150_409), .unset, .unset, .unset, .unset] [])) t := by
    have pj418 : ∀ t, Steps p.tables e below (T409.setTop (mkF m 172 #[.val (.int x1), .val (.int x2), .val (.int x3), .val (.int x4), .val (.ref b335), .val (.ref b349), .val (.ref b_361), .val (.int jv94_384), .val (.int jv106_391), .val (.int jv128_400), .val (.int jv150_409), .unset, .unset, .unset, .unset] [])) t → Steps p.tables e below (T409.setTop (mkF m 172 #[.val (.int x1), .val (.int x2), .val (.int x3), .val (.int x4), .val (.ref b335), .val (.ref b349), .val (.ref b_361), .val (.int jv94_384), .val (.int jv106_391), .val (.int jv128_400), .val (.int jv150_409), .unset, .unset, .unset, .unset] [])) t := fun _ k => k
    have pre419 : ∀ t, Steps p.tables e below (T409.setTop (mkF m 175 #[.val (.int x1), .val (.int x2), .val (.int x3), .val (.int x4), .val (.ref b335), .val (.ref b349), .val (.ref b_361), .val (.int jv94_384), .val (.int jv106_391), .val (.int jv128_400), .val (.int jv150_409), .unset, .unset, .unset, .unset] [(.int jv94_384), (.int (3 : Int32))])) t → Steps p.tables e below (T409.setTop (mkF m 172 #[.val (.int x1), .val (.int x2), .val (.int x3), .val (.int x4), .val (.ref b335), .val (.ref b349), .val (.ref b_361), .val (.int jv94_384), .val (.int jv106_391), .val (.int jv128_400), .val (.int jv150_409), .unset, .unset, .unset, .unset] [])) t := by
      intro t kt
      refine pj418 t ?_
      show Steps p.tables e below (T409.setTop (mkF m 172 #[.val (.int x1), .val (.int x2), .val (.int x3), .val (.int x4), .val (.ref b335), .val (.ref b349), .val (.ref b_361), .val (.int jv94_384), .val (.int jv106_391), .val (.int jv128_400), .val (.int jv150_409), .unset, .unset, .unset, .unset] [])) _
      refine XS.iconst X409.here hx rfl (hb hby at_172) ?_
      refine XS.iload X409.here hx rfl (hb hby at_173) rfl ?_
      exact kt
    by_cases hc175 : (3 : Int32) < jv94_384
    · skip
      have V420 : Arv Z T361.heap b335 k335 .char (4 : Int32) [(.int vc_336), (.int vc_339), (.int vc_342), (.int vc_345)] (.int (0 : Int32)) := ((V350.keep KK352 (ninS (Nat.ne_of_lt (Nat.lt_of_lt_of_le V348.lt (Nat.le_of_eq g349.symm))) nin0)).keep KK361 nin0)
      obtain ⟨cl_a421, Ar_a421, -, S_a421, N_a421, H_a421, -⟩ := id V420
      have hin_a421 : ¬ ((3 : Int32) < 0 ∨ cl_a421.slots.size ≤ ((3 : Int32)).toNatClampNeg) := inb_of S_a421 ⟨by decide, by decide⟩
      have hat_a421 : cl_a421.slots[((3 : Int32)).toNatClampNeg]? = some (.int vc_345) := H_a421.at hin_a421 rfl
      have pre422 : ∀ t, Steps p.tables e below (T409.setTop (mkF m 184 #[.val (.int x1), .val (.int x2), .val (.int x3), .val (.int x4), .val (.ref b335), .val (.ref b349), .val (.ref b_361), .val (.int jv94_384), .val (.int jv106_391), .val (.int jv128_400), .val (.int jv150_409), .unset, .unset, .unset, .unset] [(.int (32 : Int32)), (.int vc_345)])) t → Steps p.tables e below (T409.setTop (mkF m 172 #[.val (.int x1), .val (.int x2), .val (.int x3), .val (.int x4), .val (.ref b335), .val (.ref b349), .val (.ref b_361), .val (.int jv94_384), .val (.int jv106_391), .val (.int jv128_400), .val (.int jv150_409), .unset, .unset, .unset, .unset] [])) t := by
        intro t kt
        refine pre419 t ?_
        show Steps p.tables e below (T409.setTop (mkF m 175 #[.val (.int x1), .val (.int x2), .val (.int x3), .val (.int x4), .val (.ref b335), .val (.ref b349), .val (.ref b_361), .val (.int jv94_384), .val (.int jv106_391), .val (.int jv128_400), .val (.int jv150_409), .unset, .unset, .unset, .unset] [(.int jv94_384), (.int (3 : Int32))])) _
        refine XS.icmpNo X409.here hx rfl (hb hby at_175) rfl (tlt hc175).2.1 ?_
        refine XS.aload X409.here hx rfl (hb hby at_178) rfl rfl ?_
        refine XS.iconst X409.here hx rfl (hb hby at_180) ?_
        show Steps p.tables e below (T409.setTop (mkF m 181 #[.val (.int x1), .val (.int x2), .val (.int x3), .val (.int x4), .val (.ref b335), .val (.ref b349), .val (.ref b_361), .val (.int jv94_384), .val (.int jv106_391), .val (.int jv128_400), .val (.int jv150_409), .unset, .unset, .unset, .unset] [(.int (3 : Int32)), (.ref b335)])) _
        refine X409.caload hx (j := (3 : Int32)) (v := (.int vc_345)) (by rw [e409]; exact Ar_a421.1) (State.isArrayOf_alike hZ361.alike Ar_a421.2.1) Ar_a421.2.2 hin_a421 hat_a421 (g := (mkF m 181 #[.val (.int x1), .val (.int x2), .val (.int x3), .val (.int x4), .val (.ref b335), .val (.ref b349), .val (.ref b_361), .val (.int jv94_384), .val (.int jv106_391), .val (.int jv128_400), .val (.int jv150_409), .unset, .unset, .unset, .unset] [(.int (3 : Int32)), (.ref b335)])) rfl rfl (hb hby at_181) _ ?_
        refine XS.bipush X409.here hx rfl (hb hby at_182) ?_
        exact kt
      by_cases hc184 : (32 : Int32) < vc_345
      · skip
        have pre423 : ∀ t, Steps p.tables e below (T409.setTop (mkF m 192 #[.val (.int x1), .val (.int x2), .val (.int x3), .val (.int x4), .val (.ref b335), .val (.ref b349), .val (.ref b_361), .val (.int jv94_384), .val (.int jv106_391), .val (.int jv128_400), .val (.int jv150_409), .unset, .unset, .unset, .unset] [(.int (1 : Int32))])) t → Steps p.tables e below (T409.setTop (mkF m 172 #[.val (.int x1), .val (.int x2), .val (.int x3), .val (.int x4), .val (.ref b335), .val (.ref b349), .val (.ref b_361), .val (.int jv94_384), .val (.int jv106_391), .val (.int jv128_400), .val (.int jv150_409), .unset, .unset, .unset, .unset] [])) t := by
          intro t kt
          refine pre422 t ?_
          show Steps p.tables e below (T409.setTop (mkF m 184 #[.val (.int x1), .val (.int x2), .val (.int x3), .val (.int x4), .val (.ref b335), .val (.ref b349), .val (.ref b_361), .val (.int jv94_384), .val (.int jv106_391), .val (.int jv128_400), .val (.int jv150_409), .unset, .unset, .unset, .unset] [(.int (32 : Int32)), (.int vc_345)])) _
          refine XS.icmpNo X409.here hx rfl (hb hby at_184) rfl (tlt hc184).2.2.2 ?_
          refine XS.iconst X409.here hx rfl (hb hby at_187) ?_
          refine XS.goto X409.here hx rfl (pc0 := 188) (pc' := 192) rfl (hb hby at_188) (by decide) (by decide) ?_
          exact kt
        exact ⟨(1 : Int32), T409, _, X409, e409, N409, (own_bt ⟨hc175, hc184⟩).symm, pre423⟩
      · skip
        have pre424 : ∀ t, Steps p.tables e below (T409.setTop (mkF m 192 #[.val (.int x1), .val (.int x2), .val (.int x3), .val (.int x4), .val (.ref b335), .val (.ref b349), .val (.ref b_361), .val (.int jv94_384), .val (.int jv106_391), .val (.int jv128_400), .val (.int jv150_409), .unset, .unset, .unset, .unset] [(.int (0 : Int32))])) t → Steps p.tables e below (T409.setTop (mkF m 172 #[.val (.int x1), .val (.int x2), .val (.int x3), .val (.int x4), .val (.ref b335), .val (.ref b349), .val (.ref b_361), .val (.int jv94_384), .val (.int jv106_391), .val (.int jv128_400), .val (.int jv150_409), .unset, .unset, .unset, .unset] [])) t := by
          intro t kt
          refine pre422 t ?_
          show Steps p.tables e below (T409.setTop (mkF m 184 #[.val (.int x1), .val (.int x2), .val (.int x3), .val (.int x4), .val (.ref b335), .val (.ref b349), .val (.ref b_361), .val (.int jv94_384), .val (.int jv106_391), .val (.int jv128_400), .val (.int jv150_409), .unset, .unset, .unset, .unset] [(.int (32 : Int32)), (.int vc_345)])) _
          refine XS.icmpYes X409.here hx rfl (pc0 := 184) (pc' := 191) rfl (hb hby at_184) rfl (flt hc184).2.2.2 (by decide) (by decide) ?_
          refine XS.iconst X409.here hx rfl (hb hby at_191) ?_
          exact kt
        exact ⟨(0 : Int32), T409, _, X409, e409, N409, (own_bf (fun q => hc184 q.2)).symm, pre424⟩
    · skip
      have pre425 : ∀ t, Steps p.tables e below (T409.setTop (mkF m 192 #[.val (.int x1), .val (.int x2), .val (.int x3), .val (.int x4), .val (.ref b335), .val (.ref b349), .val (.ref b_361), .val (.int jv94_384), .val (.int jv106_391), .val (.int jv128_400), .val (.int jv150_409), .unset, .unset, .unset, .unset] [(.int (0 : Int32))])) t → Steps p.tables e below (T409.setTop (mkF m 172 #[.val (.int x1), .val (.int x2), .val (.int x3), .val (.int x4), .val (.ref b335), .val (.ref b349), .val (.ref b_361), .val (.int jv94_384), .val (.int jv106_391), .val (.int jv128_400), .val (.int jv150_409), .unset, .unset, .unset, .unset] [])) t := by
        intro t kt
        refine pre419 t ?_
        show Steps p.tables e below (T409.setTop (mkF m 175 #[.val (.int x1), .val (.int x2), .val (.int x3), .val (.int x4), .val (.ref b335), .val (.ref b349), .val (.ref b_361), .val (.int jv94_384), .val (.int jv106_391), .val (.int jv128_400), .val (.int jv150_409), .unset, .unset, .unset, .unset] [(.int jv94_384), (.int (3 : Int32))])) _
        refine XS.icmpYes X409.here hx rfl (pc0 := 175) (pc' := 191) rfl (hb hby at_175) rfl (flt hc175).2.1 (by decide) (by decide) ?_
        refine XS.iconst X409.here hx rfl (hb hby at_191) ?_
        exact kt
      exact ⟨(0 : Int32), T409, _, X409, e409, N409, (own_bf (fun q => hc175 q.1)).symm, pre425⟩
  have pre426 : ∀ t, Steps p.tables e below (T418.setTop (mkF m 198 #[.val (.int x1), .val (.int x2), .val (.int x3), .val (.int x4), .val (.ref b335), .val (.ref b349), .val (.ref b_361), .val (.int jv94_384), .val (.int jv106_391), .val (.int jv128_400), .val (.int jv150_409), .val (.int jv172_418), .val (.int jv94_384), .unset, .unset] [])) t → Steps p.tables e below (s₁.setTop (entryFrame m #[(.int x1), (.int x2), (.int x3), (.int x4)] maxLocals)) t := by
    intro t kt
    refine pre417 t ?_
    show Steps p.tables e below (T409.setTop (mkF m 172 #[.val (.int x1), .val (.int x2), .val (.int x3), .val (.int x4), .val (.ref b335), .val (.ref b349), .val (.ref b_361), .val (.int jv94_384), .val (.int jv106_391), .val (.int jv128_400), .val (.int jv150_409), .unset, .unset, .unset, .unset] [])) _
    refine k418 _ ?_
    show Steps p.tables e below (T418.setTop (mkF m 192 #[.val (.int x1), .val (.int x2), .val (.int x3), .val (.int x4), .val (.ref b335), .val (.ref b349), .val (.ref b_361), .val (.int jv94_384), .val (.int jv106_391), .val (.int jv128_400), .val (.int jv150_409), .unset, .unset, .unset, .unset] [(.int jv172_418)])) _
    refine XS.istore X418.here hx rfl (hb hby at_192) rfl (l' := #[.val (.int x1), .val (.int x2), .val (.int x3), .val (.int x4), .val (.ref b335), .val (.ref b349), .val (.ref b_361), .val (.int jv94_384), .val (.int jv106_391), .val (.int jv128_400), .val (.int jv150_409), .val (.int jv172_418), .unset, .unset, .unset]) rfl ?_
    refine XS.iload X418.here hx rfl (hb hby at_194) rfl ?_
    refine XS.istore X418.here hx rfl (hb hby at_196) rfl (l' := #[.val (.int x1), .val (.int x2), .val (.int x3), .val (.int x4), .val (.ref b335), .val (.ref b349), .val (.ref b_361), .val (.int jv94_384), .val (.int jv106_391), .val (.int jv128_400), .val (.int jv150_409), .val (.int jv172_418), .val (.int jv94_384), .unset, .unset]) rfl ?_
    exact kt
  obtain ⟨jv198_427, T427, L427, X427, e427, N427, J427_0, k427⟩ : ∃ (jv198_427 : Int32) (T427 : State) (L427 : List Loc), Stand p l e room_1 (s.setVm T361.vm) m #[(.int x1), (.int x2), (.int x3), (.int x4)] below meth c T427 L427 15 132 ∧ T427.heap = T361.heap ∧ Fr n0 L427 ∧ (jv198_427 = (if jv172_418 = (0 : Int32) then jv94_384 else (3 : Int32))) ∧ ∀ t, Steps p.tables e below (T427.setTop (mkF m 206 #[.val (.int x1), .val (.int x2), .val (.int x3), .val (.int x4), .val (.ref b335), .val (.ref b349), .val (.ref b_361), .val (.int jv94_384), .val (.int jv106_391), .val (.int jv128_400), .val (.int jv150_409), .val (.int jv172_418), .val (.int jv198_427), .unset, .unset] [])) t → Steps p.tables e below (T418.setTop (mkF m 198 #[.val (.int x1), .val (.int x2), .val (.int x3), .val (.int x4), .val (.ref b335), .val (.ref b349), .val (.ref b_361), .val (.int jv94_384), .val (.int jv106_391), .val (.int jv128_400), .val (.int jv150_409), .val (.int jv172_418), .val (.int jv94_384), .unset, .unset] [])) t := by
    have pj427 : ∀ t, Steps p.tables e below (T418.setTop (mkF m 198 #[.val (.int x1), .val (.int x2), .val (.int x3), .val (.int x4), .val (.ref b335), .val (.ref b349), .val (.ref b_361), .val (.int jv94_384), .val (.int jv106_391), .val (.int jv128_400), .val (.int jv150_409), .val (.int jv172_418), .val (.int jv94_384), .unset, .unset] [])) t → Steps p.tables e below (T418.setTop (mkF m 198 #[.val (.int x1), .val (.int x2), .val (.int x3), .val (.int x4), .val (.ref b335), .val (.ref b349), .val (.ref b_361), .val (.int jv94_384), .val (.int jv106_391), .val (.int jv128_400), .val (.int jv150_409), .val (.int jv172_418), .val (.int jv94_384), .unset, .unset] [])) t := fun _ k => k
    have pre428 : ∀ t, Steps p.tables e below (T418.setTop (mkF m 200 #[.val (.int x1), .val (.int x2), .val (.int x3), .val (.int x4), .val (.ref b335), .val (.ref b349), .val (.ref b_361), .val (.int jv94_384), .val (.int jv106_391), .val (.int jv128_400), .val (.int jv150_409), .val (.int jv172_418), .val (.int jv94_384), .unset, .unset] [(.int jv172_418)])) t → Steps p.tables e below (T418.setTop (mkF m 198 #[.val (.int x1), .val (.int x2), .val (.int x3), .val (.int x4), .val (.ref b335), .val (.ref b349), .val (.ref b_361), .val (.int jv94_384), .val (.int jv106_391), .val (.int jv128_400), .val (.int jv150_409), .val (.int jv172_418), .val (.int jv94_384), .unset, .unset] [])) t := by
      intro t kt
      refine pj427 t ?_
      show Steps p.tables e below (T418.setTop (mkF m 198 #[.val (.int x1), .val (.int x2), .val (.int x3), .val (.int x4), .val (.ref b335), .val (.ref b349), .val (.ref b_361), .val (.int jv94_384), .val (.int jv106_391), .val (.int jv128_400), .val (.int jv150_409), .val (.int jv172_418), .val (.int jv94_384), .unset, .unset] [])) _
      refine XS.iload X418.here hx rfl (hb hby at_198) rfl ?_
      exact kt
    by_cases hc200 : jv172_418 = (0 : Int32)
    · skip
      have pre429 : ∀ t, Steps p.tables e below (T418.setTop (mkF m 206 #[.val (.int x1), .val (.int x2), .val (.int x3), .val (.int x4), .val (.ref b335), .val (.ref b349), .val (.ref b_361), .val (.int jv94_384), .val (.int jv106_391), .val (.int jv128_400), .val (.int jv150_409), .val (.int jv172_418), .val (.int jv94_384), .unset, .unset] [])) t → Steps p.tables e below (T418.setTop (mkF m 198 #[.val (.int x1), .val (.int x2), .val (.int x3), .val (.int x4), .val (.ref b335), .val (.ref b349), .val (.ref b_361), .val (.int jv94_384), .val (.int jv106_391), .val (.int jv128_400), .val (.int jv150_409), .val (.int jv172_418), .val (.int jv94_384), .unset, .unset] [])) t := by
        intro t kt
        refine pre428 t ?_
        show Steps p.tables e below (T418.setTop (mkF m 200 #[.val (.int x1), .val (.int x2), .val (.int x3), .val (.int x4), .val (.ref b335), .val (.ref b349), .val (.ref b_361), .val (.int jv94_384), .val (.int jv106_391), .val (.int jv128_400), .val (.int jv150_409), .val (.int jv172_418), .val (.int jv94_384), .unset, .unset] [(.int jv172_418)])) _
        refine XS.ifYes X418.here hx rfl (pc0 := 200) (pc' := 206) rfl (hb hby at_200) rfl ((if0 _ _).trans (teq hc200).1) (by decide) (by decide) ?_
        exact kt
      exact ⟨jv94_384, T418, _, X418, e418, N418, (if_pos hc200).symm, pre429⟩
    · skip
      have pre430 : ∀ t, Steps p.tables e below (T418.setTop (mkF m 206 #[.val (.int x1), .val (.int x2), .val (.int x3), .val (.int x4), .val (.ref b335), .val (.ref b349), .val (.ref b_361), .val (.int jv94_384), .val (.int jv106_391), .val (.int jv128_400), .val (.int jv150_409), .val (.int jv172_418), .val (.int (3 : Int32)), .unset, .unset] [])) t → Steps p.tables e below (T418.setTop (mkF m 198 #[.val (.int x1), .val (.int x2), .val (.int x3), .val (.int x4), .val (.ref b335), .val (.ref b349), .val (.ref b_361), .val (.int jv94_384), .val (.int jv106_391), .val (.int jv128_400), .val (.int jv150_409), .val (.int jv172_418), .val (.int jv94_384), .unset, .unset] [])) t := by
        intro t kt
        refine pre428 t ?_
        show Steps p.tables e below (T418.setTop (mkF m 200 #[.val (.int x1), .val (.int x2), .val (.int x3), .val (.int x4), .val (.ref b335), .val (.ref b349), .val (.ref b_361), .val (.int jv94_384), .val (.int jv106_391), .val (.int jv128_400), .val (.int jv150_409), .val (.int jv172_418), .val (.int jv94_384), .unset, .unset] [(.int jv172_418)])) _
        refine XS.ifNo X418.here hx rfl (hb hby at_200) rfl ((if0 _ _).trans (feq hc200).1) ?_
        refine XS.iconst X418.here hx rfl (hb hby at_203) ?_
        refine XS.istore X418.here hx rfl (hb hby at_204) rfl (l' := #[.val (.int x1), .val (.int x2), .val (.int x3), .val (.int x4), .val (.ref b335), .val (.ref b349), .val (.ref b_361), .val (.int jv94_384), .val (.int jv106_391), .val (.int jv128_400), .val (.int jv150_409), .val (.int jv172_418), .val (.int (3 : Int32)), .unset, .unset]) rfl ?_
        exact kt
      exact ⟨(3 : Int32), T418, _, X418, e418, N418, (if_neg hc200).symm, pre430⟩
  have pre431 : ∀ t, Steps p.tables e below (T427.setTop (mkF m 206 #[.val (.int x1), .val (.int x2), .val (.int x3), .val (.int x4), .val (.ref b335), .val (.ref b349), .val (.ref b_361), .val (.int jv94_384), .val (.int jv106_391), .val (.int jv128_400), .val (.int jv150_409), .val (.int jv172_418), .val (.int jv198_427), .unset, .unset] [])) t → Steps p.tables e below (s₁.setTop (entryFrame m #[(.int x1), (.int x2), (.int x3), (.int x4)] maxLocals)) t := by
    intro t kt
    refine pre426 t ?_
    show Steps p.tables e below (T418.setTop (mkF m 198 #[.val (.int x1), .val (.int x2), .val (.int x3), .val (.int x4), .val (.ref b335), .val (.ref b349), .val (.ref b_361), .val (.int jv94_384), .val (.int jv106_391), .val (.int jv128_400), .val (.int jv150_409), .val (.int jv172_418), .val (.int jv94_384), .unset, .unset] [])) _
    refine k427 _ ?_
    exact kt
  obtain ⟨jv206_432, T432, L432, X432, e432, N432, J432_0, k432⟩ : ∃ (jv206_432 : Int32) (T432 : State) (L432 : List Loc), Stand p l e room_1 (s.setVm T361.vm) m #[(.int x1), (.int x2), (.int x3), (.int x4)] below meth c T432 L432 15 132 ∧ T432.heap = T361.heap ∧ Fr n0 L432 ∧ (jv206_432 = (if jv150_409 = (0 : Int32) then jv198_427 else (2 : Int32))) ∧ ∀ t, Steps p.tables e below (T432.setTop (mkF m 214 #[.val (.int x1), .val (.int x2), .val (.int x3), .val (.int x4), .val (.ref b335), .val (.ref b349), .val (.ref b_361), .val (.int jv94_384), .val (.int jv106_391), .val (.int jv128_400), .val (.int jv150_409), .val (.int jv172_418), .val (.int jv206_432), .unset, .unset] [])) t → Steps p.tables e below (T427.setTop (mkF m 206 #[.val (.int x1), .val (.int x2), .val (.int x3), .val (.int x4), .val (.ref b335), .val (.ref b349), .val (.ref b_361), .val (.int jv94_384), .val (.int jv106_391), .val (.int jv128_400), .val (.int jv150_409), .val (.int jv172_418), .val (.int jv198_427), .unset, .unset] [])) t := by
    have pj432 : ∀ t, Steps p.tables e below (T427.setTop (mkF m 206 #[.val (.int x1), .val (.int x2), .val (.int x3), .val (.int x4), .val (.ref b335), .val (.ref b349), .val (.ref b_361), .val (.int jv94_384), .val (.int jv106_391), .val (.int jv128_400), .val (.int jv150_409), .val (.int jv172_418), .val (.int jv198_427), .unset, .unset] [])) t → Steps p.tables e below (T427.setTop (mkF m 206 #[.val (.int x1), .val (.int x2), .val (.int x3), .val (.int x4), .val (.ref b335), .val (.ref b349), .val (.ref b_361), .val (.int jv94_384), .val (.int jv106_391), .val (.int jv128_400), .val (.int jv150_409), .val (.int jv172_418), .val (.int jv198_427), .unset, .unset] [])) t := fun _ k => k
    have pre433 : ∀ t, Steps p.tables e below (T427.setTop (mkF m 208 #[.val (.int x1), .val (.int x2), .val (.int x3), .val (.int x4), .val (.ref b335), .val (.ref b349), .val (.ref b_361), .val (.int jv94_384), .val (.int jv106_391), .val (.int jv128_400), .val (.int jv150_409), .val (.int jv172_418), .val (.int jv198_427), .unset, .unset] [(.int jv150_409)])) t → Steps p.tables e below (T427.setTop (mkF m 206 #[.val (.int x1), .val (.int x2), .val (.int x3), .val (.int x4), .val (.ref b335), .val (.ref b349), .val (.ref b_361), .val (.int jv94_384), .val (.int jv106_391), .val (.int jv128_400), .val (.int jv150_409), .val (.int jv172_418), .val (.int jv198_427), .unset, .unset] [])) t := by
      intro t kt
      refine pj432 t ?_
      show Steps p.tables e below (T427.setTop (mkF m 206 #[.val (.int x1), .val (.int x2), .val (.int x3), .val (.int x4), .val (.ref b335), .val (.ref b349), .val (.ref b_361), .val (.int jv94_384), .val (.int jv106_391), .val (.int jv128_400), .val (.int jv150_409), .val (.int jv172_418), .val (.int jv198_427), .unset, .unset] [])) _
      refine XS.iload X427.here hx rfl (hb hby at_206) rfl ?_
      exact kt
    by_cases hc208 : jv150_409 = (0 : Int32)
    · skip
      have pre434 : ∀ t, Steps p.tables e below (T427.setTop (mkF m 214 #[.val (.int x1), .val (.int x2), .val (.int x3), .val (.int x4), .val (.ref b335), .val (.ref b349), .val (.ref b_361), .val (.int jv94_384), .val (.int jv106_391), .val (.int jv128_400), .val (.int jv150_409), .val (.int jv172_418), .val (.int jv198_427), .unset, .unset] [])) t → Steps p.tables e below (T427.setTop (mkF m 206 #[.val (.int x1), .val (.int x2), .val (.int x3), .val (.int x4), .val (.ref b335), .val (.ref b349), .val (.ref b_361), .val (.int jv94_384), .val (.int jv106_391), .val (.int jv128_400), .val (.int jv150_409), .val (.int jv172_418), .val (.int jv198_427), .unset, .unset] [])) t := by
        intro t kt
        refine pre433 t ?_
        show Steps p.tables e below (T427.setTop (mkF m 208 #[.val (.int x1), .val (.int x2), .val (.int x3), .val (.int x4), .val (.ref b335), .val (.ref b349), .val (.ref b_361), .val (.int jv94_384), .val (.int jv106_391), .val (.int jv128_400), .val (.int jv150_409), .val (.int jv172_418), .val (.int jv198_427), .unset, .unset] [(.int jv150_409)])) _
        refine XS.ifYes X427.here hx rfl (pc0 := 208) (pc' := 214) rfl (hb hby at_208) rfl ((if0 _ _).trans (teq hc208).1) (by decide) (by decide) ?_
        exact kt
      exact ⟨jv198_427, T427, _, X427, e427, N427, (if_pos hc208).symm, pre434⟩
    · skip
      have pre435 : ∀ t, Steps p.tables e below (T427.setTop (mkF m 214 #[.val (.int x1), .val (.int x2), .val (.int x3), .val (.int x4), .val (.ref b335), .val (.ref b349), .val (.ref b_361), .val (.int jv94_384), .val (.int jv106_391), .val (.int jv128_400), .val (.int jv150_409), .val (.int jv172_418), .val (.int (2 : Int32)), .unset, .unset] [])) t → Steps p.tables e below (T427.setTop (mkF m 206 #[.val (.int x1), .val (.int x2), .val (.int x3), .val (.int x4), .val (.ref b335), .val (.ref b349), .val (.ref b_361), .val (.int jv94_384), .val (.int jv106_391), .val (.int jv128_400), .val (.int jv150_409), .val (.int jv172_418), .val (.int jv198_427), .unset, .unset] [])) t := by
        intro t kt
        refine pre433 t ?_
        show Steps p.tables e below (T427.setTop (mkF m 208 #[.val (.int x1), .val (.int x2), .val (.int x3), .val (.int x4), .val (.ref b335), .val (.ref b349), .val (.ref b_361), .val (.int jv94_384), .val (.int jv106_391), .val (.int jv128_400), .val (.int jv150_409), .val (.int jv172_418), .val (.int jv198_427), .unset, .unset] [(.int jv150_409)])) _
        refine XS.ifNo X427.here hx rfl (hb hby at_208) rfl ((if0 _ _).trans (feq hc208).1) ?_
        refine XS.iconst X427.here hx rfl (hb hby at_211) ?_
        refine XS.istore X427.here hx rfl (hb hby at_212) rfl (l' := #[.val (.int x1), .val (.int x2), .val (.int x3), .val (.int x4), .val (.ref b335), .val (.ref b349), .val (.ref b_361), .val (.int jv94_384), .val (.int jv106_391), .val (.int jv128_400), .val (.int jv150_409), .val (.int jv172_418), .val (.int (2 : Int32)), .unset, .unset]) rfl ?_
        exact kt
      exact ⟨(2 : Int32), T427, _, X427, e427, N427, (if_neg hc208).symm, pre435⟩
  have pre436 : ∀ t, Steps p.tables e below (T432.setTop (mkF m 214 #[.val (.int x1), .val (.int x2), .val (.int x3), .val (.int x4), .val (.ref b335), .val (.ref b349), .val (.ref b_361), .val (.int jv94_384), .val (.int jv106_391), .val (.int jv128_400), .val (.int jv150_409), .val (.int jv172_418), .val (.int jv206_432), .unset, .unset] [])) t → Steps p.tables e below (s₁.setTop (entryFrame m #[(.int x1), (.int x2), (.int x3), (.int x4)] maxLocals)) t := by
    intro t kt
    refine pre431 t ?_
    show Steps p.tables e below (T427.setTop (mkF m 206 #[.val (.int x1), .val (.int x2), .val (.int x3), .val (.int x4), .val (.ref b335), .val (.ref b349), .val (.ref b_361), .val (.int jv94_384), .val (.int jv106_391), .val (.int jv128_400), .val (.int jv150_409), .val (.int jv172_418), .val (.int jv198_427), .unset, .unset] [])) _
    refine k432 _ ?_
    exact kt
  obtain ⟨jv214_437, T437, L437, X437, e437, N437, J437_0, k437⟩ : ∃ (jv214_437 : Int32) (T437 : State) (L437 : List Loc), Stand p l e room_1 (s.setVm T361.vm) m #[(.int x1), (.int x2), (.int x3), (.int x4)] below meth c T437 L437 15 132 ∧ T437.heap = T361.heap ∧ Fr n0 L437 ∧ (jv214_437 = (if jv128_400 = (0 : Int32) then jv206_432 else (1 : Int32))) ∧ ∀ t, Steps p.tables e below (T437.setTop (mkF m 222 #[.val (.int x1), .val (.int x2), .val (.int x3), .val (.int x4), .val (.ref b335), .val (.ref b349), .val (.ref b_361), .val (.int jv94_384), .val (.int jv106_391), .val (.int jv128_400), .val (.int jv150_409), .val (.int jv172_418), .val (.int jv214_437), .unset, .unset] [])) t → Steps p.tables e below (T432.setTop (mkF m 214 #[.val (.int x1), .val (.int x2), .val (.int x3), .val (.int x4), .val (.ref b335), .val (.ref b349), .val (.ref b_361), .val (.int jv94_384), .val (.int jv106_391), .val (.int jv128_400), .val (.int jv150_409), .val (.int jv172_418), .val (.int jv206_432), .unset, .unset] [])) t := by
    have pj437 : ∀ t, Steps p.tables e below (T432.setTop (mkF m 214 #[.val (.int x1), .val (.int x2), .val (.int x3), .val (.int x4), .val (.ref b335), .val (.ref b349), .val (.ref b_361), .val (.int jv94_384), .val (.int jv106_391), .val (.int jv128_400), .val (.int jv150_409), .val (.int jv172_418), .val (.int jv206_432), .unset, .unset] [])) t → Steps p.tables e below (T432.setTop (mkF m 214 #[.val (.int x1), .val (.int x2), .val (.int x3), .val (.int x4), .val (.ref b335), .val (.ref b349), .val (.ref b_361), .val (.int jv94_384), .val (.int jv106_391), .val (.int jv128_400), .val (.int jv150_409), .val (.int jv172_418), .val (.int jv206_432), .unset, .unset] [])) t := fun _ k => k
    have pre438 : ∀ t, Steps p.tables e below (T432.setTop (mkF m 216 #[.val (.int x1), .val (.int x2), .val (.int x3), .val (.int x4), .val (.ref b335), .val (.ref b349), .val (.ref b_361), .val (.int jv94_384), .val (.int jv106_391), .val (.int jv128_400), .val (.int jv150_409), .val (.int jv172_418), .val (.int jv206_432), .unset, .unset] [(.int jv128_400)])) t → Steps p.tables e below (T432.setTop (mkF m 214 #[.val (.int x1), .val (.int x2), .val (.int x3), .val (.int x4), .val (.ref b335), .val (.ref b349), .val (.ref b_361), .val (.int jv94_384), .val (.int jv106_391), .val (.int jv128_400), .val (.int jv150_409), .val (.int jv172_418), .val (.int jv206_432), .unset, .unset] [])) t := by
      intro t kt
      refine pj437 t ?_
      show Steps p.tables e below (T432.setTop (mkF m 214 #[.val (.int x1), .val (.int x2), .val (.int x3), .val (.int x4), .val (.ref b335), .val (.ref b349), .val (.ref b_361), .val (.int jv94_384), .val (.int jv106_391), .val (.int jv128_400), .val (.int jv150_409), .val (.int jv172_418), .val (.int jv206_432), .unset, .unset] [])) _
      refine XS.iload X432.here hx rfl (hb hby at_214) rfl ?_
      exact kt
    by_cases hc216 : jv128_400 = (0 : Int32)
    · skip
      have pre439 : ∀ t, Steps p.tables e below (T432.setTop (mkF m 222 #[.val (.int x1), .val (.int x2), .val (.int x3), .val (.int x4), .val (.ref b335), .val (.ref b349), .val (.ref b_361), .val (.int jv94_384), .val (.int jv106_391), .val (.int jv128_400), .val (.int jv150_409), .val (.int jv172_418), .val (.int jv206_432), .unset, .unset] [])) t → Steps p.tables e below (T432.setTop (mkF m 214 #[.val (.int x1), .val (.int x2), .val (.int x3), .val (.int x4), .val (.ref b335), .val (.ref b349), .val (.ref b_361), .val (.int jv94_384), .val (.int jv106_391), .val (.int jv128_400), .val (.int jv150_409), .val (.int jv172_418), .val (.int jv206_432), .unset, .unset] [])) t := by
        intro t kt
        refine pre438 t ?_
        show Steps p.tables e below (T432.setTop (mkF m 216 #[.val (.int x1), .val (.int x2), .val (.int x3), .val (.int x4), .val (.ref b335), .val (.ref b349), .val (.ref b_361), .val (.int jv94_384), .val (.int jv106_391), .val (.int jv128_400), .val (.int jv150_409), .val (.int jv172_418), .val (.int jv206_432), .unset, .unset] [(.int jv128_400)])) _
        refine XS.ifYes X432.here hx rfl (pc0 := 216) (pc' := 222) rfl (hb hby at_216) rfl ((if0 _ _).trans (teq hc216).1) (by decide) (by decide) ?_
        exact kt
      exact ⟨jv206_432, T432, _, X432, e432, N432, (if_pos hc216).symm, pre439⟩
    · skip
      have pre440 : ∀ t, Steps p.tables e below (T432.setTop (mkF m 222 #[.val (.int x1), .val (.int x2), .val (.int x3), .val (.int x4), .val (.ref b335), .val (.ref b349), .val (.ref b_361), .val (.int jv94_384), .val (.int jv106_391), .val (.int jv128_400), .val (.int jv150_409), .val (.int jv172_418), .val (.int (1 : Int32)), .unset, .unset] [])) t → Steps p.tables e below (T432.setTop (mkF m 214 #[.val (.int x1), .val (.int x2), .val (.int x3), .val (.int x4), .val (.ref b335), .val (.ref b349), .val (.ref b_361), .val (.int jv94_384), .val (.int jv106_391), .val (.int jv128_400), .val (.int jv150_409), .val (.int jv172_418), .val (.int jv206_432), .unset, .unset] [])) t := by
        intro t kt
        refine pre438 t ?_
        show Steps p.tables e below (T432.setTop (mkF m 216 #[.val (.int x1), .val (.int x2), .val (.int x3), .val (.int x4), .val (.ref b335), .val (.ref b349), .val (.ref b_361), .val (.int jv94_384), .val (.int jv106_391), .val (.int jv128_400), .val (.int jv150_409), .val (.int jv172_418), .val (.int jv206_432), .unset, .unset] [(.int jv128_400)])) _
        refine XS.ifNo X432.here hx rfl (hb hby at_216) rfl ((if0 _ _).trans (feq hc216).1) ?_
        refine XS.iconst X432.here hx rfl (hb hby at_219) ?_
        refine XS.istore X432.here hx rfl (hb hby at_220) rfl (l' := #[.val (.int x1), .val (.int x2), .val (.int x3), .val (.int x4), .val (.ref b335), .val (.ref b349), .val (.ref b_361), .val (.int jv94_384), .val (.int jv106_391), .val (.int jv128_400), .val (.int jv150_409), .val (.int jv172_418), .val (.int (1 : Int32)), .unset, .unset]) rfl ?_
        exact kt
      exact ⟨(1 : Int32), T432, _, X432, e432, N432, (if_neg hc216).symm, pre440⟩
  have pre441 : ∀ t, Steps p.tables e below (T437.setTop (mkF m 222 #[.val (.int x1), .val (.int x2), .val (.int x3), .val (.int x4), .val (.ref b335), .val (.ref b349), .val (.ref b_361), .val (.int jv94_384), .val (.int jv106_391), .val (.int jv128_400), .val (.int jv150_409), .val (.int jv172_418), .val (.int jv214_437), .unset, .unset] [])) t → Steps p.tables e below (s₁.setTop (entryFrame m #[(.int x1), (.int x2), (.int x3), (.int x4)] maxLocals)) t := by
    intro t kt
    refine pre436 t ?_
    show Steps p.tables e below (T432.setTop (mkF m 214 #[.val (.int x1), .val (.int x2), .val (.int x3), .val (.int x4), .val (.ref b335), .val (.ref b349), .val (.ref b_361), .val (.int jv94_384), .val (.int jv106_391), .val (.int jv128_400), .val (.int jv150_409), .val (.int jv172_418), .val (.int jv206_432), .unset, .unset] [])) _
    refine k437 _ ?_
    exact kt
  obtain ⟨jv222_442, T442, L442, X442, e442, N442, J442_0, k442⟩ : ∃ (jv222_442 : Int32) (T442 : State) (L442 : List Loc), Stand p l e room_1 (s.setVm T361.vm) m #[(.int x1), (.int x2), (.int x3), (.int x4)] below meth c T442 L442 15 132 ∧ T442.heap = T361.heap ∧ Fr n0 L442 ∧ (jv222_442 = (if jv106_391 = (0 : Int32) then jv214_437 else (0 : Int32))) ∧ ∀ t, Steps p.tables e below (T442.setTop (mkF m 230 #[.val (.int x1), .val (.int x2), .val (.int x3), .val (.int x4), .val (.ref b335), .val (.ref b349), .val (.ref b_361), .val (.int jv94_384), .val (.int jv106_391), .val (.int jv128_400), .val (.int jv150_409), .val (.int jv172_418), .val (.int jv222_442), .unset, .unset] [])) t → Steps p.tables e below (T437.setTop (mkF m 222 #[.val (.int x1), .val (.int x2), .val (.int x3), .val (.int x4), .val (.ref b335), .val (.ref b349), .val (.ref b_361), .val (.int jv94_384), .val (.int jv106_391), .val (.int jv128_400), .val (.int jv150_409), .val (.int jv172_418), .val (.int jv214_437), .unset, .unset] [])) t := by
    have pj442 : ∀ t, Steps p.tables e below (T437.setTop (mkF m 222 #[.val (.int x1), .val (.int x2), .val (.int x3), .val (.int x4), .val (.ref b335), .val (.ref b349), .val (.ref b_361), .val (.int jv94_384), .val (.int jv106_391), .val (.int jv128_400), .val (.int jv150_409), .val (.int jv172_418), .val (.int jv214_437), .unset, .unset] [])) t → Steps p.tables e below (T437.setTop (mkF m 222 #[.val (.int x1), .val (.int x2), .val (.int x3), .val (.int x4), .val (.ref b335), .val (.ref b349), .val (.ref b_361), .val (.int jv94_384), .val (.int jv106_391), .val (.int jv128_400), .val (.int jv150_409), .val (.int jv172_418), .val (.int jv214_437), .unset, .unset] [])) t := fun _ k => k
    have pre443 : ∀ t, Steps p.tables e below (T437.setTop (mkF m 224 #[.val (.int x1), .val (.int x2), .val (.int x3), .val (.int x4), .val (.ref b335), .val (.ref b349), .val (.ref b_361), .val (.int jv94_384), .val (.int jv106_391), .val (.int jv128_400), .val (.int jv150_409), .val (.int jv172_418), .val (.int jv214_437), .unset, .unset] [(.int jv106_391)])) t → Steps p.tables e below (T437.setTop (mkF m 222 #[.val (.int x1), .val (.int x2), .val (.int x3), .val (.int x4), .val (.ref b335), .val (.ref b349), .val (.ref b_361), .val (.int jv94_384), .val (.int jv106_391), .val (.int jv128_400), .val (.int jv150_409), .val (.int jv172_418), .val (.int jv214_437), .unset, .unset] [])) t := by
      intro t kt
      refine pj442 t ?_
      show Steps p.tables e below (T437.setTop (mkF m 222 #[.val (.int x1), .val (.int x2), .val (.int x3), .val (.int x4), .val (.ref b335), .val (.ref b349), .val (.ref b_361), .val (.int jv94_384), .val (.int jv106_391), .val (.int jv128_400), .val (.int jv150_409), .val (.int jv172_418), .val (.int jv214_437), .unset, .unset] [])) _
      refine XS.iload X437.here hx rfl (hb hby at_222) rfl ?_
      exact kt
    by_cases hc224 : jv106_391 = (0 : Int32)
    · skip
      have pre444 : ∀ t, Steps p.tables e below (T437.setTop (mkF m 230 #[.val (.int x1), .val (.int x2), .val (.int x3), .val (.int x4), .val (.ref b335), .val (.ref b349), .val (.ref b_361), .val (.int jv94_384), .val (.int jv106_391), .val (.int jv128_400), .val (.int jv150_409), .val (.int jv172_418), .val (.int jv214_437), .unset, .unset] [])) t → Steps p.tables e below (T437.setTop (mkF m 222 #[.val (.int x1), .val (.int x2), .val (.int x3), .val (.int x4), .val (.ref b335), .val (.ref b349), .val (.ref b_361), .val (.int jv94_384), .val (.int jv106_391), .val (.int jv128_400), .val (.int jv150_409), .val (.int jv172_418), .val (.int jv214_437), .unset, .unset] [])) t := by
        intro t kt
        refine pre443 t ?_
        show Steps p.tables e below (T437.setTop (mkF m 224 #[.val (.int x1), .val (.int x2), .val (.int x3), .val (.int x4), .val (.ref b335), .val (.ref b349), .val (.ref b_361), .val (.int jv94_384), .val (.int jv106_391), .val (.int jv128_400), .val (.int jv150_409), .val (.int jv172_418), .val (.int jv214_437), .unset, .unset] [(.int jv106_391)])) _
        refine XS.ifYes X437.here hx rfl (pc0 := 224) (pc' := 230) rfl (hb hby at_224) rfl ((if0 _ _).trans (teq hc224).1) (by decide) (by decide) ?_
        exact kt
      exact ⟨jv214_437, T437, _, X437, e437, N437, (if_pos hc224).symm, pre444⟩
    · skip
      have pre445 : ∀ t, Steps p.tables e below (T437.setTop (mkF m 230 #[.val (.int x1), .val (.int x2), .val (.int x3), .val (.int x4), .val (.ref b335), .val (.ref b349), .val (.ref b_361), .val (.int jv94_384), .val (.int jv106_391), .val (.int jv128_400), .val (.int jv150_409), .val (.int jv172_418), .val (.int (0 : Int32)), .unset, .unset] [])) t → Steps p.tables e below (T437.setTop (mkF m 222 #[.val (.int x1), .val (.int x2), .val (.int x3), .val (.int x4), .val (.ref b335), .val (.ref b349), .val (.ref b_361), .val (.int jv94_384), .val (.int jv106_391), .val (.int jv128_400), .val (.int jv150_409), .val (.int jv172_418), .val (.int jv214_437), .unset, .unset] [])) t := by
        intro t kt
        refine pre443 t ?_
        show Steps p.tables e below (T437.setTop (mkF m 224 #[.val (.int x1), .val (.int x2), .val (.int x3), .val (.int x4), .val (.ref b335), .val (.ref b349), .val (.ref b_361), .val (.int jv94_384), .val (.int jv106_391), .val (.int jv128_400), .val (.int jv150_409), .val (.int jv172_418), .val (.int jv214_437), .unset, .unset] [(.int jv106_391)])) _
        refine XS.ifNo X437.here hx rfl (hb hby at_224) rfl ((if0 _ _).trans (feq hc224).1) ?_
        refine XS.iconst X437.here hx rfl (hb hby at_227) ?_
        refine XS.istore X437.here hx rfl (hb hby at_228) rfl (l' := #[.val (.int x1), .val (.int x2), .val (.int x3), .val (.int x4), .val (.ref b335), .val (.ref b349), .val (.ref b_361), .val (.int jv94_384), .val (.int jv106_391), .val (.int jv128_400), .val (.int jv150_409), .val (.int jv172_418), .val (.int (0 : Int32)), .unset, .unset]) rfl ?_
        exact kt
      exact ⟨(0 : Int32), T437, _, X437, e437, N437, (if_neg hc224).symm, pre445⟩
  have pre446 : ∀ t, Steps p.tables e below (T442.setTop (mkF m 233 #[.val (.int x1), .val (.int x2), .val (.int x3), .val (.int x4), .val (.ref b335), .val (.ref b349), .val (.ref b_361), .val (.int jv94_384), .val (.int jv106_391), .val (.int jv128_400), .val (.int jv150_409), .val (.int jv172_418), .val (.int jv222_442), .val (.int (0 : Int32)), .unset] [])) t → Steps p.tables e below (s₁.setTop (entryFrame m #[(.int x1), (.int x2), (.int x3), (.int x4)] maxLocals)) t := by
    intro t kt
    refine pre441 t ?_
    show Steps p.tables e below (T437.setTop (mkF m 222 #[.val (.int x1), .val (.int x2), .val (.int x3), .val (.int x4), .val (.ref b335), .val (.ref b349), .val (.ref b_361), .val (.int jv94_384), .val (.int jv106_391), .val (.int jv128_400), .val (.int jv150_409), .val (.int jv172_418), .val (.int jv214_437), .unset, .unset] [])) _
    refine k442 _ ?_
    refine XS.iconst X442.here hx rfl (hb hby at_230) ?_
    refine XS.istore X442.here hx rfl (hb hby at_231) rfl (l' := #[.val (.int x1), .val (.int x2), .val (.int x3), .val (.int x4), .val (.ref b335), .val (.ref b349), .val (.ref b_361), .val (.int jv94_384), .val (.int jv106_391), .val (.int jv128_400), .val (.int jv150_409), .val (.int jv172_418), .val (.int jv222_442), .val (.int (0 : Int32)), .unset]) rfl ?_
    exact kt
  obtain ⟨jv233_447, T447, L447, X447, e447, N447, J447_0, k447⟩ : ∃ (jv233_447 : Int32) (T447 : State) (L447 : List Loc), Stand p l e room_1 (s.setVm T361.vm) m #[(.int x1), (.int x2), (.int x3), (.int x4)] below meth c T447 L447 15 132 ∧ T447.heap = T361.heap ∧ Fr n0 L447 ∧ (jv233_447 = (if jv106_391 = (0 : Int32) then (0 : Int32) else (1 : Int32))) ∧ ∀ t, Steps p.tables e below (T447.setTop (mkF m 241 #[.val (.int x1), .val (.int x2), .val (.int x3), .val (.int x4), .val (.ref b335), .val (.ref b349), .val (.ref b_361), .val (.int jv94_384), .val (.int jv106_391), .val (.int jv128_400), .val (.int jv150_409), .val (.int jv172_418), .val (.int jv222_442), .val (.int jv233_447), .unset] [])) t → Steps p.tables e below (T442.setTop (mkF m 233 #[.val (.int x1), .val (.int x2), .val (.int x3), .val (.int x4), .val (.ref b335), .val (.ref b349), .val (.ref b_361), .val (.int jv94_384), .val (.int jv106_391), .val (.int jv128_400), .val (.int jv150_409), .val (.int jv172_418), .val (.int jv222_442), .val (.int (0 : Int32)), .unset] [])) t := by
    have pj447 : ∀ t, Steps p.tables e below (T442.setTop (mkF m 233 #[.val (.int x1), .val (.int x2), .val (.int x3), .val (.int x4), .val (.ref b335), .val (.ref b349), .val (.ref b_361), .val (.int jv94_384), .val (.int jv106_391), .val (.int jv128_400), .val (.int jv150_409), .val (.int jv172_418), .val (.int jv222_442), .val (.int (0 : Int32)), .unset] [])) t → Steps p.tables e below (T442.setTop (mkF m 233 #[.val (.int x1), .val (.int x2), .val (.int x3), .val (.int x4), .val (.ref b335), .val (.ref b349), .val (.ref b_361), .val (.int jv94_384), .val (.int jv106_391), .val (.int jv128_400), .val (.int jv150_409), .val (.int jv172_418), .val (.int jv222_442), .val (.int (0 : Int32)), .unset] [])) t := fun _ k => k
    have pre448 : ∀ t, Steps p.tables e below (T442.setTop (mkF m 235 #[.val (.int x1), .val (.int x2), .val (.int x3), .val (.int x4), .val (.ref b335), .val (.ref b349), .val (.ref b_361), .val (.int jv94_384), .val (.int jv106_391), .val (.int jv128_400), .val (.int jv150_409), .val (.int jv172_418), .val (.int jv222_442), .val (.int (0 : Int32)), .unset] [(.int jv106_391)])) t → Steps p.tables e below (T442.setTop (mkF m 233 #[.val (.int x1), .val (.int x2), .val (.int x3), .val (.int x4), .val (.ref b335), .val (.ref b349), .val (.ref b_361), .val (.int jv94_384), .val (.int jv106_391), .val (.int jv128_400), .val (.int jv150_409), .val (.int jv172_418), .val (.int jv222_442), .val (.int (0 : Int32)), .unset] [])) t := by
      intro t kt
      refine pj447 t ?_
      show Steps p.tables e below (T442.setTop (mkF m 233 #[.val (.int x1), .val (.int x2), .val (.int x3), .val (.int x4), .val (.ref b335), .val (.ref b349), .val (.ref b_361), .val (.int jv94_384), .val (.int jv106_391), .val (.int jv128_400), .val (.int jv150_409), .val (.int jv172_418), .val (.int jv222_442), .val (.int (0 : Int32)), .unset] [])) _
      refine XS.iload X442.here hx rfl (hb hby at_233) rfl ?_
      exact kt
    by_cases hc235 : jv106_391 = (0 : Int32)
    · skip
      have pre449 : ∀ t, Steps p.tables e below (T442.setTop (mkF m 241 #[.val (.int x1), .val (.int x2), .val (.int x3), .val (.int x4), .val (.ref b335), .val (.ref b349), .val (.ref b_361), .val (.int jv94_384), .val (.int jv106_391), .val (.int jv128_400), .val (.int jv150_409), .val (.int jv172_418), .val (.int jv222_442), .val (.int (0 : Int32)), .unset] [])) t → Steps p.tables e below (T442.setTop (mkF m 233 #[.val (.int x1), .val (.int x2), .val (.int x3), .val (.int x4), .val (.ref b335), .val (.ref b349), .val (.ref b_361), .val (.int jv94_384), .val (.int jv106_391), .val (.int jv128_400), .val (.int jv150_409), .val (.int jv172_418), .val (.int jv222_442), .val (.int (0 : Int32)), .unset] [])) t := by
        intro t kt
        refine pre448 t ?_
        show Steps p.tables e below (T442.setTop (mkF m 235 #[.val (.int x1), .val (.int x2), .val (.int x3), .val (.int x4), .val (.ref b335), .val (.ref b349), .val (.ref b_361), .val (.int jv94_384), .val (.int jv106_391), .val (.int jv128_400), .val (.int jv150_409), .val (.int jv172_418), .val (.int jv222_442), .val (.int (0 : Int32)), .unset] [(.int jv106_391)])) _
        refine XS.ifYes X442.here hx rfl (pc0 := 235) (pc' := 241) rfl (hb hby at_235) rfl ((if0 _ _).trans (teq hc235).1) (by decide) (by decide) ?_
        exact kt
      exact ⟨(0 : Int32), T442, _, X442, e442, N442, (if_pos hc235).symm, pre449⟩
    · skip
      have pre450 : ∀ t, Steps p.tables e below (T442.setTop (mkF m 241 #[.val (.int x1), .val (.int x2), .val (.int x3), .val (.int x4), .val (.ref b335), .val (.ref b349), .val (.ref b_361), .val (.int jv94_384), .val (.int jv106_391), .val (.int jv128_400), .val (.int jv150_409), .val (.int jv172_418), .val (.int jv222_442), .val (.int (1 : Int32)), .unset] [])) t → Steps p.tables e below (T442.setTop (mkF m 233 #[.val (.int x1), .val (.int x2), .val (.int x3), .val (.int x4), .val (.ref b335), .val (.ref b349), .val (.ref b_361), .val (.int jv94_384), .val (.int jv106_391), .val (.int jv128_400), .val (.int jv150_409), .val (.int jv172_418), .val (.int jv222_442), .val (.int (0 : Int32)), .unset] [])) t := by
        intro t kt
        refine pre448 t ?_
        show Steps p.tables e below (T442.setTop (mkF m 235 #[.val (.int x1), .val (.int x2), .val (.int x3), .val (.int x4), .val (.ref b335), .val (.ref b349), .val (.ref b_361), .val (.int jv94_384), .val (.int jv106_391), .val (.int jv128_400), .val (.int jv150_409), .val (.int jv172_418), .val (.int jv222_442), .val (.int (0 : Int32)), .unset] [(.int jv106_391)])) _
        refine XS.ifNo X442.here hx rfl (hb hby at_235) rfl ((if0 _ _).trans (feq hc235).1) ?_
        refine XS.iconst X442.here hx rfl (hb hby at_238) ?_
        refine XS.istore X442.here hx rfl (hb hby at_239) rfl (l' := #[.val (.int x1), .val (.int x2), .val (.int x3), .val (.int x4), .val (.ref b335), .val (.ref b349), .val (.ref b_361), .val (.int jv94_384), .val (.int jv106_391), .val (.int jv128_400), .val (.int jv150_409), .val (.int jv172_418), .val (.int jv222_442), .val (.int (1 : Int32)), .unset]) rfl ?_
        exact kt
      exact ⟨(1 : Int32), T442, _, X442, e442, N442, (if_neg hc235).symm, pre450⟩
  have pre451 : ∀ t, Steps p.tables e below (T447.setTop (mkF m 241 #[.val (.int x1), .val (.int x2), .val (.int x3), .val (.int x4), .val (.ref b335), .val (.ref b349), .val (.ref b_361), .val (.int jv94_384), .val (.int jv106_391), .val (.int jv128_400), .val (.int jv150_409), .val (.int jv172_418), .val (.int jv222_442), .val (.int jv233_447), .unset] [])) t → Steps p.tables e below (s₁.setTop (entryFrame m #[(.int x1), (.int x2), (.int x3), (.int x4)] maxLocals)) t := by
    intro t kt
    refine pre446 t ?_
    show Steps p.tables e below (T442.setTop (mkF m 233 #[.val (.int x1), .val (.int x2), .val (.int x3), .val (.int x4), .val (.ref b335), .val (.ref b349), .val (.ref b_361), .val (.int jv94_384), .val (.int jv106_391), .val (.int jv128_400), .val (.int jv150_409), .val (.int jv172_418), .val (.int jv222_442), .val (.int (0 : Int32)), .unset] [])) _
    refine k447 _ ?_
    exact kt
  obtain ⟨jv241_452, T452, L452, X452, e452, N452, J452_0, k452⟩ : ∃ (jv241_452 : Int32) (T452 : State) (L452 : List Loc), Stand p l e room_1 (s.setVm T361.vm) m #[(.int x1), (.int x2), (.int x3), (.int x4)] below meth c T452 L452 15 132 ∧ T452.heap = T361.heap ∧ Fr n0 L452 ∧ (jv241_452 = (if jv128_400 = (0 : Int32) then jv233_447 else (2 : Int32))) ∧ ∀ t, Steps p.tables e below (T452.setTop (mkF m 249 #[.val (.int x1), .val (.int x2), .val (.int x3), .val (.int x4), .val (.ref b335), .val (.ref b349), .val (.ref b_361), .val (.int jv94_384), .val (.int jv106_391), .val (.int jv128_400), .val (.int jv150_409), .val (.int jv172_418), .val (.int jv222_442), .val (.int jv241_452), .unset] [])) t → Steps p.tables e below (T447.setTop (mkF m 241 #[.val (.int x1), .val (.int x2), .val (.int x3), .val (.int x4), .val (.ref b335), .val (.ref b349), .val (.ref b_361), .val (.int jv94_384), .val (.int jv106_391), .val (.int jv128_400), .val (.int jv150_409), .val (.int jv172_418), .val (.int jv222_442), .val (.int jv233_447), .unset] [])) t := by
    have pj452 : ∀ t, Steps p.tables e below (T447.setTop (mkF m 241 #[.val (.int x1), .val (.int x2), .val (.int x3), .val (.int x4), .val (.ref b335), .val (.ref b349), .val (.ref b_361), .val (.int jv94_384), .val (.int jv106_391), .val (.int jv128_400), .val (.int jv150_409), .val (.int jv172_418), .val (.int jv222_442), .val (.int jv233_447), .unset] [])) t → Steps p.tables e below (T447.setTop (mkF m 241 #[.val (.int x1), .val (.int x2), .val (.int x3), .val (.int x4), .val (.ref b335), .val (.ref b349), .val (.ref b_361), .val (.int jv94_384), .val (.int jv106_391), .val (.int jv128_400), .val (.int jv150_409), .val (.int jv172_418), .val (.int jv222_442), .val (.int jv233_447), .unset] [])) t := fun _ k => k
    have pre453 : ∀ t, Steps p.tables e below (T447.setTop (mkF m 243 #[.val (.int x1), .val (.int x2), .val (.int x3), .val (.int x4), .val (.ref b335), .val (.ref b349), .val (.ref b_361), .val (.int jv94_384), .val (.int jv106_391), .val (.int jv128_400), .val (.int jv150_409), .val (.int jv172_418), .val (.int jv222_442), .val (.int jv233_447), .unset] [(.int jv128_400)])) t → Steps p.tables e below (T447.setTop (mkF m 241 #[.val (.int x1), .val (.int x2), .val (.int x3), .val (.int x4), .val (.ref b335), .val (.ref b349), .val (.ref b_361), .val (.int jv94_384), .val (.int jv106_391), .val (.int jv128_400), .val (.int jv150_409), .val (.int jv172_418), .val (.int jv222_442), .val (.int jv233_447), .unset] [])) t := by
      intro t kt
      refine pj452 t ?_
      show Steps p.tables e below (T447.setTop (mkF m 241 #[.val (.int x1), .val (.int x2), .val (.int x3), .val (.int x4), .val (.ref b335), .val (.ref b349), .val (.ref b_361), .val (.int jv94_384), .val (.int jv106_391), .val (.int jv128_400), .val (.int jv150_409), .val (.int jv172_418), .val (.int jv222_442), .val (.int jv233_447), .unset] [])) _
      refine XS.iload X447.here hx rfl (hb hby at_241) rfl ?_
      exact kt
    by_cases hc243 : jv128_400 = (0 : Int32)
    · skip
      have pre454 : ∀ t, Steps p.tables e below (T447.setTop (mkF m 249 #[.val (.int x1), .val (.int x2), .val (.int x3), .val (.int x4), .val (.ref b335), .val (.ref b349), .val (.ref b_361), .val (.int jv94_384), .val (.int jv106_391), .val (.int jv128_400), .val (.int jv150_409), .val (.int jv172_418), .val (.int jv222_442), .val (.int jv233_447), .unset] [])) t → Steps p.tables e below (T447.setTop (mkF m 241 #[.val (.int x1), .val (.int x2), .val (.int x3), .val (.int x4), .val (.ref b335), .val (.ref b349), .val (.ref b_361), .val (.int jv94_384), .val (.int jv106_391), .val (.int jv128_400), .val (.int jv150_409), .val (.int jv172_418), .val (.int jv222_442), .val (.int jv233_447), .unset] [])) t := by
        intro t kt
        refine pre453 t ?_
        show Steps p.tables e below (T447.setTop (mkF m 243 #[.val (.int x1), .val (.int x2), .val (.int x3), .val (.int x4), .val (.ref b335), .val (.ref b349), .val (.ref b_361), .val (.int jv94_384), .val (.int jv106_391), .val (.int jv128_400), .val (.int jv150_409), .val (.int jv172_418), .val (.int jv222_442), .val (.int jv233_447), .unset] [(.int jv128_400)])) _
        refine XS.ifYes X447.here hx rfl (pc0 := 243) (pc' := 249) rfl (hb hby at_243) rfl ((if0 _ _).trans (teq hc243).1) (by decide) (by decide) ?_
        exact kt
      exact ⟨jv233_447, T447, _, X447, e447, N447, (if_pos hc243).symm, pre454⟩
    · skip
      have pre455 : ∀ t, Steps p.tables e below (T447.setTop (mkF m 249 #[.val (.int x1), .val (.int x2), .val (.int x3), .val (.int x4), .val (.ref b335), .val (.ref b349), .val (.ref b_361), .val (.int jv94_384), .val (.int jv106_391), .val (.int jv128_400), .val (.int jv150_409), .val (.int jv172_418), .val (.int jv222_442), .val (.int (2 : Int32)), .unset] [])) t → Steps p.tables e below (T447.setTop (mkF m 241 #[.val (.int x1), .val (.int x2), .val (.int x3), .val (.int x4), .val (.ref b335), .val (.ref b349), .val (.ref b_361), .val (.int jv94_384), .val (.int jv106_391), .val (.int jv128_400), .val (.int jv150_409), .val (.int jv172_418), .val (.int jv222_442), .val (.int jv233_447), .unset] [])) t := by
        intro t kt
        refine pre453 t ?_
        show Steps p.tables e below (T447.setTop (mkF m 243 #[.val (.int x1), .val (.int x2), .val (.int x3), .val (.int x4), .val (.ref b335), .val (.ref b349), .val (.ref b_361), .val (.int jv94_384), .val (.int jv106_391), .val (.int jv128_400), .val (.int jv150_409), .val (.int jv172_418), .val (.int jv222_442), .val (.int jv233_447), .unset] [(.int jv128_400)])) _
        refine XS.ifNo X447.here hx rfl (hb hby at_243) rfl ((if0 _ _).trans (feq hc243).1) ?_
        refine XS.iconst X447.here hx rfl (hb hby at_246) ?_
        refine XS.istore X447.here hx rfl (hb hby at_247) rfl (l' := #[.val (.int x1), .val (.int x2), .val (.int x3), .val (.int x4), .val (.ref b335), .val (.ref b349), .val (.ref b_361), .val (.int jv94_384), .val (.int jv106_391), .val (.int jv128_400), .val (.int jv150_409), .val (.int jv172_418), .val (.int jv222_442), .val (.int (2 : Int32)), .unset]) rfl ?_
        exact kt
      exact ⟨(2 : Int32), T447, _, X447, e447, N447, (if_neg hc243).symm, pre455⟩
  have pre456 : ∀ t, Steps p.tables e below (T452.setTop (mkF m 249 #[.val (.int x1), .val (.int x2), .val (.int x3), .val (.int x4), .val (.ref b335), .val (.ref b349), .val (.ref b_361), .val (.int jv94_384), .val (.int jv106_391), .val (.int jv128_400), .val (.int jv150_409), .val (.int jv172_418), .val (.int jv222_442), .val (.int jv241_452), .unset] [])) t → Steps p.tables e below (s₁.setTop (entryFrame m #[(.int x1), (.int x2), (.int x3), (.int x4)] maxLocals)) t := by
    intro t kt
    refine pre451 t ?_
    show Steps p.tables e below (T447.setTop (mkF m 241 #[.val (.int x1), .val (.int x2), .val (.int x3), .val (.int x4), .val (.ref b335), .val (.ref b349), .val (.ref b_361), .val (.int jv94_384), .val (.int jv106_391), .val (.int jv128_400), .val (.int jv150_409), .val (.int jv172_418), .val (.int jv222_442), .val (.int jv233_447), .unset] [])) _
    refine k452 _ ?_
    exact kt
  obtain ⟨jv249_457, T457, L457, X457, e457, N457, J457_0, k457⟩ : ∃ (jv249_457 : Int32) (T457 : State) (L457 : List Loc), Stand p l e room_1 (s.setVm T361.vm) m #[(.int x1), (.int x2), (.int x3), (.int x4)] below meth c T457 L457 15 132 ∧ T457.heap = T361.heap ∧ Fr n0 L457 ∧ (jv249_457 = (if jv150_409 = (0 : Int32) then jv241_452 else (3 : Int32))) ∧ ∀ t, Steps p.tables e below (T457.setTop (mkF m 257 #[.val (.int x1), .val (.int x2), .val (.int x3), .val (.int x4), .val (.ref b335), .val (.ref b349), .val (.ref b_361), .val (.int jv94_384), .val (.int jv106_391), .val (.int jv128_400), .val (.int jv150_409), .val (.int jv172_418), .val (.int jv222_442), .val (.int jv249_457), .unset] [])) t → Steps p.tables e below (T452.setTop (mkF m 249 #[.val (.int x1), .val (.int x2), .val (.int x3), .val (.int x4), .val (.ref b335), .val (.ref b349), .val (.ref b_361), .val (.int jv94_384), .val (.int jv106_391), .val (.int jv128_400), .val (.int jv150_409), .val (.int jv172_418), .val (.int jv222_442), .val (.int jv241_452), .unset] [])) t := by
    have pj457 : ∀ t, Steps p.tables e below (T452.setTop (mkF m 249 #[.val (.int x1), .val (.int x2), .val (.int x3), .val (.int x4), .val (.ref b335), .val (.ref b349), .val (.ref b_361), .val (.int jv94_384), .val (.int jv106_391), .val (.int jv128_400), .val (.int jv150_409), .val (.int jv172_418), .val (.int jv222_442), .val (.int jv241_452), .unset] [])) t → Steps p.tables e below (T452.setTop (mkF m 249 #[.val (.int x1), .val (.int x2), .val (.int x3), .val (.int x4), .val (.ref b335), .val (.ref b349), .val (.ref b_361), .val (.int jv94_384), .val (.int jv106_391), .val (.int jv128_400), .val (.int jv150_409), .val (.int jv172_418), .val (.int jv222_442), .val (.int jv241_452), .unset] [])) t := fun _ k => k
    have pre458 : ∀ t, Steps p.tables e below (T452.setTop (mkF m 251 #[.val (.int x1), .val (.int x2), .val (.int x3), .val (.int x4), .val (.ref b335), .val (.ref b349), .val (.ref b_361), .val (.int jv94_384), .val (.int jv106_391), .val (.int jv128_400), .val (.int jv150_409), .val (.int jv172_418), .val (.int jv222_442), .val (.int jv241_452), .unset] [(.int jv150_409)])) t → Steps p.tables e below (T452.setTop (mkF m 249 #[.val (.int x1), .val (.int x2), .val (.int x3), .val (.int x4), .val (.ref b335), .val (.ref b349), .val (.ref b_361), .val (.int jv94_384), .val (.int jv106_391), .val (.int jv128_400), .val (.int jv150_409), .val (.int jv172_418), .val (.int jv222_442), .val (.int jv241_452), .unset] [])) t := by
      intro t kt
      refine pj457 t ?_
      show Steps p.tables e below (T452.setTop (mkF m 249 #[.val (.int x1), .val (.int x2), .val (.int x3), .val (.int x4), .val (.ref b335), .val (.ref b349), .val (.ref b_361), .val (.int jv94_384), .val (.int jv106_391), .val (.int jv128_400), .val (.int jv150_409), .val (.int jv172_418), .val (.int jv222_442), .val (.int jv241_452), .unset] [])) _
      refine XS.iload X452.here hx rfl (hb hby at_249) rfl ?_
      exact kt
    by_cases hc251 : jv150_409 = (0 : Int32)
    · skip
      have pre459 : ∀ t, Steps p.tables e below (T452.setTop (mkF m 257 #[.val (.int x1), .val (.int x2), .val (.int x3), .val (.int x4), .val (.ref b335), .val (.ref b349), .val (.ref b_361), .val (.int jv94_384), .val (.int jv106_391), .val (.int jv128_400), .val (.int jv150_409), .val (.int jv172_418), .val (.int jv222_442), .val (.int jv241_452), .unset] [])) t → Steps p.tables e below (T452.setTop (mkF m 249 #[.val (.int x1), .val (.int x2), .val (.int x3), .val (.int x4), .val (.ref b335), .val (.ref b349), .val (.ref b_361), .val (.int jv94_384), .val (.int jv106_391), .val (.int jv128_400), .val (.int jv150_409), .val (.int jv172_418), .val (.int jv222_442), .val (.int jv241_452), .unset] [])) t := by
        intro t kt
        refine pre458 t ?_
        show Steps p.tables e below (T452.setTop (mkF m 251 #[.val (.int x1), .val (.int x2), .val (.int x3), .val (.int x4), .val (.ref b335), .val (.ref b349), .val (.ref b_361), .val (.int jv94_384), .val (.int jv106_391), .val (.int jv128_400), .val (.int jv150_409), .val (.int jv172_418), .val (.int jv222_442), .val (.int jv241_452), .unset] [(.int jv150_409)])) _
        refine XS.ifYes X452.here hx rfl (pc0 := 251) (pc' := 257) rfl (hb hby at_251) rfl ((if0 _ _).trans (teq hc251).1) (by decide) (by decide) ?_
        exact kt
      exact ⟨jv241_452, T452, _, X452, e452, N452, (if_pos hc251).symm, pre459⟩
    · skip
      have pre460 : ∀ t, Steps p.tables e below (T452.setTop (mkF m 257 #[.val (.int x1), .val (.int x2), .val (.int x3), .val (.int x4), .val (.ref b335), .val (.ref b349), .val (.ref b_361), .val (.int jv94_384), .val (.int jv106_391), .val (.int jv128_400), .val (.int jv150_409), .val (.int jv172_418), .val (.int jv222_442), .val (.int (3 : Int32)), .unset] [])) t → Steps p.tables e below (T452.setTop (mkF m 249 #[.val (.int x1), .val (.int x2), .val (.int x3), .val (.int x4), .val (.ref b335), .val (.ref b349), .val (.ref b_361), .val (.int jv94_384), .val (.int jv106_391), .val (.int jv128_400), .val (.int jv150_409), .val (.int jv172_418), .val (.int jv222_442), .val (.int jv241_452), .unset] [])) t := by
        intro t kt
        refine pre458 t ?_
        show Steps p.tables e below (T452.setTop (mkF m 251 #[.val (.int x1), .val (.int x2), .val (.int x3), .val (.int x4), .val (.ref b335), .val (.ref b349), .val (.ref b_361), .val (.int jv94_384), .val (.int jv106_391), .val (.int jv128_400), .val (.int jv150_409), .val (.int jv172_418), .val (.int jv222_442), .val (.int jv241_452), .unset] [(.int jv150_409)])) _
        refine XS.ifNo X452.here hx rfl (hb hby at_251) rfl ((if0 _ _).trans (feq hc251).1) ?_
        refine XS.iconst X452.here hx rfl (hb hby at_254) ?_
        refine XS.istore X452.here hx rfl (hb hby at_255) rfl (l' := #[.val (.int x1), .val (.int x2), .val (.int x3), .val (.int x4), .val (.ref b335), .val (.ref b349), .val (.ref b_361), .val (.int jv94_384), .val (.int jv106_391), .val (.int jv128_400), .val (.int jv150_409), .val (.int jv172_418), .val (.int jv222_442), .val (.int (3 : Int32)), .unset]) rfl ?_
        exact kt
      exact ⟨(3 : Int32), T452, _, X452, e452, N452, (if_neg hc251).symm, pre460⟩
  have pre461 : ∀ t, Steps p.tables e below (T457.setTop (mkF m 257 #[.val (.int x1), .val (.int x2), .val (.int x3), .val (.int x4), .val (.ref b335), .val (.ref b349), .val (.ref b_361), .val (.int jv94_384), .val (.int jv106_391), .val (.int jv128_400), .val (.int jv150_409), .val (.int jv172_418), .val (.int jv222_442), .val (.int jv249_457), .unset] [])) t → Steps p.tables e below (s₁.setTop (entryFrame m #[(.int x1), (.int x2), (.int x3), (.int x4)] maxLocals)) t := by
    intro t kt
    refine pre456 t ?_
    show Steps p.tables e below (T452.setTop (mkF m 249 #[.val (.int x1), .val (.int x2), .val (.int x3), .val (.int x4), .val (.ref b335), .val (.ref b349), .val (.ref b_361), .val (.int jv94_384), .val (.int jv106_391), .val (.int jv128_400), .val (.int jv150_409), .val (.int jv172_418), .val (.int jv222_442), .val (.int jv241_452), .unset] [])) _
    refine k457 _ ?_
    exact kt
  obtain ⟨jv257_462, T462, L462, X462, e462, N462, J462_0, k462⟩ : ∃ (jv257_462 : Int32) (T462 : State) (L462 : List Loc), Stand p l e room_1 (s.setVm T361.vm) m #[(.int x1), (.int x2), (.int x3), (.int x4)] below meth c T462 L462 15 132 ∧ T462.heap = T361.heap ∧ Fr n0 L462 ∧ (jv257_462 = (if jv172_418 = (0 : Int32) then jv249_457 else (4 : Int32))) ∧ ∀ t, Steps p.tables e below (T462.setTop (mkF m 265 #[.val (.int x1), .val (.int x2), .val (.int x3), .val (.int x4), .val (.ref b335), .val (.ref b349), .val (.ref b_361), .val (.int jv94_384), .val (.int jv106_391), .val (.int jv128_400), .val (.int jv150_409), .val (.int jv172_418), .val (.int jv222_442), .val (.int jv257_462), .unset] [])) t → Steps p.tables e below (T457.setTop (mkF m 257 #[.val (.int x1), .val (.int x2), .val (.int x3), .val (.int x4), .val (.ref b335), .val (.ref b349), .val (.ref b_361), .val (.int jv94_384), .val (.int jv106_391), .val (.int jv128_400), .val (.int jv150_409), .val (.int jv172_418), .val (.int jv222_442), .val (.int jv249_457), .unset] [])) t := by
    have pj462 : ∀ t, Steps p.tables e below (T457.setTop (mkF m 257 #[.val (.int x1), .val (.int x2), .val (.int x3), .val (.int x4), .val (.ref b335), .val (.ref b349), .val (.ref b_361), .val (.int jv94_384), .val (.int jv106_391), .val (.int jv128_400), .val (.int jv150_409), .val (.int jv172_418), .val (.int jv222_442), .val (.int jv249_457), .unset] [])) t → Steps p.tables e below (T457.setTop (mkF m 257 #[.val (.int x1), .val (.int x2), .val (.int x3), .val (.int x4), .val (.ref b335), .val (.ref b349), .val (.ref b_361), .val (.int jv94_384), .val (.int jv106_391), .val (.int jv128_400), .val (.int jv150_409), .val (.int jv172_418), .val (.int jv222_442), .val (.int jv249_457), .unset] [])) t := fun _ k => k
    have pre463 : ∀ t, Steps p.tables e below (T457.setTop (mkF m 259 #[.val (.int x1), .val (.int x2), .val (.int x3), .val (.int x4), .val (.ref b335), .val (.ref b349), .val (.ref b_361), .val (.int jv94_384), .val (.int jv106_391), .val (.int jv128_400), .val (.int jv150_409), .val (.int jv172_418), .val (.int jv222_442), .val (.int jv249_457), .unset] [(.int jv172_418)])) t → Steps p.tables e below (T457.setTop (mkF m 257 #[.val (.int x1), .val (.int x2), .val (.int x3), .val (.int x4), .val (.ref b335), .val (.ref b349), .val (.ref b_361), .val (.int jv94_384), .val (.int jv106_391), .val (.int jv128_400), .val (.int jv150_409), .val (.int jv172_418), .val (.int jv222_442), .val (.int jv249_457), .unset] [])) t := by
      intro t kt
      refine pj462 t ?_
      show Steps p.tables e below (T457.setTop (mkF m 257 #[.val (.int x1), .val (.int x2), .val (.int x3), .val (.int x4), .val (.ref b335), .val (.ref b349), .val (.ref b_361), .val (.int jv94_384), .val (.int jv106_391), .val (.int jv128_400), .val (.int jv150_409), .val (.int jv172_418), .val (.int jv222_442), .val (.int jv249_457), .unset] [])) _
      refine XS.iload X457.here hx rfl (hb hby at_257) rfl ?_
      exact kt
    by_cases hc259 : jv172_418 = (0 : Int32)
    · skip
      have pre464 : ∀ t, Steps p.tables e below (T457.setTop (mkF m 265 #[.val (.int x1), .val (.int x2), .val (.int x3), .val (.int x4), .val (.ref b335), .val (.ref b349), .val (.ref b_361), .val (.int jv94_384), .val (.int jv106_391), .val (.int jv128_400), .val (.int jv150_409), .val (.int jv172_418), .val (.int jv222_442), .val (.int jv249_457), .unset] [])) t → Steps p.tables e below (T457.setTop (mkF m 257 #[.val (.int x1), .val (.int x2), .val (.int x3), .val (.int x4), .val (.ref b335), .val (.ref b349), .val (.ref b_361), .val (.int jv94_384), .val (.int jv106_391), .val (.int jv128_400), .val (.int jv150_409), .val (.int jv172_418), .val (.int jv222_442), .val (.int jv249_457), .unset] [])) t := by
        intro t kt
        refine pre463 t ?_
        show Steps p.tables e below (T457.setTop (mkF m 259 #[.val (.int x1), .val (.int x2), .val (.int x3), .val (.int x4), .val (.ref b335), .val (.ref b349), .val (.ref b_361), .val (.int jv94_384), .val (.int jv106_391), .val (.int jv128_400), .val (.int jv150_409), .val (.int jv172_418), .val (.int jv222_442), .val (.int jv249_457), .unset] [(.int jv172_418)])) _
        refine XS.ifYes X457.here hx rfl (pc0 := 259) (pc' := 265) rfl (hb hby at_259) rfl ((if0 _ _).trans (teq hc259).1) (by decide) (by decide) ?_
        exact kt
      exact ⟨jv249_457, T457, _, X457, e457, N457, (if_pos hc259).symm, pre464⟩
    · skip
      have pre465 : ∀ t, Steps p.tables e below (T457.setTop (mkF m 265 #[.val (.int x1), .val (.int x2), .val (.int x3), .val (.int x4), .val (.ref b335), .val (.ref b349), .val (.ref b_361), .val (.int jv94_384), .val (.int jv106_391), .val (.int jv128_400), .val (.int jv150_409), .val (.int jv172_418), .val (.int jv222_442), .val (.int (4 : Int32)), .unset] [])) t → Steps p.tables e below (T457.setTop (mkF m 257 #[.val (.int x1), .val (.int x2), .val (.int x3), .val (.int x4), .val (.ref b335), .val (.ref b349), .val (.ref b_361), .val (.int jv94_384), .val (.int jv106_391), .val (.int jv128_400), .val (.int jv150_409), .val (.int jv172_418), .val (.int jv222_442), .val (.int jv249_457), .unset] [])) t := by
        intro t kt
        refine pre463 t ?_
        show Steps p.tables e below (T457.setTop (mkF m 259 #[.val (.int x1), .val (.int x2), .val (.int x3), .val (.int x4), .val (.ref b335), .val (.ref b349), .val (.ref b_361), .val (.int jv94_384), .val (.int jv106_391), .val (.int jv128_400), .val (.int jv150_409), .val (.int jv172_418), .val (.int jv222_442), .val (.int jv249_457), .unset] [(.int jv172_418)])) _
        refine XS.ifNo X457.here hx rfl (hb hby at_259) rfl ((if0 _ _).trans (feq hc259).1) ?_
        refine XS.iconst X457.here hx rfl (hb hby at_262) ?_
        refine XS.istore X457.here hx rfl (hb hby at_263) rfl (l' := #[.val (.int x1), .val (.int x2), .val (.int x3), .val (.int x4), .val (.ref b335), .val (.ref b349), .val (.ref b_361), .val (.int jv94_384), .val (.int jv106_391), .val (.int jv128_400), .val (.int jv150_409), .val (.int jv172_418), .val (.int jv222_442), .val (.int (4 : Int32)), .unset]) rfl ?_
        exact kt
      exact ⟨(4 : Int32), T457, _, X457, e457, N457, (if_neg hc259).symm, pre465⟩
  obtain ⟨_, _, ⟨T466, L466, k466, n466⟩, -, X466, ⟨Lc466, hQ466, l466, y466, z466⟩, st466⟩ := Jvm.LawKit.callS X462 hx (y := (⟨"java/lang/Math", "max", "(II)I"⟩ : MethodName)) hown361 (mvT hZ361 (own_wd hw 117 rfl)) (mvT hZ361 (own_wd hw 71 rfl)) (mvT hZ361 (own_wd hw 72 rfl)) (mvT hZ361 (own_wd hw 73 rfl)) (by decide) (backOf (W := 0) (rm16 l Z a0 hw [] (0 : Int32) (jv257_462 - jv222_442) T361.heap n0 Z361 O361) hZ361 (own_wd hw 73 rfl) (own_wd hw 72 rfl) (by decide) (by decide)) (g := (mkF m 271 #[.val (.int x1), .val (.int x2), .val (.int x3), .val (.int x4), .val (.ref b335), .val (.ref b349), .val (.ref b_361), .val (.int jv94_384), .val (.int jv106_391), .val (.int jv128_400), .val (.int jv150_409), .val (.int jv172_418), .val (.int jv222_442), .val (.int jv257_462), .unset] [(.int (jv257_462 - jv222_442)), (.int (0 : Int32))])) rfl (by rw [hml]; rfl) (argsL := [(.int (0 : Int32)), (.int (jv257_462 - jv222_442))]) (rest := []) (lenOf pd_2 rfl) rfl (by show 2 * 0 + _ ≤ _; exact Nat.le_of_eq rfl) (hb hby at_271) (fun _ _ => ⟨rfl, e462, (by decide : 15 + 0 ≤ _), (by decide : 132 + 0 ≤ _)⟩)
  dsimp only [Pt.U, Pt.locs, Pt.cells, Pt.slots] at X466 l466 y466 z466 st466 hQ466
  subst l466 y466 z466
  obtain ⟨rfl, N466q, eh466⟩ := hQ466
  have N466 := Fr.app N462 N466q
  have fin := own_fin Q361_4 J384_0 J377_0 J370_0 J363_0 J391_0 J400_0 J409_0 J418_0 J442_0 J437_0 J432_0 J427_0 J462_0 J457_0 J452_0 J447_0
  have rn467 : (own_max (0 : Int32) (jv257_462 - jv222_442)) = (Int32.ofNat (ub_361 - ua_361)) := fin.1
  have pre468 : ∀ t, Steps p.tables e below (T466.setTop (mkF m 276 #[.val (.int x1), .val (.int x2), .val (.int x3), .val (.int x4), .val (.ref b335), .val (.ref b349), .val (.ref b_361), .val (.int jv94_384), .val (.int jv106_391), .val (.int jv128_400), .val (.int jv150_409), .val (.int jv172_418), .val (.int jv222_442), .val (.int jv257_462), .val (.int (Int32.ofNat (ub_361 - ua_361)))] [])) t → Steps p.tables e below (s₁.setTop (entryFrame m #[(.int x1), (.int x2), (.int x3), (.int x4)] maxLocals)) t := by
    intro t kt
    refine pre461 t ?_
    show Steps p.tables e below (T457.setTop (mkF m 257 #[.val (.int x1), .val (.int x2), .val (.int x3), .val (.int x4), .val (.ref b335), .val (.ref b349), .val (.ref b_361), .val (.int jv94_384), .val (.int jv106_391), .val (.int jv128_400), .val (.int jv150_409), .val (.int jv172_418), .val (.int jv222_442), .val (.int jv249_457), .unset] [])) _
    refine k462 _ ?_
    refine XS.iconst X462.here hx rfl (hb hby at_265) ?_
    show Steps p.tables e below (T462.setTop (mkF m 266 #[.val (.int x1), .val (.int x2), .val (.int x3), .val (.int x4), .val (.ref b335), .val (.ref b349), .val (.ref b_361), .val (.int jv94_384), .val (.int jv106_391), .val (.int jv128_400), .val (.int jv150_409), .val (.int jv172_418), .val (.int jv222_442), .val (.int jv257_462), .unset] [(.int (0 : Int32))])) _
    refine XS.iload X462.here hx rfl (hb hby at_266) rfl ?_
    refine XS.iload X462.here hx rfl (hb hby at_268) rfl ?_
    refine XS.isub X462.here hx rfl (hb hby at_270) rfl ?_
    show Steps p.tables e below (T462.setTop (mkF m 271 #[.val (.int x1), .val (.int x2), .val (.int x3), .val (.int x4), .val (.ref b335), .val (.ref b349), .val (.ref b_361), .val (.int jv94_384), .val (.int jv106_391), .val (.int jv128_400), .val (.int jv150_409), .val (.int jv172_418), .val (.int jv222_442), .val (.int jv257_462), .unset] [(.int (jv257_462 - jv222_442)), (.int (0 : Int32))])) _
    refine st466 _ ?_
    show Steps p.tables e below (T466.setTop (mkF m 274 #[.val (.int x1), .val (.int x2), .val (.int x3), .val (.int x4), .val (.ref b335), .val (.ref b349), .val (.ref b_361), .val (.int jv94_384), .val (.int jv106_391), .val (.int jv128_400), .val (.int jv150_409), .val (.int jv172_418), .val (.int jv222_442), .val (.int jv257_462), .unset] [(.int (own_max (0 : Int32) (jv257_462 - jv222_442)))])) _
    rw [rn467]
    refine XS.istore X466.here hx rfl (hb hby at_274) rfl (l' := #[.val (.int x1), .val (.int x2), .val (.int x3), .val (.int x4), .val (.ref b335), .val (.ref b349), .val (.ref b_361), .val (.int jv94_384), .val (.int jv106_391), .val (.int jv128_400), .val (.int jv150_409), .val (.int jv172_418), .val (.int jv222_442), .val (.int jv257_462), .val (.int (Int32.ofNat (ub_361 - ua_361)))]) rfl ?_
    exact kt
  rcases Nat.lt_or_ge ua_361 ub_361 with hul | hul
  · skip
    have hs0 := fin.2 hul
    clear fin
    subst hs0
    obtain ⟨cq469, kq469, q469a, q469b, q469c⟩ := isOf hZ361 eh466 Q361_0
    obtain ⟨_, _, ⟨T469, L469, k469, n469⟩, -, X469, ⟨Lc469, hQ469, l469, y469, z469⟩, st469⟩ := X466.virtualBack hx (y := (⟨"java/lang/String", "length", "()I"⟩ : MethodName)) (z := (⟨"java/lang/String", "length", "()I"⟩ : MethodName)) hown361 (mvT hZ361 (own_wd hw 118 rfl)) (mvT hZ361 (own_wd hw 54 rfl)) (notFace_of_selects (args := #[]) (mvT hZ361 (own_wd hw 56 rfl))) (mvT hZ361 (own_wd hw 56 rfl)) (mvT hZ361 (own_wd hw 55 rfl)) (by decide) (backOf (W := 0) (rm12 l Z a0 hw [] b_361 t_361 kk_361 (own_lw (own_sh (own_l4 vc_336 vc_339 vc_342 vc_345) ua_361)) (ub_361 - ua_361) st_COMPACT_STRINGS T361.heap n0 Z361 O361 Q361_0 Q361_1 Q361_2 Q361_3 S_COMPACT_STRINGS hcomp) hZ361 (own_wd hw 57 rfl) (own_wd hw 7 rfl) (by decide) (by decide)) q469a q469c (g := (mkF m 278 #[.val (.int x1), .val (.int x2), .val (.int x3), .val (.int x4), .val (.ref b335), .val (.ref b349), .val (.ref b_361), .val (.int jv94_384), .val (.int jv106_391), .val (.int jv128_400), .val (.int jv150_409), .val (.int jv172_418), .val (.int (Int32.ofNat ua_361)), .val (.int jv257_462), .val (.int (Int32.ofNat (ub_361 - ua_361)))] [(.ref b_361)])) rfl (by rw [hml]; rfl) (Steps.refl _) (argsL := []) (rest := []) (lenOf pd_5 rfl) rfl (by show 2 * 0 + _ ≤ _; exact Nat.le_of_eq rfl) (hb hby at_278) (fun _ _ => ⟨rfl, eh466, (by decide : 15 + 0 ≤ _), (by decide : 132 + 0 ≤ _)⟩)
    dsimp only [Pt.U, Pt.locs, Pt.cells, Pt.slots] at X469 l469 y469 z469 st469 hQ469
    subst l469 y469 z469
    obtain ⟨rfl, N469q, eh469⟩ := hQ469
    have N469 := Fr.app N466 N469q
    have V470 : Arv Z T361.heap b335 k335 .char (4 : Int32) [(.int vc_336), (.int vc_339), (.int vc_342), (.int vc_345)] (.int (0 : Int32)) := ((V350.keep KK352 (ninS (Nat.ne_of_lt (Nat.lt_of_lt_of_le V348.lt (Nat.le_of_eq g349.symm))) nin0)).keep KK361 nin0)
    obtain ⟨_, _, ⟨T471, L471, k471, n471⟩, -, X471, ⟨Lc471, hQ471, l471, y471, z471⟩, st471⟩ := Jvm.LawKit.callS X469 hx (y := (⟨"com/example/prueba/prueba/MediaTypesMediaTypePinLaw", "at", "(Ljava/lang/String;II[CI)Z"⟩ : MethodName)) hown361 (mvT hZ361 (own_wd hw 119 rfl)) (mvT hZ361 (own_wd hw 120 rfl)) (mvT hZ361 (own_wd hw 3 rfl)) (mvT hZ361 (own_wd hw 121 rfl)) (by decide) (backOf (W := 0) (rm27_n l Z a0 hw [] b_361 b335 t_361 kk_361 (own_lw (own_sh (own_l4 vc_336 vc_339 vc_342 vc_345) ua_361)) (ub_361 - ua_361) 0 k335 (own_l4 vc_336 vc_339 vc_342 vc_345) ua_361 st_COMPACT_STRINGS st_fm T361.heap n0 Z361 O361 Q361_0 Q361_1 Q361_2 Q361_3 (own_hpmt (own_hp4 Q336_0 Q339_0 Q342_0 Q345_0) Q361_4) (by omega) (by omega) V470 (by omega) (own_eqc (own_hp4 Q336_0 Q339_0 Q342_0 Q345_0) Q361_4 (by omega)) S_COMPACT_STRINGS hcomp S_fm hfm) hZ361 (own_wd hw 121 rfl) (own_wd hw 3 rfl) (by decide) (by decide)) (g := (mkF m 295 #[.val (.int x1), .val (.int x2), .val (.int x3), .val (.int x4), .val (.ref b335), .val (.ref b349), .val (.ref b_361), .val (.int jv94_384), .val (.int jv106_391), .val (.int jv128_400), .val (.int jv150_409), .val (.int jv172_418), .val (.int (Int32.ofNat ua_361)), .val (.int jv257_462), .val (.int (Int32.ofNat (ub_361 - ua_361)))] [(.int (Int32.ofNat ua_361)), (.ref b335), (.int (Int32.ofNat (ub_361 - ua_361))), (.int (0 : Int32)), (.ref b_361)])) rfl (by rw [hml]; rfl) (argsL := [(.ref b_361), (.int (0 : Int32)), (.int (Int32.ofNat (ub_361 - ua_361))), (.ref b335), (.int (Int32.ofNat ua_361))]) (rest := []) (lenOf pd_24 rfl) rfl (by show 2 * 0 + _ ≤ _; exact Nat.le_of_eq rfl) (hb hby at_295) (fun _ _ => ⟨rfl, eh469, (by decide : 15 + 0 ≤ _), (by decide : 132 + 0 ≤ _)⟩)
    dsimp only [Pt.U, Pt.locs, Pt.cells, Pt.slots] at X471 l471 y471 z471 st471 hQ471
    subst l471 y471 z471
    obtain ⟨rfl, N471q, eh471⟩ := hQ471
    have N471 := Fr.app N469 N471q
    have pre472 : ∀ t, Steps p.tables e below (T471.setTop (mkF m 301 #[.val (.int x1), .val (.int x2), .val (.int x3), .val (.int x4), .val (.ref b335), .val (.ref b349), .val (.ref b_361), .val (.int jv94_384), .val (.int jv106_391), .val (.int jv128_400), .val (.int jv150_409), .val (.int jv172_418), .val (.int (Int32.ofNat ua_361)), .val (.int jv257_462), .val (.int (Int32.ofNat (ub_361 - ua_361)))] [])) t → Steps p.tables e below (s₁.setTop (entryFrame m #[(.int x1), (.int x2), (.int x3), (.int x4)] maxLocals)) t := by
      intro t kt
      refine pre468 t ?_
      show Steps p.tables e below (T466.setTop (mkF m 276 #[.val (.int x1), .val (.int x2), .val (.int x3), .val (.int x4), .val (.ref b335), .val (.ref b349), .val (.ref b_361), .val (.int jv94_384), .val (.int jv106_391), .val (.int jv128_400), .val (.int jv150_409), .val (.int jv172_418), .val (.int (Int32.ofNat ua_361)), .val (.int jv257_462), .val (.int (Int32.ofNat (ub_361 - ua_361)))] [])) _
      refine XS.aload X466.here hx rfl (hb hby at_276) rfl rfl ?_
      show Steps p.tables e below (T466.setTop (mkF m 278 #[.val (.int x1), .val (.int x2), .val (.int x3), .val (.int x4), .val (.ref b335), .val (.ref b349), .val (.ref b_361), .val (.int jv94_384), .val (.int jv106_391), .val (.int jv128_400), .val (.int jv150_409), .val (.int jv172_418), .val (.int (Int32.ofNat ua_361)), .val (.int jv257_462), .val (.int (Int32.ofNat (ub_361 - ua_361)))] [(.ref b_361)])) _
      refine st469.trans ?_
      show Steps p.tables e below (T469.setTop (mkF m 281 #[.val (.int x1), .val (.int x2), .val (.int x3), .val (.int x4), .val (.ref b335), .val (.ref b349), .val (.ref b_361), .val (.int jv94_384), .val (.int jv106_391), .val (.int jv128_400), .val (.int jv150_409), .val (.int jv172_418), .val (.int (Int32.ofNat ua_361)), .val (.int jv257_462), .val (.int (Int32.ofNat (ub_361 - ua_361)))] [(.int (Int32.ofNat (ub_361 - ua_361)))])) _
      refine XS.iload X469.here hx rfl (hb hby at_281) rfl ?_
      refine XS.icmpNo X469.here hx rfl (hb hby at_283) rfl (teq (rfl : (Int32.ofNat (ub_361 - ua_361)) = (Int32.ofNat (ub_361 - ua_361)))).2 ?_
      refine XS.aload X469.here hx rfl (hb hby at_286) rfl rfl ?_
      refine XS.iconst X469.here hx rfl (hb hby at_288) ?_
      refine XS.iload X469.here hx rfl (hb hby at_289) rfl ?_
      refine XS.aload X469.here hx rfl (hb hby at_291) rfl rfl ?_
      show Steps p.tables e below (T469.setTop (mkF m 293 #[.val (.int x1), .val (.int x2), .val (.int x3), .val (.int x4), .val (.ref b335), .val (.ref b349), .val (.ref b_361), .val (.int jv94_384), .val (.int jv106_391), .val (.int jv128_400), .val (.int jv150_409), .val (.int jv172_418), .val (.int (Int32.ofNat ua_361)), .val (.int jv257_462), .val (.int (Int32.ofNat (ub_361 - ua_361)))] [(.ref b335), (.int (Int32.ofNat (ub_361 - ua_361))), (.int (0 : Int32)), (.ref b_361)])) _
      refine XS.iload X469.here hx rfl (hb hby at_293) rfl ?_
      show Steps p.tables e below (T469.setTop (mkF m 295 #[.val (.int x1), .val (.int x2), .val (.int x3), .val (.int x4), .val (.ref b335), .val (.ref b349), .val (.ref b_361), .val (.int jv94_384), .val (.int jv106_391), .val (.int jv128_400), .val (.int jv150_409), .val (.int jv172_418), .val (.int (Int32.ofNat ua_361)), .val (.int jv257_462), .val (.int (Int32.ofNat (ub_361 - ua_361)))] [(.int (Int32.ofNat ua_361)), (.ref b335), (.int (Int32.ofNat (ub_361 - ua_361))), (.int (0 : Int32)), (.ref b_361)])) _
      refine st471 _ ?_
      show Steps p.tables e below (T471.setTop (mkF m 298 #[.val (.int x1), .val (.int x2), .val (.int x3), .val (.int x4), .val (.ref b335), .val (.ref b349), .val (.ref b_361), .val (.int jv94_384), .val (.int jv106_391), .val (.int jv128_400), .val (.int jv150_409), .val (.int jv172_418), .val (.int (Int32.ofNat ua_361)), .val (.int jv257_462), .val (.int (Int32.ofNat (ub_361 - ua_361)))] [(.int (1 : Int32))])) _
      refine XS.ifNo X471.here hx rfl (hb hby at_298) rfl ((if0 _ _).trans (feq (by decide : ¬ ((1 : Int32) = (0 : Int32)))).1) ?_
      exact kt
    rcases Nat.lt_or_ge 1 (ub_361 - ua_361) with hi1 | hi1
    · skip
      obtain ⟨_, _, ⟨T473, L473, k473, n473⟩, -, X473, ⟨Lc473, hQ473, l473, y473, z473⟩, st473⟩ := Jvm.LawKit.callS X471 hx (y := (⟨"com/example/prueba/prueba/MediaTypesMediaTypePinLaw", "at", "(Ljava/lang/String;II[CI)Z"⟩ : MethodName)) hown361 (mvT hZ361 (own_wd hw 119 rfl)) (mvT hZ361 (own_wd hw 120 rfl)) (mvT hZ361 (own_wd hw 3 rfl)) (mvT hZ361 (own_wd hw 121 rfl)) (by decide) (backOf (W := 0) (rm27_n l Z a0 hw [] b_361 b335 t_361 kk_361 (own_lw (own_sh (own_l4 vc_336 vc_339 vc_342 vc_345) ua_361)) (ub_361 - ua_361) 1 k335 (own_l4 vc_336 vc_339 vc_342 vc_345) ua_361 st_COMPACT_STRINGS st_fm T361.heap n0 Z361 O361 Q361_0 Q361_1 Q361_2 Q361_3 (own_hpmt (own_hp4 Q336_0 Q339_0 Q342_0 Q345_0) Q361_4) (by omega) (by omega) V470 (by omega) (own_eqc (own_hp4 Q336_0 Q339_0 Q342_0 Q345_0) Q361_4 (by omega)) S_COMPACT_STRINGS hcomp S_fm hfm) hZ361 (own_wd hw 121 rfl) (own_wd hw 3 rfl) (by decide) (by decide)) (g := (mkF m 310 #[.val (.int x1), .val (.int x2), .val (.int x3), .val (.int x4), .val (.ref b335), .val (.ref b349), .val (.ref b_361), .val (.int jv94_384), .val (.int jv106_391), .val (.int jv128_400), .val (.int jv150_409), .val (.int jv172_418), .val (.int (Int32.ofNat ua_361)), .val (.int jv257_462), .val (.int (Int32.ofNat (ub_361 - ua_361)))] [(.int (Int32.ofNat ua_361)), (.ref b335), (.int (Int32.ofNat (ub_361 - ua_361))), (.int (1 : Int32)), (.ref b_361)])) rfl (by rw [hml]; rfl) (argsL := [(.ref b_361), (.int (1 : Int32)), (.int (Int32.ofNat (ub_361 - ua_361))), (.ref b335), (.int (Int32.ofNat ua_361))]) (rest := []) (lenOf pd_24 rfl) rfl (by show 2 * 0 + _ ≤ _; exact Nat.le_of_eq rfl) (hb hby at_310) (fun _ _ => ⟨rfl, eh471, (by decide : 15 + 0 ≤ _), (by decide : 132 + 0 ≤ _)⟩)
      dsimp only [Pt.U, Pt.locs, Pt.cells, Pt.slots] at X473 l473 y473 z473 st473 hQ473
      subst l473 y473 z473
      obtain ⟨rfl, N473q, eh473⟩ := hQ473
      have N473 := Fr.app N471 N473q
      have pre474 : ∀ t, Steps p.tables e below (T473.setTop (mkF m 316 #[.val (.int x1), .val (.int x2), .val (.int x3), .val (.int x4), .val (.ref b335), .val (.ref b349), .val (.ref b_361), .val (.int jv94_384), .val (.int jv106_391), .val (.int jv128_400), .val (.int jv150_409), .val (.int jv172_418), .val (.int (Int32.ofNat ua_361)), .val (.int jv257_462), .val (.int (Int32.ofNat (ub_361 - ua_361)))] [])) t → Steps p.tables e below (s₁.setTop (entryFrame m #[(.int x1), (.int x2), (.int x3), (.int x4)] maxLocals)) t := by
        intro t kt
        refine pre472 t ?_
        show Steps p.tables e below (T471.setTop (mkF m 301 #[.val (.int x1), .val (.int x2), .val (.int x3), .val (.int x4), .val (.ref b335), .val (.ref b349), .val (.ref b_361), .val (.int jv94_384), .val (.int jv106_391), .val (.int jv128_400), .val (.int jv150_409), .val (.int jv172_418), .val (.int (Int32.ofNat ua_361)), .val (.int jv257_462), .val (.int (Int32.ofNat (ub_361 - ua_361)))] [])) _
        refine XS.aload X471.here hx rfl (hb hby at_301) rfl rfl ?_
        refine XS.iconst X471.here hx rfl (hb hby at_303) ?_
        refine XS.iload X471.here hx rfl (hb hby at_304) rfl ?_
        refine XS.aload X471.here hx rfl (hb hby at_306) rfl rfl ?_
        show Steps p.tables e below (T471.setTop (mkF m 308 #[.val (.int x1), .val (.int x2), .val (.int x3), .val (.int x4), .val (.ref b335), .val (.ref b349), .val (.ref b_361), .val (.int jv94_384), .val (.int jv106_391), .val (.int jv128_400), .val (.int jv150_409), .val (.int jv172_418), .val (.int (Int32.ofNat ua_361)), .val (.int jv257_462), .val (.int (Int32.ofNat (ub_361 - ua_361)))] [(.ref b335), (.int (Int32.ofNat (ub_361 - ua_361))), (.int (1 : Int32)), (.ref b_361)])) _
        refine XS.iload X471.here hx rfl (hb hby at_308) rfl ?_
        show Steps p.tables e below (T471.setTop (mkF m 310 #[.val (.int x1), .val (.int x2), .val (.int x3), .val (.int x4), .val (.ref b335), .val (.ref b349), .val (.ref b_361), .val (.int jv94_384), .val (.int jv106_391), .val (.int jv128_400), .val (.int jv150_409), .val (.int jv172_418), .val (.int (Int32.ofNat ua_361)), .val (.int jv257_462), .val (.int (Int32.ofNat (ub_361 - ua_361)))] [(.int (Int32.ofNat ua_361)), (.ref b335), (.int (Int32.ofNat (ub_361 - ua_361))), (.int (1 : Int32)), (.ref b_361)])) _
        refine st473 _ ?_
        show Steps p.tables e below (T473.setTop (mkF m 313 #[.val (.int x1), .val (.int x2), .val (.int x3), .val (.int x4), .val (.ref b335), .val (.ref b349), .val (.ref b_361), .val (.int jv94_384), .val (.int jv106_391), .val (.int jv128_400), .val (.int jv150_409), .val (.int jv172_418), .val (.int (Int32.ofNat ua_361)), .val (.int jv257_462), .val (.int (Int32.ofNat (ub_361 - ua_361)))] [(.int (1 : Int32))])) _
        refine XS.ifNo X473.here hx rfl (hb hby at_313) rfl ((if0 _ _).trans (feq (by decide : ¬ ((1 : Int32) = (0 : Int32)))).1) ?_
        exact kt
      rcases Nat.lt_or_ge 2 (ub_361 - ua_361) with hi2 | hi2
      · skip
        obtain ⟨_, _, ⟨T475, L475, k475, n475⟩, -, X475, ⟨Lc475, hQ475, l475, y475, z475⟩, st475⟩ := Jvm.LawKit.callS X473 hx (y := (⟨"com/example/prueba/prueba/MediaTypesMediaTypePinLaw", "at", "(Ljava/lang/String;II[CI)Z"⟩ : MethodName)) hown361 (mvT hZ361 (own_wd hw 119 rfl)) (mvT hZ361 (own_wd hw 120 rfl)) (mvT hZ361 (own_wd hw 3 rfl)) (mvT hZ361 (own_wd hw 121 rfl)) (by decide) (backOf (W := 0) (rm27_n l Z a0 hw [] b_361 b335 t_361 kk_361 (own_lw (own_sh (own_l4 vc_336 vc_339 vc_342 vc_345) ua_361)) (ub_361 - ua_361) 2 k335 (own_l4 vc_336 vc_339 vc_342 vc_345) ua_361 st_COMPACT_STRINGS st_fm T361.heap n0 Z361 O361 Q361_0 Q361_1 Q361_2 Q361_3 (own_hpmt (own_hp4 Q336_0 Q339_0 Q342_0 Q345_0) Q361_4) (by omega) (by omega) V470 (by omega) (own_eqc (own_hp4 Q336_0 Q339_0 Q342_0 Q345_0) Q361_4 (by omega)) S_COMPACT_STRINGS hcomp S_fm hfm) hZ361 (own_wd hw 121 rfl) (own_wd hw 3 rfl) (by decide) (by decide)) (g := (mkF m 325 #[.val (.int x1), .val (.int x2), .val (.int x3), .val (.int x4), .val (.ref b335), .val (.ref b349), .val (.ref b_361), .val (.int jv94_384), .val (.int jv106_391), .val (.int jv128_400), .val (.int jv150_409), .val (.int jv172_418), .val (.int (Int32.ofNat ua_361)), .val (.int jv257_462), .val (.int (Int32.ofNat (ub_361 - ua_361)))] [(.int (Int32.ofNat ua_361)), (.ref b335), (.int (Int32.ofNat (ub_361 - ua_361))), (.int (2 : Int32)), (.ref b_361)])) rfl (by rw [hml]; rfl) (argsL := [(.ref b_361), (.int (2 : Int32)), (.int (Int32.ofNat (ub_361 - ua_361))), (.ref b335), (.int (Int32.ofNat ua_361))]) (rest := []) (lenOf pd_24 rfl) rfl (by show 2 * 0 + _ ≤ _; exact Nat.le_of_eq rfl) (hb hby at_325) (fun _ _ => ⟨rfl, eh473, (by decide : 15 + 0 ≤ _), (by decide : 132 + 0 ≤ _)⟩)
        dsimp only [Pt.U, Pt.locs, Pt.cells, Pt.slots] at X475 l475 y475 z475 st475 hQ475
        subst l475 y475 z475
        obtain ⟨rfl, N475q, eh475⟩ := hQ475
        have N475 := Fr.app N473 N475q
        have pre476 : ∀ t, Steps p.tables e below (T475.setTop (mkF m 331 #[.val (.int x1), .val (.int x2), .val (.int x3), .val (.int x4), .val (.ref b335), .val (.ref b349), .val (.ref b_361), .val (.int jv94_384), .val (.int jv106_391), .val (.int jv128_400), .val (.int jv150_409), .val (.int jv172_418), .val (.int (Int32.ofNat ua_361)), .val (.int jv257_462), .val (.int (Int32.ofNat (ub_361 - ua_361)))] [])) t → Steps p.tables e below (s₁.setTop (entryFrame m #[(.int x1), (.int x2), (.int x3), (.int x4)] maxLocals)) t := by
          intro t kt
          refine pre474 t ?_
          show Steps p.tables e below (T473.setTop (mkF m 316 #[.val (.int x1), .val (.int x2), .val (.int x3), .val (.int x4), .val (.ref b335), .val (.ref b349), .val (.ref b_361), .val (.int jv94_384), .val (.int jv106_391), .val (.int jv128_400), .val (.int jv150_409), .val (.int jv172_418), .val (.int (Int32.ofNat ua_361)), .val (.int jv257_462), .val (.int (Int32.ofNat (ub_361 - ua_361)))] [])) _
          refine XS.aload X473.here hx rfl (hb hby at_316) rfl rfl ?_
          refine XS.iconst X473.here hx rfl (hb hby at_318) ?_
          refine XS.iload X473.here hx rfl (hb hby at_319) rfl ?_
          refine XS.aload X473.here hx rfl (hb hby at_321) rfl rfl ?_
          show Steps p.tables e below (T473.setTop (mkF m 323 #[.val (.int x1), .val (.int x2), .val (.int x3), .val (.int x4), .val (.ref b335), .val (.ref b349), .val (.ref b_361), .val (.int jv94_384), .val (.int jv106_391), .val (.int jv128_400), .val (.int jv150_409), .val (.int jv172_418), .val (.int (Int32.ofNat ua_361)), .val (.int jv257_462), .val (.int (Int32.ofNat (ub_361 - ua_361)))] [(.ref b335), (.int (Int32.ofNat (ub_361 - ua_361))), (.int (2 : Int32)), (.ref b_361)])) _
          refine XS.iload X473.here hx rfl (hb hby at_323) rfl ?_
          show Steps p.tables e below (T473.setTop (mkF m 325 #[.val (.int x1), .val (.int x2), .val (.int x3), .val (.int x4), .val (.ref b335), .val (.ref b349), .val (.ref b_361), .val (.int jv94_384), .val (.int jv106_391), .val (.int jv128_400), .val (.int jv150_409), .val (.int jv172_418), .val (.int (Int32.ofNat ua_361)), .val (.int jv257_462), .val (.int (Int32.ofNat (ub_361 - ua_361)))] [(.int (Int32.ofNat ua_361)), (.ref b335), (.int (Int32.ofNat (ub_361 - ua_361))), (.int (2 : Int32)), (.ref b_361)])) _
          refine st475 _ ?_
          show Steps p.tables e below (T475.setTop (mkF m 328 #[.val (.int x1), .val (.int x2), .val (.int x3), .val (.int x4), .val (.ref b335), .val (.ref b349), .val (.ref b_361), .val (.int jv94_384), .val (.int jv106_391), .val (.int jv128_400), .val (.int jv150_409), .val (.int jv172_418), .val (.int (Int32.ofNat ua_361)), .val (.int jv257_462), .val (.int (Int32.ofNat (ub_361 - ua_361)))] [(.int (1 : Int32))])) _
          refine XS.ifNo X475.here hx rfl (hb hby at_328) rfl ((if0 _ _).trans (feq (by decide : ¬ ((1 : Int32) = (0 : Int32)))).1) ?_
          exact kt
        rcases Nat.lt_or_ge 3 (ub_361 - ua_361) with hi3 | hi3
        · skip
          obtain ⟨_, _, ⟨T477, L477, k477, n477⟩, -, X477, ⟨Lc477, hQ477, l477, y477, z477⟩, st477⟩ := Jvm.LawKit.callS X475 hx (y := (⟨"com/example/prueba/prueba/MediaTypesMediaTypePinLaw", "at", "(Ljava/lang/String;II[CI)Z"⟩ : MethodName)) hown361 (mvT hZ361 (own_wd hw 119 rfl)) (mvT hZ361 (own_wd hw 120 rfl)) (mvT hZ361 (own_wd hw 3 rfl)) (mvT hZ361 (own_wd hw 121 rfl)) (by decide) (backOf (W := 0) (rm27_n l Z a0 hw [] b_361 b335 t_361 kk_361 (own_lw (own_sh (own_l4 vc_336 vc_339 vc_342 vc_345) ua_361)) (ub_361 - ua_361) 3 k335 (own_l4 vc_336 vc_339 vc_342 vc_345) ua_361 st_COMPACT_STRINGS st_fm T361.heap n0 Z361 O361 Q361_0 Q361_1 Q361_2 Q361_3 (own_hpmt (own_hp4 Q336_0 Q339_0 Q342_0 Q345_0) Q361_4) (by omega) (by omega) V470 (by omega) (own_eqc (own_hp4 Q336_0 Q339_0 Q342_0 Q345_0) Q361_4 (by omega)) S_COMPACT_STRINGS hcomp S_fm hfm) hZ361 (own_wd hw 121 rfl) (own_wd hw 3 rfl) (by decide) (by decide)) (g := (mkF m 340 #[.val (.int x1), .val (.int x2), .val (.int x3), .val (.int x4), .val (.ref b335), .val (.ref b349), .val (.ref b_361), .val (.int jv94_384), .val (.int jv106_391), .val (.int jv128_400), .val (.int jv150_409), .val (.int jv172_418), .val (.int (Int32.ofNat ua_361)), .val (.int jv257_462), .val (.int (Int32.ofNat (ub_361 - ua_361)))] [(.int (Int32.ofNat ua_361)), (.ref b335), (.int (Int32.ofNat (ub_361 - ua_361))), (.int (3 : Int32)), (.ref b_361)])) rfl (by rw [hml]; rfl) (argsL := [(.ref b_361), (.int (3 : Int32)), (.int (Int32.ofNat (ub_361 - ua_361))), (.ref b335), (.int (Int32.ofNat ua_361))]) (rest := []) (lenOf pd_24 rfl) rfl (by show 2 * 0 + _ ≤ _; exact Nat.le_of_eq rfl) (hb hby at_340) (fun _ _ => ⟨rfl, eh475, (by decide : 15 + 0 ≤ _), (by decide : 132 + 0 ≤ _)⟩)
          dsimp only [Pt.U, Pt.locs, Pt.cells, Pt.slots] at X477 l477 y477 z477 st477 hQ477
          subst l477 y477 z477
          obtain ⟨rfl, N477q, eh477⟩ := hQ477
          have N477 := Fr.app N475 N477q
          obtain ⟨fs, hr, hrun, hended, hW, hsame⟩ := X477.leave (v := some (.int (1 : Int32))) (fun h => by rw [Bd.returns] at h; cases h)
          have hend := hS361.ended hW (show _ ≤ T477.heap.size from by rw [eh477]; exact (Nat.le_refl _)) hsame
          have hcr : CHr Z own_EL s.vm s.heap T477.vm T477.heap := by
            rw [hh, eh477]
            exact CR361.trans (CHv.at X477 hZ361 (own_EW hw) CH361)
          refine ⟨_, _, pre476 _ ?_, hrun, hended, _, _, rfl, ?_, hcr, ⟨_, rfl⟩, hend.1, hend.2.1, hend.2.2.mono (by decide) (by decide)⟩
          · show Steps p.tables e below (T475.setTop (mkF m 331 #[.val (.int x1), .val (.int x2), .val (.int x3), .val (.int x4), .val (.ref b335), .val (.ref b349), .val (.ref b_361), .val (.int jv94_384), .val (.int jv106_391), .val (.int jv128_400), .val (.int jv150_409), .val (.int jv172_418), .val (.int (Int32.ofNat ua_361)), .val (.int jv257_462), .val (.int (Int32.ofNat (ub_361 - ua_361)))] [])) _
            refine XS.aload X475.here hx rfl (hb hby at_331) rfl rfl ?_
            refine XS.iconst X475.here hx rfl (hb hby at_333) ?_
            refine XS.iload X475.here hx rfl (hb hby at_334) rfl ?_
            refine XS.aload X475.here hx rfl (hb hby at_336) rfl rfl ?_
            show Steps p.tables e below (T475.setTop (mkF m 338 #[.val (.int x1), .val (.int x2), .val (.int x3), .val (.int x4), .val (.ref b335), .val (.ref b349), .val (.ref b_361), .val (.int jv94_384), .val (.int jv106_391), .val (.int jv128_400), .val (.int jv150_409), .val (.int jv172_418), .val (.int (Int32.ofNat ua_361)), .val (.int jv257_462), .val (.int (Int32.ofNat (ub_361 - ua_361)))] [(.ref b335), (.int (Int32.ofNat (ub_361 - ua_361))), (.int (3 : Int32)), (.ref b_361)])) _
            refine XS.iload X475.here hx rfl (hb hby at_338) rfl ?_
            show Steps p.tables e below (T475.setTop (mkF m 340 #[.val (.int x1), .val (.int x2), .val (.int x3), .val (.int x4), .val (.ref b335), .val (.ref b349), .val (.ref b_361), .val (.int jv94_384), .val (.int jv106_391), .val (.int jv128_400), .val (.int jv150_409), .val (.int jv172_418), .val (.int (Int32.ofNat ua_361)), .val (.int jv257_462), .val (.int (Int32.ofNat (ub_361 - ua_361)))] [(.int (Int32.ofNat ua_361)), (.ref b335), (.int (Int32.ofNat (ub_361 - ua_361))), (.int (3 : Int32)), (.ref b_361)])) _
            refine st477 _ ?_
            show Steps p.tables e below (T477.setTop (mkF m 343 #[.val (.int x1), .val (.int x2), .val (.int x3), .val (.int x4), .val (.ref b335), .val (.ref b349), .val (.ref b_361), .val (.int jv94_384), .val (.int jv106_391), .val (.int jv128_400), .val (.int jv150_409), .val (.int jv172_418), .val (.int (Int32.ofNat ua_361)), .val (.int jv257_462), .val (.int (Int32.ofNat (ub_361 - ua_361)))] [(.int (1 : Int32))])) _
            refine XS.ifNo X477.here hx rfl (hb hby at_343) rfl ((if0 _ _).trans (feq (by decide : ¬ ((1 : Int32) = (0 : Int32)))).1) ?_
            refine XS.iconst X477.here hx rfl (hb hby at_346) ?_
            refine XS.goto X477.here hx rfl (pc0 := 347) (pc' := 351) rfl (hb hby at_347) (by decide) (by decide) ?_
            show Steps p.tables e below (T477.setTop (mkF m 351 #[.val (.int x1), .val (.int x2), .val (.int x3), .val (.int x4), .val (.ref b335), .val (.ref b349), .val (.ref b_361), .val (.int jv94_384), .val (.int jv106_391), .val (.int jv128_400), .val (.int jv150_409), .val (.int jv172_418), .val (.int (Int32.ofNat ua_361)), .val (.int jv257_462), .val (.int (Int32.ofNat (ub_361 - ua_361)))] [(.int (1 : Int32))])) _
            exact retN X477 hx (t := .boolean) Bd.returns (by simp) (hb hby at_351) hr
          · show Q0 Z x1 x2 x3 x4 st_ROOT st_ROOT_baseLocale st_ROOT_baseLocale_language st_ROOT_baseLocale_language_value k_st_ROOT_baseLocale_language_value st_instance st_COMPACT_STRINGS st_fm h0 n0 _ T477.heap _
            rw [eh477]
            exact ⟨rfl, N477, K361⟩
        · skip
          have pp478 : ¬ ((3 : Int32) < (Int32.ofNat (ub_361 - ua_361))) := fun q => by have z := (own_lt (i := 3) (by omega) (by omega)).mp q; omega
          obtain ⟨_, _, ⟨T479, L479, k479, n479⟩, -, X479, ⟨Lc479, hQ479, l479, y479, z479⟩, st479⟩ := Jvm.LawKit.callS X475 hx (y := (⟨"com/example/prueba/prueba/MediaTypesMediaTypePinLaw", "at", "(Ljava/lang/String;II[CI)Z"⟩ : MethodName)) hown361 (mvT hZ361 (own_wd hw 119 rfl)) (mvT hZ361 (own_wd hw 120 rfl)) (mvT hZ361 (own_wd hw 3 rfl)) (mvT hZ361 (own_wd hw 121 rfl)) (by decide) (backOf (W := 0) (rm27_f l Z a0 hw [] b_361 (3 : Int32) (Int32.ofNat (ub_361 - ua_361)) b335 (Int32.ofNat ua_361) T361.heap n0 Z361 O361 pp478) hZ361 (own_wd hw 121 rfl) (own_wd hw 3 rfl) (by decide) (by decide)) (g := (mkF m 340 #[.val (.int x1), .val (.int x2), .val (.int x3), .val (.int x4), .val (.ref b335), .val (.ref b349), .val (.ref b_361), .val (.int jv94_384), .val (.int jv106_391), .val (.int jv128_400), .val (.int jv150_409), .val (.int jv172_418), .val (.int (Int32.ofNat ua_361)), .val (.int jv257_462), .val (.int (Int32.ofNat (ub_361 - ua_361)))] [(.int (Int32.ofNat ua_361)), (.ref b335), (.int (Int32.ofNat (ub_361 - ua_361))), (.int (3 : Int32)), (.ref b_361)])) rfl (by rw [hml]; rfl) (argsL := [(.ref b_361), (.int (3 : Int32)), (.int (Int32.ofNat (ub_361 - ua_361))), (.ref b335), (.int (Int32.ofNat ua_361))]) (rest := []) (lenOf pd_24 rfl) rfl (by show 2 * 0 + _ ≤ _; exact Nat.le_of_eq rfl) (hb hby at_340) (fun _ _ => ⟨rfl, eh475, (by decide : 15 + 0 ≤ _), (by decide : 132 + 0 ≤ _)⟩)
          dsimp only [Pt.U, Pt.locs, Pt.cells, Pt.slots] at X479 l479 y479 z479 st479 hQ479
          subst l479 y479 z479
          obtain ⟨rfl, N479q, eh479⟩ := hQ479
          have N479 := Fr.app N475 N479q
          obtain ⟨fs, hr, hrun, hended, hW, hsame⟩ := X479.leave (v := some (.int (1 : Int32))) (fun h => by rw [Bd.returns] at h; cases h)
          have hend := hS361.ended hW (show _ ≤ T479.heap.size from by rw [eh479]; exact (Nat.le_refl _)) hsame
          have hcr : CHr Z own_EL s.vm s.heap T479.vm T479.heap := by
            rw [hh, eh479]
            exact CR361.trans (CHv.at X479 hZ361 (own_EW hw) CH361)
          refine ⟨_, _, pre476 _ ?_, hrun, hended, _, _, rfl, ?_, hcr, ⟨_, rfl⟩, hend.1, hend.2.1, hend.2.2.mono (by decide) (by decide)⟩
          · show Steps p.tables e below (T475.setTop (mkF m 331 #[.val (.int x1), .val (.int x2), .val (.int x3), .val (.int x4), .val (.ref b335), .val (.ref b349), .val (.ref b_361), .val (.int jv94_384), .val (.int jv106_391), .val (.int jv128_400), .val (.int jv150_409), .val (.int jv172_418), .val (.int (Int32.ofNat ua_361)), .val (.int jv257_462), .val (.int (Int32.ofNat (ub_361 - ua_361)))] [])) _
            refine XS.aload X475.here hx rfl (hb hby at_331) rfl rfl ?_
            refine XS.iconst X475.here hx rfl (hb hby at_333) ?_
            refine XS.iload X475.here hx rfl (hb hby at_334) rfl ?_
            refine XS.aload X475.here hx rfl (hb hby at_336) rfl rfl ?_
            show Steps p.tables e below (T475.setTop (mkF m 338 #[.val (.int x1), .val (.int x2), .val (.int x3), .val (.int x4), .val (.ref b335), .val (.ref b349), .val (.ref b_361), .val (.int jv94_384), .val (.int jv106_391), .val (.int jv128_400), .val (.int jv150_409), .val (.int jv172_418), .val (.int (Int32.ofNat ua_361)), .val (.int jv257_462), .val (.int (Int32.ofNat (ub_361 - ua_361)))] [(.ref b335), (.int (Int32.ofNat (ub_361 - ua_361))), (.int (3 : Int32)), (.ref b_361)])) _
            refine XS.iload X475.here hx rfl (hb hby at_338) rfl ?_
            show Steps p.tables e below (T475.setTop (mkF m 340 #[.val (.int x1), .val (.int x2), .val (.int x3), .val (.int x4), .val (.ref b335), .val (.ref b349), .val (.ref b_361), .val (.int jv94_384), .val (.int jv106_391), .val (.int jv128_400), .val (.int jv150_409), .val (.int jv172_418), .val (.int (Int32.ofNat ua_361)), .val (.int jv257_462), .val (.int (Int32.ofNat (ub_361 - ua_361)))] [(.int (Int32.ofNat ua_361)), (.ref b335), (.int (Int32.ofNat (ub_361 - ua_361))), (.int (3 : Int32)), (.ref b_361)])) _
            refine st479 _ ?_
            show Steps p.tables e below (T479.setTop (mkF m 343 #[.val (.int x1), .val (.int x2), .val (.int x3), .val (.int x4), .val (.ref b335), .val (.ref b349), .val (.ref b_361), .val (.int jv94_384), .val (.int jv106_391), .val (.int jv128_400), .val (.int jv150_409), .val (.int jv172_418), .val (.int (Int32.ofNat ua_361)), .val (.int jv257_462), .val (.int (Int32.ofNat (ub_361 - ua_361)))] [(.int (1 : Int32))])) _
            refine XS.ifNo X479.here hx rfl (hb hby at_343) rfl ((if0 _ _).trans (feq (by decide : ¬ ((1 : Int32) = (0 : Int32)))).1) ?_
            refine XS.iconst X479.here hx rfl (hb hby at_346) ?_
            refine XS.goto X479.here hx rfl (pc0 := 347) (pc' := 351) rfl (hb hby at_347) (by decide) (by decide) ?_
            show Steps p.tables e below (T479.setTop (mkF m 351 #[.val (.int x1), .val (.int x2), .val (.int x3), .val (.int x4), .val (.ref b335), .val (.ref b349), .val (.ref b_361), .val (.int jv94_384), .val (.int jv106_391), .val (.int jv128_400), .val (.int jv150_409), .val (.int jv172_418), .val (.int (Int32.ofNat ua_361)), .val (.int jv257_462), .val (.int (Int32.ofNat (ub_361 - ua_361)))] [(.int (1 : Int32))])) _
            exact retN X479 hx (t := .boolean) Bd.returns (by simp) (hb hby at_351) hr
          · show Q0 Z x1 x2 x3 x4 st_ROOT st_ROOT_baseLocale st_ROOT_baseLocale_language st_ROOT_baseLocale_language_value k_st_ROOT_baseLocale_language_value st_instance st_COMPACT_STRINGS st_fm h0 n0 _ T479.heap _
            rw [eh479]
            exact ⟨rfl, N479, K361⟩
      · skip
        have pp480 : ¬ ((2 : Int32) < (Int32.ofNat (ub_361 - ua_361))) := fun q => by have z := (own_lt (i := 2) (by omega) (by omega)).mp q; omega
        obtain ⟨_, _, ⟨T481, L481, k481, n481⟩, -, X481, ⟨Lc481, hQ481, l481, y481, z481⟩, st481⟩ := Jvm.LawKit.callS X473 hx (y := (⟨"com/example/prueba/prueba/MediaTypesMediaTypePinLaw", "at", "(Ljava/lang/String;II[CI)Z"⟩ : MethodName)) hown361 (mvT hZ361 (own_wd hw 119 rfl)) (mvT hZ361 (own_wd hw 120 rfl)) (mvT hZ361 (own_wd hw 3 rfl)) (mvT hZ361 (own_wd hw 121 rfl)) (by decide) (backOf (W := 0) (rm27_f l Z a0 hw [] b_361 (2 : Int32) (Int32.ofNat (ub_361 - ua_361)) b335 (Int32.ofNat ua_361) T361.heap n0 Z361 O361 pp480) hZ361 (own_wd hw 121 rfl) (own_wd hw 3 rfl) (by decide) (by decide)) (g := (mkF m 325 #[.val (.int x1), .val (.int x2), .val (.int x3), .val (.int x4), .val (.ref b335), .val (.ref b349), .val (.ref b_361), .val (.int jv94_384), .val (.int jv106_391), .val (.int jv128_400), .val (.int jv150_409), .val (.int jv172_418), .val (.int (Int32.ofNat ua_361)), .val (.int jv257_462), .val (.int (Int32.ofNat (ub_361 - ua_361)))] [(.int (Int32.ofNat ua_361)), (.ref b335), (.int (Int32.ofNat (ub_361 - ua_361))), (.int (2 : Int32)), (.ref b_361)])) rfl (by rw [hml]; rfl) (argsL := [(.ref b_361), (.int (2 : Int32)), (.int (Int32.ofNat (ub_361 - ua_361))), (.ref b335), (.int (Int32.ofNat ua_361))]) (rest := []) (lenOf pd_24 rfl) rfl (by show 2 * 0 + _ ≤ _; exact Nat.le_of_eq rfl) (hb hby at_325) (fun _ _ => ⟨rfl, eh473, (by decide : 15 + 0 ≤ _), (by decide : 132 + 0 ≤ _)⟩)
        dsimp only [Pt.U, Pt.locs, Pt.cells, Pt.slots] at X481 l481 y481 z481 st481 hQ481
        subst l481 y481 z481
        obtain ⟨rfl, N481q, eh481⟩ := hQ481
        have N481 := Fr.app N473 N481q
        have pp482 : ¬ ((3 : Int32) < (Int32.ofNat (ub_361 - ua_361))) := fun q => by have z := (own_lt (i := 3) (by omega) (by omega)).mp q; omega
        obtain ⟨_, _, ⟨T483, L483, k483, n483⟩, -, X483, ⟨Lc483, hQ483, l483, y483, z483⟩, st483⟩ := Jvm.LawKit.callS X481 hx (y := (⟨"com/example/prueba/prueba/MediaTypesMediaTypePinLaw", "at", "(Ljava/lang/String;II[CI)Z"⟩ : MethodName)) hown361 (mvT hZ361 (own_wd hw 119 rfl)) (mvT hZ361 (own_wd hw 120 rfl)) (mvT hZ361 (own_wd hw 3 rfl)) (mvT hZ361 (own_wd hw 121 rfl)) (by decide) (backOf (W := 0) (rm27_f l Z a0 hw [] b_361 (3 : Int32) (Int32.ofNat (ub_361 - ua_361)) b335 (Int32.ofNat ua_361) T361.heap n0 Z361 O361 pp482) hZ361 (own_wd hw 121 rfl) (own_wd hw 3 rfl) (by decide) (by decide)) (g := (mkF m 340 #[.val (.int x1), .val (.int x2), .val (.int x3), .val (.int x4), .val (.ref b335), .val (.ref b349), .val (.ref b_361), .val (.int jv94_384), .val (.int jv106_391), .val (.int jv128_400), .val (.int jv150_409), .val (.int jv172_418), .val (.int (Int32.ofNat ua_361)), .val (.int jv257_462), .val (.int (Int32.ofNat (ub_361 - ua_361)))] [(.int (Int32.ofNat ua_361)), (.ref b335), (.int (Int32.ofNat (ub_361 - ua_361))), (.int (3 : Int32)), (.ref b_361)])) rfl (by rw [hml]; rfl) (argsL := [(.ref b_361), (.int (3 : Int32)), (.int (Int32.ofNat (ub_361 - ua_361))), (.ref b335), (.int (Int32.ofNat ua_361))]) (rest := []) (lenOf pd_24 rfl) rfl (by show 2 * 0 + _ ≤ _; exact Nat.le_of_eq rfl) (hb hby at_340) (fun _ _ => ⟨rfl, eh481, (by decide : 15 + 0 ≤ _), (by decide : 132 + 0 ≤ _)⟩)
        dsimp only [Pt.U, Pt.locs, Pt.cells, Pt.slots] at X483 l483 y483 z483 st483 hQ483
        subst l483 y483 z483
        obtain ⟨rfl, N483q, eh483⟩ := hQ483
        have N483 := Fr.app N481 N483q
        obtain ⟨fs, hr, hrun, hended, hW, hsame⟩ := X483.leave (v := some (.int (1 : Int32))) (fun h => by rw [Bd.returns] at h; cases h)
        have hend := hS361.ended hW (show _ ≤ T483.heap.size from by rw [eh483]; exact (Nat.le_refl _)) hsame
        have hcr : CHr Z own_EL s.vm s.heap T483.vm T483.heap := by
          rw [hh, eh483]
          exact CR361.trans (CHv.at X483 hZ361 (own_EW hw) CH361)
        refine ⟨_, _, pre474 _ ?_, hrun, hended, _, _, rfl, ?_, hcr, ⟨_, rfl⟩, hend.1, hend.2.1, hend.2.2.mono (by decide) (by decide)⟩
        · show Steps p.tables e below (T473.setTop (mkF m 316 #[.val (.int x1), .val (.int x2), .val (.int x3), .val (.int x4), .val (.ref b335), .val (.ref b349), .val (.ref b_361), .val (.int jv94_384), .val (.int jv106_391), .val (.int jv128_400), .val (.int jv150_409), .val (.int jv172_418), .val (.int (Int32.ofNat ua_361)), .val (.int jv257_462), .val (.int (Int32.ofNat (ub_361 - ua_361)))] [])) _
          refine XS.aload X473.here hx rfl (hb hby at_316) rfl rfl ?_
          refine XS.iconst X473.here hx rfl (hb hby at_318) ?_
          refine XS.iload X473.here hx rfl (hb hby at_319) rfl ?_
          refine XS.aload X473.here hx rfl (hb hby at_321) rfl rfl ?_
          show Steps p.tables e below (T473.setTop (mkF m 323 #[.val (.int x1), .val (.int x2), .val (.int x3), .val (.int x4), .val (.ref b335), .val (.ref b349), .val (.ref b_361), .val (.int jv94_384), .val (.int jv106_391), .val (.int jv128_400), .val (.int jv150_409), .val (.int jv172_418), .val (.int (Int32.ofNat ua_361)), .val (.int jv257_462), .val (.int (Int32.ofNat (ub_361 - ua_361)))] [(.ref b335), (.int (Int32.ofNat (ub_361 - ua_361))), (.int (2 : Int32)), (.ref b_361)])) _
          refine XS.iload X473.here hx rfl (hb hby at_323) rfl ?_
          show Steps p.tables e below (T473.setTop (mkF m 325 #[.val (.int x1), .val (.int x2), .val (.int x3), .val (.int x4), .val (.ref b335), .val (.ref b349), .val (.ref b_361), .val (.int jv94_384), .val (.int jv106_391), .val (.int jv128_400), .val (.int jv150_409), .val (.int jv172_418), .val (.int (Int32.ofNat ua_361)), .val (.int jv257_462), .val (.int (Int32.ofNat (ub_361 - ua_361)))] [(.int (Int32.ofNat ua_361)), (.ref b335), (.int (Int32.ofNat (ub_361 - ua_361))), (.int (2 : Int32)), (.ref b_361)])) _
          refine st481 _ ?_
          show Steps p.tables e below (T481.setTop (mkF m 328 #[.val (.int x1), .val (.int x2), .val (.int x3), .val (.int x4), .val (.ref b335), .val (.ref b349), .val (.ref b_361), .val (.int jv94_384), .val (.int jv106_391), .val (.int jv128_400), .val (.int jv150_409), .val (.int jv172_418), .val (.int (Int32.ofNat ua_361)), .val (.int jv257_462), .val (.int (Int32.ofNat (ub_361 - ua_361)))] [(.int (1 : Int32))])) _
          refine XS.ifNo X481.here hx rfl (hb hby at_328) rfl ((if0 _ _).trans (feq (by decide : ¬ ((1 : Int32) = (0 : Int32)))).1) ?_
          refine XS.aload X481.here hx rfl (hb hby at_331) rfl rfl ?_
          refine XS.iconst X481.here hx rfl (hb hby at_333) ?_
          refine XS.iload X481.here hx rfl (hb hby at_334) rfl ?_
          refine XS.aload X481.here hx rfl (hb hby at_336) rfl rfl ?_
          refine XS.iload X481.here hx rfl (hb hby at_338) rfl ?_
          show Steps p.tables e below (T481.setTop (mkF m 340 #[.val (.int x1), .val (.int x2), .val (.int x3), .val (.int x4), .val (.ref b335), .val (.ref b349), .val (.ref b_361), .val (.int jv94_384), .val (.int jv106_391), .val (.int jv128_400), .val (.int jv150_409), .val (.int jv172_418), .val (.int (Int32.ofNat ua_361)), .val (.int jv257_462), .val (.int (Int32.ofNat (ub_361 - ua_361)))] [(.int (Int32.ofNat ua_361)), (.ref b335), (.int (Int32.ofNat (ub_361 - ua_361))), (.int (3 : Int32)), (.ref b_361)])) _
          refine st483 _ ?_
          show Steps p.tables e below (T483.setTop (mkF m 343 #[.val (.int x1), .val (.int x2), .val (.int x3), .val (.int x4), .val (.ref b335), .val (.ref b349), .val (.ref b_361), .val (.int jv94_384), .val (.int jv106_391), .val (.int jv128_400), .val (.int jv150_409), .val (.int jv172_418), .val (.int (Int32.ofNat ua_361)), .val (.int jv257_462), .val (.int (Int32.ofNat (ub_361 - ua_361)))] [(.int (1 : Int32))])) _
          refine XS.ifNo X483.here hx rfl (hb hby at_343) rfl ((if0 _ _).trans (feq (by decide : ¬ ((1 : Int32) = (0 : Int32)))).1) ?_
          refine XS.iconst X483.here hx rfl (hb hby at_346) ?_
          refine XS.goto X483.here hx rfl (pc0 := 347) (pc' := 351) rfl (hb hby at_347) (by decide) (by decide) ?_
          show Steps p.tables e below (T483.setTop (mkF m 351 #[.val (.int x1), .val (.int x2), .val (.int x3), .val (.int x4), .val (.ref b335), .val (.ref b349), .val (.ref b_361), .val (.int jv94_384), .val (.int jv106_391), .val (.int jv128_400), .val (.int jv150_409), .val (.int jv172_418), .val (.int (Int32.ofNat ua_361)), .val (.int jv257_462), .val (.int (Int32.ofNat (ub_361 - ua_361)))] [(.int (1 : Int32))])) _
          exact retN X483 hx (t := .boolean) Bd.returns (by simp) (hb hby at_351) hr
        · show Q0 Z x1 x2 x3 x4 st_ROOT st_ROOT_baseLocale st_ROOT_baseLocale_language st_ROOT_baseLocale_language_value k_st_ROOT_baseLocale_language_value st_instance st_COMPACT_STRINGS st_fm h0 n0 _ T483.heap _
          rw [eh483]
          exact ⟨rfl, N483, K361⟩
    · skip
      have pp484 : ¬ ((1 : Int32) < (Int32.ofNat (ub_361 - ua_361))) := fun q => by have z := (own_lt (i := 1) (by omega) (by omega)).mp q; omega
      obtain ⟨_, _, ⟨T485, L485, k485, n485⟩, -, X485, ⟨Lc485, hQ485, l485, y485, z485⟩, st485⟩ := Jvm.LawKit.callS X471 hx (y := (⟨"com/example/prueba/prueba/MediaTypesMediaTypePinLaw", "at", "(Ljava/lang/String;II[CI)Z"⟩ : MethodName)) hown361 (mvT hZ361 (own_wd hw 119 rfl)) (mvT hZ361 (own_wd hw 120 rfl)) (mvT hZ361 (own_wd hw 3 rfl)) (mvT hZ361 (own_wd hw 121 rfl)) (by decide) (backOf (W := 0) (rm27_f l Z a0 hw [] b_361 (1 : Int32) (Int32.ofNat (ub_361 - ua_361)) b335 (Int32.ofNat ua_361) T361.heap n0 Z361 O361 pp484) hZ361 (own_wd hw 121 rfl) (own_wd hw 3 rfl) (by decide) (by decide)) (g := (mkF m 310 #[.val (.int x1), .val (.int x2), .val (.int x3), .val (.int x4), .val (.ref b335), .val (.ref b349), .val (.ref b_361), .val (.int jv94_384), .val (.int jv106_391), .val (.int jv128_400), .val (.int jv150_409), .val (.int jv172_418), .val (.int (Int32.ofNat ua_361)), .val (.int jv257_462), .val (.int (Int32.ofNat (ub_361 - ua_361)))] [(.int (Int32.ofNat ua_361)), (.ref b335), (.int (Int32.ofNat (ub_361 - ua_361))), (.int (1 : Int32)), (.ref b_361)])) rfl (by rw [hml]; rfl) (argsL := [(.ref b_361), (.int (1 : Int32)), (.int (Int32.ofNat (ub_361 - ua_361))), (.ref b335), (.int (Int32.ofNat ua_361))]) (rest := []) (lenOf pd_24 rfl) rfl (by show 2 * 0 + _ ≤ _; exact Nat.le_of_eq rfl) (hb hby at_310) (fun _ _ => ⟨rfl, eh471, (by decide : 15 + 0 ≤ _), (by decide : 132 + 0 ≤ _)⟩)
      dsimp only [Pt.U, Pt.locs, Pt.cells, Pt.slots] at X485 l485 y485 z485 st485 hQ485
      subst l485 y485 z485
      obtain ⟨rfl, N485q, eh485⟩ := hQ485
      have N485 := Fr.app N471 N485q
      have pp486 : ¬ ((2 : Int32) < (Int32.ofNat (ub_361 - ua_361))) := fun q => by have z := (own_lt (i := 2) (by omega) (by omega)).mp q; omega
      obtain ⟨_, _, ⟨T487, L487, k487, n487⟩, -, X487, ⟨Lc487, hQ487, l487, y487, z487⟩, st487⟩ := Jvm.LawKit.callS X485 hx (y := (⟨"com/example/prueba/prueba/MediaTypesMediaTypePinLaw", "at", "(Ljava/lang/String;II[CI)Z"⟩ : MethodName)) hown361 (mvT hZ361 (own_wd hw 119 rfl)) (mvT hZ361 (own_wd hw 120 rfl)) (mvT hZ361 (own_wd hw 3 rfl)) (mvT hZ361 (own_wd hw 121 rfl)) (by decide) (backOf (W := 0) (rm27_f l Z a0 hw [] b_361 (2 : Int32) (Int32.ofNat (ub_361 - ua_361)) b335 (Int32.ofNat ua_361) T361.heap n0 Z361 O361 pp486) hZ361 (own_wd hw 121 rfl) (own_wd hw 3 rfl) (by decide) (by decide)) (g := (mkF m 325 #[.val (.int x1), .val (.int x2), .val (.int x3), .val (.int x4), .val (.ref b335), .val (.ref b349), .val (.ref b_361), .val (.int jv94_384), .val (.int jv106_391), .val (.int jv128_400), .val (.int jv150_409), .val (.int jv172_418), .val (.int (Int32.ofNat ua_361)), .val (.int jv257_462), .val (.int (Int32.ofNat (ub_361 - ua_361)))] [(.int (Int32.ofNat ua_361)), (.ref b335), (.int (Int32.ofNat (ub_361 - ua_361))), (.int (2 : Int32)), (.ref b_361)])) rfl (by rw [hml]; rfl) (argsL := [(.ref b_361), (.int (2 : Int32)), (.int (Int32.ofNat (ub_361 - ua_361))), (.ref b335), (.int (Int32.ofNat ua_361))]) (rest := []) (lenOf pd_24 rfl) rfl (by show 2 * 0 + _ ≤ _; exact Nat.le_of_eq rfl) (hb hby at_325) (fun _ _ => ⟨rfl, eh485, (by decide : 15 + 0 ≤ _), (by decide : 132 + 0 ≤ _)⟩)
      dsimp only [Pt.U, Pt.locs, Pt.cells, Pt.slots] at X487 l487 y487 z487 st487 hQ487
      subst l487 y487 z487
      obtain ⟨rfl, N487q, eh487⟩ := hQ487
      have N487 := Fr.app N485 N487q
      have pp488 : ¬ ((3 : Int32) < (Int32.ofNat (ub_361 - ua_361))) := fun q => by have z := (own_lt (i := 3) (by omega) (by omega)).mp q; omega
      obtain ⟨_, _, ⟨T489, L489, k489, n489⟩, -, X489, ⟨Lc489, hQ489, l489, y489, z489⟩, st489⟩ := Jvm.LawKit.callS X487 hx (y := (⟨"com/example/prueba/prueba/MediaTypesMediaTypePinLaw", "at", "(Ljava/lang/String;II[CI)Z"⟩ : MethodName)) hown361 (mvT hZ361 (own_wd hw 119 rfl)) (mvT hZ361 (own_wd hw 120 rfl)) (mvT hZ361 (own_wd hw 3 rfl)) (mvT hZ361 (own_wd hw 121 rfl)) (by decide) (backOf (W := 0) (rm27_f l Z a0 hw [] b_361 (3 : Int32) (Int32.ofNat (ub_361 - ua_361)) b335 (Int32.ofNat ua_361) T361.heap n0 Z361 O361 pp488) hZ361 (own_wd hw 121 rfl) (own_wd hw 3 rfl) (by decide) (by decide)) (g := (mkF m 340 #[.val (.int x1), .val (.int x2), .val (.int x3), .val (.int x4), .val (.ref b335), .val (.ref b349), .val (.ref b_361), .val (.int jv94_384), .val (.int jv106_391), .val (.int jv128_400), .val (.int jv150_409), .val (.int jv172_418), .val (.int (Int32.ofNat ua_361)), .val (.int jv257_462), .val (.int (Int32.ofNat (ub_361 - ua_361)))] [(.int (Int32.ofNat ua_361)), (.ref b335), (.int (Int32.ofNat (ub_361 - ua_361))), (.int (3 : Int32)), (.ref b_361)])) rfl (by rw [hml]; rfl) (argsL := [(.ref b_361), (.int (3 : Int32)), (.int (Int32.ofNat (ub_361 - ua_361))), (.ref b335), (.int (Int32.ofNat ua_361))]) (rest := []) (lenOf pd_24 rfl) rfl (by show 2 * 0 + _ ≤ _; exact Nat.le_of_eq rfl) (hb hby at_340) (fun _ _ => ⟨rfl, eh487, (by decide : 15 + 0 ≤ _), (by decide : 132 + 0 ≤ _)⟩)
      dsimp only [Pt.U, Pt.locs, Pt.cells, Pt.slots] at X489 l489 y489 z489 st489 hQ489
      subst l489 y489 z489
      obtain ⟨rfl, N489q, eh489⟩ := hQ489
      have N489 := Fr.app N487 N489q
      obtain ⟨fs, hr, hrun, hended, hW, hsame⟩ := X489.leave (v := some (.int (1 : Int32))) (fun h => by rw [Bd.returns] at h; cases h)
      have hend := hS361.ended hW (show _ ≤ T489.heap.size from by rw [eh489]; exact (Nat.le_refl _)) hsame
      have hcr : CHr Z own_EL s.vm s.heap T489.vm T489.heap := by
        rw [hh, eh489]
        exact CR361.trans (CHv.at X489 hZ361 (own_EW hw) CH361)
      refine ⟨_, _, pre472 _ ?_, hrun, hended, _, _, rfl, ?_, hcr, ⟨_, rfl⟩, hend.1, hend.2.1, hend.2.2.mono (by decide) (by decide)⟩
      · show Steps p.tables e below (T471.setTop (mkF m 301 #[.val (.int x1), .val (.int x2), .val (.int x3), .val (.int x4), .val (.ref b335), .val (.ref b349), .val (.ref b_361), .val (.int jv94_384), .val (.int jv106_391), .val (.int jv128_400), .val (.int jv150_409), .val (.int jv172_418), .val (.int (Int32.ofNat ua_361)), .val (.int jv257_462), .val (.int (Int32.ofNat (ub_361 - ua_361)))] [])) _
        refine XS.aload X471.here hx rfl (hb hby at_301) rfl rfl ?_
        refine XS.iconst X471.here hx rfl (hb hby at_303) ?_
        refine XS.iload X471.here hx rfl (hb hby at_304) rfl ?_
        refine XS.aload X471.here hx rfl (hb hby at_306) rfl rfl ?_
        show Steps p.tables e below (T471.setTop (mkF m 308 #[.val (.int x1), .val (.int x2), .val (.int x3), .val (.int x4), .val (.ref b335), .val (.ref b349), .val (.ref b_361), .val (.int jv94_384), .val (.int jv106_391), .val (.int jv128_400), .val (.int jv150_409), .val (.int jv172_418), .val (.int (Int32.ofNat ua_361)), .val (.int jv257_462), .val (.int (Int32.ofNat (ub_361 - ua_361)))] [(.ref b335), (.int (Int32.ofNat (ub_361 - ua_361))), (.int (1 : Int32)), (.ref b_361)])) _
        refine XS.iload X471.here hx rfl (hb hby at_308) rfl ?_
        show Steps p.tables e below (T471.setTop (mkF m 310 #[.val (.int x1), .val (.int x2), .val (.int x3), .val (.int x4), .val (.ref b335), .val (.ref b349), .val (.ref b_361), .val (.int jv94_384), .val (.int jv106_391), .val (.int jv128_400), .val (.int jv150_409), .val (.int jv172_418), .val (.int (Int32.ofNat ua_361)), .val (.int jv257_462), .val (.int (Int32.ofNat (ub_361 - ua_361)))] [(.int (Int32.ofNat ua_361)), (.ref b335), (.int (Int32.ofNat (ub_361 - ua_361))), (.int (1 : Int32)), (.ref b_361)])) _
        refine st485 _ ?_
        show Steps p.tables e below (T485.setTop (mkF m 313 #[.val (.int x1), .val (.int x2), .val (.int x3), .val (.int x4), .val (.ref b335), .val (.ref b349), .val (.ref b_361), .val (.int jv94_384), .val (.int jv106_391), .val (.int jv128_400), .val (.int jv150_409), .val (.int jv172_418), .val (.int (Int32.ofNat ua_361)), .val (.int jv257_462), .val (.int (Int32.ofNat (ub_361 - ua_361)))] [(.int (1 : Int32))])) _
        refine XS.ifNo X485.here hx rfl (hb hby at_313) rfl ((if0 _ _).trans (feq (by decide : ¬ ((1 : Int32) = (0 : Int32)))).1) ?_
        refine XS.aload X485.here hx rfl (hb hby at_316) rfl rfl ?_
        refine XS.iconst X485.here hx rfl (hb hby at_318) ?_
        refine XS.iload X485.here hx rfl (hb hby at_319) rfl ?_
        refine XS.aload X485.here hx rfl (hb hby at_321) rfl rfl ?_
        refine XS.iload X485.here hx rfl (hb hby at_323) rfl ?_
        show Steps p.tables e below (T485.setTop (mkF m 325 #[.val (.int x1), .val (.int x2), .val (.int x3), .val (.int x4), .val (.ref b335), .val (.ref b349), .val (.ref b_361), .val (.int jv94_384), .val (.int jv106_391), .val (.int jv128_400), .val (.int jv150_409), .val (.int jv172_418), .val (.int (Int32.ofNat ua_361)), .val (.int jv257_462), .val (.int (Int32.ofNat (ub_361 - ua_361)))] [(.int (Int32.ofNat ua_361)), (.ref b335), (.int (Int32.ofNat (ub_361 - ua_361))), (.int (2 : Int32)), (.ref b_361)])) _
        refine st487 _ ?_
        show Steps p.tables e below (T487.setTop (mkF m 328 #[.val (.int x1), .val (.int x2), .val (.int x3), .val (.int x4), .val (.ref b335), .val (.ref b349), .val (.ref b_361), .val (.int jv94_384), .val (.int jv106_391), .val (.int jv128_400), .val (.int jv150_409), .val (.int jv172_418), .val (.int (Int32.ofNat ua_361)), .val (.int jv257_462), .val (.int (Int32.ofNat (ub_361 - ua_361)))] [(.int (1 : Int32))])) _
        refine XS.ifNo X487.here hx rfl (hb hby at_328) rfl ((if0 _ _).trans (feq (by decide : ¬ ((1 : Int32) = (0 : Int32)))).1) ?_
        refine XS.aload X487.here hx rfl (hb hby at_331) rfl rfl ?_
        refine XS.iconst X487.here hx rfl (hb hby at_333) ?_
        refine XS.iload X487.here hx rfl (hb hby at_334) rfl ?_
        refine XS.aload X487.here hx rfl (hb hby at_336) rfl rfl ?_
        refine XS.iload X487.here hx rfl (hb hby at_338) rfl ?_
        show Steps p.tables e below (T487.setTop (mkF m 340 #[.val (.int x1), .val (.int x2), .val (.int x3), .val (.int x4), .val (.ref b335), .val (.ref b349), .val (.ref b_361), .val (.int jv94_384), .val (.int jv106_391), .val (.int jv128_400), .val (.int jv150_409), .val (.int jv172_418), .val (.int (Int32.ofNat ua_361)), .val (.int jv257_462), .val (.int (Int32.ofNat (ub_361 - ua_361)))] [(.int (Int32.ofNat ua_361)), (.ref b335), (.int (Int32.ofNat (ub_361 - ua_361))), (.int (3 : Int32)), (.ref b_361)])) _
        refine st489 _ ?_
        show Steps p.tables e below (T489.setTop (mkF m 343 #[.val (.int x1), .val (.int x2), .val (.int x3), .val (.int x4), .val (.ref b335), .val (.ref b349), .val (.ref b_361), .val (.int jv94_384), .val (.int jv106_391), .val (.int jv128_400), .val (.int jv150_409), .val (.int jv172_418), .val (.int (Int32.ofNat ua_361)), .val (.int jv257_462), .val (.int (Int32.ofNat (ub_361 - ua_361)))] [(.int (1 : Int32))])) _
        refine XS.ifNo X489.here hx rfl (hb hby at_343) rfl ((if0 _ _).trans (feq (by decide : ¬ ((1 : Int32) = (0 : Int32)))).1) ?_
        refine XS.iconst X489.here hx rfl (hb hby at_346) ?_
        refine XS.goto X489.here hx rfl (pc0 := 347) (pc' := 351) rfl (hb hby at_347) (by decide) (by decide) ?_
        show Steps p.tables e below (T489.setTop (mkF m 351 #[.val (.int x1), .val (.int x2), .val (.int x3), .val (.int x4), .val (.ref b335), .val (.ref b349), .val (.ref b_361), .val (.int jv94_384), .val (.int jv106_391), .val (.int jv128_400), .val (.int jv150_409), .val (.int jv172_418), .val (.int (Int32.ofNat ua_361)), .val (.int jv257_462), .val (.int (Int32.ofNat (ub_361 - ua_361)))] [(.int (1 : Int32))])) _
        exact retN X489 hx (t := .boolean) Bd.returns (by simp) (hb hby at_351) hr
      · show Q0 Z x1 x2 x3 x4 st_ROOT st_ROOT_baseLocale st_ROOT_baseLocale_language st_ROOT_baseLocale_language_value k_st_ROOT_baseLocale_language_value st_instance st_COMPACT_STRINGS st_fm h0 n0 _ T489.heap _
        rw [eh489]
        exact ⟨rfl, N489, K361⟩
  · skip
    obtain ⟨cq490, kq490, q490a, q490b, q490c⟩ := isOf hZ361 eh466 Q361_0
    obtain ⟨_, _, ⟨T490, L490, k490, n490⟩, -, X490, ⟨Lc490, hQ490, l490, y490, z490⟩, st490⟩ := X466.virtualBack hx (y := (⟨"java/lang/String", "length", "()I"⟩ : MethodName)) (z := (⟨"java/lang/String", "length", "()I"⟩ : MethodName)) hown361 (mvT hZ361 (own_wd hw 118 rfl)) (mvT hZ361 (own_wd hw 54 rfl)) (notFace_of_selects (args := #[]) (mvT hZ361 (own_wd hw 56 rfl))) (mvT hZ361 (own_wd hw 56 rfl)) (mvT hZ361 (own_wd hw 55 rfl)) (by decide) (backOf (W := 0) (rm12 l Z a0 hw [] b_361 t_361 kk_361 (own_lw (own_sh (own_l4 vc_336 vc_339 vc_342 vc_345) ua_361)) (ub_361 - ua_361) st_COMPACT_STRINGS T361.heap n0 Z361 O361 Q361_0 Q361_1 Q361_2 Q361_3 S_COMPACT_STRINGS hcomp) hZ361 (own_wd hw 57 rfl) (own_wd hw 7 rfl) (by decide) (by decide)) q490a q490c (g := (mkF m 278 #[.val (.int x1), .val (.int x2), .val (.int x3), .val (.int x4), .val (.ref b335), .val (.ref b349), .val (.ref b_361), .val (.int jv94_384), .val (.int jv106_391), .val (.int jv128_400), .val (.int jv150_409), .val (.int jv172_418), .val (.int jv222_442), .val (.int jv257_462), .val (.int (Int32.ofNat (ub_361 - ua_361)))] [(.ref b_361)])) rfl (by rw [hml]; rfl) (Steps.refl _) (argsL := []) (rest := []) (lenOf pd_5 rfl) rfl (by show 2 * 0 + _ ≤ _; exact Nat.le_of_eq rfl) (hb hby at_278) (fun _ _ => ⟨rfl, eh466, (by decide : 15 + 0 ≤ _), (by decide : 132 + 0 ≤ _)⟩)
    dsimp only [Pt.U, Pt.locs, Pt.cells, Pt.slots] at X490 l490 y490 z490 st490 hQ490
    subst l490 y490 z490
    obtain ⟨rfl, N490q, eh490⟩ := hQ490
    have N490 := Fr.app N466 N490q
    have pp491 : ¬ ((0 : Int32) < (Int32.ofNat (ub_361 - ua_361))) := fun q => by have z := (own_lt (i := 0) (by omega) (by omega)).mp q; omega
    obtain ⟨_, _, ⟨T492, L492, k492, n492⟩, -, X492, ⟨Lc492, hQ492, l492, y492, z492⟩, st492⟩ := Jvm.LawKit.callS X490 hx (y := (⟨"com/example/prueba/prueba/MediaTypesMediaTypePinLaw", "at", "(Ljava/lang/String;II[CI)Z"⟩ : MethodName)) hown361 (mvT hZ361 (own_wd hw 119 rfl)) (mvT hZ361 (own_wd hw 120 rfl)) (mvT hZ361 (own_wd hw 3 rfl)) (mvT hZ361 (own_wd hw 121 rfl)) (by decide) (backOf (W := 0) (rm27_f l Z a0 hw [] b_361 (0 : Int32) (Int32.ofNat (ub_361 - ua_361)) b335 jv222_442 T361.heap n0 Z361 O361 pp491) hZ361 (own_wd hw 121 rfl) (own_wd hw 3 rfl) (by decide) (by decide)) (g := (mkF m 295 #[.val (.int x1), .val (.int x2), .val (.int x3), .val (.int x4), .val (.ref b335), .val (.ref b349), .val (.ref b_361), .val (.int jv94_384), .val (.int jv106_391), .val (.int jv128_400), .val (.int jv150_409), .val (.int jv172_418), .val (.int jv222_442), .val (.int jv257_462), .val (.int (Int32.ofNat (ub_361 - ua_361)))] [(.int jv222_442), (.ref b335), (.int (Int32.ofNat (ub_361 - ua_361))), (.int (0 : Int32)), (.ref b_361)])) rfl (by rw [hml]; rfl) (argsL := [(.ref b_361), (.int (0 : Int32)), (.int (Int32.ofNat (ub_361 - ua_361))), (.ref b335), (.int jv222_442)]) (rest := []) (lenOf pd_24 rfl) rfl (by show 2 * 0 + _ ≤ _; exact Nat.le_of_eq rfl) (hb hby at_295) (fun _ _ => ⟨rfl, eh490, (by decide : 15 + 0 ≤ _), (by decide : 132 + 0 ≤ _)⟩)
    dsimp only [Pt.U, Pt.locs, Pt.cells, Pt.slots] at X492 l492 y492 z492 st492 hQ492
    subst l492 y492 z492
    obtain ⟨rfl, N492q, eh492⟩ := hQ492
    have N492 := Fr.app N490 N492q
    have pp493 : ¬ ((1 : Int32) < (Int32.ofNat (ub_361 - ua_361))) := fun q => by have z := (own_lt (i := 1) (by omega) (by omega)).mp q; omega
    obtain ⟨_, _, ⟨T494, L494, k494, n494⟩, -, X494, ⟨Lc494, hQ494, l494, y494, z494⟩, st494⟩ := Jvm.LawKit.callS X492 hx (y := (⟨"com/example/prueba/prueba/MediaTypesMediaTypePinLaw", "at", "(Ljava/lang/String;II[CI)Z"⟩ : MethodName)) hown361 (mvT hZ361 (own_wd hw 119 rfl)) (mvT hZ361 (own_wd hw 120 rfl)) (mvT hZ361 (own_wd hw 3 rfl)) (mvT hZ361 (own_wd hw 121 rfl)) (by decide) (backOf (W := 0) (rm27_f l Z a0 hw [] b_361 (1 : Int32) (Int32.ofNat (ub_361 - ua_361)) b335 jv222_442 T361.heap n0 Z361 O361 pp493) hZ361 (own_wd hw 121 rfl) (own_wd hw 3 rfl) (by decide) (by decide)) (g := (mkF m 310 #[.val (.int x1), .val (.int x2), .val (.int x3), .val (.int x4), .val (.ref b335), .val (.ref b349), .val (.ref b_361), .val (.int jv94_384), .val (.int jv106_391), .val (.int jv128_400), .val (.int jv150_409), .val (.int jv172_418), .val (.int jv222_442), .val (.int jv257_462), .val (.int (Int32.ofNat (ub_361 - ua_361)))] [(.int jv222_442), (.ref b335), (.int (Int32.ofNat (ub_361 - ua_361))), (.int (1 : Int32)), (.ref b_361)])) rfl (by rw [hml]; rfl) (argsL := [(.ref b_361), (.int (1 : Int32)), (.int (Int32.ofNat (ub_361 - ua_361))), (.ref b335), (.int jv222_442)]) (rest := []) (lenOf pd_24 rfl) rfl (by show 2 * 0 + _ ≤ _; exact Nat.le_of_eq rfl) (hb hby at_310) (fun _ _ => ⟨rfl, eh492, (by decide : 15 + 0 ≤ _), (by decide : 132 + 0 ≤ _)⟩)
    dsimp only [Pt.U, Pt.locs, Pt.cells, Pt.slots] at X494 l494 y494 z494 st494 hQ494
    subst l494 y494 z494
    obtain ⟨rfl, N494q, eh494⟩ := hQ494
    have N494 := Fr.app N492 N494q
    have pp495 : ¬ ((2 : Int32) < (Int32.ofNat (ub_361 - ua_361))) := fun q => by have z := (own_lt (i := 2) (by omega) (by omega)).mp q; omega
    obtain ⟨_, _, ⟨T496, L496, k496, n496⟩, -, X496, ⟨Lc496, hQ496, l496, y496, z496⟩, st496⟩ := Jvm.LawKit.callS X494 hx (y := (⟨"com/example/prueba/prueba/MediaTypesMediaTypePinLaw", "at", "(Ljava/lang/String;II[CI)Z"⟩ : MethodName)) hown361 (mvT hZ361 (own_wd hw 119 rfl)) (mvT hZ361 (own_wd hw 120 rfl)) (mvT hZ361 (own_wd hw 3 rfl)) (mvT hZ361 (own_wd hw 121 rfl)) (by decide) (backOf (W := 0) (rm27_f l Z a0 hw [] b_361 (2 : Int32) (Int32.ofNat (ub_361 - ua_361)) b335 jv222_442 T361.heap n0 Z361 O361 pp495) hZ361 (own_wd hw 121 rfl) (own_wd hw 3 rfl) (by decide) (by decide)) (g := (mkF m 325 #[.val (.int x1), .val (.int x2), .val (.int x3), .val (.int x4), .val (.ref b335), .val (.ref b349), .val (.ref b_361), .val (.int jv94_384), .val (.int jv106_391), .val (.int jv128_400), .val (.int jv150_409), .val (.int jv172_418), .val (.int jv222_442), .val (.int jv257_462), .val (.int (Int32.ofNat (ub_361 - ua_361)))] [(.int jv222_442), (.ref b335), (.int (Int32.ofNat (ub_361 - ua_361))), (.int (2 : Int32)), (.ref b_361)])) rfl (by rw [hml]; rfl) (argsL := [(.ref b_361), (.int (2 : Int32)), (.int (Int32.ofNat (ub_361 - ua_361))), (.ref b335), (.int jv222_442)]) (rest := []) (lenOf pd_24 rfl) rfl (by show 2 * 0 + _ ≤ _; exact Nat.le_of_eq rfl) (hb hby at_325) (fun _ _ => ⟨rfl, eh494, (by decide : 15 + 0 ≤ _), (by decide : 132 + 0 ≤ _)⟩)
    dsimp only [Pt.U, Pt.locs, Pt.cells, Pt.slots] at X496 l496 y496 z496 st496 hQ496
    subst l496 y496 z496
    obtain ⟨rfl, N496q, eh496⟩ := hQ496
    have N496 := Fr.app N494 N496q
    have pp497 : ¬ ((3 : Int32) < (Int32.ofNat (ub_361 - ua_361))) := fun q => by have z := (own_lt (i := 3) (by omega) (by omega)).mp q; omega
    obtain ⟨_, _, ⟨T498, L498, k498, n498⟩, -, X498, ⟨Lc498, hQ498, l498, y498, z498⟩, st498⟩ := Jvm.LawKit.callS X496 hx (y := (⟨"com/example/prueba/prueba/MediaTypesMediaTypePinLaw", "at", "(Ljava/lang/String;II[CI)Z"⟩ : MethodName)) hown361 (mvT hZ361 (own_wd hw 119 rfl)) (mvT hZ361 (own_wd hw 120 rfl)) (mvT hZ361 (own_wd hw 3 rfl)) (mvT hZ361 (own_wd hw 121 rfl)) (by decide) (backOf (W := 0) (rm27_f l Z a0 hw [] b_361 (3 : Int32) (Int32.ofNat (ub_361 - ua_361)) b335 jv222_442 T361.heap n0 Z361 O361 pp497) hZ361 (own_wd hw 121 rfl) (own_wd hw 3 rfl) (by decide) (by decide)) (g := (mkF m 340 #[.val (.int x1), .val (.int x2), .val (.int x3), .val (.int x4), .val (.ref b335), .val (.ref b349), .val (.ref b_361), .val (.int jv94_384), .val (.int jv106_391), .val (.int jv128_400), .val (.int jv150_409), .val (.int jv172_418), .val (.int jv222_442), .val (.int jv257_462), .val (.int (Int32.ofNat (ub_361 - ua_361)))] [(.int jv222_442), (.ref b335), (.int (Int32.ofNat (ub_361 - ua_361))), (.int (3 : Int32)), (.ref b_361)])) rfl (by rw [hml]; rfl) (argsL := [(.ref b_361), (.int (3 : Int32)), (.int (Int32.ofNat (ub_361 - ua_361))), (.ref b335), (.int jv222_442)]) (rest := []) (lenOf pd_24 rfl) rfl (by show 2 * 0 + _ ≤ _; exact Nat.le_of_eq rfl) (hb hby at_340) (fun _ _ => ⟨rfl, eh496, (by decide : 15 + 0 ≤ _), (by decide : 132 + 0 ≤ _)⟩)
    dsimp only [Pt.U, Pt.locs, Pt.cells, Pt.slots] at X498 l498 y498 z498 st498 hQ498
    subst l498 y498 z498
    obtain ⟨rfl, N498q, eh498⟩ := hQ498
    have N498 := Fr.app N496 N498q
    obtain ⟨fs, hr, hrun, hended, hW, hsame⟩ := X498.leave (v := some (.int (1 : Int32))) (fun h => by rw [Bd.returns] at h; cases h)
    have hend := hS361.ended hW (show _ ≤ T498.heap.size from by rw [eh498]; exact (Nat.le_refl _)) hsame
    have hcr : CHr Z own_EL s.vm s.heap T498.vm T498.heap := by
      rw [hh, eh498]
      exact CR361.trans (CHv.at X498 hZ361 (own_EW hw) CH361)
    refine ⟨_, _, pre468 _ ?_, hrun, hended, _, _, rfl, ?_, hcr, ⟨_, rfl⟩, hend.1, hend.2.1, hend.2.2.mono (by decide) (by decide)⟩
    · show Steps p.tables e below (T466.setTop (mkF m 276 #[.val (.int x1), .val (.int x2), .val (.int x3), .val (.int x4), .val (.ref b335), .val (.ref b349), .val (.ref b_361), .val (.int jv94_384), .val (.int jv106_391), .val (.int jv128_400), .val (.int jv150_409), .val (.int jv172_418), .val (.int jv222_442), .val (.int jv257_462), .val (.int (Int32.ofNat (ub_361 - ua_361)))] [])) _
      refine XS.aload X466.here hx rfl (hb hby at_276) rfl rfl ?_
      show Steps p.tables e below (T466.setTop (mkF m 278 #[.val (.int x1), .val (.int x2), .val (.int x3), .val (.int x4), .val (.ref b335), .val (.ref b349), .val (.ref b_361), .val (.int jv94_384), .val (.int jv106_391), .val (.int jv128_400), .val (.int jv150_409), .val (.int jv172_418), .val (.int jv222_442), .val (.int jv257_462), .val (.int (Int32.ofNat (ub_361 - ua_361)))] [(.ref b_361)])) _
      refine st490.trans ?_
      show Steps p.tables e below (T490.setTop (mkF m 281 #[.val (.int x1), .val (.int x2), .val (.int x3), .val (.int x4), .val (.ref b335), .val (.ref b349), .val (.ref b_361), .val (.int jv94_384), .val (.int jv106_391), .val (.int jv128_400), .val (.int jv150_409), .val (.int jv172_418), .val (.int jv222_442), .val (.int jv257_462), .val (.int (Int32.ofNat (ub_361 - ua_361)))] [(.int (Int32.ofNat (ub_361 - ua_361)))])) _
      refine XS.iload X490.here hx rfl (hb hby at_281) rfl ?_
      refine XS.icmpNo X490.here hx rfl (hb hby at_283) rfl (teq (rfl : (Int32.ofNat (ub_361 - ua_361)) = (Int32.ofNat (ub_361 - ua_361)))).2 ?_
      refine XS.aload X490.here hx rfl (hb hby at_286) rfl rfl ?_
      refine XS.iconst X490.here hx rfl (hb hby at_288) ?_
      refine XS.iload X490.here hx rfl (hb hby at_289) rfl ?_
      refine XS.aload X490.here hx rfl (hb hby at_291) rfl rfl ?_
      show Steps p.tables e below (T490.setTop (mkF m 293 #[.val (.int x1), .val (.int x2), .val (.int x3), .val (.int x4), .val (.ref b335), .val (.ref b349), .val (.ref b_361), .val (.int jv94_384), .val (.int jv106_391), .val (.int jv128_400), .val (.int jv150_409), .val (.int jv172_418), .val (.int jv222_442), .val (.int jv257_462), .val (.int (Int32.ofNat (ub_361 - ua_361)))] [(.ref b335), (.int (Int32.ofNat (ub_361 - ua_361))), (.int (0 : Int32)), (.ref b_361)])) _
      refine XS.iload X490.here hx rfl (hb hby at_293) rfl ?_
      show Steps p.tables e below (T490.setTop (mkF m 295 #[.val (.int x1), .val (.int x2), .val (.int x3), .val (.int x4), .val (.ref b335), .val (.ref b349), .val (.ref b_361), .val (.int jv94_384), .val (.int jv106_391), .val (.int jv128_400), .val (.int jv150_409), .val (.int jv172_418), .val (.int jv222_442), .val (.int jv257_462), .val (.int (Int32.ofNat (ub_361 - ua_361)))] [(.int jv222_442), (.ref b335), (.int (Int32.ofNat (ub_361 - ua_361))), (.int (0 : Int32)), (.ref b_361)])) _
      refine st492 _ ?_
      show Steps p.tables e below (T492.setTop (mkF m 298 #[.val (.int x1), .val (.int x2), .val (.int x3), .val (.int x4), .val (.ref b335), .val (.ref b349), .val (.ref b_361), .val (.int jv94_384), .val (.int jv106_391), .val (.int jv128_400), .val (.int jv150_409), .val (.int jv172_418), .val (.int jv222_442), .val (.int jv257_462), .val (.int (Int32.ofNat (ub_361 - ua_361)))] [(.int (1 : Int32))])) _
      refine XS.ifNo X492.here hx rfl (hb hby at_298) rfl ((if0 _ _).trans (feq (by decide : ¬ ((1 : Int32) = (0 : Int32)))).1) ?_
      refine XS.aload X492.here hx rfl (hb hby at_301) rfl rfl ?_
      refine XS.iconst X492.here hx rfl (hb hby at_303) ?_
      refine XS.iload X492.here hx rfl (hb hby at_304) rfl ?_
      refine XS.aload X492.here hx rfl (hb hby at_306) rfl rfl ?_
      refine XS.iload X492.here hx rfl (hb hby at_308) rfl ?_
      show Steps p.tables e below (T492.setTop (mkF m 310 #[.val (.int x1), .val (.int x2), .val (.int x3), .val (.int x4), .val (.ref b335), .val (.ref b349), .val (.ref b_361), .val (.int jv94_384), .val (.int jv106_391), .val (.int jv128_400), .val (.int jv150_409), .val (.int jv172_418), .val (.int jv222_442), .val (.int jv257_462), .val (.int (Int32.ofNat (ub_361 - ua_361)))] [(.int jv222_442), (.ref b335), (.int (Int32.ofNat (ub_361 - ua_361))), (.int (1 : Int32)), (.ref b_361)])) _
      refine st494 _ ?_
      show Steps p.tables e below (T494.setTop (mkF m 313 #[.val (.int x1), .val (.int x2), .val (.int x3), .val (.int x4), .val (.ref b335), .val (.ref b349), .val (.ref b_361), .val (.int jv94_384), .val (.int jv106_391), .val (.int jv128_400), .val (.int jv150_409), .val (.int jv172_418), .val (.int jv222_442), .val (.int jv257_462), .val (.int (Int32.ofNat (ub_361 - ua_361)))] [(.int (1 : Int32))])) _
      refine XS.ifNo X494.here hx rfl (hb hby at_313) rfl ((if0 _ _).trans (feq (by decide : ¬ ((1 : Int32) = (0 : Int32)))).1) ?_
      refine XS.aload X494.here hx rfl (hb hby at_316) rfl rfl ?_
      refine XS.iconst X494.here hx rfl (hb hby at_318) ?_
      refine XS.iload X494.here hx rfl (hb hby at_319) rfl ?_
      refine XS.aload X494.here hx rfl (hb hby at_321) rfl rfl ?_
      refine XS.iload X494.here hx rfl (hb hby at_323) rfl ?_
      show Steps p.tables e below (T494.setTop (mkF m 325 #[.val (.int x1), .val (.int x2), .val (.int x3), .val (.int x4), .val (.ref b335), .val (.ref b349), .val (.ref b_361), .val (.int jv94_384), .val (.int jv106_391), .val (.int jv128_400), .val (.int jv150_409), .val (.int jv172_418), .val (.int jv222_442), .val (.int jv257_462), .val (.int (Int32.ofNat (ub_361 - ua_361)))] [(.int jv222_442), (.ref b335), (.int (Int32.ofNat (ub_361 - ua_361))), (.int (2 : Int32)), (.ref b_361)])) _
      refine st496 _ ?_
      show Steps p.tables e below (T496.setTop (mkF m 328 #[.val (.int x1), .val (.int x2), .val (.int x3), .val (.int x4), .val (.ref b335), .val (.ref b349), .val (.ref b_361), .val (.int jv94_384), .val (.int jv106_391), .val (.int jv128_400), .val (.int jv150_409), .val (.int jv172_418), .val (.int jv222_442), .val (.int jv257_462), .val (.int (Int32.ofNat (ub_361 - ua_361)))] [(.int (1 : Int32))])) _
      refine XS.ifNo X496.here hx rfl (hb hby at_328) rfl ((if0 _ _).trans (feq (by decide : ¬ ((1 : Int32) = (0 : Int32)))).1) ?_
      refine XS.aload X496.here hx rfl (hb hby at_331) rfl rfl ?_
      refine XS.iconst X496.here hx rfl (hb hby at_333) ?_
      refine XS.iload X496.here hx rfl (hb hby at_334) rfl ?_
      refine XS.aload X496.here hx rfl (hb hby at_336) rfl rfl ?_
      refine XS.iload X496.here hx rfl (hb hby at_338) rfl ?_
      show Steps p.tables e below (T496.setTop (mkF m 340 #[.val (.int x1), .val (.int x2), .val (.int x3), .val (.int x4), .val (.ref b335), .val (.ref b349), .val (.ref b_361), .val (.int jv94_384), .val (.int jv106_391), .val (.int jv128_400), .val (.int jv150_409), .val (.int jv172_418), .val (.int jv222_442), .val (.int jv257_462), .val (.int (Int32.ofNat (ub_361 - ua_361)))] [(.int jv222_442), (.ref b335), (.int (Int32.ofNat (ub_361 - ua_361))), (.int (3 : Int32)), (.ref b_361)])) _
      refine st498 _ ?_
      show Steps p.tables e below (T498.setTop (mkF m 343 #[.val (.int x1), .val (.int x2), .val (.int x3), .val (.int x4), .val (.ref b335), .val (.ref b349), .val (.ref b_361), .val (.int jv94_384), .val (.int jv106_391), .val (.int jv128_400), .val (.int jv150_409), .val (.int jv172_418), .val (.int jv222_442), .val (.int jv257_462), .val (.int (Int32.ofNat (ub_361 - ua_361)))] [(.int (1 : Int32))])) _
      refine XS.ifNo X498.here hx rfl (hb hby at_343) rfl ((if0 _ _).trans (feq (by decide : ¬ ((1 : Int32) = (0 : Int32)))).1) ?_
      refine XS.iconst X498.here hx rfl (hb hby at_346) ?_
      refine XS.goto X498.here hx rfl (pc0 := 347) (pc' := 351) rfl (hb hby at_347) (by decide) (by decide) ?_
      show Steps p.tables e below (T498.setTop (mkF m 351 #[.val (.int x1), .val (.int x2), .val (.int x3), .val (.int x4), .val (.ref b335), .val (.ref b349), .val (.ref b_361), .val (.int jv94_384), .val (.int jv106_391), .val (.int jv128_400), .val (.int jv150_409), .val (.int jv172_418), .val (.int jv222_442), .val (.int jv257_462), .val (.int (Int32.ofNat (ub_361 - ua_361)))] [(.int (1 : Int32))])) _
      exact retN X498 hx (t := .boolean) Bd.returns (by simp) (hb hby at_351) hr
    · show Q0 Z x1 x2 x3 x4 st_ROOT st_ROOT_baseLocale st_ROOT_baseLocale_language st_ROOT_baseLocale_language_value k_st_ROOT_baseLocale_language_value st_instance st_COMPACT_STRINGS st_fm h0 n0 _ T498.heap _
      rw [eh498]
      exact ⟨rfl, N498, K361⟩
set_option maxRecDepth 65536 in
set_option maxHeartbeats 40000000 in
theorem comes_1 {Post : Tables → Env → Array Value → State → Outcome → State → Prop} (hpost : ∀ tb e args s v u, (limb_1_1.after args s (.returned v) u = true ∧ limb_1_2.after args s (.returned v) u = true ∧ True) → ReturnedEndW s (.returned v) u (Jvm.fieldLocs frame_1_writes args s ++ Jvm.arrayLocs frame_1_arrays args s ++ Jvm.staticLocs frame_1_statics s) 40 4288 → Post tb e args s (.returned v) u) :
    ArmFor flags0 classFile x code maxLocals ret World_1 tables_1 room_1 Calls_1 rest_1 Pre_1 Post := by
  intro l hfl _ _ p e ha hc hk s m args below hf hA hF happ hP
  obtain ⟨hcalls, hrest, hpre⟩ := hP
  obtain ⟨-, -, -, hnamed, -, -, -, hat⟩ := (Spec.applies_iff hf).mp happ
  obtain ⟨hg, hn⟩ := and_e (Cond.before_iff.mp (show (Jvm.Cond.and given_1 narrow_1).before args s = true from hpre))
  obtain ⟨gg1, gg2⟩ := and_e hg
  obtain ⟨gg3, gg4⟩ := and_e gg2
  obtain ⟨gg5, gg6⟩ := and_e gg4
  obtain ⟨gg7, gg8⟩ := and_e gg6
  obtain ⟨w0, w1, w2, w3, rfl⟩ : ∃ w0 w1 w2 w3 : Value, args = #[w0, w1, w2, w3] := by
    have hs : args.size = 4 := by simpa [Cond.value, given_1] using gg1
    obtain ⟨L⟩ := args
    match L, hs with
    | [w0, w1, w2, w3], _ => exact ⟨w0, w1, w2, w3, rfl⟩
  have hw := fun d (hd : d ∈ tables_1) => atoms_spec (ws := Jvm.Cond.code x code maxLocals ret :: tables_1) hat d (List.mem_cons_of_mem _ hd)
  have hfit : Fit s := fun {y c} hc i hi => by
    obtain ⟨ha, rfl⟩ := Array.getElem?_eq_some_iff.mp hc
    have q := List.all_eq_true.mp ((Array.all_eq_true_iff_forall_mem.mp hF) _ (Array.getElem_mem ha)) i (List.mem_range.mpr hi)
    simpa [Array.getElem?_eq_getElem hi] using q
  obtain ⟨hsets, hown0⟩ := atoms_of _ (rest_1_c_eq ▸ (show rest_1_c.before _ s = true from hrest))
  have hr0 := Cond.before_iff.mp hown0
  obtain ⟨i0, ei0⟩ := is_v gg3
  obtain rfl : w0 = (.int i0) := Option.some.inj ei0
  obtain ⟨i1, ei1⟩ := is_v gg5
  obtain rfl : w1 = (.int i1) := Option.some.inj ei1
  obtain ⟨i2, ei2⟩ := is_v gg7
  obtain rfl : w2 = (.int i2) := Option.some.inj ei2
  obtain ⟨i3, ei3⟩ := is_v gg8
  obtain rfl : w3 = (.int i3) := Option.some.inj ei3
  obtain ⟨st_COMPACT_STRINGS, ev_comp⟩ := is_v (Cond.before_iff.mp (hsets _ (List.mem_of_getElem? (i := 1) rfl)))
  have S_COMPACT_STRINGS : Sta s s.heap "java/lang/String" "COMPACT_STRINGS" "Z" (.int st_COMPACT_STRINGS) := Sta.start ev_comp (Or.inl (hsets _ (List.mem_of_getElem? (i := 0) rfl)))
  have hcomp : ¬ (st_COMPACT_STRINGS = (0 : Int32)) := gotF (Cond.eq_ints ev_comp (Term.int_eval 0)) (not_v (Cond.before_iff.mp (hsets _ (List.mem_of_getElem? (i := 2) rfl))))
  obtain ⟨st_fm, ev_fm, hfm⟩ := isR_v (Cond.before_iff.mp (hsets _ (List.mem_of_getElem? (i := 8) rfl)))
  have S_fm : Sta s s.heap "jdk/internal/util/Preconditions" "SIOOBE_FORMATTER" "Ljava/util/function/BiFunction;" st_fm := Sta.start ev_fm (Or.inl (hsets _ (List.mem_of_getElem? (i := 7) rfl)))
  obtain ⟨st_ROOT, ev_st_ROOT⟩ := exa_v (Cond.before_iff.mp (hsets _ (List.mem_of_getElem? (i := 11) rfl)))
  have S_ROOT : Sta s s.heap "java/util/Locale" "ROOT" "Ljava/util/Locale;" (.ref st_ROOT) := Sta.start ev_st_ROOT (Or.inl (hsets _ (List.mem_of_getElem? (i := 10) rfl)))
  have EZ_st_ROOT : Exa s s.heap st_ROOT "java/util/Locale" := Exa.start ev_st_ROOT (Cond.before_iff.mp (hsets _ (List.mem_of_getElem? (i := 11) rfl)))
  obtain ⟨st_ROOT_baseLocale, ev_st_ROOT_baseLocale⟩ := exa_v (Cond.before_iff.mp (hsets _ (List.mem_of_getElem? (i := 12) rfl)))
  have FZ_st_ROOT_baseLocale : Fld s s.heap st_ROOT "java/util/Locale" "baseLocale" "Lsun/util/locale/BaseLocale;" (.ref st_ROOT_baseLocale) := Fld.start ((fld_at ev_st_ROOT).symm.trans ev_st_ROOT_baseLocale)
  have EZ_st_ROOT_baseLocale : Exa s s.heap st_ROOT_baseLocale "sun/util/locale/BaseLocale" := Exa.start ev_st_ROOT_baseLocale (Cond.before_iff.mp (hsets _ (List.mem_of_getElem? (i := 12) rfl)))
  obtain ⟨st_ROOT_baseLocale_language, ev_st_ROOT_baseLocale_language⟩ := exa_v (Cond.before_iff.mp (hsets _ (List.mem_of_getElem? (i := 13) rfl)))
  have FZ_st_ROOT_baseLocale_language : Fld s s.heap st_ROOT_baseLocale "sun/util/locale/BaseLocale" "language" "Ljava/lang/String;" (.ref st_ROOT_baseLocale_language) := Fld.start ((fld_at ev_st_ROOT_baseLocale).symm.trans ev_st_ROOT_baseLocale_language)
  have EZ_st_ROOT_baseLocale_language : Exa s s.heap st_ROOT_baseLocale_language "java/lang/String" := Exa.start ev_st_ROOT_baseLocale_language (Cond.before_iff.mp (hsets _ (List.mem_of_getElem? (i := 13) rfl)))
  have FZ_st_ROOT_baseLocale_language_coder : Fld s s.heap st_ROOT_baseLocale_language "java/lang/String" "coder" "B" (.int (0 : Int32)) := Fld.start ((fld_at ev_st_ROOT_baseLocale_language).symm.trans (own_eqI (Cond.before_iff.mp (hsets _ (List.mem_of_getElem? (i := 14) rfl)))))
  obtain ⟨st_ROOT_baseLocale_language_value, ev_st_ROOT_baseLocale_language_value⟩ := arr_v (Cond.before_iff.mp (hsets _ (List.mem_of_getElem? (i := 15) rfl)))
  have FZ_st_ROOT_baseLocale_language_value : Fld s s.heap st_ROOT_baseLocale_language "java/lang/String" "value" "[B" (.ref st_ROOT_baseLocale_language_value) := Fld.start ((fld_at ev_st_ROOT_baseLocale_language).symm.trans ev_st_ROOT_baseLocale_language_value)
  obtain ⟨cl_st_ROOT_baseLocale_language_value, Ar_st_ROOT_baseLocale_language_value⟩ := Arr.start ev_st_ROOT_baseLocale_language_value (Cond.before_iff.mp (hsets _ (List.mem_of_getElem? (i := 15) rfl)))
  have EZ_st_ROOT_baseLocale_language_value : Exa s s.heap st_ROOT_baseLocale_language_value "[B" := Exa.start ev_st_ROOT_baseLocale_language_value (Cond.before_iff.mp (hsets _ (List.mem_of_getElem? (i := 16) rfl)))
  obtain ⟨ln_st_ROOT_baseLocale_language_value, lz_st_ROOT_baseLocale_language_value⟩ := own_len ev_st_ROOT_baseLocale_language_value Ar_st_ROOT_baseLocale_language_value (own_eqI (Cond.before_iff.mp (hsets _ (List.mem_of_getElem? (i := 17) rfl))))
  obtain ⟨st_instance, ev_st_instance⟩ := exa_v (Cond.before_iff.mp (hsets _ (List.mem_of_getElem? (i := 20) rfl)))
  have S_instance : Sta s s.heap "java/lang/CharacterDataLatin1" "instance" "Ljava/lang/CharacterDataLatin1;" (.ref st_instance) := Sta.start ev_st_instance (Or.inl (hsets _ (List.mem_of_getElem? (i := 19) rfl)))
  have EZ_st_instance : Exa s s.heap st_instance "java/lang/CharacterDataLatin1" := Exa.start ev_st_instance (Cond.before_iff.mp (hsets _ (List.mem_of_getElem? (i := 20) rfl)))
  have VZ_st_ROOT_baseLocale_language_value : Arv s s.heap st_ROOT_baseLocale_language_value cl_st_ROOT_baseLocale_language_value.cls .byte (0 : Int32) [] (.int (0 : Int32)) := Arv.start hfit Ar_st_ROOT_baseLocale_language_value ln_st_ROOT_baseLocale_language_value lz_st_ROOT_baseLocale_language_value (by decide) (show (0 : Int32).toNatClampNeg = 0 by decide) trivial
  have hch : CHv s own_EL s.vm s.heap := CHv.start (own_EW hw) (fun p hp => hcalls.1 p hp) (hsets _ (List.mem_of_getElem? (i := 2) rfl)) (own_wd hw 23 rfl) (own_wd hw 6 rfl)
  obtain ⟨n, o, h1, h2, h3, _, L, rfl, ⟨rfl, N, -⟩, -, hq⟩ := rm0 l s _ hw tables_1 i0 i1 i2 i3 st_ROOT st_ROOT_baseLocale st_ROOT_baseLocale_language st_ROOT_baseLocale_language_value cl_st_ROOT_baseLocale_language_value.cls st_instance st_COMPACT_STRINGS st_fm s.heap s.heap.size (Nat.le_refl _) (Old.start s) S_ROOT EZ_st_ROOT FZ_st_ROOT_baseLocale EZ_st_ROOT_baseLocale FZ_st_ROOT_baseLocale_language FZ_st_ROOT_baseLocale_language_value VZ_st_ROOT_baseLocale_language_value S_instance EZ_st_instance S_COMPACT_STRINGS hcomp S_fm hfm p e ha hc hk s m _ below hf ((Spec.applies_iff_loose hf).mp happ).1 ⟨rfl, State.Warmed39.refl s, rfl, hch⟩ trivial
  refine ⟨n, _, h1, h2, h3, hpost _ _ _ _ _ _ ⟨Cond.after_iff.mpr rfl, Cond.after_iff.mpr (eq_i res_at (Term.int_eval (1)) rfl), trivial⟩ ⟨hq.1, hq.2.1, hq.2.2.1, (hq.2.2.2.sift fun y hy => Or.inr (N y hy)).mono (by decide) (by decide)⟩⟩
theorem main_1_1 : Claimed_1_1 := comes_1 fun _ _ _ _ _ _ h hF => ⟨h.1, hF⟩
theorem main_1_2 : Claimed_1_2 := comes_1 fun _ _ _ _ _ _ h hF => ⟨h.2.1, hF⟩
end Jvm.Pilot.@@N@@
namespace Jvm.Pilot.@@N@@
open Jvm Jvm.ClassFile Sem Op Lib Jvm.Free Jvm.Stand Jvm.Pilot.@@N@@.Jvm.D
/-! MADE BY PROGRAM (witnessworld.py) out of the Statement's table words and the real class files: 27 classes; the members and pool entries that the words name. The judged class is class 1, her method 4. -/
namespace start1
open Jvm.ClassFile
def u (s : String) : CpInfo := .utf8 (stringToUtf16 s)
/-- a pool by its gaps: so many unusable entries, then the entry; so many at the end -/
def gap : Nat → List CpInfo → List CpInfo
  | 0, r => r
  | n + 1, r => .unusable :: gap n r
def poolList (es : List (Nat × CpInfo)) (last : Nat) : List CpInfo := es.foldr (fun e r => gap e.1 (e.2 :: r)) (gap last [])
def pool (es : List (Nat × CpInfo)) (last : Nat) : Array CpInfo := ⟨poolList es last⟩
def fileOf (pool : Array CpInfo) (this : Nat) (attrs : Array Attribute := #[]) (ms : Array MethodInfo := #[]) (fl : Nat := 33) (sup : Nat := 0) (ifs : Array Nat := #[]) (fds : Array FieldInfo := #[]) : ClassFile where
  minorVersion := 0
  majorVersion := 65
  constantPool := pool
  accessFlags := fl
  thisClass := this
  superClass := sup
  interfaces := ifs
  fields := fds
  methods := ms
  attributes := attrs
def plain (name : String) (sup : Option ClassId) : Class where
  name := name
  kind := .ordinary
  loader := none
  accessFlags := 33
  super := sup
  interfaces := #[]
  cf := none
  fields := #[]
  methods := #[]
  instanceTypes := #[]
  staticTypes := #[]
  resolved := #[]
  callSites := []
  init := .initialized
  statics := none
  mirror := none

def pool0 : Array CpInfo := pool [(5, u "<init>"), (0, u "()V"), (1, .class_ 10), (1, u "java/lang/Object")] 113

def k0c0 : Code := { maxStack := 0, maxLocals := 1, code := object_method_1_code, exceptionTable := #[], attributes := #[] }
def k0m0 : Method := { name := "<init>", desc := "()V", sig := { parameters := [], returnType := none }, accessFlags := 1, code := some k0c0 }
/-- java/lang/Object -/
def k0 : Class := { plain "java/lang/Object" none with
  accessFlags := 33
  interfaces := #[]
  cf := some (fileOf pool0 8 #[] #[{ accessFlags := 1, nameIndex := 5, descriptorIndex := 6, attributes := #[] }] 33 0 #[] #[])
  fields := #[]
  methods := #[k0m0]
  instanceTypes := #[]
  staticTypes := #[]
  resolved := Array.replicate 124 none
  statics := none }

def pool1 : Array CpInfo := pool [(2, .class_ 4), (1, u "java/lang/Object"), (0, u "<init>"), (0, u "()V"), (0, .methodref 8 9), (0, .class_ 10), (0, .nameAndType 11 12), (0, u "java/lang/String"), (0, u "charAt"), (0, u "(I)C"), (0, .methodref 14 15), (0, .class_ 16), (0, .nameAndType 17 18), (0, u "com/example/prueba/prueba/MediaTypesMediaTypePinLaw"), (0, u "lower"), (0, u "(C)C"), (0, .methodref 14 20), (0, .nameAndType 21 12), (0, u "draw"), (0, .methodref 8 23), (0, .nameAndType 5 24), (0, u "([C)V"), (0, .methodref 26 27), (0, .class_ 28), (0, .nameAndType 29 30), (0, u "com/example/prueba/prueba/MediaTypes"), (0, u "mediaType"), (0, u "(Ljava/lang/String;)Ljava/lang/String;"), (0, .methodref 32 33), (0, .class_ 34), (0, .nameAndType 35 36), (0, u "java/lang/Math"), (0, u "max"), (0, u "(II)I"), (0, .methodref 8 38), (0, .nameAndType 39 40), (0, u "length"), (0, u "()I"), (0, .methodref 14 42), (0, .nameAndType 43 44), (0, u "at"), (0, u "(Ljava/lang/String;II[CI)Z"), (3, u "law"), (0, u "(IIII)Z")] 4

def k1m0 : Method := { name := "<init>", desc := "()V", sig := { parameters := [], returnType := none }, accessFlags := 1, code := none }
def k1c1 : Code := { maxStack := 3, maxLocals := 3, code := method_2_code, exceptionTable := #[], attributes := #[] }
def k1m1 : Method := { name := "draw", desc := "(I)C", sig := { parameters := [.int], returnType := some .char }, accessFlags := 10, code := some k1c1 }
def k1c2 : Code := { maxStack := 2, maxLocals := 1, code := method_3_code, exceptionTable := #[], attributes := #[] }
def k1m2 : Method := { name := "lower", desc := "(C)C", sig := { parameters := [.char], returnType := some .char }, accessFlags := 10, code := some k1c2 }
def k1c3 : Code := { maxStack := 4, maxLocals := 5, code := method_4_code, exceptionTable := #[], attributes := #[] }
def k1m3 : Method := { name := "at", desc := "(Ljava/lang/String;II[CI)Z", sig := { parameters := [(.object "java/lang/String"), .int, .int, (.array .char), .int], returnType := some .boolean }, accessFlags := 10, code := some k1c3 }
def k1c4 : Code := { maxStack := 5, maxLocals := 15, code := code, exceptionTable := #[], attributes := #[] }
def k1m4 : Method := { name := "law", desc := "(IIII)Z", sig := { parameters := [.int, .int, .int, .int], returnType := some .boolean }, accessFlags := 9, code := some k1c4 }
/-- com/example/prueba/prueba/MediaTypesMediaTypePinLaw -/
def k1 : Class := { plain "com/example/prueba/prueba/MediaTypesMediaTypePinLaw" (some 0) with
  accessFlags := 49
  interfaces := #[]
  cf := some (fileOf pool1 14 #[] #[{ accessFlags := 1, nameIndex := 5, descriptorIndex := 6, attributes := #[] }, { accessFlags := 10, nameIndex := 21, descriptorIndex := 12, attributes := #[] }, { accessFlags := 10, nameIndex := 17, descriptorIndex := 18, attributes := #[] }, { accessFlags := 10, nameIndex := 43, descriptorIndex := 44, attributes := #[] }, { accessFlags := 9, nameIndex := 48, descriptorIndex := 49, attributes := #[] }] 49 2 #[] #[])
  fields := #[]
  methods := #[k1m0, k1m1, k1m2, k1m3, k1m4]
  instanceTypes := #[]
  staticTypes := #[]
  resolved := Array.replicate 54 none
  statics := none }

def pool2 : Array CpInfo := pool [(1, .class_ 2), (0, u "java/io/Serializable"), (0, .class_ 4), (0, u "java/lang/Object")] 2

/-- java/io/Serializable -/
def k2 : Class := { plain "java/io/Serializable" (some 0) with
  accessFlags := 1537
  interfaces := #[]
  cf := some (fileOf pool2 1 #[] #[] 1537 3 #[] #[])
  fields := #[]
  methods := #[]
  instanceTypes := #[]
  staticTypes := #[]
  resolved := Array.replicate 7 none
  statics := none }

def pool3 : Array CpInfo := pool [(1, .class_ 2), (0, u "java/lang/Comparable"), (0, .class_ 4), (0, u "java/lang/Object")] 7

/-- java/lang/Comparable -/
def k3 : Class := { plain "java/lang/Comparable" (some 0) with
  accessFlags := 1537
  interfaces := #[]
  cf := some (fileOf pool3 1 #[] #[] 1537 3 #[] #[])
  fields := #[]
  methods := #[]
  instanceTypes := #[]
  staticTypes := #[]
  resolved := Array.replicate 12 none
  statics := none }

def pool4 : Array CpInfo := pool [(2, .class_ 4), (1, u "java/lang/CharSequence"), (42, .class_ 48), (0, u "java/lang/CharSequence$1CodePointIterator"), (10, .class_ 60), (0, u "java/lang/CharSequence$1CharIterator"), (5, .class_ 67), (0, u "java/lang/Object")] 63

/-- java/lang/CharSequence -/
def k4 : Class := { plain "java/lang/CharSequence" (some 0) with
  accessFlags := 1537
  interfaces := #[]
  cf := some (fileOf pool4 2 #[.nestMembers #[47, 59]] #[] 1537 66 #[] #[])
  fields := #[]
  methods := #[]
  instanceTypes := #[]
  staticTypes := #[]
  resolved := Array.replicate 131 none
  statics := none }

def pool5 : Array CpInfo := pool [(1, .class_ 2), (0, u "java/lang/constant/Constable"), (0, .class_ 4), (0, u "java/lang/Object")] 6

/-- java/lang/constant/Constable -/
def k5 : Class := { plain "java/lang/constant/Constable" (some 0) with
  accessFlags := 1537
  interfaces := #[]
  cf := some (fileOf pool5 1 #[] #[] 1537 3 #[] #[])
  fields := #[]
  methods := #[]
  instanceTypes := #[]
  staticTypes := #[]
  resolved := Array.replicate 11 none
  statics := none }

def pool6 : Array CpInfo := pool [(1, .class_ 2), (0, u "java/lang/constant/ConstantDesc"), (0, .class_ 4), (0, u "java/lang/Object")] 32

/-- java/lang/constant/ConstantDesc -/
def k6 : Class := { plain "java/lang/constant/ConstantDesc" (some 0) with
  accessFlags := 1537
  interfaces := #[]
  cf := some (fileOf pool6 1 #[] #[] 1537 3 #[] #[])
  fields := #[]
  methods := #[]
  instanceTypes := #[]
  staticTypes := #[]
  resolved := Array.replicate 37 none
  statics := none }

def pool7 : Array CpInfo := pool [(1, .methodref 2 3), (0, .class_ 4), (0, .nameAndType 5 6), (0, u "java/lang/Object"), (0, u "<init>"), (0, u "()V"), (2, .fieldref 10 11), (0, .class_ 12), (0, .nameAndType 13 14), (0, u "java/lang/String"), (0, u "value"), (0, u "[B"), (0, .fieldref 10 16), (0, .nameAndType 17 18), (0, u "coder"), (0, u "B"), (2, u "hash"), (0, u "I"), (2, u "hashIsZero"), (0, u "Z"), (0, .methodref 10 28), (0, .nameAndType 5 29), (0, u "([CIILjava/lang/Void;)V"), (8, .fieldref 10 39), (0, .nameAndType 40 26), (0, u "COMPACT_STRINGS"), (1, .class_ 44), (1, u "java/lang/StringUTF16"), (0, u "compress"), (1, .methodref 42 48), (0, .nameAndType 49 50), (0, u "coderFromArrayLen"), (0, u "([BI)B"), (56, .class_ 109), (1, u "java/lang/StringLatin1"), (32, u "()Z"), (34, .methodref 42 178), (0, .nameAndType 45 179), (0, u "([CII)[B"), (31, u "([BB)V"), (122, u "()I"), (0, .methodref 10 336), (0, .nameAndType 17 337), (0, u "()B"), (25, u "([BI)C"), (27, u "(II)V"), (35, u "(I)C"), (36, u "()Ljava/lang/String;"), (27, .methodref 10 493), (0, .nameAndType 494 142), (0, u "isLatin1"), (0, .methodref 107 496), (0, .nameAndType 497 363), (0, u "charAt"), (3, u "checkIndex"), (3, .methodref 10 506), (0, .nameAndType 507 334), (0, u "length"), (5, u "checkFromToIndex"), (7, .methodref 10 522), (0, .nameAndType 523 524), (0, u "checkBoundsBeginEnd"), (0, u "(III)V"), (50, .class_ 576), (0, u "java/lang/CharSequence"), (22, u "CASE_INSENSITIVE_ORDER"), (0, u "Ljava/util/Comparator;"), (32, .methodref 10 634), (0, .nameAndType 635 636), (0, u "indexOf"), (0, u "(II)I"), (0, .methodref 107 638), (0, .nameAndType 635 639), (0, u "([BIII)I"), (43, u "substring"), (0, u "(II)Ljava/lang/String;"), (0, .methodref 107 686), (0, .nameAndType 687 688), (0, u "newString"), (0, u "([BII)Ljava/lang/String;"), (76, u "(I)I"), (73, .methodref 107 840), (0, .nameAndType 841 842), (0, u "toLowerCase"), (0, u "(Ljava/lang/String;[BLjava/util/Locale;)Ljava/lang/String;"), (9, u "(Ljava/util/Locale;)Ljava/lang/String;"), (6, .methodref 107 860), (0, .nameAndType 861 862), (0, u "trim"), (0, u "([B)Ljava/lang/String;"), (147, u "([C)V"), (42, .fieldref 1054 1055), (0, .class_ 1056), (0, .nameAndType 1057 1058), (0, u "jdk/internal/util/Preconditions"), (0, u "SIOOBE_FORMATTER"), (0, u "Ljava/util/function/BiFunction;"), (0, .methodref 1054 1060), (0, .nameAndType 501 1061), (0, u "(IILjava/util/function/BiFunction;)I"), (0, .methodref 1054 1063), (0, .nameAndType 513 1064), (0, u "(IIILjava/util/function/BiFunction;)I"), (36, u "serialPersistentFields"), (0, u "[Ljava/io/ObjectStreamField;"), (0, .class_ 1104), (0, u "java/lang/String$CaseInsensitiveComparator"), (1, .class_ 1107), (0, u "java/io/Serializable"), (0, .class_ 1109), (0, u "java/lang/Comparable"), (0, .class_ 1111), (0, u "java/lang/constant/Constable"), (0, .class_ 1113), (0, u "java/lang/constant/ConstantDesc"), (2, u "serialVersionUID"), (0, u "J"), (3, u "REPL"), (0, u "C"), (2, u "LATIN1"), (1, u "UTF16")] 323

def k7m0 : Method := { name := "<init>", desc := "()V", sig := { parameters := [], returnType := none }, accessFlags := 1, code := none }
def k7c1 : Code := { maxStack := 5, maxLocals := 2, code := jdk_42_method_3_code, exceptionTable := #[], attributes := #[] }
def k7m1 : Method := { name := "<init>", desc := "([C)V", sig := { parameters := [(.array .char)], returnType := none }, accessFlags := 1, code := some k7c1 }
def k7c2 : Code := { maxStack := 2, maxLocals := 1, code := jdk_42_method_54_code, exceptionTable := #[], attributes := #[] }
def k7m2 : Method := { name := "length", desc := "()I", sig := { parameters := [], returnType := some .int }, accessFlags := 1, code := some k7c2 }
def k7c3 : Code := { maxStack := 2, maxLocals := 2, code := jdk_42_method_56_code, exceptionTable := #[], attributes := #[] }
def k7m3 : Method := { name := "charAt", desc := "(I)C", sig := { parameters := [.int], returnType := some .char }, accessFlags := 1, code := some k7c3 }
def k7c4 : Code := { maxStack := 3, maxLocals := 2, code := jdk_42_method_79_code, exceptionTable := #[], attributes := #[] }
def k7m4 : Method := { name := "indexOf", desc := "(I)I", sig := { parameters := [.int], returnType := some .int }, accessFlags := 1, code := some k7c4 }
def k7c5 : Code := { maxStack := 4, maxLocals := 3, code := jdk_42_method_80_code, exceptionTable := #[], attributes := #[] }
def k7m5 : Method := { name := "indexOf", desc := "(II)I", sig := { parameters := [.int, .int], returnType := some .int }, accessFlags := 1, code := some k7c5 }
def k7c6 : Code := { maxStack := 3, maxLocals := 5, code := jdk_42_method_92_code, exceptionTable := #[], attributes := #[] }
def k7m6 : Method := { name := "substring", desc := "(II)Ljava/lang/String;", sig := { parameters := [.int, .int], returnType := some (.object "java/lang/String") }, accessFlags := 1, code := some k7c6 }
def k7c7 : Code := { maxStack := 3, maxLocals := 2, code := jdk_42_method_109_code, exceptionTable := #[], attributes := #[] }
def k7m7 : Method := { name := "toLowerCase", desc := "(Ljava/util/Locale;)Ljava/lang/String;", sig := { parameters := [(.object "java/util/Locale")], returnType := some (.object "java/lang/String") }, accessFlags := 1, code := some k7c7 }
def k7c8 : Code := { maxStack := 1, maxLocals := 2, code := jdk_42_method_113_code, exceptionTable := #[], attributes := #[] }
def k7m8 : Method := { name := "trim", desc := "()Ljava/lang/String;", sig := { parameters := [], returnType := some (.object "java/lang/String") }, accessFlags := 1, code := some k7c8 }
def k7c9 : Code := { maxStack := 4, maxLocals := 6, code := jdk_42_method_149_code, exceptionTable := #[], attributes := #[] }
def k7m9 : Method := { name := "<init>", desc := "([CIILjava/lang/Void;)V", sig := { parameters := [(.array .char), .int, .int, (.object "java/lang/Void")], returnType := none }, accessFlags := 2, code := some k7c9 }
def k7c10 : Code := { maxStack := 2, maxLocals := 3, code := jdk_42_method_151_code, exceptionTable := #[], attributes := #[] }
def k7m10 : Method := { name := "<init>", desc := "([BB)V", sig := { parameters := [(.array .byte), .byte], returnType := none }, accessFlags := 0, code := some k7c10 }
def k7c11 : Code := { maxStack := 1, maxLocals := 1, code := jdk_42_method_152_code, exceptionTable := #[], attributes := #[] }
def k7m11 : Method := { name := "coder", desc := "()B", sig := { parameters := [], returnType := some .byte }, accessFlags := 0, code := some k7c11 }
def k7c12 : Code := { maxStack := 1, maxLocals := 1, code := jdk_42_method_154_code, exceptionTable := #[], attributes := #[] }
def k7m12 : Method := { name := "isLatin1", desc := "()Z", sig := { parameters := [], returnType := some .boolean }, accessFlags := 0, code := some k7c12 }
def k7c13 : Code := { maxStack := 3, maxLocals := 2, code := jdk_42_method_155_code, exceptionTable := #[], attributes := #[] }
def k7m13 : Method := { name := "checkIndex", desc := "(II)V", sig := { parameters := [.int, .int], returnType := none }, accessFlags := 8, code := some k7c13 }
def k7c14 : Code := { maxStack := 4, maxLocals := 3, code := jdk_42_method_158_code, exceptionTable := #[], attributes := #[] }
def k7m14 : Method := { name := "checkBoundsBeginEnd", desc := "(III)V", sig := { parameters := [.int, .int, .int], returnType := none }, accessFlags := 8, code := some k7c14 }
/-- java/lang/String -/
def k7 : Class := { plain "java/lang/String" (some 0) with
  accessFlags := 49
  interfaces := #[2, 3, 4, 5, 6]
  cf := some (fileOf pool7 10 #[.nestMembers #[1103]] #[{ accessFlags := 1, nameIndex := 5, descriptorIndex := 6, attributes := #[] }, { accessFlags := 1, nameIndex := 5, descriptorIndex := 1010, attributes := #[] }, { accessFlags := 1, nameIndex := 507, descriptorIndex := 334, attributes := #[] }, { accessFlags := 1, nameIndex := 497, descriptorIndex := 427, attributes := #[] }, { accessFlags := 1, nameIndex := 635, descriptorIndex := 765, attributes := #[] }, { accessFlags := 1, nameIndex := 635, descriptorIndex := 636, attributes := #[] }, { accessFlags := 1, nameIndex := 683, descriptorIndex := 684, attributes := #[] }, { accessFlags := 1, nameIndex := 841, descriptorIndex := 852, attributes := #[] }, { accessFlags := 1, nameIndex := 861, descriptorIndex := 464, attributes := #[] }, { accessFlags := 2, nameIndex := 5, descriptorIndex := 29, attributes := #[] }, { accessFlags := 0, nameIndex := 5, descriptorIndex := 211, attributes := #[] }, { accessFlags := 0, nameIndex := 17, descriptorIndex := 337, attributes := #[] }, { accessFlags := 0, nameIndex := 494, descriptorIndex := 142, attributes := #[] }, { accessFlags := 8, nameIndex := 501, descriptorIndex := 391, attributes := #[] }, { accessFlags := 8, nameIndex := 523, descriptorIndex := 524, attributes := #[] }] 49 2 #[1106, 1108, 575, 1110, 1112] #[{ accessFlags := 18, nameIndex := 13, descriptorIndex := 14, attributes := #[] }, { accessFlags := 18, nameIndex := 17, descriptorIndex := 18, attributes := #[] }, { accessFlags := 2, nameIndex := 21, descriptorIndex := 22, attributes := #[] }, { accessFlags := 2, nameIndex := 25, descriptorIndex := 26, attributes := #[] }, { accessFlags := 26, nameIndex := 1116, descriptorIndex := 1117, attributes := #[] }, { accessFlags := 24, nameIndex := 40, descriptorIndex := 26, attributes := #[] }, { accessFlags := 26, nameIndex := 1101, descriptorIndex := 1102, attributes := #[] }, { accessFlags := 26, nameIndex := 1121, descriptorIndex := 1122, attributes := #[] }, { accessFlags := 25, nameIndex := 599, descriptorIndex := 600, attributes := #[] }, { accessFlags := 24, nameIndex := 1125, descriptorIndex := 18, attributes := #[] }, { accessFlags := 24, nameIndex := 1127, descriptorIndex := 18, attributes := #[] }])
  fields := #[{ name := "value", type := (.array .byte), accessFlags := 18, slot := 0, constantValue := 0 }, { name := "coder", type := .byte, accessFlags := 18, slot := 1, constantValue := 0 }, { name := "hash", type := .int, accessFlags := 2, slot := 2, constantValue := 0 }, { name := "hashIsZero", type := .boolean, accessFlags := 2, slot := 3, constantValue := 0 }, { name := "serialVersionUID", type := .long, accessFlags := 26, slot := 0, constantValue := 0 }, { name := "COMPACT_STRINGS", type := .boolean, accessFlags := 24, slot := 1, constantValue := 0 }, { name := "serialPersistentFields", type := (.array (.object "java/io/ObjectStreamField")), accessFlags := 26, slot := 2, constantValue := 0 }, { name := "REPL", type := .char, accessFlags := 26, slot := 3, constantValue := 0 }, { name := "CASE_INSENSITIVE_ORDER", type := (.object "java/util/Comparator"), accessFlags := 25, slot := 4, constantValue := 0 }, { name := "LATIN1", type := .byte, accessFlags := 24, slot := 5, constantValue := 0 }, { name := "UTF16", type := .byte, accessFlags := 24, slot := 6, constantValue := 0 }]
  methods := #[k7m0, k7m1, k7m2, k7m3, k7m4, k7m5, k7m6, k7m7, k7m8, k7m9, k7m10, k7m11, k7m12, k7m13, k7m14]
  instanceTypes := #[(.array .byte), .byte, .int, .boolean]
  staticTypes := #[.long, .boolean, (.array (.object "java/io/ObjectStreamField")), .char, (.object "java/util/Comparator"), .byte, .byte]
  resolved := Array.replicate 1451 none
  statics := some 0 }

def pool8 : Array CpInfo := pool [(6, .class_ 8), (1, u "java/lang/Object"), (0, u "<init>"), (0, u "()V"), (1, .class_ 14), (1, u "java/lang/StringUTF16"), (31, u "$assertionsDisabled"), (0, u "Z"), (13, u "HI_BYTE_SHIFT"), (0, u "I"), (2, u "LO_BYTE_SHIFT"), (49, .methodref 12 116), (0, .nameAndType 117 118), (0, u "compress"), (0, u "([CI[BII)I"), (3, u "([CII)[B"), (138, u "coderFromArrayLen"), (0, u "([BI)B"), (106, .class_ 371), (1, u "java/lang/StringUTF16$LinesSpliterator"), (58, u "MAX_LENGTH"), (196, .class_ 628), (0, u "java/lang/StringUTF16$CodePointsSpliterator"), (0, .class_ 630), (0, u "java/lang/StringUTF16$CharsSpliterator")] 4

def k8m0 : Method := { name := "<init>", desc := "()V", sig := { parameters := [], returnType := none }, accessFlags := 0, code := none }
def k8c1 : Code := { maxStack := 2, maxLocals := 2, code := jdk_52_method_15_code, exceptionTable := #[], attributes := #[] }
def k8m1 : Method := { name := "coderFromArrayLen", desc := "([BI)B", sig := { parameters := [(.array .byte), .int], returnType := some .byte }, accessFlags := 8, code := some k8c1 }
def k8c2 : Code := { maxStack := 5, maxLocals := 6, code := jdk_52_method_16_code, exceptionTable := #[], attributes := #[] }
def k8m2 : Method := { name := "compress", desc := "([CII)[B", sig := { parameters := [(.array .char), .int, .int], returnType := some (.array .byte) }, accessFlags := 9, code := some k8c2 }
def k8c3 : Code := { maxStack := 3, maxLocals := 7, code := jdk_52_method_21_code, exceptionTable := #[], attributes := #[] }
def k8m3 : Method := { name := "compress", desc := "([CI[BII)I", sig := { parameters := [(.array .char), .int, (.array .byte), .int, .int], returnType := some .int }, accessFlags := 9, code := some k8c3 }
/-- java/lang/StringUTF16 -/
def k8 : Class := { plain "java/lang/StringUTF16" (some 0) with
  accessFlags := 48
  interfaces := #[]
  cf := some (fileOf pool8 12 #[.nestMembers #[627, 629, 369]] #[{ accessFlags := 0, nameIndex := 9, descriptorIndex := 10, attributes := #[] }, { accessFlags := 8, nameIndex := 261, descriptorIndex := 262, attributes := #[] }, { accessFlags := 9, nameIndex := 117, descriptorIndex := 122, attributes := #[] }, { accessFlags := 9, nameIndex := 117, descriptorIndex := 118, attributes := #[] }] 48 6 #[] #[{ accessFlags := 26, nameIndex := 61, descriptorIndex := 62, attributes := #[] }, { accessFlags := 26, nameIndex := 65, descriptorIndex := 62, attributes := #[] }, { accessFlags := 24, nameIndex := 430, descriptorIndex := 62, attributes := #[] }, { accessFlags := 4120, nameIndex := 46, descriptorIndex := 47, attributes := #[] }])
  fields := #[{ name := "HI_BYTE_SHIFT", type := .int, accessFlags := 26, slot := 0, constantValue := 0 }, { name := "LO_BYTE_SHIFT", type := .int, accessFlags := 26, slot := 1, constantValue := 0 }, { name := "MAX_LENGTH", type := .int, accessFlags := 24, slot := 2, constantValue := 0 }, { name := "$assertionsDisabled", type := .boolean, accessFlags := 4120, slot := 3, constantValue := 0 }]
  methods := #[k8m0, k8m1, k8m2, k8m3]
  instanceTypes := #[]
  staticTypes := #[.int, .int, .int, .boolean]
  resolved := Array.replicate 635 none
  statics := none }

def pool9 : Array CpInfo := pool [(2, .class_ 4), (1, u "java/lang/Object"), (0, u "<init>"), (0, u "()V"), (1, .class_ 10), (1, u "com/example/prueba/prueba/MediaTypes"), (0, u "CHARSET"), (0, u "Ljava/util/regex/Pattern;"), (43, .class_ 57), (0, u "java/lang/String"), (13, u "mediaType"), (0, u "(Ljava/lang/String;)Ljava/lang/String;"), (12, .methodref 56 86), (0, .nameAndType 87 88), (0, u "indexOf"), (0, u "(I)I"), (0, .methodref 56 90), (0, .nameAndType 91 92), (0, u "substring"), (0, u "(II)Ljava/lang/String;"), (0, .methodref 56 94), (0, .nameAndType 95 96), (0, u "trim"), (0, u "()Ljava/lang/String;"), (0, .fieldref 98 99), (0, .class_ 100), (0, .nameAndType 101 102), (0, u "java/util/Locale"), (0, u "ROOT"), (0, u "Ljava/util/Locale;"), (0, .methodref 56 104), (0, .nameAndType 105 106), (0, u "toLowerCase"), (0, u "(Ljava/util/Locale;)Ljava/lang/String;")] 19

def k9m0 : Method := { name := "<init>", desc := "()V", sig := { parameters := [], returnType := none }, accessFlags := 2, code := none }
def k9c1 : Code := { maxStack := 3, maxLocals := 3, code := prog_13_method_5_code, exceptionTable := #[], attributes := #[] }
def k9m1 : Method := { name := "mediaType", desc := "(Ljava/lang/String;)Ljava/lang/String;", sig := { parameters := [(.object "java/lang/String")], returnType := some (.object "java/lang/String") }, accessFlags := 8, code := some k9c1 }
/-- com/example/prueba/prueba/MediaTypes -/
def k9 : Class := { plain "com/example/prueba/prueba/MediaTypes" (some 0) with
  accessFlags := 32
  interfaces := #[]
  cf := some (fileOf pool9 8 #[] #[{ accessFlags := 2, nameIndex := 5, descriptorIndex := 6, attributes := #[] }, { accessFlags := 8, nameIndex := 71, descriptorIndex := 72, attributes := #[] }] 32 2 #[] #[{ accessFlags := 26, nameIndex := 11, descriptorIndex := 12, attributes := #[] }])
  fields := #[{ name := "CHARSET", type := (.object "java/util/regex/Pattern"), accessFlags := 26, slot := 0, constantValue := 0 }]
  methods := #[k9m0, k9m1]
  instanceTypes := #[]
  staticTypes := #[(.object "java/util/regex/Pattern")]
  resolved := Array.replicate 126 none
  statics := none }

def pool10 : Array CpInfo := pool [(1, .class_ 2), (0, u "java/lang/String"), (1, .class_ 6), (1, u "java/lang/Object"), (0, u "<init>"), (0, u "()V"), (0, .methodref 1 10), (0, .nameAndType 11 12), (0, u "checkIndex"), (0, u "(II)V"), (1, .class_ 16), (1, u "java/lang/StringLatin1"), (11, .methodref 29 30), (0, .class_ 31), (0, .nameAndType 32 33), (0, u "java/lang/System"), (0, u "arraycopy"), (0, u "(Ljava/lang/Object;ILjava/lang/Object;II)V"), (4, .methodref 39 40), (0, .class_ 41), (0, .nameAndType 42 43), (0, u "java/lang/Math"), (0, u "min"), (0, u "(II)I"), (9, u "([BI)C"), (12, .fieldref 67 68), (0, .class_ 69), (0, .nameAndType 70 71), (0, u "java/lang/CharacterDataLatin1"), (0, u "instance"), (0, u "Ljava/lang/CharacterDataLatin1;"), (3, u "(I)I"), (4, u "toLowerCase"), (7, .methodref 14 89), (0, .nameAndType 90 91), (0, u "canEncode"), (0, u "(I)Z"), (0, .methodref 39 93), (0, .nameAndType 94 43), (0, u "max"), (0, .methodref 14 96), (0, .nameAndType 97 98), (0, u "indexOfChar"), (0, u "([BIII)I"), (2, u "indexOf"), (10, .methodref 1 113), (0, .nameAndType 7 114), (0, u "([BB)V"), (6, u "$assertionsDisabled"), (0, u "Z"), (8, .class_ 133), (1, u "java/util/Arrays"), (17, .string 152), (0, u ""), (7, .methodref 67 161), (0, .nameAndType 80 75), (0, .methodref 163 164), (0, .class_ 165), (0, .nameAndType 166 167), (0, u "java/util/Locale"), (0, u "getLanguage"), (0, u "()Ljava/lang/String;"), (0, .string 169), (0, u "tr"), (0, .string 171), (0, u "az"), (0, .string 173), (0, u "lt"), (21, .nameAndType 196 197), (0, u "newString"), (0, u "([BII)Ljava/lang/String;"), (12, .methodref 14 195), (10, .class_ 223), (1, u "java/lang/StringLatin1$LinesSpliterator"), (8, .methodref 131 233), (0, .nameAndType 234 235), (0, u "copyOfRange"), (0, u "([BII)[B"), (16, u "charAt"), (97, u "(Ljava/lang/String;[BLjava/util/Locale;)Ljava/lang/String;"), (15, u "trim"), (0, u "([B)Ljava/lang/String;"), (22, .class_ 391), (0, u "java/lang/StringLatin1$CharsSpliterator")] 3

def k10m0 : Method := { name := "<init>", desc := "()V", sig := { parameters := [], returnType := none }, accessFlags := 0, code := none }
def k10c1 : Code := { maxStack := 2, maxLocals := 2, code := jdk_43_method_2_code, exceptionTable := #[], attributes := #[] }
def k10m1 : Method := { name := "charAt", desc := "([BI)C", sig := { parameters := [(.array .byte), .int], returnType := some .char }, accessFlags := 9, code := some k10c1 }
def k10c2 : Code := { maxStack := 2, maxLocals := 1, code := jdk_43_method_4_code, exceptionTable := #[], attributes := #[] }
def k10m2 : Method := { name := "canEncode", desc := "(I)Z", sig := { parameters := [.int], returnType := some .boolean }, accessFlags := 9, code := some k10c2 }
def k10c3 : Code := { maxStack := 4, maxLocals := 4, code := jdk_43_method_22_code, exceptionTable := #[], attributes := #[] }
def k10m3 : Method := { name := "indexOf", desc := "([BIII)I", sig := { parameters := [(.array .byte), .int, .int, .int], returnType := some .int }, accessFlags := 9, code := some k10c3 }
def k10c4 : Code := { maxStack := 2, maxLocals := 6, code := jdk_43_method_23_code, exceptionTable := #[], attributes := #[] }
def k10m4 : Method := { name := "indexOfChar", desc := "([BIII)I", sig := { parameters := [(.array .byte), .int, .int, .int], returnType := some .int }, accessFlags := 10, code := some k10c4 }
def k10c5 : Code := { maxStack := 5, maxLocals := 9, code := jdk_43_method_32_code, exceptionTable := #[], attributes := #[] }
def k10m5 : Method := { name := "toLowerCase", desc := "(Ljava/lang/String;[BLjava/util/Locale;)Ljava/lang/String;", sig := { parameters := [(.object "java/lang/String"), (.array .byte), (.object "java/util/Locale")], returnType := some (.object "java/lang/String") }, accessFlags := 9, code := some k10c5 }
def k10c6 : Code := { maxStack := 4, maxLocals := 3, code := jdk_43_method_36_code, exceptionTable := #[], attributes := #[] }
def k10m6 : Method := { name := "trim", desc := "([B)Ljava/lang/String;", sig := { parameters := [(.array .byte)], returnType := some (.object "java/lang/String") }, accessFlags := 9, code := some k10c6 }
def k10c7 : Code := { maxStack := 6, maxLocals := 3, code := jdk_43_method_47_code, exceptionTable := #[], attributes := #[] }
def k10m7 : Method := { name := "newString", desc := "([BII)Ljava/lang/String;", sig := { parameters := [(.array .byte), .int, .int], returnType := some (.object "java/lang/String") }, accessFlags := 9, code := some k10c7 }
/-- java/lang/StringLatin1 -/
def k10 : Class := { plain "java/lang/StringLatin1" (some 0) with
  accessFlags := 48
  interfaces := #[]
  cf := some (fileOf pool10 14 #[.nestMembers #[390, 221]] #[{ accessFlags := 0, nameIndex := 7, descriptorIndex := 8, attributes := #[] }, { accessFlags := 9, nameIndex := 252, descriptorIndex := 53, attributes := #[] }, { accessFlags := 9, nameIndex := 90, descriptorIndex := 91, attributes := #[] }, { accessFlags := 9, nameIndex := 101, descriptorIndex := 98, attributes := #[] }, { accessFlags := 10, nameIndex := 97, descriptorIndex := 98, attributes := #[] }, { accessFlags := 9, nameIndex := 80, descriptorIndex := 350, attributes := #[] }, { accessFlags := 9, nameIndex := 366, descriptorIndex := 367, attributes := #[] }, { accessFlags := 9, nameIndex := 196, descriptorIndex := 197, attributes := #[] }] 48 4 #[] #[{ accessFlags := 4120, nameIndex := 121, descriptorIndex := 122, attributes := #[] }])
  fields := #[{ name := "$assertionsDisabled", type := .boolean, accessFlags := 4120, slot := 0, constantValue := 0 }]
  methods := #[k10m0, k10m1, k10m2, k10m3, k10m4, k10m5, k10m6, k10m7]
  instanceTypes := #[]
  staticTypes := #[.boolean]
  resolved := Array.replicate 395 none
  statics := none }

def pool11 : Array CpInfo := pool [(1, .class_ 2), (0, u "java/lang/Math"), (1, .class_ 6), (1, u "java/lang/Object"), (0, u "<init>"), (0, u "()V"), (89, .class_ 100), (1, u "java/lang/Math$RandomNumberGeneratorHolder"), (71, u "negativeZeroFloatBits"), (0, u "J"), (2, u "negativeZeroDoubleBits"), (21, u "max"), (2, u "min"), (43, u "$assertionsDisabled"), (0, u "Z"), (88, u "(II)I"), (2, u "twoToTheDoubleScaleDown"), (0, u "D"), (4, u "twoToTheDoubleScaleUp"), (9, u "E"), (3, u "PI"), (2, u "TAU"), (2, u "DEGREES_TO_RADIANS"), (0, u "RADIANS_TO_DEGREES")] 94

def k11m0 : Method := { name := "<init>", desc := "()V", sig := { parameters := [], returnType := none }, accessFlags := 2, code := none }
def k11c1 : Code := { maxStack := 2, maxLocals := 2, code := jdk_29_method_65_code, exceptionTable := #[], attributes := #[] }
def k11m1 : Method := { name := "max", desc := "(II)I", sig := { parameters := [.int, .int], returnType := some .int }, accessFlags := 9, code := some k11c1 }
def k11c2 : Code := { maxStack := 2, maxLocals := 2, code := jdk_29_method_69_code, exceptionTable := #[], attributes := #[] }
def k11m2 : Method := { name := "min", desc := "(II)I", sig := { parameters := [.int, .int], returnType := some .int }, accessFlags := 9, code := some k11c2 }
/-- java/lang/Math -/
def k11 : Class := { plain "java/lang/Math" (some 0) with
  accessFlags := 49
  interfaces := #[]
  cf := some (fileOf pool11 1 #[.nestMembers #[98]] #[{ accessFlags := 2, nameIndex := 7, descriptorIndex := 8, attributes := #[] }, { accessFlags := 9, nameIndex := 198, descriptorIndex := 335, attributes := #[] }, { accessFlags := 9, nameIndex := 201, descriptorIndex := 335, attributes := #[] }] 49 4 #[] #[{ accessFlags := 25, nameIndex := 354, descriptorIndex := 339, attributes := #[] }, { accessFlags := 25, nameIndex := 358, descriptorIndex := 339, attributes := #[] }, { accessFlags := 25, nameIndex := 361, descriptorIndex := 339, attributes := #[] }, { accessFlags := 26, nameIndex := 364, descriptorIndex := 339, attributes := #[] }, { accessFlags := 26, nameIndex := 365, descriptorIndex := 339, attributes := #[] }, { accessFlags := 26, nameIndex := 172, descriptorIndex := 173, attributes := #[] }, { accessFlags := 26, nameIndex := 176, descriptorIndex := 173, attributes := #[] }, { accessFlags := 8, nameIndex := 344, descriptorIndex := 339, attributes := #[] }, { accessFlags := 8, nameIndex := 338, descriptorIndex := 339, attributes := #[] }, { accessFlags := 4120, nameIndex := 245, descriptorIndex := 246, attributes := #[] }])
  fields := #[{ name := "E", type := .double, accessFlags := 25, slot := 0, constantValue := 0 }, { name := "PI", type := .double, accessFlags := 25, slot := 1, constantValue := 0 }, { name := "TAU", type := .double, accessFlags := 25, slot := 2, constantValue := 0 }, { name := "DEGREES_TO_RADIANS", type := .double, accessFlags := 26, slot := 3, constantValue := 0 }, { name := "RADIANS_TO_DEGREES", type := .double, accessFlags := 26, slot := 4, constantValue := 0 }, { name := "negativeZeroFloatBits", type := .long, accessFlags := 26, slot := 5, constantValue := 0 }, { name := "negativeZeroDoubleBits", type := .long, accessFlags := 26, slot := 6, constantValue := 0 }, { name := "twoToTheDoubleScaleUp", type := .double, accessFlags := 8, slot := 7, constantValue := 0 }, { name := "twoToTheDoubleScaleDown", type := .double, accessFlags := 8, slot := 8, constantValue := 0 }, { name := "$assertionsDisabled", type := .boolean, accessFlags := 4120, slot := 9, constantValue := 0 }]
  methods := #[k11m0, k11m1, k11m2]
  instanceTypes := #[]
  staticTypes := #[.double, .double, .double, .double, .double, .long, .long, .double, .double, .boolean]
  resolved := Array.replicate 460 none
  statics := none }

def pool12 : Array CpInfo := pool [(2, .class_ 4), (1, u "java/lang/Object"), (0, u "<init>"), (0, u "()V"), (17, .class_ 26), (1, u "jdk/internal/util/Preconditions"), (6, u "checkIndex"), (13, u "checkFromToIndex"), (7, .class_ 56), (0, u "jdk/internal/util/Preconditions$4"), (57, .class_ 115), (0, u "jdk/internal/util/Preconditions$1"), (7, u "SIOOBE_FORMATTER"), (0, u "Ljava/util/function/BiFunction;"), (0, .class_ 126), (0, u "jdk/internal/util/Preconditions$2"), (3, u "AIOOBE_FORMATTER"), (0, .class_ 132), (0, u "jdk/internal/util/Preconditions$3"), (3, u "IOOBE_FORMATTER"), (41, u "(IILjava/util/function/BiFunction;)I"), (4, u "(IIILjava/util/function/BiFunction;)I")] 10

def k12m0 : Method := { name := "<init>", desc := "()V", sig := { parameters := [], returnType := none }, accessFlags := 1, code := none }
def k12c1 : Code := { maxStack := 3, maxLocals := 3, code := jdk_41_method_11_code, exceptionTable := #[], attributes := #[] }
def k12m1 : Method := { name := "checkIndex", desc := "(IILjava/util/function/BiFunction;)I", sig := { parameters := [.int, .int, (.object "java/util/function/BiFunction")], returnType := some .int }, accessFlags := 9, code := some k12c1 }
def k12c2 : Code := { maxStack := 4, maxLocals := 4, code := jdk_41_method_12_code, exceptionTable := #[], attributes := #[] }
def k12m2 : Method := { name := "checkFromToIndex", desc := "(IIILjava/util/function/BiFunction;)I", sig := { parameters := [.int, .int, .int, (.object "java/util/function/BiFunction")], returnType := some .int }, accessFlags := 9, code := some k12c2 }
/-- jdk/internal/util/Preconditions -/
def k12 : Class := { plain "jdk/internal/util/Preconditions" (some 0) with
  accessFlags := 33
  interfaces := #[]
  cf := some (fileOf pool12 24 #[.nestMembers #[55, 131, 125, 114]] #[{ accessFlags := 1, nameIndex := 5, descriptorIndex := 6, attributes := #[] }, { accessFlags := 9, nameIndex := 33, descriptorIndex := 178, attributes := #[] }, { accessFlags := 9, nameIndex := 47, descriptorIndex := 183, attributes := #[] }] 33 2 #[] #[{ accessFlags := 25, nameIndex := 123, descriptorIndex := 124, attributes := #[] }, { accessFlags := 25, nameIndex := 130, descriptorIndex := 124, attributes := #[] }, { accessFlags := 25, nameIndex := 136, descriptorIndex := 124, attributes := #[] }])
  fields := #[{ name := "SIOOBE_FORMATTER", type := (.object "java/util/function/BiFunction"), accessFlags := 25, slot := 0, constantValue := 0 }, { name := "AIOOBE_FORMATTER", type := (.object "java/util/function/BiFunction"), accessFlags := 25, slot := 1, constantValue := 0 }, { name := "IOOBE_FORMATTER", type := (.object "java/util/function/BiFunction"), accessFlags := 25, slot := 2, constantValue := 0 }]
  methods := #[k12m0, k12m1, k12m2]
  instanceTypes := #[]
  staticTypes := #[(.object "java/util/function/BiFunction"), (.object "java/util/function/BiFunction"), (.object "java/util/function/BiFunction")]
  resolved := Array.replicate 194 none
  statics := some 1 }

def pool13 : Array CpInfo := pool [(1, .class_ 2), (0, u "java/lang/Cloneable"), (0, .class_ 4), (0, u "java/lang/Object")] 2

/-- java/lang/Cloneable -/
def k13 : Class := { plain "java/lang/Cloneable" (some 0) with
  accessFlags := 1537
  interfaces := #[]
  cf := some (fileOf pool13 1 #[] #[] 1537 3 #[] #[])
  fields := #[]
  methods := #[]
  instanceTypes := #[]
  staticTypes := #[]
  resolved := Array.replicate 7 none
  statics := none }

def pool14 : Array CpInfo := pool [(2, .class_ 4), (1, u "sun/util/locale/BaseLocale"), (2, .class_ 8), (0, u "java/util/Locale"), (6, u "CONSTANT_LOCALES"), (0, u "Ljava/util/Map;"), (7, .class_ 26), (1, u "java/lang/Object"), (1, .fieldref 7 29), (0, .nameAndType 30 31), (0, u "baseLocale"), (0, u "Lsun/util/locale/BaseLocale;"), (2, u "localeExtensions"), (0, u "Lsun/util/locale/LocaleExtensions;"), (31, .class_ 69), (1, u "java/util/Locale$Cache"), (3, .class_ 74), (0, u "java/util/Locale$LocaleKey"), (3, u "defaultLocale"), (0, u "Ljava/util/Locale;"), (6, .class_ 88), (1, u "java/util/Locale$Category"), (4, u "defaultDisplayLocale"), (6, u "$assertionsDisabled"), (0, u "Z"), (12, u "defaultFormatLocale"), (12, u "Ljava/lang/String;"), (131, u "isoCountries"), (0, u "[Ljava/lang/String;"), (15, .class_ 278), (1, u "java/util/Locale$IsoCountryCode"), (4, u "isoLanguages"), (9, .methodref 2 294), (0, .nameAndType 295 296), (0, u "getLanguage"), (0, u "()Ljava/lang/String;"), (78, u "languageTag"), (114, .class_ 492), (1, u "java/util/Locale$LocaleNameGetter"), (125, u "hashCodeValue"), (0, u "I"), (29, u "ROOT"), (129, .class_ 781), (1, u "java/util/Locale$FilteringMode"), (39, u "ENGLISH"), (2, u "FRENCH"), (2, u "GERMAN"), (2, u "ITALIAN"), (2, u "JAPANESE"), (2, u "KOREAN"), (2, u "CHINESE"), (2, u "SIMPLIFIED_CHINESE"), (2, u "TRADITIONAL_CHINESE"), (2, u "FRANCE"), (2, u "GERMANY"), (2, u "ITALY"), (2, u "JAPAN"), (2, u "KOREA"), (2, u "UK"), (2, u "US"), (2, u "CANADA"), (2, u "CANADA_FRENCH"), (2, u "CHINA"), (2, u "PRC"), (2, u "TAIWAN"), (13, u "serialPersistentFields"), (0, u "[Ljava/io/ObjectStreamField;"), (0, .class_ 898), (0, u "java/lang/Cloneable"), (0, .class_ 900), (0, u "java/io/Serializable"), (2, u "PRIVATE_USE_EXTENSION"), (0, u "C"), (2, u "UNICODE_LOCALE_EXTENSION"), (1, u "serialVersionUID"), (0, u "J"), (2, u "DISPLAY_LANGUAGE"), (1, u "DISPLAY_COUNTRY"), (1, u "DISPLAY_VARIANT"), (1, u "DISPLAY_SCRIPT"), (1, u "DISPLAY_UEXT_KEY"), (1, u "DISPLAY_UEXT_TYPE"), (174, .class_ 1099), (0, u "java/util/Locale$LanguageRange"), (0, .class_ 1101), (0, u "java/util/Locale$Builder"), (0, .class_ 1103), (0, u "java/util/Locale$IsoCountryCode$3"), (0, .class_ 1105), (0, u "java/util/Locale$IsoCountryCode$2"), (0, .class_ 1107), (0, u "java/util/Locale$IsoCountryCode$1")] 46

def k14c0 : Code := { maxStack := 1, maxLocals := 1, code := jdk_2628_method_27_code, exceptionTable := #[], attributes := #[] }
def k14m0 : Method := { name := "getLanguage", desc := "()Ljava/lang/String;", sig := { parameters := [], returnType := some (.object "java/lang/String") }, accessFlags := 1, code := some k14c0 }
/-- java/util/Locale -/
def k14 : Class := { plain "java/util/Locale" (some 0) with
  accessFlags := 49
  interfaces := #[13, 2]
  cf := some (fileOf pool14 7 #[.nestMembers #[1098, 779, 1100, 86, 490, 73, 67, 276, 1102, 1104, 1106]] #[{ accessFlags := 1, nameIndex := 295, descriptorIndex := 296, attributes := #[] }] 49 24 #[897, 899] #[{ accessFlags := 25, nameIndex := 821, descriptorIndex := 79, attributes := #[] }, { accessFlags := 25, nameIndex := 824, descriptorIndex := 79, attributes := #[] }, { accessFlags := 25, nameIndex := 827, descriptorIndex := 79, attributes := #[] }, { accessFlags := 25, nameIndex := 830, descriptorIndex := 79, attributes := #[] }, { accessFlags := 25, nameIndex := 833, descriptorIndex := 79, attributes := #[] }, { accessFlags := 25, nameIndex := 836, descriptorIndex := 79, attributes := #[] }, { accessFlags := 25, nameIndex := 839, descriptorIndex := 79, attributes := #[] }, { accessFlags := 25, nameIndex := 842, descriptorIndex := 79, attributes := #[] }, { accessFlags := 25, nameIndex := 845, descriptorIndex := 79, attributes := #[] }, { accessFlags := 25, nameIndex := 848, descriptorIndex := 79, attributes := #[] }, { accessFlags := 25, nameIndex := 851, descriptorIndex := 79, attributes := #[] }, { accessFlags := 25, nameIndex := 854, descriptorIndex := 79, attributes := #[] }, { accessFlags := 25, nameIndex := 857, descriptorIndex := 79, attributes := #[] }, { accessFlags := 25, nameIndex := 860, descriptorIndex := 79, attributes := #[] }, { accessFlags := 25, nameIndex := 863, descriptorIndex := 79, attributes := #[] }, { accessFlags := 25, nameIndex := 866, descriptorIndex := 79, attributes := #[] }, { accessFlags := 25, nameIndex := 869, descriptorIndex := 79, attributes := #[] }, { accessFlags := 25, nameIndex := 872, descriptorIndex := 79, attributes := #[] }, { accessFlags := 25, nameIndex := 649, descriptorIndex := 79, attributes := #[] }, { accessFlags := 26, nameIndex := 15, descriptorIndex := 16, attributes := #[] }, { accessFlags := 25, nameIndex := 875, descriptorIndex := 79, attributes := #[] }, { accessFlags := 25, nameIndex := 878, descriptorIndex := 79, attributes := #[] }, { accessFlags := 25, nameIndex := 881, descriptorIndex := 79, attributes := #[] }, { accessFlags := 25, nameIndex := 903, descriptorIndex := 904, attributes := #[] }, { accessFlags := 25, nameIndex := 907, descriptorIndex := 904, attributes := #[] }, { accessFlags := 24, nameIndex := 909, descriptorIndex := 910, attributes := #[] }, { accessFlags := 26, nameIndex := 913, descriptorIndex := 619, attributes := #[] }, { accessFlags := 26, nameIndex := 915, descriptorIndex := 619, attributes := #[] }, { accessFlags := 26, nameIndex := 917, descriptorIndex := 619, attributes := #[] }, { accessFlags := 26, nameIndex := 919, descriptorIndex := 619, attributes := #[] }, { accessFlags := 26, nameIndex := 921, descriptorIndex := 619, attributes := #[] }, { accessFlags := 26, nameIndex := 923, descriptorIndex := 619, attributes := #[] }, { accessFlags := 130, nameIndex := 30, descriptorIndex := 31, attributes := #[] }, { accessFlags := 130, nameIndex := 34, descriptorIndex := 35, attributes := #[] }, { accessFlags := 130, nameIndex := 618, descriptorIndex := 619, attributes := #[] }, { accessFlags := 74, nameIndex := 78, descriptorIndex := 79, attributes := #[] }, { accessFlags := 74, nameIndex := 93, descriptorIndex := 79, attributes := #[] }, { accessFlags := 74, nameIndex := 114, descriptorIndex := 79, attributes := #[] }, { accessFlags := 194, nameIndex := 375, descriptorIndex := 127, attributes := #[] }, { accessFlags := 26, nameIndex := 895, descriptorIndex := 896, attributes := #[] }, { accessFlags := 74, nameIndex := 283, descriptorIndex := 260, attributes := #[] }, { accessFlags := 74, nameIndex := 259, descriptorIndex := 260, attributes := #[] }, { accessFlags := 4120, nameIndex := 100, descriptorIndex := 101, attributes := #[] }])
  fields := #[{ name := "ENGLISH", type := (.object "java/util/Locale"), accessFlags := 25, slot := 0, constantValue := 0 }, { name := "FRENCH", type := (.object "java/util/Locale"), accessFlags := 25, slot := 1, constantValue := 0 }, { name := "GERMAN", type := (.object "java/util/Locale"), accessFlags := 25, slot := 2, constantValue := 0 }, { name := "ITALIAN", type := (.object "java/util/Locale"), accessFlags := 25, slot := 3, constantValue := 0 }, { name := "JAPANESE", type := (.object "java/util/Locale"), accessFlags := 25, slot := 4, constantValue := 0 }, { name := "KOREAN", type := (.object "java/util/Locale"), accessFlags := 25, slot := 5, constantValue := 0 }, { name := "CHINESE", type := (.object "java/util/Locale"), accessFlags := 25, slot := 6, constantValue := 0 }, { name := "SIMPLIFIED_CHINESE", type := (.object "java/util/Locale"), accessFlags := 25, slot := 7, constantValue := 0 }, { name := "TRADITIONAL_CHINESE", type := (.object "java/util/Locale"), accessFlags := 25, slot := 8, constantValue := 0 }, { name := "FRANCE", type := (.object "java/util/Locale"), accessFlags := 25, slot := 9, constantValue := 0 }, { name := "GERMANY", type := (.object "java/util/Locale"), accessFlags := 25, slot := 10, constantValue := 0 }, { name := "ITALY", type := (.object "java/util/Locale"), accessFlags := 25, slot := 11, constantValue := 0 }, { name := "JAPAN", type := (.object "java/util/Locale"), accessFlags := 25, slot := 12, constantValue := 0 }, { name := "KOREA", type := (.object "java/util/Locale"), accessFlags := 25, slot := 13, constantValue := 0 }, { name := "UK", type := (.object "java/util/Locale"), accessFlags := 25, slot := 14, constantValue := 0 }, { name := "US", type := (.object "java/util/Locale"), accessFlags := 25, slot := 15, constantValue := 0 }, { name := "CANADA", type := (.object "java/util/Locale"), accessFlags := 25, slot := 16, constantValue := 0 }, { name := "CANADA_FRENCH", type := (.object "java/util/Locale"), accessFlags := 25, slot := 17, constantValue := 0 }, { name := "ROOT", type := (.object "java/util/Locale"), accessFlags := 25, slot := 18, constantValue := 0 }, { name := "CONSTANT_LOCALES", type := (.object "java/util/Map"), accessFlags := 26, slot := 19, constantValue := 0 }, { name := "CHINA", type := (.object "java/util/Locale"), accessFlags := 25, slot := 20, constantValue := 0 }, { name := "PRC", type := (.object "java/util/Locale"), accessFlags := 25, slot := 21, constantValue := 0 }, { name := "TAIWAN", type := (.object "java/util/Locale"), accessFlags := 25, slot := 22, constantValue := 0 }, { name := "PRIVATE_USE_EXTENSION", type := .char, accessFlags := 25, slot := 23, constantValue := 0 }, { name := "UNICODE_LOCALE_EXTENSION", type := .char, accessFlags := 25, slot := 24, constantValue := 0 }, { name := "serialVersionUID", type := .long, accessFlags := 24, slot := 25, constantValue := 0 }, { name := "DISPLAY_LANGUAGE", type := .int, accessFlags := 26, slot := 26, constantValue := 0 }, { name := "DISPLAY_COUNTRY", type := .int, accessFlags := 26, slot := 27, constantValue := 0 }, { name := "DISPLAY_VARIANT", type := .int, accessFlags := 26, slot := 28, constantValue := 0 }, { name := "DISPLAY_SCRIPT", type := .int, accessFlags := 26, slot := 29, constantValue := 0 }, { name := "DISPLAY_UEXT_KEY", type := .int, accessFlags := 26, slot := 30, constantValue := 0 }, { name := "DISPLAY_UEXT_TYPE", type := .int, accessFlags := 26, slot := 31, constantValue := 0 }, { name := "baseLocale", type := (.object "sun/util/locale/BaseLocale"), accessFlags := 130, slot := 0, constantValue := 0 }, { name := "localeExtensions", type := (.object "sun/util/locale/LocaleExtensions"), accessFlags := 130, slot := 1, constantValue := 0 }, { name := "hashCodeValue", type := .int, accessFlags := 130, slot := 2, constantValue := 0 }, { name := "defaultLocale", type := (.object "java/util/Locale"), accessFlags := 74, slot := 32, constantValue := 0 }, { name := "defaultDisplayLocale", type := (.object "java/util/Locale"), accessFlags := 74, slot := 33, constantValue := 0 }, { name := "defaultFormatLocale", type := (.object "java/util/Locale"), accessFlags := 74, slot := 34, constantValue := 0 }, { name := "languageTag", type := (.object "java/lang/String"), accessFlags := 194, slot := 3, constantValue := 0 }, { name := "serialPersistentFields", type := (.array (.object "java/io/ObjectStreamField")), accessFlags := 26, slot := 35, constantValue := 0 }, { name := "isoLanguages", type := (.array (.object "java/lang/String")), accessFlags := 74, slot := 36, constantValue := 0 }, { name := "isoCountries", type := (.array (.object "java/lang/String")), accessFlags := 74, slot := 37, constantValue := 0 }, { name := "$assertionsDisabled", type := .boolean, accessFlags := 4120, slot := 38, constantValue := 0 }]
  methods := #[k14m0]
  instanceTypes := #[(.object "sun/util/locale/BaseLocale"), (.object "sun/util/locale/LocaleExtensions"), .int, (.object "java/lang/String")]
  staticTypes := #[(.object "java/util/Locale"), (.object "java/util/Locale"), (.object "java/util/Locale"), (.object "java/util/Locale"), (.object "java/util/Locale"), (.object "java/util/Locale"), (.object "java/util/Locale"), (.object "java/util/Locale"), (.object "java/util/Locale"), (.object "java/util/Locale"), (.object "java/util/Locale"), (.object "java/util/Locale"), (.object "java/util/Locale"), (.object "java/util/Locale"), (.object "java/util/Locale"), (.object "java/util/Locale"), (.object "java/util/Locale"), (.object "java/util/Locale"), (.object "java/util/Locale"), (.object "java/util/Map"), (.object "java/util/Locale"), (.object "java/util/Locale"), (.object "java/util/Locale"), .char, .char, .long, .int, .int, .int, .int, .int, .int, (.object "java/util/Locale"), (.object "java/util/Locale"), (.object "java/util/Locale"), (.array (.object "java/io/ObjectStreamField")), (.array (.object "java/lang/String")), (.array (.object "java/lang/String")), .boolean]
  resolved := Array.replicate 1154 none
  statics := some 2 }

def pool15 : Array CpInfo := pool [(2, .class_ 4), (1, u "java/lang/Object"), (0, u "<init>"), (0, u "()V"), (7, .class_ 16), (1, u "java/util/Arrays"), (57, .class_ 76), (1, u "java/util/Arrays$NaturalOrder"), (36, .class_ 115), (1, u "java/util/Arrays$LegacyMergeSort"), (1, u "Z"), (21, u "copyOfRange"), (10, .methodref 151 152), (0, .class_ 153), (0, .nameAndType 154 155), (0, u "java/lang/System"), (0, u "arraycopy"), (0, u "(Ljava/lang/Object;ILjava/lang/Object;II)V"), (148, .methodref 305 306), (0, .class_ 307), (0, .nameAndType 308 309), (0, u "java/lang/Math"), (0, u "min"), (0, u "(II)I"), (29, .methodref 14 340), (0, .nameAndType 341 342), (0, u "copyOfRangeByte"), (0, u "([BII)[B"), (0, .methodref 14 344), (0, .nameAndType 345 346), (0, u "checkLength"), (0, u "(II)V"), (28, .class_ 376), (0, u "java/util/Arrays$ArrayList"), (68, u "$assertionsDisabled"), (269, u "MIN_ARRAY_SORT_GRAN"), (0, u "I"), (2, u "INSERTIONSORT_THRESHOLD"), (255, .class_ 976), (0, u "java/util/Arrays$ArrayItr")] 52

def k15m0 : Method := { name := "<init>", desc := "()V", sig := { parameters := [], returnType := none }, accessFlags := 2, code := none }
def k15c1 : Code := { maxStack := 4, maxLocals := 2, code := jdk_65_method_131_code, exceptionTable := #[], attributes := #[] }
def k15m1 : Method := { name := "checkLength", desc := "(II)V", sig := { parameters := [.int, .int], returnType := none }, accessFlags := 10, code := some k15c1 }
def k15c2 : Code := { maxStack := 3, maxLocals := 3, code := jdk_65_method_132_code, exceptionTable := #[], attributes := #[] }
def k15m2 : Method := { name := "copyOfRange", desc := "([BII)[B", sig := { parameters := [(.array .byte), .int, .int], returnType := some (.array .byte) }, accessFlags := 9, code := some k15c2 }
def k15c3 : Code := { maxStack := 6, maxLocals := 5, code := jdk_65_method_133_code, exceptionTable := #[], attributes := #[] }
def k15m3 : Method := { name := "copyOfRangeByte", desc := "([BII)[B", sig := { parameters := [(.array .byte), .int, .int], returnType := some (.array .byte) }, accessFlags := 10, code := some k15c3 }
/-- java/util/Arrays -/
def k15 : Class := { plain "java/util/Arrays" (some 0) with
  accessFlags := 49
  interfaces := #[]
  cf := some (fileOf pool15 14 #[.nestMembers #[975, 375, 113, 74]] #[{ accessFlags := 2, nameIndex := 5, descriptorIndex := 6, attributes := #[] }, { accessFlags := 10, nameIndex := 345, descriptorIndex := 346, attributes := #[] }, { accessFlags := 9, nameIndex := 139, descriptorIndex := 342, attributes := #[] }, { accessFlags := 10, nameIndex := 341, descriptorIndex := 342, attributes := #[] }] 49 2 #[] #[{ accessFlags := 26, nameIndex := 715, descriptorIndex := 716, attributes := #[] }, { accessFlags := 26, nameIndex := 719, descriptorIndex := 716, attributes := #[] }, { accessFlags := 4120, nameIndex := 445, descriptorIndex := 117, attributes := #[] }])
  fields := #[{ name := "MIN_ARRAY_SORT_GRAN", type := .int, accessFlags := 26, slot := 0, constantValue := 0 }, { name := "INSERTIONSORT_THRESHOLD", type := .int, accessFlags := 26, slot := 1, constantValue := 0 }, { name := "$assertionsDisabled", type := .boolean, accessFlags := 4120, slot := 2, constantValue := 0 }]
  methods := #[k15m0, k15m1, k15m2, k15m3]
  instanceTypes := #[]
  staticTypes := #[.int, .int, .boolean]
  resolved := Array.replicate 1029 none
  statics := none }

def pool16 : Array CpInfo := pool [(2, .class_ 4), (1, u "java/lang/Object"), (0, u "<init>"), (0, u "()V"), (1, .class_ 10), (1, u "java/lang/System"), (0, u "allowSecurityManager"), (0, u "I"), (16, u "cons"), (0, u "Ljava/io/Console;"), (77, .class_ 110), (1, u "java/lang/System$CallersHolder"), (43, u "initialErrStream"), (0, u "Ljava/io/PrintStream;"), (19, u "security"), (0, u "Ljava/lang/SecurityManager;"), (31, .class_ 209), (0, u "java/lang/System$1"), (7, u "props"), (0, u "Ljava/util/Properties;"), (2, u "lineSeparator"), (0, u "Ljava/lang/String;"), (96, .class_ 321), (1, u "java/lang/System$LoggerFinder"), (5, .class_ 328), (0, u "java/lang/System$Logger"), (67, u "err"), (2, u "out"), (91, u "notSupportedJnuEncoding"), (15, u "in"), (17, u "initialIn"), (0, u "Ljava/io/InputStream;"), (35, u "bootLayer"), (0, u "Ljava/lang/ModuleLayer;"), (99, .class_ 664), (0, u "java/lang/System$2"), (9, u "NEVER"), (2, u "MAYBE"), (49, u "arraycopy"), (0, u "(Ljava/lang/Object;ILjava/lang/Object;II)V"), (72, .class_ 802), (0, u "java/lang/System$Logger$Level")] 31

def k16m0 : Method := { name := "<init>", desc := "()V", sig := { parameters := [], returnType := none }, accessFlags := 2, code := none }
def k16m1 : Method := { name := "arraycopy", desc := "(Ljava/lang/Object;ILjava/lang/Object;II)V", sig := { parameters := [(.object "java/lang/Object"), .int, (.object "java/lang/Object"), .int, .int], returnType := none }, accessFlags := 265, code := none }
/-- java/lang/System -/
def k16 : Class := { plain "java/lang/System" (some 0) with
  accessFlags := 49
  interfaces := #[]
  cf := some (fileOf pool16 8 #[.nestMembers #[319, 327, 801, 108, 663, 208]] #[{ accessFlags := 2, nameIndex := 5, descriptorIndex := 6, attributes := #[] }, { accessFlags := 265, nameIndex := 727, descriptorIndex := 728, attributes := #[] }] 49 2 #[] #[{ accessFlags := 25, nameIndex := 507, descriptorIndex := 526, attributes := #[] }, { accessFlags := 25, nameIndex := 399, descriptorIndex := 155, attributes := #[] }, { accessFlags := 25, nameIndex := 396, descriptorIndex := 155, attributes := #[] }, { accessFlags := 10, nameIndex := 525, descriptorIndex := 526, attributes := #[] }, { accessFlags := 26, nameIndex := 674, descriptorIndex := 12, attributes := #[] }, { accessFlags := 26, nameIndex := 677, descriptorIndex := 12, attributes := #[] }, { accessFlags := 10, nameIndex := 11, descriptorIndex := 12, attributes := #[] }, { accessFlags := 74, nameIndex := 175, descriptorIndex := 176, attributes := #[] }, { accessFlags := 10, nameIndex := 491, descriptorIndex := 222, attributes := #[] }, { accessFlags := 74, nameIndex := 29, descriptorIndex := 30, attributes := #[] }, { accessFlags := 74, nameIndex := 154, descriptorIndex := 155, attributes := #[] }, { accessFlags := 10, nameIndex := 217, descriptorIndex := 218, attributes := #[] }, { accessFlags := 10, nameIndex := 221, descriptorIndex := 222, attributes := #[] }, { accessFlags := 8, nameIndex := 562, descriptorIndex := 563, attributes := #[] }])
  fields := #[{ name := "in", type := (.object "java/io/InputStream"), accessFlags := 25, slot := 0, constantValue := 0 }, { name := "out", type := (.object "java/io/PrintStream"), accessFlags := 25, slot := 1, constantValue := 0 }, { name := "err", type := (.object "java/io/PrintStream"), accessFlags := 25, slot := 2, constantValue := 0 }, { name := "initialIn", type := (.object "java/io/InputStream"), accessFlags := 10, slot := 3, constantValue := 0 }, { name := "NEVER", type := .int, accessFlags := 26, slot := 4, constantValue := 0 }, { name := "MAYBE", type := .int, accessFlags := 26, slot := 5, constantValue := 0 }, { name := "allowSecurityManager", type := .int, accessFlags := 10, slot := 6, constantValue := 0 }, { name := "security", type := (.object "java/lang/SecurityManager"), accessFlags := 74, slot := 7, constantValue := 0 }, { name := "notSupportedJnuEncoding", type := (.object "java/lang/String"), accessFlags := 10, slot := 8, constantValue := 0 }, { name := "cons", type := (.object "java/io/Console"), accessFlags := 74, slot := 9, constantValue := 0 }, { name := "initialErrStream", type := (.object "java/io/PrintStream"), accessFlags := 74, slot := 10, constantValue := 0 }, { name := "props", type := (.object "java/util/Properties"), accessFlags := 10, slot := 11, constantValue := 0 }, { name := "lineSeparator", type := (.object "java/lang/String"), accessFlags := 10, slot := 12, constantValue := 0 }, { name := "bootLayer", type := (.object "java/lang/ModuleLayer"), accessFlags := 8, slot := 13, constantValue := 0 }]
  methods := #[k16m0, k16m1]
  instanceTypes := #[]
  staticTypes := #[(.object "java/io/InputStream"), (.object "java/io/PrintStream"), (.object "java/io/PrintStream"), (.object "java/io/InputStream"), .int, .int, .int, (.object "java/lang/SecurityManager"), (.object "java/lang/String"), (.object "java/io/Console"), (.object "java/io/PrintStream"), (.object "java/util/Properties"), (.object "java/lang/String"), (.object "java/lang/ModuleLayer")]
  resolved := Array.replicate 834 none
  statics := none }

def pool17 : Array CpInfo := pool [(2, .class_ 4), (1, u "java/lang/Object"), (0, u "<init>"), (0, u "()V"), (1, .class_ 10), (1, u "java/lang/CharacterData")] 75

def k17m0 : Method := { name := "<init>", desc := "()V", sig := { parameters := [], returnType := none }, accessFlags := 0, code := none }
/-- java/lang/CharacterData -/
def k17 : Class := { plain "java/lang/CharacterData" (some 0) with
  accessFlags := 1056
  interfaces := #[]
  cf := some (fileOf pool17 8 #[] #[{ accessFlags := 0, nameIndex := 5, descriptorIndex := 6, attributes := #[] }] 1056 2 #[] #[])
  fields := #[]
  methods := #[k17m0]
  instanceTypes := #[]
  staticTypes := #[]
  resolved := Array.replicate 86 none
  statics := none }

def pool18 : Array CpInfo := pool [(2, .class_ 4), (1, u "java/lang/CharacterDataLatin1"), (0, u "A"), (0, u "[I"), (2, u "B"), (0, u "[C"), (3, u "(I)I"), (12, u "DIGITS"), (0, u "[B"), (8, u "sharpsMap"), (1, .class_ 41), (1, u "java/lang/CharacterData"), (0, u "<init>"), (0, u "()V"), (3, u "instance"), (0, u "Ljava/lang/CharacterDataLatin1;"), (63, u "toLowerCase")] 28

def k18c0 : Code := { maxStack := 2, maxLocals := 3, code := jdk_116_method_20_code, exceptionTable := #[], attributes := #[] }
def k18m0 : Method := { name := "toLowerCase", desc := "(I)I", sig := { parameters := [.int], returnType := some .int }, accessFlags := 0, code := some k18c0 }
def k18m1 : Method := { name := "<init>", desc := "()V", sig := { parameters := [], returnType := none }, accessFlags := 2, code := none }
/-- java/lang/CharacterDataLatin1 -/
def k18 : Class := { plain "java/lang/CharacterDataLatin1" (some 17) with
  accessFlags := 32
  interfaces := #[]
  cf := some (fileOf pool18 2 #[] #[{ accessFlags := 0, nameIndex := 112, descriptorIndex := 14, attributes := #[] }, { accessFlags := 2, nameIndex := 42, descriptorIndex := 43, attributes := #[] }] 32 39 #[] #[{ accessFlags := 26, nameIndex := 27, descriptorIndex := 28, attributes := #[] }, { accessFlags := 8, nameIndex := 37, descriptorIndex := 10, attributes := #[] }, { accessFlags := 24, nameIndex := 47, descriptorIndex := 48, attributes := #[] }, { accessFlags := 24, nameIndex := 5, descriptorIndex := 6, attributes := #[] }, { accessFlags := 24, nameIndex := 9, descriptorIndex := 10, attributes := #[] }])
  fields := #[{ name := "DIGITS", type := (.array .byte), accessFlags := 26, slot := 0, constantValue := 0 }, { name := "sharpsMap", type := (.array .char), accessFlags := 8, slot := 1, constantValue := 0 }, { name := "instance", type := (.object "java/lang/CharacterDataLatin1"), accessFlags := 24, slot := 2, constantValue := 0 }, { name := "A", type := (.array .int), accessFlags := 24, slot := 3, constantValue := 0 }, { name := "B", type := (.array .char), accessFlags := 24, slot := 4, constantValue := 0 }]
  methods := #[k18m0, k18m1]
  instanceTypes := #[]
  staticTypes := #[(.array .byte), (.array .char), (.object "java/lang/CharacterDataLatin1"), (.array .int), (.array .char)]
  resolved := Array.replicate 141 none
  statics := some 3 }

def pool19 : Array CpInfo := pool [(2, .class_ 4), (1, u "java/lang/Object"), (13, u "()Ljava/lang/String;"), (0, .fieldref 20 21), (0, .class_ 22), (0, .nameAndType 23 24), (0, u "sun/util/locale/BaseLocale"), (0, u "language"), (0, u "Ljava/lang/String;"), (5, u "script"), (5, u "region"), (2, u "variant"), (11, u "constantBaseLocales"), (0, u "[Lsun/util/locale/BaseLocale;"), (2, u "getLanguage"), (10, .class_ 67), (0, u "sun/util/locale/BaseLocale$Key"), (2, .class_ 72), (1, u "sun/util/locale/BaseLocale$Cache"), (24, u "OLD_ISO_CODES"), (0, u "Z"), (32, u "hash"), (0, u "I"), (41, u "US"), (15, u "ENGLISH"), (0, u "B"), (2, u "FRENCH"), (1, u "GERMAN"), (1, u "ITALIAN"), (1, u "JAPANESE"), (1, u "KOREAN"), (1, u "CHINESE"), (1, u "SIMPLIFIED_CHINESE"), (1, u "TRADITIONAL_CHINESE"), (1, u "FRANCE"), (1, u "GERMANY"), (1, u "ITALY"), (1, u "JAPAN"), (1, u "KOREA"), (1, u "UK"), (2, u "CANADA"), (1, u "CANADA_FRENCH"), (1, u "ROOT"), (1, u "NUM_CONSTANTS"), (1, u "SEP")] 31

def k19c0 : Code := { maxStack := 1, maxLocals := 1, code := jdk_3003_method_5_code, exceptionTable := #[], attributes := #[] }
def k19m0 : Method := { name := "getLanguage", desc := "()Ljava/lang/String;", sig := { parameters := [], returnType := some (.object "java/lang/String") }, accessFlags := 1, code := some k19c0 }
/-- sun/util/locale/BaseLocale -/
def k19 : Class := { plain "sun/util/locale/BaseLocale" (some 0) with
  accessFlags := 49
  interfaces := #[]
  cf := some (fileOf pool19 20 #[.nestMembers #[70, 66]] #[{ accessFlags := 1, nameIndex := 55, descriptorIndex := 18, attributes := #[] }] 49 2 #[] #[{ accessFlags := 9, nameIndex := 51, descriptorIndex := 52, attributes := #[] }, { accessFlags := 25, nameIndex := 190, descriptorIndex := 191, attributes := #[] }, { accessFlags := 25, nameIndex := 194, descriptorIndex := 191, attributes := #[] }, { accessFlags := 25, nameIndex := 196, descriptorIndex := 191, attributes := #[] }, { accessFlags := 25, nameIndex := 198, descriptorIndex := 191, attributes := #[] }, { accessFlags := 25, nameIndex := 200, descriptorIndex := 191, attributes := #[] }, { accessFlags := 25, nameIndex := 202, descriptorIndex := 191, attributes := #[] }, { accessFlags := 25, nameIndex := 204, descriptorIndex := 191, attributes := #[] }, { accessFlags := 25, nameIndex := 206, descriptorIndex := 191, attributes := #[] }, { accessFlags := 25, nameIndex := 208, descriptorIndex := 191, attributes := #[] }, { accessFlags := 25, nameIndex := 210, descriptorIndex := 191, attributes := #[] }, { accessFlags := 25, nameIndex := 212, descriptorIndex := 191, attributes := #[] }, { accessFlags := 25, nameIndex := 214, descriptorIndex := 191, attributes := #[] }, { accessFlags := 25, nameIndex := 216, descriptorIndex := 191, attributes := #[] }, { accessFlags := 25, nameIndex := 218, descriptorIndex := 191, attributes := #[] }, { accessFlags := 25, nameIndex := 220, descriptorIndex := 191, attributes := #[] }, { accessFlags := 25, nameIndex := 174, descriptorIndex := 191, attributes := #[] }, { accessFlags := 25, nameIndex := 223, descriptorIndex := 191, attributes := #[] }, { accessFlags := 25, nameIndex := 225, descriptorIndex := 191, attributes := #[] }, { accessFlags := 25, nameIndex := 227, descriptorIndex := 191, attributes := #[] }, { accessFlags := 25, nameIndex := 229, descriptorIndex := 191, attributes := #[] }, { accessFlags := 25, nameIndex := 231, descriptorIndex := 24, attributes := #[] }, { accessFlags := 18, nameIndex := 23, descriptorIndex := 24, attributes := #[] }, { accessFlags := 18, nameIndex := 30, descriptorIndex := 24, attributes := #[] }, { accessFlags := 18, nameIndex := 36, descriptorIndex := 24, attributes := #[] }, { accessFlags := 18, nameIndex := 39, descriptorIndex := 24, attributes := #[] }, { accessFlags := 2, nameIndex := 131, descriptorIndex := 132, attributes := #[] }, { accessFlags := 26, nameIndex := 97, descriptorIndex := 98, attributes := #[] }])
  fields := #[{ name := "constantBaseLocales", type := (.array (.object "sun/util/locale/BaseLocale")), accessFlags := 9, slot := 0, constantValue := 0 }, { name := "ENGLISH", type := .byte, accessFlags := 25, slot := 1, constantValue := 0 }, { name := "FRENCH", type := .byte, accessFlags := 25, slot := 2, constantValue := 0 }, { name := "GERMAN", type := .byte, accessFlags := 25, slot := 3, constantValue := 0 }, { name := "ITALIAN", type := .byte, accessFlags := 25, slot := 4, constantValue := 0 }, { name := "JAPANESE", type := .byte, accessFlags := 25, slot := 5, constantValue := 0 }, { name := "KOREAN", type := .byte, accessFlags := 25, slot := 6, constantValue := 0 }, { name := "CHINESE", type := .byte, accessFlags := 25, slot := 7, constantValue := 0 }, { name := "SIMPLIFIED_CHINESE", type := .byte, accessFlags := 25, slot := 8, constantValue := 0 }, { name := "TRADITIONAL_CHINESE", type := .byte, accessFlags := 25, slot := 9, constantValue := 0 }, { name := "FRANCE", type := .byte, accessFlags := 25, slot := 10, constantValue := 0 }, { name := "GERMANY", type := .byte, accessFlags := 25, slot := 11, constantValue := 0 }, { name := "ITALY", type := .byte, accessFlags := 25, slot := 12, constantValue := 0 }, { name := "JAPAN", type := .byte, accessFlags := 25, slot := 13, constantValue := 0 }, { name := "KOREA", type := .byte, accessFlags := 25, slot := 14, constantValue := 0 }, { name := "UK", type := .byte, accessFlags := 25, slot := 15, constantValue := 0 }, { name := "US", type := .byte, accessFlags := 25, slot := 16, constantValue := 0 }, { name := "CANADA", type := .byte, accessFlags := 25, slot := 17, constantValue := 0 }, { name := "CANADA_FRENCH", type := .byte, accessFlags := 25, slot := 18, constantValue := 0 }, { name := "ROOT", type := .byte, accessFlags := 25, slot := 19, constantValue := 0 }, { name := "NUM_CONSTANTS", type := .byte, accessFlags := 25, slot := 20, constantValue := 0 }, { name := "SEP", type := (.object "java/lang/String"), accessFlags := 25, slot := 21, constantValue := 0 }, { name := "language", type := (.object "java/lang/String"), accessFlags := 18, slot := 0, constantValue := 0 }, { name := "script", type := (.object "java/lang/String"), accessFlags := 18, slot := 1, constantValue := 0 }, { name := "region", type := (.object "java/lang/String"), accessFlags := 18, slot := 2, constantValue := 0 }, { name := "variant", type := (.object "java/lang/String"), accessFlags := 18, slot := 3, constantValue := 0 }, { name := "hash", type := .int, accessFlags := 2, slot := 4, constantValue := 0 }, { name := "OLD_ISO_CODES", type := .boolean, accessFlags := 26, slot := 22, constantValue := 0 }]
  methods := #[k19m0]
  instanceTypes := #[(.object "java/lang/String"), (.object "java/lang/String"), (.object "java/lang/String"), (.object "java/lang/String"), .int]
  staticTypes := #[(.array (.object "sun/util/locale/BaseLocale")), .byte, .byte, .byte, .byte, .byte, .byte, .byte, .byte, .byte, .byte, .byte, .byte, .byte, .byte, .byte, .byte, .byte, .byte, .byte, .byte, (.object "java/lang/String"), .boolean]
  resolved := Array.replicate 263 none
  statics := none }

def pool20 : Array CpInfo := pool [(9, u "<init>"), (6, .class_ 18), (1, u "java/lang/Object"), (0, u "()V"), (1, .class_ 23), (1, u "jdk/internal/util/ArraysSupport"), (0, u "LOG2_ARRAY_LONG_INDEX_SCALE"), (0, u "I"), (2, u "U"), (0, u "Ljdk/internal/misc/Unsafe;"), (8, u "BIG_ENDIAN"), (0, u "Z"), (8, u "LOG2_BYTE_BIT_SIZE"), (4, u "LOG2_ARRAY_INT_INDEX_SCALE"), (54, u "JLA"), (0, u "Ljdk/internal/access/JavaLangAccess;"), (11, u "LOG2_ARRAY_BOOLEAN_INDEX_SCALE"), (9, u "LOG2_ARRAY_BYTE_INDEX_SCALE"), (5, u "LOG2_ARRAY_CHAR_INDEX_SCALE"), (5, u "LOG2_ARRAY_SHORT_INDEX_SCALE"), (18, u "LOG2_ARRAY_FLOAT_INDEX_SCALE"), (24, u "LOG2_ARRAY_DOUBLE_INDEX_SCALE"), (89, u "T_BOOLEAN"), (2, u "T_CHAR"), (1, u "T_FLOAT"), (1, u "T_DOUBLE"), (1, u "T_BYTE"), (1, u "T_SHORT"), (1, u "T_INT"), (1, u "T_LONG"), (1, u "SOFT_MAX_ARRAY_LENGTH")] 83

def k20m0 : Method := { name := "<init>", desc := "()V", sig := { parameters := [], returnType := none }, accessFlags := 2, code := none }
/-- jdk/internal/util/ArraysSupport -/
def k20 : Class := { plain "jdk/internal/util/ArraysSupport" (some 0) with
  accessFlags := 33
  interfaces := #[]
  cf := some (fileOf pool20 21 #[] #[{ accessFlags := 2, nameIndex := 9, descriptorIndex := 19, attributes := #[] }] 33 16 #[] #[{ accessFlags := 24, nameIndex := 28, descriptorIndex := 29, attributes := #[] }, { accessFlags := 26, nameIndex := 38, descriptorIndex := 39, attributes := #[] }, { accessFlags := 25, nameIndex := 121, descriptorIndex := 25, attributes := #[] }, { accessFlags := 25, nameIndex := 131, descriptorIndex := 25, attributes := #[] }, { accessFlags := 25, nameIndex := 137, descriptorIndex := 25, attributes := #[] }, { accessFlags := 25, nameIndex := 143, descriptorIndex := 25, attributes := #[] }, { accessFlags := 25, nameIndex := 53, descriptorIndex := 25, attributes := #[] }, { accessFlags := 25, nameIndex := 24, descriptorIndex := 25, attributes := #[] }, { accessFlags := 25, nameIndex := 162, descriptorIndex := 25, attributes := #[] }, { accessFlags := 25, nameIndex := 187, descriptorIndex := 25, attributes := #[] }, { accessFlags := 26, nameIndex := 48, descriptorIndex := 25, attributes := #[] }, { accessFlags := 25, nameIndex := 277, descriptorIndex := 25, attributes := #[] }, { accessFlags := 25, nameIndex := 280, descriptorIndex := 25, attributes := #[] }, { accessFlags := 25, nameIndex := 282, descriptorIndex := 25, attributes := #[] }, { accessFlags := 25, nameIndex := 284, descriptorIndex := 25, attributes := #[] }, { accessFlags := 25, nameIndex := 286, descriptorIndex := 25, attributes := #[] }, { accessFlags := 25, nameIndex := 288, descriptorIndex := 25, attributes := #[] }, { accessFlags := 25, nameIndex := 290, descriptorIndex := 25, attributes := #[] }, { accessFlags := 25, nameIndex := 292, descriptorIndex := 25, attributes := #[] }, { accessFlags := 26, nameIndex := 108, descriptorIndex := 109, attributes := #[] }, { accessFlags := 25, nameIndex := 294, descriptorIndex := 25, attributes := #[] }])
  fields := #[{ name := "U", type := (.object "jdk/internal/misc/Unsafe"), accessFlags := 24, slot := 0, constantValue := 0 }, { name := "BIG_ENDIAN", type := .boolean, accessFlags := 26, slot := 1, constantValue := 0 }, { name := "LOG2_ARRAY_BOOLEAN_INDEX_SCALE", type := .int, accessFlags := 25, slot := 2, constantValue := 0 }, { name := "LOG2_ARRAY_BYTE_INDEX_SCALE", type := .int, accessFlags := 25, slot := 3, constantValue := 0 }, { name := "LOG2_ARRAY_CHAR_INDEX_SCALE", type := .int, accessFlags := 25, slot := 4, constantValue := 0 }, { name := "LOG2_ARRAY_SHORT_INDEX_SCALE", type := .int, accessFlags := 25, slot := 5, constantValue := 0 }, { name := "LOG2_ARRAY_INT_INDEX_SCALE", type := .int, accessFlags := 25, slot := 6, constantValue := 0 }, { name := "LOG2_ARRAY_LONG_INDEX_SCALE", type := .int, accessFlags := 25, slot := 7, constantValue := 0 }, { name := "LOG2_ARRAY_FLOAT_INDEX_SCALE", type := .int, accessFlags := 25, slot := 8, constantValue := 0 }, { name := "LOG2_ARRAY_DOUBLE_INDEX_SCALE", type := .int, accessFlags := 25, slot := 9, constantValue := 0 }, { name := "LOG2_BYTE_BIT_SIZE", type := .int, accessFlags := 26, slot := 10, constantValue := 0 }, { name := "T_BOOLEAN", type := .int, accessFlags := 25, slot := 11, constantValue := 0 }, { name := "T_CHAR", type := .int, accessFlags := 25, slot := 12, constantValue := 0 }, { name := "T_FLOAT", type := .int, accessFlags := 25, slot := 13, constantValue := 0 }, { name := "T_DOUBLE", type := .int, accessFlags := 25, slot := 14, constantValue := 0 }, { name := "T_BYTE", type := .int, accessFlags := 25, slot := 15, constantValue := 0 }, { name := "T_SHORT", type := .int, accessFlags := 25, slot := 16, constantValue := 0 }, { name := "T_INT", type := .int, accessFlags := 25, slot := 17, constantValue := 0 }, { name := "T_LONG", type := .int, accessFlags := 25, slot := 18, constantValue := 0 }, { name := "JLA", type := (.object "jdk/internal/access/JavaLangAccess"), accessFlags := 26, slot := 19, constantValue := 0 }, { name := "SOFT_MAX_ARRAY_LENGTH", type := .int, accessFlags := 25, slot := 20, constantValue := 0 }]
  methods := #[k20m0]
  instanceTypes := #[]
  staticTypes := #[(.object "jdk/internal/misc/Unsafe"), .boolean, .int, .int, .int, .int, .int, .int, .int, .int, .int, .int, .int, .int, .int, .int, .int, .int, .int, (.object "jdk/internal/access/JavaLangAccess"), .int]
  resolved := Array.replicate 378 none
  statics := none }

/-- the primitive byte -/
def k21 : Class := { plain "byte" none with kind := .primitive 'B', accessFlags := 0x411 }
/-- [B -/
def k22 : Class := { plain "[B" (some 0) with kind := .array 21 .byte, interfaces := #[13, 2], accessFlags := 1041 }

/-- the primitive char -/
def k23 : Class := { plain "char" none with kind := .primitive 'C', accessFlags := 0x411 }
/-- [C -/
def k24 : Class := { plain "[C" (some 0) with kind := .array 23 .char, interfaces := #[13, 2], accessFlags := 1041 }

/-- the primitive int -/
def k25 : Class := { plain "int" none with kind := .primitive 'I', accessFlags := 0x411 }
/-- [I -/
def k26 : Class := { plain "[I" (some 0) with kind := .array 25 .int, interfaces := #[13, 2], accessFlags := 1041 }

def heap : Heap := #[{ cls := 7, slots := #[.long 0, .int 1, .null, .int 0, .null, .int 0, .int 0], vm := .statics 7 },
  { cls := 12, slots := #[.null, .null, .null], vm := .statics 12 },
  { cls := 14, slots := #[.null, .null, .null, .null, .null, .null, .null, .null, .null, .null, .null, .null, .null, .null, .null, .null, .null, .null, .ref 7, .null, .null, .null, .null, .int 0, .int 0, .long 0, .int 0, .int 0, .int 0, .int 0, .int 0, .int 0, .null, .null, .null, .null, .null, .null, .int 0], vm := .statics 14 },
  { cls := 18, slots := #[.null, .null, .ref 8, .null, .null], vm := .statics 18 },
  { cls := 22, slots := #[], vm := .none },
  { cls := 7, slots := #[.ref 4, .int 0, .int 0, .int 0], vm := .none },
  { cls := 19, slots := #[.ref 5, .null, .null, .null, .int 0], vm := .none },
  { cls := 14, slots := #[.ref 6, .null, .int 0, .null], vm := .none },
  { cls := 18, slots := #[], vm := .none }]
def classes : Array Class := #[k0, k1, k2, k3, k4, k5, k6, k7, k8, k9, k10, k11, k12, k13, k14, k15, k16, k17, k18, k19, k20, k21, k22, k23, k24, k25, k26]
def interned : List (Array UInt16 × Addr) := []
def slotsUsed : Nat := 67
def theMethod : MethodId := ⟨1, 4⟩
def args0 : Array Value := #[.int 5, .int 5, .int 5, .int 5]
def aboutOver (below : List Frame) : State where
  vm := { classes := classes, interned := interned.toArray }
  heap := heap
  slotsUsed := slotsUsed
  threads := #[{ frames := .invoking theMethod args0 :: below }]
def below0 : List Frame := [.native { method := ⟨0, 0⟩, args := #[] }]
def about1 : State := aboutOver below0
def p0 : Program := .bare "" "" ""
def e0 : Env := launch0.env 0 0 0
theorem w_frames : about1.frames = Frame.invoking theMethod args0 :: below0 := rfl
set_option maxRecDepth 65536 in
theorem w_args : argsFit about1.vm theMethod args0 = true := by decide +kernel
set_option maxRecDepth 65536 in
theorem w_heap : heapFits about1 = true := by decide +kernel
set_option maxRecDepth 65536 in
theorem w_runnable : about1.curStatus? = some .runnable := by decide +kernel
set_option maxRecDepth 65536 in
theorem w_alone : about1.alone = true := by decide +kernel
set_option maxRecDepth 65536 in
theorem w_named : about1.methodNamed? x = some theMethod := by decide +kernel
set_option maxRecDepth 65536 in
theorem w_hears : about1.hears theMethod below0 = true := by decide +kernel
set_option maxRecDepth 65536 in
theorem w_ripe : about1.ripe theMethod args0 below0 = true := by decide +kernel
theorem w_running : about1.status = .running := rfl
set_option maxRecDepth 65536 in
theorem w_room : about1.hasRoom e0.platform room_1 = true :=
  launch0.hasRoom_least _ room_1 (by decide +kernel) (by decide +kernel) (by decide +kernel) (by decide +kernel) (by decide +kernel) (by decide +kernel)
theorem allAtoms_all (ts : List Jvm.Cond) (a : Array Jvm.Value) (st : Jvm.State) : (allAtoms ts).before a st = ts.all (fun c => c.before a st) := by
  induction ts with
  | nil => rfl
  | cons c t ih =>
    show (Jvm.Cond.and c (allAtoms t)).before a st = _
    rw [Jvm.Cond.before_and, ih, List.all_cons]
def words1 : List Jvm.Cond := Jvm.Cond.code x code maxLocals ret :: tables_1
/-- a 'code' word, met by the world's own term for the bytes: nothing is compared byte by byte -/
theorem code_word {y : MethodName} {bytes : ByteArray} {mx : Nat} {rt : Option FieldType} {a : Array Value} {s : State} {m : MethodId} {meth : Method} {c : Code} (h1 : s.methodNamed? y = some m) (h2 : s.vm.method? m = some meth) (h3 : meth.code = some c) (h4 : c.code = bytes)
    (h5 : (c.maxLocals == mx && c.exceptionTable.isEmpty && decide (c.maxStack ≤ mostOperands) && decide (meth.sig.returnType = rt) && !meth.locks && decide (parseMethodDescriptor y.desc = some meth.sig)) = true) : (Jvm.Cond.code y bytes mx rt).before a s = true := by
  simp only [Bool.and_eq_true, beq_iff_eq, Bool.not_eq_true', decide_eq_true_eq] at h5
  obtain ⟨⟨⟨⟨⟨g1, g2⟩, g3⟩, g4⟩, g5⟩, g6⟩ := h5
  simp [Cond.before, Cond.holds, Cond.value, h1, h2, h3, h4, g1, g2, g3, g4, g5, g6]
def isCode : Jvm.Cond → Bool
  | .code _ _ _ _ => true
  | _ => false
theorem all_split {L : List Jvm.Cond} {P : Jvm.Cond → Bool} (h1 : L.all (fun c => isCode c || P c) = true) (h2 : ∀ c ∈ L.filter isCode, P c = true) : L.all P = true := by
  refine List.all_eq_true.mpr fun c hc => ?_
  have h := List.all_eq_true.mp h1 c hc
  rcases Bool.eq_false_or_eq_true (isCode c) with hi | hi
  · exact h2 c (List.mem_filter.mpr ⟨hc, hi⟩)
  · simpa [hi] using h
set_option maxRecDepth 65536 in
theorem w_c0 : (Jvm.Cond.code x code maxLocals ret).before args0 about1 = true := code_word (m := ⟨1, 4⟩) (meth := k1m4) (c := k1c4) (by decide +kernel) rfl rfl rfl (by decide +kernel)
set_option maxRecDepth 65536 in
theorem w_c1 : (Jvm.Cond.code ({ cls := "com/example/prueba/prueba/MediaTypesMediaTypePinLaw", name := "draw", desc := "(I)C" } : Jvm.MethodName) method_2_code (3 : Nat) (Option.some Jvm.ClassFile.FieldType.char)).before args0 about1 = true := code_word (m := ⟨1, 1⟩) (meth := k1m1) (c := k1c1) (by decide +kernel) rfl rfl rfl (by decide +kernel)
set_option maxRecDepth 65536 in
theorem w_c2 : (Jvm.Cond.code ({ cls := "java/lang/String", name := "<init>", desc := "([C)V" } : Jvm.MethodName) jdk_42_method_3_code (2 : Nat) (Option.none : Option Jvm.ClassFile.FieldType)).before args0 about1 = true := code_word (m := ⟨7, 1⟩) (meth := k7m1) (c := k7c1) (by decide +kernel) rfl rfl rfl (by decide +kernel)
set_option maxRecDepth 65536 in
theorem w_c3 : (Jvm.Cond.code ({ cls := "java/lang/String", name := "<init>", desc := "([CIILjava/lang/Void;)V" } : Jvm.MethodName) jdk_42_method_149_code (6 : Nat) (Option.none : Option Jvm.ClassFile.FieldType)).before args0 about1 = true := code_word (m := ⟨7, 9⟩) (meth := k7m9) (c := k7c9) (by decide +kernel) rfl rfl rfl (by decide +kernel)
set_option maxRecDepth 65536 in
theorem w_c4 : (Jvm.Cond.code ({ cls := "java/lang/Object", name := "<init>", desc := "()V" } : Jvm.MethodName) object_method_1_code (1 : Nat) (Option.none : Option Jvm.ClassFile.FieldType)).before args0 about1 = true := code_word (m := ⟨0, 0⟩) (meth := k0m0) (c := k0c0) (by decide +kernel) rfl rfl rfl (by decide +kernel)
set_option maxRecDepth 65536 in
theorem w_c5 : (Jvm.Cond.code ({ cls := "java/lang/StringUTF16", name := "compress", desc := "([CII)[B" } : Jvm.MethodName) jdk_52_method_16_code (6 : Nat) (Option.some (Jvm.ClassFile.FieldType.array Jvm.ClassFile.FieldType.byte))).before args0 about1 = true := code_word (m := ⟨8, 2⟩) (meth := k8m2) (c := k8c2) (by decide +kernel) rfl rfl rfl (by decide +kernel)
set_option maxRecDepth 65536 in
theorem w_c6 : (Jvm.Cond.code ({ cls := "java/lang/StringUTF16", name := "compress", desc := "([CI[BII)I" } : Jvm.MethodName) jdk_52_method_21_code (7 : Nat) (Option.some Jvm.ClassFile.FieldType.int)).before args0 about1 = true := code_word (m := ⟨8, 3⟩) (meth := k8m3) (c := k8c3) (by decide +kernel) rfl rfl rfl (by decide +kernel)
set_option maxRecDepth 65536 in
theorem w_c7 : (Jvm.Cond.code ({ cls := "java/lang/StringUTF16", name := "coderFromArrayLen", desc := "([BI)B" } : Jvm.MethodName) jdk_52_method_15_code (2 : Nat) (Option.some Jvm.ClassFile.FieldType.byte)).before args0 about1 = true := code_word (m := ⟨8, 1⟩) (meth := k8m1) (c := k8c1) (by decide +kernel) rfl rfl rfl (by decide +kernel)
set_option maxRecDepth 65536 in
theorem w_c8 : (Jvm.Cond.code ({ cls := "com/example/prueba/prueba/MediaTypes", name := "mediaType", desc := "(Ljava/lang/String;)Ljava/lang/String;" } : Jvm.MethodName) prog_13_method_5_code (3 : Nat) (Option.some (Jvm.ClassFile.FieldType.object "java/lang/String"))).before args0 about1 = true := code_word (m := ⟨9, 1⟩) (meth := k9m1) (c := k9c1) (by decide +kernel) rfl rfl rfl (by decide +kernel)
set_option maxRecDepth 65536 in
theorem w_c9 : (Jvm.Cond.code ({ cls := "java/lang/String", name := "indexOf", desc := "(I)I" } : Jvm.MethodName) jdk_42_method_79_code (2 : Nat) (Option.some Jvm.ClassFile.FieldType.int)).before args0 about1 = true := code_word (m := ⟨7, 4⟩) (meth := k7m4) (c := k7c4) (by decide +kernel) rfl rfl rfl (by decide +kernel)
set_option maxRecDepth 65536 in
theorem w_c10 : (Jvm.Cond.code ({ cls := "java/lang/String", name := "indexOf", desc := "(II)I" } : Jvm.MethodName) jdk_42_method_80_code (3 : Nat) (Option.some Jvm.ClassFile.FieldType.int)).before args0 about1 = true := code_word (m := ⟨7, 5⟩) (meth := k7m5) (c := k7c5) (by decide +kernel) rfl rfl rfl (by decide +kernel)
set_option maxRecDepth 65536 in
theorem w_c11 : (Jvm.Cond.code ({ cls := "java/lang/String", name := "isLatin1", desc := "()Z" } : Jvm.MethodName) jdk_42_method_154_code (1 : Nat) (Option.some Jvm.ClassFile.FieldType.boolean)).before args0 about1 = true := code_word (m := ⟨7, 12⟩) (meth := k7m12) (c := k7c12) (by decide +kernel) rfl rfl rfl (by decide +kernel)
set_option maxRecDepth 65536 in
theorem w_c12 : (Jvm.Cond.code ({ cls := "java/lang/String", name := "length", desc := "()I" } : Jvm.MethodName) jdk_42_method_54_code (1 : Nat) (Option.some Jvm.ClassFile.FieldType.int)).before args0 about1 = true := code_word (m := ⟨7, 2⟩) (meth := k7m2) (c := k7c2) (by decide +kernel) rfl rfl rfl (by decide +kernel)
set_option maxRecDepth 65536 in
theorem w_c13 : (Jvm.Cond.code ({ cls := "java/lang/String", name := "coder", desc := "()B" } : Jvm.MethodName) jdk_42_method_152_code (1 : Nat) (Option.some Jvm.ClassFile.FieldType.byte)).before args0 about1 = true := code_word (m := ⟨7, 11⟩) (meth := k7m11) (c := k7c11) (by decide +kernel) rfl rfl rfl (by decide +kernel)
set_option maxRecDepth 65536 in
theorem w_c14 : (Jvm.Cond.code ({ cls := "java/lang/StringLatin1", name := "indexOf", desc := "([BIII)I" } : Jvm.MethodName) jdk_43_method_22_code (4 : Nat) (Option.some Jvm.ClassFile.FieldType.int)).before args0 about1 = true := code_word (m := ⟨10, 3⟩) (meth := k10m3) (c := k10c3) (by decide +kernel) rfl rfl rfl (by decide +kernel)
set_option maxRecDepth 65536 in
theorem w_c15 : (Jvm.Cond.code ({ cls := "java/lang/StringLatin1", name := "canEncode", desc := "(I)Z" } : Jvm.MethodName) jdk_43_method_4_code (1 : Nat) (Option.some Jvm.ClassFile.FieldType.boolean)).before args0 about1 = true := code_word (m := ⟨10, 2⟩) (meth := k10m2) (c := k10c2) (by decide +kernel) rfl rfl rfl (by decide +kernel)
set_option maxRecDepth 65536 in
theorem w_c16 : (Jvm.Cond.code ({ cls := "java/lang/Math", name := "max", desc := "(II)I" } : Jvm.MethodName) jdk_29_method_65_code (2 : Nat) (Option.some Jvm.ClassFile.FieldType.int)).before args0 about1 = true := code_word (m := ⟨11, 1⟩) (meth := k11m1) (c := k11c1) (by decide +kernel) rfl rfl rfl (by decide +kernel)
set_option maxRecDepth 65536 in
theorem w_c17 : (Jvm.Cond.code ({ cls := "java/lang/Math", name := "min", desc := "(II)I" } : Jvm.MethodName) jdk_29_method_69_code (2 : Nat) (Option.some Jvm.ClassFile.FieldType.int)).before args0 about1 = true := code_word (m := ⟨11, 2⟩) (meth := k11m2) (c := k11c2) (by decide +kernel) rfl rfl rfl (by decide +kernel)
set_option maxRecDepth 65536 in
theorem w_c18 : (Jvm.Cond.code ({ cls := "java/lang/StringLatin1", name := "indexOfChar", desc := "([BIII)I" } : Jvm.MethodName) jdk_43_method_23_code (6 : Nat) (Option.some Jvm.ClassFile.FieldType.int)).before args0 about1 = true := code_word (m := ⟨10, 4⟩) (meth := k10m4) (c := k10c4) (by decide +kernel) rfl rfl rfl (by decide +kernel)
set_option maxRecDepth 65536 in
theorem w_c19 : (Jvm.Cond.code ({ cls := "java/lang/String", name := "substring", desc := "(II)Ljava/lang/String;" } : Jvm.MethodName) jdk_42_method_92_code (5 : Nat) (Option.some (Jvm.ClassFile.FieldType.object "java/lang/String"))).before args0 about1 = true := code_word (m := ⟨7, 6⟩) (meth := k7m6) (c := k7c6) (by decide +kernel) rfl rfl rfl (by decide +kernel)
set_option maxRecDepth 65536 in
theorem w_c20 : (Jvm.Cond.code ({ cls := "java/lang/String", name := "checkBoundsBeginEnd", desc := "(III)V" } : Jvm.MethodName) jdk_42_method_158_code (3 : Nat) (Option.none : Option Jvm.ClassFile.FieldType)).before args0 about1 = true := code_word (m := ⟨7, 14⟩) (meth := k7m14) (c := k7c14) (by decide +kernel) rfl rfl rfl (by decide +kernel)
set_option maxRecDepth 65536 in
theorem w_c21 : (Jvm.Cond.code ({ cls := "jdk/internal/util/Preconditions", name := "checkFromToIndex", desc := "(IIILjava/util/function/BiFunction;)I" } : Jvm.MethodName) jdk_41_method_12_code (4 : Nat) (Option.some Jvm.ClassFile.FieldType.int)).before args0 about1 = true := code_word (m := ⟨12, 2⟩) (meth := k12m2) (c := k12c2) (by decide +kernel) rfl rfl rfl (by decide +kernel)
set_option maxRecDepth 65536 in
theorem w_c22 : (Jvm.Cond.code ({ cls := "java/lang/StringLatin1", name := "newString", desc := "([BII)Ljava/lang/String;" } : Jvm.MethodName) jdk_43_method_47_code (3 : Nat) (Option.some (Jvm.ClassFile.FieldType.object "java/lang/String"))).before args0 about1 = true := code_word (m := ⟨10, 7⟩) (meth := k10m7) (c := k10c7) (by decide +kernel) rfl rfl rfl (by decide +kernel)
set_option maxRecDepth 65536 in
theorem w_c23 : (Jvm.Cond.code ({ cls := "java/lang/String", name := "trim", desc := "()Ljava/lang/String;" } : Jvm.MethodName) jdk_42_method_113_code (2 : Nat) (Option.some (Jvm.ClassFile.FieldType.object "java/lang/String"))).before args0 about1 = true := code_word (m := ⟨7, 8⟩) (meth := k7m8) (c := k7c8) (by decide +kernel) rfl rfl rfl (by decide +kernel)
set_option maxRecDepth 65536 in
theorem w_c24 : (Jvm.Cond.code ({ cls := "java/lang/StringLatin1", name := "trim", desc := "([B)Ljava/lang/String;" } : Jvm.MethodName) jdk_43_method_36_code (3 : Nat) (Option.some (Jvm.ClassFile.FieldType.object "java/lang/String"))).before args0 about1 = true := code_word (m := ⟨10, 6⟩) (meth := k10m6) (c := k10c6) (by decide +kernel) rfl rfl rfl (by decide +kernel)
set_option maxRecDepth 65536 in
theorem w_c25 : (Jvm.Cond.code ({ cls := "java/lang/String", name := "toLowerCase", desc := "(Ljava/util/Locale;)Ljava/lang/String;" } : Jvm.MethodName) jdk_42_method_109_code (2 : Nat) (Option.some (Jvm.ClassFile.FieldType.object "java/lang/String"))).before args0 about1 = true := code_word (m := ⟨7, 7⟩) (meth := k7m7) (c := k7c7) (by decide +kernel) rfl rfl rfl (by decide +kernel)
set_option maxRecDepth 65536 in
theorem w_c26 : (Jvm.Cond.code ({ cls := "java/lang/StringLatin1", name := "toLowerCase", desc := "(Ljava/lang/String;[BLjava/util/Locale;)Ljava/lang/String;" } : Jvm.MethodName) jdk_43_method_32_code (9 : Nat) (Option.some (Jvm.ClassFile.FieldType.object "java/lang/String"))).before args0 about1 = true := code_word (m := ⟨10, 5⟩) (meth := k10m5) (c := k10c5) (by decide +kernel) rfl rfl rfl (by decide +kernel)
set_option maxRecDepth 65536 in
theorem w_c27 : (Jvm.Cond.code ({ cls := "com/example/prueba/prueba/MediaTypesMediaTypePinLaw", name := "at", desc := "(Ljava/lang/String;II[CI)Z" } : Jvm.MethodName) method_4_code (5 : Nat) (Option.some Jvm.ClassFile.FieldType.boolean)).before args0 about1 = true := code_word (m := ⟨1, 3⟩) (meth := k1m3) (c := k1c3) (by decide +kernel) rfl rfl rfl (by decide +kernel)
set_option maxRecDepth 65536 in
theorem w_c28 : (Jvm.Cond.code ({ cls := "java/util/Arrays", name := "copyOfRange", desc := "([BII)[B" } : Jvm.MethodName) jdk_65_method_132_code (3 : Nat) (Option.some (Jvm.ClassFile.FieldType.array Jvm.ClassFile.FieldType.byte))).before args0 about1 = true := code_word (m := ⟨15, 2⟩) (meth := k15m2) (c := k15c2) (by decide +kernel) rfl rfl rfl (by decide +kernel)
set_option maxRecDepth 65536 in
theorem w_c29 : (Jvm.Cond.code ({ cls := "java/util/Arrays", name := "copyOfRangeByte", desc := "([BII)[B" } : Jvm.MethodName) jdk_65_method_133_code (5 : Nat) (Option.some (Jvm.ClassFile.FieldType.array Jvm.ClassFile.FieldType.byte))).before args0 about1 = true := code_word (m := ⟨15, 3⟩) (meth := k15m3) (c := k15c3) (by decide +kernel) rfl rfl rfl (by decide +kernel)
set_option maxRecDepth 65536 in
theorem w_c30 : (Jvm.Cond.code ({ cls := "java/util/Arrays", name := "checkLength", desc := "(II)V" } : Jvm.MethodName) jdk_65_method_131_code (2 : Nat) (Option.none : Option Jvm.ClassFile.FieldType)).before args0 about1 = true := code_word (m := ⟨15, 1⟩) (meth := k15m1) (c := k15c1) (by decide +kernel) rfl rfl rfl (by decide +kernel)
set_option maxRecDepth 65536 in
theorem w_c31 : (Jvm.Cond.code ({ cls := "java/lang/String", name := "<init>", desc := "([BB)V" } : Jvm.MethodName) jdk_42_method_151_code (3 : Nat) (Option.none : Option Jvm.ClassFile.FieldType)).before args0 about1 = true := code_word (m := ⟨7, 10⟩) (meth := k7m10) (c := k7c10) (by decide +kernel) rfl rfl rfl (by decide +kernel)
set_option maxRecDepth 65536 in
theorem w_c32 : (Jvm.Cond.code ({ cls := "java/lang/CharacterDataLatin1", name := "toLowerCase", desc := "(I)I" } : Jvm.MethodName) jdk_116_method_20_code (3 : Nat) (Option.some Jvm.ClassFile.FieldType.int)).before args0 about1 = true := code_word (m := ⟨18, 0⟩) (meth := k18m0) (c := k18c0) (by decide +kernel) rfl rfl rfl (by decide +kernel)
set_option maxRecDepth 65536 in
theorem w_c33 : (Jvm.Cond.code ({ cls := "java/lang/String", name := "charAt", desc := "(I)C" } : Jvm.MethodName) jdk_42_method_56_code (2 : Nat) (Option.some Jvm.ClassFile.FieldType.char)).before args0 about1 = true := code_word (m := ⟨7, 3⟩) (meth := k7m3) (c := k7c3) (by decide +kernel) rfl rfl rfl (by decide +kernel)
set_option maxRecDepth 65536 in
theorem w_c34 : (Jvm.Cond.code ({ cls := "java/lang/StringLatin1", name := "charAt", desc := "([BI)C" } : Jvm.MethodName) jdk_43_method_2_code (2 : Nat) (Option.some Jvm.ClassFile.FieldType.char)).before args0 about1 = true := code_word (m := ⟨10, 1⟩) (meth := k10m1) (c := k10c1) (by decide +kernel) rfl rfl rfl (by decide +kernel)
set_option maxRecDepth 65536 in
theorem w_c35 : (Jvm.Cond.code ({ cls := "java/lang/String", name := "checkIndex", desc := "(II)V" } : Jvm.MethodName) jdk_42_method_155_code (2 : Nat) (Option.none : Option Jvm.ClassFile.FieldType)).before args0 about1 = true := code_word (m := ⟨7, 13⟩) (meth := k7m13) (c := k7c13) (by decide +kernel) rfl rfl rfl (by decide +kernel)
set_option maxRecDepth 65536 in
theorem w_c36 : (Jvm.Cond.code ({ cls := "jdk/internal/util/Preconditions", name := "checkIndex", desc := "(IILjava/util/function/BiFunction;)I" } : Jvm.MethodName) jdk_41_method_11_code (3 : Nat) (Option.some Jvm.ClassFile.FieldType.int)).before args0 about1 = true := code_word (m := ⟨12, 1⟩) (meth := k12m1) (c := k12c1) (by decide +kernel) rfl rfl rfl (by decide +kernel)
set_option maxRecDepth 65536 in
theorem w_c37 : (Jvm.Cond.code ({ cls := "com/example/prueba/prueba/MediaTypesMediaTypePinLaw", name := "lower", desc := "(C)C" } : Jvm.MethodName) method_3_code (1 : Nat) (Option.some Jvm.ClassFile.FieldType.char)).before args0 about1 = true := code_word (m := ⟨1, 2⟩) (meth := k1m2) (c := k1c2) (by decide +kernel) rfl rfl rfl (by decide +kernel)
set_option maxRecDepth 65536 in
theorem w_c38 : (Jvm.Cond.code ({ cls := "java/util/Locale", name := "getLanguage", desc := "()Ljava/lang/String;" } : Jvm.MethodName) jdk_2628_method_27_code (1 : Nat) (Option.some (Jvm.ClassFile.FieldType.object "java/lang/String"))).before args0 about1 = true := code_word (m := ⟨14, 0⟩) (meth := k14m0) (c := k14c0) (by decide +kernel) rfl rfl rfl (by decide +kernel)
set_option maxRecDepth 65536 in
theorem w_c39 : (Jvm.Cond.code ({ cls := "sun/util/locale/BaseLocale", name := "getLanguage", desc := "()Ljava/lang/String;" } : Jvm.MethodName) jdk_3003_method_5_code (1 : Nat) (Option.some (Jvm.ClassFile.FieldType.object "java/lang/String"))).before args0 about1 = true := code_word (m := ⟨19, 0⟩) (meth := k19m0) (c := k19c0) (by decide +kernel) rfl rfl rfl (by decide +kernel)
def codes1 : List Jvm.Cond := [Jvm.Cond.code x code maxLocals ret, Jvm.Cond.code ({ cls := "com/example/prueba/prueba/MediaTypesMediaTypePinLaw", name := "draw", desc := "(I)C" } : Jvm.MethodName) method_2_code (3 : Nat) (Option.some Jvm.ClassFile.FieldType.char), Jvm.Cond.code ({ cls := "java/lang/String", name := "<init>", desc := "([C)V" } : Jvm.MethodName) jdk_42_method_3_code (2 : Nat) (Option.none : Option Jvm.ClassFile.FieldType), Jvm.Cond.code ({ cls := "java/lang/String", name := "<init>", desc := "([CIILjava/lang/Void;)V" } : Jvm.MethodName) jdk_42_method_149_code (6 : Nat) (Option.none : Option Jvm.ClassFile.FieldType), Jvm.Cond.code ({ cls := "java/lang/Object", name := "<init>", desc := "()V" } : Jvm.MethodName) object_method_1_code (1 : Nat) (Option.none : Option Jvm.ClassFile.FieldType), Jvm.Cond.code ({ cls := "java/lang/StringUTF16", name := "compress", desc := "([CII)[B" } : Jvm.MethodName) jdk_52_method_16_code (6 : Nat) (Option.some (Jvm.ClassFile.FieldType.array Jvm.ClassFile.FieldType.byte)), Jvm.Cond.code ({ cls := "java/lang/StringUTF16", name := "compress", desc := "([CI[BII)I" } : Jvm.MethodName) jdk_52_method_21_code (7 : Nat) (Option.some Jvm.ClassFile.FieldType.int), Jvm.Cond.code ({ cls := "java/lang/StringUTF16", name := "coderFromArrayLen", desc := "([BI)B" } : Jvm.MethodName) jdk_52_method_15_code (2 : Nat) (Option.some Jvm.ClassFile.FieldType.byte), Jvm.Cond.code ({ cls := "com/example/prueba/prueba/MediaTypes", name := "mediaType", desc := "(Ljava/lang/String;)Ljava/lang/String;" } : Jvm.MethodName) prog_13_method_5_code (3 : Nat) (Option.some (Jvm.ClassFile.FieldType.object "java/lang/String")), Jvm.Cond.code ({ cls := "java/lang/String", name := "indexOf", desc := "(I)I" } : Jvm.MethodName) jdk_42_method_79_code (2 : Nat) (Option.some Jvm.ClassFile.FieldType.int), Jvm.Cond.code ({ cls := "java/lang/String", name := "indexOf", desc := "(II)I" } : Jvm.MethodName) jdk_42_method_80_code (3 : Nat) (Option.some Jvm.ClassFile.FieldType.int), Jvm.Cond.code ({ cls := "java/lang/String", name := "isLatin1", desc := "()Z" } : Jvm.MethodName) jdk_42_method_154_code (1 : Nat) (Option.some Jvm.ClassFile.FieldType.boolean), Jvm.Cond.code ({ cls := "java/lang/String", name := "length", desc := "()I" } : Jvm.MethodName) jdk_42_method_54_code (1 : Nat) (Option.some Jvm.ClassFile.FieldType.int), Jvm.Cond.code ({ cls := "java/lang/String", name := "coder", desc := "()B" } : Jvm.MethodName) jdk_42_method_152_code (1 : Nat) (Option.some Jvm.ClassFile.FieldType.byte), Jvm.Cond.code ({ cls := "java/lang/StringLatin1", name := "indexOf", desc := "([BIII)I" } : Jvm.MethodName) jdk_43_method_22_code (4 : Nat) (Option.some Jvm.ClassFile.FieldType.int), Jvm.Cond.code ({ cls := "java/lang/StringLatin1", name := "canEncode", desc := "(I)Z" } : Jvm.MethodName) jdk_43_method_4_code (1 : Nat) (Option.some Jvm.ClassFile.FieldType.boolean), Jvm.Cond.code ({ cls := "java/lang/Math", name := "max", desc := "(II)I" } : Jvm.MethodName) jdk_29_method_65_code (2 : Nat) (Option.some Jvm.ClassFile.FieldType.int), Jvm.Cond.code ({ cls := "java/lang/Math", name := "min", desc := "(II)I" } : Jvm.MethodName) jdk_29_method_69_code (2 : Nat) (Option.some Jvm.ClassFile.FieldType.int), Jvm.Cond.code ({ cls := "java/lang/StringLatin1", name := "indexOfChar", desc := "([BIII)I" } : Jvm.MethodName) jdk_43_method_23_code (6 : Nat) (Option.some Jvm.ClassFile.FieldType.int), Jvm.Cond.code ({ cls := "java/lang/String", name := "substring", desc := "(II)Ljava/lang/String;" } : Jvm.MethodName) jdk_42_method_92_code (5 : Nat) (Option.some (Jvm.ClassFile.FieldType.object "java/lang/String")), Jvm.Cond.code ({ cls := "java/lang/String", name := "checkBoundsBeginEnd", desc := "(III)V" } : Jvm.MethodName) jdk_42_method_158_code (3 : Nat) (Option.none : Option Jvm.ClassFile.FieldType), Jvm.Cond.code ({ cls := "jdk/internal/util/Preconditions", name := "checkFromToIndex", desc := "(IIILjava/util/function/BiFunction;)I" } : Jvm.MethodName) jdk_41_method_12_code (4 : Nat) (Option.some Jvm.ClassFile.FieldType.int), Jvm.Cond.code ({ cls := "java/lang/StringLatin1", name := "newString", desc := "([BII)Ljava/lang/String;" } : Jvm.MethodName) jdk_43_method_47_code (3 : Nat) (Option.some (Jvm.ClassFile.FieldType.object "java/lang/String")), Jvm.Cond.code ({ cls := "java/lang/String", name := "trim", desc := "()Ljava/lang/String;" } : Jvm.MethodName) jdk_42_method_113_code (2 : Nat) (Option.some (Jvm.ClassFile.FieldType.object "java/lang/String")), Jvm.Cond.code ({ cls := "java/lang/StringLatin1", name := "trim", desc := "([B)Ljava/lang/String;" } : Jvm.MethodName) jdk_43_method_36_code (3 : Nat) (Option.some (Jvm.ClassFile.FieldType.object "java/lang/String")), Jvm.Cond.code ({ cls := "java/lang/String", name := "toLowerCase", desc := "(Ljava/util/Locale;)Ljava/lang/String;" } : Jvm.MethodName) jdk_42_method_109_code (2 : Nat) (Option.some (Jvm.ClassFile.FieldType.object "java/lang/String")), Jvm.Cond.code ({ cls := "java/lang/StringLatin1", name := "toLowerCase", desc := "(Ljava/lang/String;[BLjava/util/Locale;)Ljava/lang/String;" } : Jvm.MethodName) jdk_43_method_32_code (9 : Nat) (Option.some (Jvm.ClassFile.FieldType.object "java/lang/String")), Jvm.Cond.code ({ cls := "com/example/prueba/prueba/MediaTypesMediaTypePinLaw", name := "at", desc := "(Ljava/lang/String;II[CI)Z" } : Jvm.MethodName) method_4_code (5 : Nat) (Option.some Jvm.ClassFile.FieldType.boolean), Jvm.Cond.code ({ cls := "java/util/Arrays", name := "copyOfRange", desc := "([BII)[B" } : Jvm.MethodName) jdk_65_method_132_code (3 : Nat) (Option.some (Jvm.ClassFile.FieldType.array Jvm.ClassFile.FieldType.byte)), Jvm.Cond.code ({ cls := "java/util/Arrays", name := "copyOfRangeByte", desc := "([BII)[B" } : Jvm.MethodName) jdk_65_method_133_code (5 : Nat) (Option.some (Jvm.ClassFile.FieldType.array Jvm.ClassFile.FieldType.byte)), Jvm.Cond.code ({ cls := "java/util/Arrays", name := "checkLength", desc := "(II)V" } : Jvm.MethodName) jdk_65_method_131_code (2 : Nat) (Option.none : Option Jvm.ClassFile.FieldType), Jvm.Cond.code ({ cls := "java/lang/String", name := "<init>", desc := "([BB)V" } : Jvm.MethodName) jdk_42_method_151_code (3 : Nat) (Option.none : Option Jvm.ClassFile.FieldType), Jvm.Cond.code ({ cls := "java/lang/CharacterDataLatin1", name := "toLowerCase", desc := "(I)I" } : Jvm.MethodName) jdk_116_method_20_code (3 : Nat) (Option.some Jvm.ClassFile.FieldType.int), Jvm.Cond.code ({ cls := "java/lang/String", name := "charAt", desc := "(I)C" } : Jvm.MethodName) jdk_42_method_56_code (2 : Nat) (Option.some Jvm.ClassFile.FieldType.char), Jvm.Cond.code ({ cls := "java/lang/StringLatin1", name := "charAt", desc := "([BI)C" } : Jvm.MethodName) jdk_43_method_2_code (2 : Nat) (Option.some Jvm.ClassFile.FieldType.char), Jvm.Cond.code ({ cls := "java/lang/String", name := "checkIndex", desc := "(II)V" } : Jvm.MethodName) jdk_42_method_155_code (2 : Nat) (Option.none : Option Jvm.ClassFile.FieldType), Jvm.Cond.code ({ cls := "jdk/internal/util/Preconditions", name := "checkIndex", desc := "(IILjava/util/function/BiFunction;)I" } : Jvm.MethodName) jdk_41_method_11_code (3 : Nat) (Option.some Jvm.ClassFile.FieldType.int), Jvm.Cond.code ({ cls := "com/example/prueba/prueba/MediaTypesMediaTypePinLaw", name := "lower", desc := "(C)C" } : Jvm.MethodName) method_3_code (1 : Nat) (Option.some Jvm.ClassFile.FieldType.char), Jvm.Cond.code ({ cls := "java/util/Locale", name := "getLanguage", desc := "()Ljava/lang/String;" } : Jvm.MethodName) jdk_2628_method_27_code (1 : Nat) (Option.some (Jvm.ClassFile.FieldType.object "java/lang/String")), Jvm.Cond.code ({ cls := "sun/util/locale/BaseLocale", name := "getLanguage", desc := "()Ljava/lang/String;" } : Jvm.MethodName) jdk_3003_method_5_code (1 : Nat) (Option.some (Jvm.ClassFile.FieldType.object "java/lang/String"))]
set_option maxRecDepth 65536 in
theorem codes_eq : words1.filter isCode = codes1 := rfl
theorem w_codes : ∀ c ∈ words1.filter isCode, c.before args0 about1 = true := by
  rw [codes_eq]
  intro c hc
  simp only [codes1, List.mem_cons, List.not_mem_nil, or_false] at hc
  rcases hc with rfl | rfl | rfl | rfl | rfl | rfl | rfl | rfl | rfl | rfl | rfl | rfl | rfl | rfl | rfl | rfl | rfl | rfl | rfl | rfl | rfl | rfl | rfl | rfl | rfl | rfl | rfl | rfl | rfl | rfl | rfl | rfl | rfl | rfl | rfl | rfl | rfl | rfl | rfl | rfl
  · exact w_c0
  · exact w_c1
  · exact w_c2
  · exact w_c3
  · exact w_c4
  · exact w_c5
  · exact w_c6
  · exact w_c7
  · exact w_c8
  · exact w_c9
  · exact w_c10
  · exact w_c11
  · exact w_c12
  · exact w_c13
  · exact w_c14
  · exact w_c15
  · exact w_c16
  · exact w_c17
  · exact w_c18
  · exact w_c19
  · exact w_c20
  · exact w_c21
  · exact w_c22
  · exact w_c23
  · exact w_c24
  · exact w_c25
  · exact w_c26
  · exact w_c27
  · exact w_c28
  · exact w_c29
  · exact w_c30
  · exact w_c31
  · exact w_c32
  · exact w_c33
  · exact w_c34
  · exact w_c35
  · exact w_c36
  · exact w_c37
  · exact w_c38
  · exact w_c39
set_option maxRecDepth 65536 in
theorem w_t1 : (words1.take 24).all (fun c => isCode c || c.before args0 about1) = true := by decide +kernel
set_option maxRecDepth 65536 in
theorem w_t2 : ((words1.drop 24).take 24).all (fun c => isCode c || c.before args0 about1) = true := by decide +kernel
set_option maxRecDepth 65536 in
theorem w_t3 : (((words1.drop 24).drop 24).take 24).all (fun c => isCode c || c.before args0 about1) = true := by decide +kernel
set_option maxRecDepth 65536 in
theorem w_t4 : ((((words1.drop 24).drop 24).drop 24).take 24).all (fun c => isCode c || c.before args0 about1) = true := by decide +kernel
set_option maxRecDepth 65536 in
theorem w_t5 : (((((words1.drop 24).drop 24).drop 24).drop 24).take 24).all (fun c => isCode c || c.before args0 about1) = true := by decide +kernel
set_option maxRecDepth 65536 in
theorem w_t6 : ((((((words1.drop 24).drop 24).drop 24).drop 24).drop 24).take 24).all (fun c => isCode c || c.before args0 about1) = true := by decide +kernel
set_option maxRecDepth 65536 in
theorem w_t7 : (((((((words1.drop 24).drop 24).drop 24).drop 24).drop 24).drop 24).take 24).all (fun c => isCode c || c.before args0 about1) = true := by decide +kernel
set_option maxRecDepth 65536 in
theorem w_t8 : (((((((words1.drop 24).drop 24).drop 24).drop 24).drop 24).drop 24).drop 24).all (fun c => isCode c || c.before args0 about1) = true := by decide +kernel
theorem w_tables : (allAtoms (Jvm.Cond.code x code maxLocals ret :: tables_1)).before args0 about1 = true := by
  rw [allAtoms_all]
  show words1.all (fun c => c.before args0 about1) = true
  refine all_split ?_ w_codes
  rw [← List.take_append_drop 24 words1, List.all_append, w_t1, ← List.take_append_drop 24 (words1.drop 24), List.all_append, w_t2, ← List.take_append_drop 24 ((words1.drop 24).drop 24), List.all_append, w_t3, ← List.take_append_drop 24 (((words1.drop 24).drop 24).drop 24), List.all_append, w_t4, ← List.take_append_drop 24 ((((words1.drop 24).drop 24).drop 24).drop 24), List.all_append, w_t5, ← List.take_append_drop 24 (((((words1.drop 24).drop 24).drop 24).drop 24).drop 24), List.all_append, w_t6, ← List.take_append_drop 24 ((((((words1.drop 24).drop 24).drop 24).drop 24).drop 24).drop 24), List.all_append, w_t7, w_t8]
  rfl
set_option maxRecDepth 65536 in
theorem w_rest : rest_1_c.before args0 about1 = true := by decide +kernel
set_option maxRecDepth 65536 in
theorem w_case : (Jvm.Cond.and given_1 narrow_1).before args0 about1 = true := by decide +kernel
set_option maxRecDepth 65536 in
theorem w_consts : constsHeld consts_1 about1 := Jvm.Lit.constsHeldB_iff.mp (by decide +kernel)
theorem w_applies : (headSpec (Jvm.Cond.code x code maxLocals ret :: tables_1) room_1).applies x e0.platform about1 = true :=
  (Spec.applies_iff w_frames).mpr ⟨w_running, w_runnable, w_alone, w_named, w_hears, w_ripe, w_room, w_tables⟩
theorem atStart : AtStart classFile x code maxLocals ret World_1 tables_1 room_1 Calls_1 rest_1 Pre_1 launch0 p0 e0 about1 theMethod args0 below0 :=
  ⟨lists_1, trivial, launch0.admits_env _ _ _, launch0.least_env, fairChoices_fair.cas, fairChoices_fair.clock, w_frames, w_args, w_heap, w_applies, ⟨w_consts, trivial⟩, w_rest, w_case⟩
end start1
theorem witness_1 : WitnessClaimed_1 := ⟨start1.p0, start1.e0, start1.about1, start1.theMethod, start1.args0, start1.below0, start1.atStart⟩
end Jvm.Pilot.@@N@@
