import JvmDerived
import JvmDerived.Pilot.@@N@@Statement
import JvmDerived.Pilot.@@N@@Code
set_option linter.unusedVariables false
set_option linter.unusedSimpArgs false
namespace Jvm.RoadKit
open Sem ClassFile Op Lib Jvm.Stand Jvm.Free Jvm.LawKit
section New
variable {p : Program} {l : Launch} {e : Env} {R : Room} {s : State} {m : MethodId} {args : Array Value} {below : List Frame} {meth : Method} {c : Code} {T : State} {locs : List Loc} {cells slots : Nat}
theorem retI (X : Stand p l e R s m args below meth c T locs cells slots) (hx : p.tables.exec = Jvm.exec) {pc : Nat} {Ls : Array Slot} {z : Int32} {rest : List Value} (hret : meth.sig.returnType = some .int) (hd : decode c.code pc = .ok (.ireturn, 1)) {fs : List Frame}
    (hl : ∀ (f : JFrame) (acts : List Action), f.method = m → f.locked = none → f.entered = [] → (doReturn e (T.setTop f) acts (some (.int z))).1 = T.setFrames fs) : Steps p.tables e below (T.setTop (mkF m pc Ls (.int z :: rest))) (T.setFrames fs) :=
  retOut X hx hret rfl (Or.inl ⟨rfl, Or.inl rfl, z, rfl⟩) hd hl
end New
end Jvm.RoadKit
/- laws to paste: Road.backV (cut by pick.py; bodies as the Statement names them) -/
namespace Jvm.Pilot.@@N@@
namespace StrChars
open Jvm Sem ClassFile Op Lib Jvm.Stand Jvm.Free.XT Jvm.Free.ALB Jvm.Free.JM Jvm.Free
open Jvm.Lib.Cold (StaticIs)
/-- a char array whose places are chars -/
def Ch (a : Addr) (A : Cell) (U : State) : Prop := Arr .char a A U ∧ Typed .char A
theorem Ch.mv {a : Addr} {A : Cell} {U U' : State} (h : Ch a A U) (hal : U.vm.Alike U'.vm) (hh : U'.heap = U.heap) : Ch a A U' := ⟨h.1.mv hal hh, h.2⟩
theorem Ch.keep {a : Addr} {A : Cell} {U U' : State} (h : Ch a A U) (hal : U.vm.Alike U'.vm) (hk : U'.heap[a]? = some A) : Ch a A U' := ⟨h.1.keep hal hk, h.2⟩
/-- what place i of a char[]'s cell holds -/
def cv (A : Cell) (i : Nat) : Int32 := match A.slots[i]? with | some (.int x) => x | _ => 0
theorem Ch.get {a : Addr} {A : Cell} {U : State} (h : Ch a A U) {i : Nat} (hi : i < A.slots.size) : A.slots[i]? = some (.int (cv A i)) := by
  have e := Array.getElem?_eq_getElem hi
  have f := h.2 i _ e
  unfold cv; rw [e]
  generalize A.slots[i] = v at f
  cases v <;> simp [fits] at f ⊢
/-- the byte that i2b leaves of a char -/
def lo8 (x : Int32) : Int32 := x.toInt8.toInt32
theorem fits_lo8 (y : Int32) : fits .byte (.int (lo8 y)) = true := by
  have h1 := y.toInt8.le_toInt
  have h2 := y.toInt8.toInt_lt
  simp only [lo8, fits, Bool.and_eq_true, decide_eq_true_eq, Int32.le_iff_toInt_le, Int8.toInt_toInt32, show (-128 : Int32).toInt = -128 from by decide, show (127 : Int32).toInt = 127 from by decide]
  omega
/-- A' is A but that each place j of lo .. hi - 1 holds f j -/
def Laid (A A' : Cell) (lo hi : Nat) (f : Nat → Value) : Prop := A'.cls = A.cls ∧ A'.vm = A.vm ∧ A'.slots.size = A.slots.size ∧ ∀ i, A'.slots[i]? = if lo ≤ i ∧ i < hi then some (f i) else A.slots[i]?
theorem Laid.zero (A : Cell) (lo : Nat) (f : Nat → Value) : Laid A A lo (lo + 0) f := ⟨rfl, rfl, rfl, fun i => by rw [if_neg (by omega)]⟩
theorem Laid.step {A Ak : Cell} {lo k : Nat} {f : Nat → Value} {v : Value} (h : Laid A Ak lo k f) (hlo : lo ≤ k) (hk : k < Ak.slots.size) (hv : v = f k) : Laid A (Ak.setSlot k v) lo (k + 1) f := by
  refine ⟨h.1, h.2.1, by simpa [Cell.setSlot] using h.2.2.1, fun i => ?_⟩
  by_cases e : k = i
  · subst e; rw [Cell.slots_setSlot_self v hk, if_pos (by omega), hv]
  · rw [Cell.slots_setSlot_ne v e, h.2.2.2 i]
    by_cases q : lo ≤ i ∧ i < k
    · rw [if_pos q, if_pos (by omega)]
    · rw [if_neg q, if_neg (by omega)]
def U16 : String := "java/lang/StringUTF16"
namespace Cmp5
def yN : MethodName := ⟨"java/lang/StringUTF16", "compress", "([CI[BII)I"⟩
abbrev yB : ByteArray := jdk_52_method_21_code
theorem d0 : decode yB 0 = .ok (.iconst 0, 1) := by decide +kernel
theorem d1 : decode yB 1 = .ok (.istore 5, 2) := by decide +kernel
theorem d3 : decode yB 3 = .ok (.iload 5, 2) := by decide +kernel
theorem d5 : decode yB 5 = .ok (.iload 4, 2) := by decide +kernel
theorem d7 : decode yB 7 = .ok (.if_icmp (.ge) 37, 3) := by decide +kernel
theorem d10 : decode yB 10 = .ok (.aload_n 0, 1) := by decide +kernel
theorem d11 : decode yB 11 = .ok (.iload_n 1, 1) := by decide +kernel
theorem d12 : decode yB 12 = .ok (.caload, 1) := by decide +kernel
theorem d13 : decode yB 13 = .ok (.istore 6, 2) := by decide +kernel
theorem d15 : decode yB 15 = .ok (.iload 6, 2) := by decide +kernel
theorem d17 : decode yB 17 = .ok (.sipush 255, 3) := by decide +kernel
theorem d20 : decode yB 20 = .ok (.if_icmp (.le) 6, 3) := by decide +kernel
theorem d26 : decode yB 26 = .ok (.aload_n 2, 1) := by decide +kernel
theorem d27 : decode yB 27 = .ok (.iload_n 3, 1) := by decide +kernel
theorem d28 : decode yB 28 = .ok (.iload 6, 2) := by decide +kernel
theorem d30 : decode yB 30 = .ok (.i2b, 1) := by decide +kernel
theorem d31 : decode yB 31 = .ok (.bastore, 1) := by decide +kernel
theorem d32 : decode yB 32 = .ok (.iinc 1 1, 3) := by decide +kernel
theorem d35 : decode yB 35 = .ok (.iinc 3 1, 3) := by decide +kernel
theorem d38 : decode yB 38 = .ok (.iinc 5 1, 3) := by decide +kernel
theorem d41 : decode yB 41 = .ok (.goto (-38), 3) := by decide +kernel
theorem d44 : decode yB 44 = .ok (.iload 4, 2) := by decide +kernel
theorem d46 : decode yB 46 = .ok (.ireturn, 1) := by decide +kernel
def site : List Cond := []
def tab : Cond := tabOf yN yB 7 (some .int) site
def P (b : Addr) (A : Cell) (d : Addr) (B : Cell) (o q len : Nat) (args : Array Value) (s : State) : Prop := args = #[.ref b, .int (Int32.ofNat o), .ref d, .int (Int32.ofNat q), .int (Int32.ofNat len)] ∧ Ch b A s ∧ Arr .byte d B s ∧ b ≠ d ∧ o + len ≤ A.slots.size ∧ q + len ≤ B.slots.size ∧ ∀ i, i < len → ¬ 255 < cv A (o + i)
def E (b : Addr) (A : Cell) (d : Addr) (B : Cell) (o q len : Nat) (r : Option Value) (s u : State) : Prop := r = some (.int (Int32.ofNat len)) ∧ ∃ B', Put d B' s u ∧ Laid B B' q (q + len) (fun j => Value.int (lo8 (cv A (o + (j - q)))))
/-- no char of the range above 255: len; the places written hold each char's low byte -/
theorem law (l : Launch) (b : Addr) (A : Cell) (d : Addr) (B : Cell) (o q len : Nat) : Law l yN 5 5 0 0 yB 7 (some .int) site (P b A d B o q len) (E b A d B o q len) (copyLocs d q len) 0 0 := by
  refine Law.of_walk (plainFor_of_name (by decide +kernel)) (by decide +kernel) (by decide +kernel) (by decide) (fun _ _ h => by rw [h.1]; rfl) (fun _ U U' hal hh h => ⟨h.1, h.2.1.mv hal hh, h.2.2.1.mv hal hh, h.2.2.2⟩) (fun r U U' V V' h1 hal h2 h => ⟨h.1, h.2.elim fun B' q => ⟨B', q.1.mv h1 h2, q.2⟩⟩) ?_
  intro p e s m args below meth c s₁ X0 hexec hbytes hml hret hlk hnm hown hh0 W hP
  obtain ⟨rfl, hA, hB, hne, l1, l2, hp⟩ := hP
  have c1 : Steps p.tables e below (s₁.setTop (entryFrame m #[.ref b, .int (Int32.ofNat o), .ref d, .int (Int32.ofNat q), .int (Int32.ofNat len)] 7)) (s₁.setTop (mkF m 0 #[.val (.ref b), .val (.int (Int32.ofNat o)), .val (.ref d), .val (.int (Int32.ofNat q)), .val (.int (Int32.ofNat len)), .unset, .unset] [])) := entry rfl
  have hA0 := hA.1.mv X0.warmed.alike hh0
  have hB0 := hB.mv X0.warmed.alike hh0
  have a31 := hA.1.2.2.2
  have c2 : Steps p.tables e below (s₁.setTop (entryFrame m #[.ref b, .int (Int32.ofNat o), .ref d, .int (Int32.ofNat q), .int (Int32.ofNat len)] 7)) (s₁.setTop (mkF m 3 #[.val (.ref b), .val (.int (Int32.ofNat o)), .val (.ref d), .val (.int (Int32.ofNat q)), .val (.int (Int32.ofNat len)), .val (.int 0), .unset] [])) := c1.trans (by
    refine iconstV X0.here hexec rfl 0 (hb hbytes d0) (by decide) ?_
    refine XS.istore X0.here hexec rfl (hb hbytes d1) rfl rfl ?_
    exact Steps.refl _)
  have loop : ∀ (r i : Nat), i + r = len → ∀ (z : Slot), (z = .unset ∨ ∃ w, z = .val w ∧ w.category = 1) → ∀ (Tl : State) (Bk : Cell), Stand p l e { frames := 0, locals := 0, cells := 0, slots := 0 } s m #[.ref b, .int (Int32.ofNat o), .ref d, .int (Int32.ofNat q), .int (Int32.ofNat len)] below meth c Tl ([] ++ copyLocs d q i) 0 0 → Put d Bk s₁ Tl → Laid B Bk q (q + i) (fun j => Value.int (lo8 (cv A (o + (j - q))))) →
      Steps p.tables e below (s₁.setTop (entryFrame m #[.ref b, .int (Int32.ofNat o), .ref d, .int (Int32.ofNat q), .int (Int32.ofNat len)] 7)) (Tl.setTop (mkF m 3 #[.val (.ref b), .val (.int (Int32.ofNat (o + i))), .val (.ref d), .val (.int (Int32.ofNat (q + i))), .val (.int (Int32.ofNat len)), .val (.int (Int32.ofNat i)), z] [])) → ∃ (T' : State) (B' : Cell) (z' : Slot), Stand p l e { frames := 0, locals := 0, cells := 0, slots := 0 } s m #[.ref b, .int (Int32.ofNat o), .ref d, .int (Int32.ofNat q), .int (Int32.ofNat len)] below meth c T' ([] ++ copyLocs d q len) 0 0 ∧ Put d B' s₁ T' ∧ Laid B B' q (q + len) (fun j => Value.int (lo8 (cv A (o + (j - q))))) ∧
      Steps p.tables e below (s₁.setTop (entryFrame m #[.ref b, .int (Int32.ofNat o), .ref d, .int (Int32.ofNat q), .int (Int32.ofNat len)] 7)) (T'.setTop (mkF m 3 #[.val (.ref b), .val (.int (Int32.ofNat (o + len))), .val (.ref d), .val (.int (Int32.ofNat (q + len))), .val (.int (Int32.ofNat len)), .val (.int (Int32.ofNat len)), z'] [])) := by
    intro r
    induction r with
    | zero =>
      intro i hi z hz Tl Bk Xl pl fl cl
      have hil : i = len := by omega
      rw [hil] at Xl fl cl
      exact ⟨Tl, Bk, z, Xl, pl, fl, cl⟩
    | succ r ih =>
      intro i hi z hz Tl Bk Xl pl fl cl
      have all := X0.warmed.alike.symm.trans Xl.warmed.alike
      have hAl := hA0.keep all (pl.other hne hA0.1)
      have hBk := hB0.like all pl.1 fl.1 fl.2.1 fl.2.2.1
      have hlt : q + i < Bk.slots.size := by rw [fl.2.2.1]; omega
      have c3 : Steps p.tables e below (s₁.setTop (entryFrame m #[.ref b, .int (Int32.ofNat o), .ref d, .int (Int32.ofNat q), .int (Int32.ofNat len)] 7)) (Tl.setTop (mkF m 12 #[.val (.ref b), .val (.int (Int32.ofNat (o + i))), .val (.ref d), .val (.int (Int32.ofNat (q + i))), .val (.int (Int32.ofNat len)), .val (.int (Int32.ofNat i)), z] [.int (Int32.ofNat (o + i)), .ref b])) := cl.trans (by
        refine XS.iload Xl.here hexec rfl (hb hbytes d3) rfl ?_
        refine XS.iload Xl.here hexec rfl (hb hbytes d5) rfl ?_
        refine XS.icmpNo Xl.here hexec rfl (hb hbytes d7) rfl (ii_ge_f (lt32 (by omega) (by omega))) ?_
        refine XS.aloadN Xl.here hexec rfl (hb hbytes d10) rfl rfl ?_
        refine XS.iloadN Xl.here hexec rfl (hb hbytes d11) rfl ?_
        exact Steps.refl _)
      have c4 : Steps p.tables e below (s₁.setTop (entryFrame m #[.ref b, .int (Int32.ofNat o), .ref d, .int (Int32.ofNat q), .int (Int32.ofNat len)] 7)) (Tl.setTop (mkF m 13 #[.val (.ref b), .val (.int (Int32.ofNat (o + i))), .val (.ref d), .val (.int (Int32.ofNat (q + i))), .val (.int (Int32.ofNat len)), .val (.int (Int32.ofNat i)), z] [.int (cv A (o + i))])) := c3.trans (by
        refine Xl.aget hexec hAl rfl (hA.get (i := o + i) (by omega)) rfl rfl (hb hbytes d12) ?_
        exact Steps.refl _)
      have c5 : Steps p.tables e below (s₁.setTop (entryFrame m #[.ref b, .int (Int32.ofNat o), .ref d, .int (Int32.ofNat q), .int (Int32.ofNat len)] 7)) (Tl.setTop (mkF m 15 #[.val (.ref b), .val (.int (Int32.ofNat (o + i))), .val (.ref d), .val (.int (Int32.ofNat (q + i))), .val (.int (Int32.ofNat len)), .val (.int (Int32.ofNat i)), .val (.int (cv A (o + i)))] [])) := c4.trans (by
        refine XS.istoreS Xl.here hexec rfl (hb hbytes d13) rfl rfl hz ?_
        exact Steps.refl _)
      have c6 : Steps p.tables e below (s₁.setTop (entryFrame m #[.ref b, .int (Int32.ofNat o), .ref d, .int (Int32.ofNat q), .int (Int32.ofNat len)] 7)) (Tl.setTop (mkF m 31 #[.val (.ref b), .val (.int (Int32.ofNat (o + i))), .val (.ref d), .val (.int (Int32.ofNat (q + i))), .val (.int (Int32.ofNat len)), .val (.int (Int32.ofNat i)), .val (.int (cv A (o + i)))] [.int (lo8 (cv A (o + i))), .int (Int32.ofNat (q + i)), .ref d])) := c5.trans (by
        refine XS.iload Xl.here hexec rfl (hb hbytes d15) rfl ?_
        refine sipushV Xl.here hexec rfl 255 (hb hbytes d17) (by decide) ?_
        refine XS.icmpYes Xl.here hexec rfl (pc0 := 20) rfl (hb hbytes d20) rfl (ii_le_t (hp i (by omega))) (by decide) rfl ?_
        refine XS.aloadN Xl.here hexec rfl (hb hbytes d26) rfl rfl ?_
        refine XS.iloadN Xl.here hexec rfl (hb hbytes d27) rfl ?_
        refine XS.iload Xl.here hexec rfl (hb hbytes d28) rfl ?_
        refine i2b Xl.here hexec rfl (hb hbytes d30) rfl ?_
        exact Steps.refl _)
      obtain ⟨T7, X7, p7, st7⟩ := Xl.aput hexec hBk rfl hlt rfl (fits_lo8 (cv A (o + i))) (g := (mkF m 31 #[.val (.ref b), .val (.int (Int32.ofNat (o + i))), .val (.ref d), .val (.int (Int32.ofNat (q + i))), .val (.int (Int32.ofNat len)), .val (.int (Int32.ofNat i)), .val (.int (cv A (o + i)))] [.int (lo8 (cv A (o + i))), .int (Int32.ofNat (q + i)), .ref d])) rfl (rest := []) rfl (hb hbytes d31)
      have c8 : Steps p.tables e below (s₁.setTop (entryFrame m #[.ref b, .int (Int32.ofNat o), .ref d, .int (Int32.ofNat q), .int (Int32.ofNat len)] 7)) (T7.setTop (mkF m 32 #[.val (.ref b), .val (.int (Int32.ofNat (o + i))), .val (.ref d), .val (.int (Int32.ofNat (q + i))), .val (.int (Int32.ofNat len)), .val (.int (Int32.ofNat i)), .val (.int (cv A (o + i)))] [])) := c6.trans (st7 _ (Steps.refl _))
      have c9 : Steps p.tables e below (s₁.setTop (entryFrame m #[.ref b, .int (Int32.ofNat o), .ref d, .int (Int32.ofNat q), .int (Int32.ofNat len)] 7)) (T7.setTop (mkF m 3 #[.val (.ref b), .val (.int (Int32.ofNat (o + i) + 1)), .val (.ref d), .val (.int (Int32.ofNat (q + i) + 1)), .val (.int (Int32.ofNat len)), .val (.int (Int32.ofNat i + 1)), .val (.int (cv A (o + i)))] [])) := c8.trans (by
        refine iincV X7.here hexec rfl 1 (hb hbytes d32) (by decide) rfl rfl ?_
        refine iincV X7.here hexec rfl 1 (hb hbytes d35) (by decide) rfl rfl ?_
        refine iincV X7.here hexec rfl 1 (hb hbytes d38) (by decide) rfl rfl ?_
        refine XS.goto X7.here hexec rfl (pc0 := 41) rfl (hb hbytes d41) (by decide) rfl ?_
        exact Steps.refl _)
      have c10 : Steps p.tables e below (s₁.setTop (entryFrame m #[.ref b, .int (Int32.ofNat o), .ref d, .int (Int32.ofNat q), .int (Int32.ofNat len)] 7)) (T7.setTop (mkF m 3 #[.val (.ref b), .val (.int (Int32.ofNat (o + (i + 1)))), .val (.ref d), .val (.int (Int32.ofNat (q + (i + 1)))), .val (.int (Int32.ofNat len)), .val (.int (Int32.ofNat (i + 1))), .val (.int (cv A (o + i)))] [])) := by
        have := c9
        rw [succ32, succ32, succ32] at this
        exact this
      exact ih (i + 1) (by omega) _ (Or.inr ⟨_, rfl, rfl⟩) T7 _ (by rw [copyLocs_step, ← List.append_assoc]; exact X7) (pl.trans p7) (fl.step (by omega) hlt (by simp)) c10
  obtain ⟨T9, B9, z9, X9, p9, f9, g9⟩ := loop len 0 (by omega) .unset (Or.inl rfl) s₁ B (by simpa [copyLocs] using X0) ⟨hB0.1, fun _ _ => rfl, rfl⟩ (Laid.zero _ _ _) c2
  have c11 : Steps p.tables e below (s₁.setTop (entryFrame m #[.ref b, .int (Int32.ofNat o), .ref d, .int (Int32.ofNat q), .int (Int32.ofNat len)] 7)) (T9.setTop (mkF m 46 #[.val (.ref b), .val (.int (Int32.ofNat (o + len))), .val (.ref d), .val (.int (Int32.ofNat (q + len))), .val (.int (Int32.ofNat len)), .val (.int (Int32.ofNat len)), z9] [.int (Int32.ofNat len)])) := g9.trans (by
    refine XS.iload X9.here hexec rfl (hb hbytes d3) rfl ?_
    refine XS.iload X9.here hexec rfl (hb hbytes d5) rfl ?_
    refine XS.icmpYes X9.here hexec rfl (pc0 := 7) rfl (hb hbytes d7) rfl (ii_ge_t (nlt32 (by omega) (Nat.le_refl _))) (by decide) rfl ?_
    refine XS.iload X9.here hexec rfl (hb hbytes d44) rfl ?_
    exact Steps.refl _)
  exact ⟨T9, some (.int (Int32.ofNat len)), _, _, _, X9, by simp, rfl, rfl, (fun h => by cases h), ⟨rfl, B9, p9.from hh0, f9⟩, fun fs hl => c11.trans (X9.ireturnOut hexec hret rfl (Or.inl rfl) (hb hbytes d46) hl)⟩
end Cmp5
namespace Cmp3
def yN : MethodName := ⟨"java/lang/StringUTF16", "compress", "([CII)[B"⟩
abbrev yB : ByteArray := jdk_52_method_16_code
theorem d0 : decode yB 0 = .ok (.iload_n 2, 1) := by decide +kernel
theorem d1 : decode yB 1 = .ok (.newarray .byte, 2) := by decide +kernel
theorem d3 : decode yB 3 = .ok (.astore_n 3, 1) := by decide +kernel
theorem d4 : decode yB 4 = .ok (.aload_n 0, 1) := by decide +kernel
theorem d5 : decode yB 5 = .ok (.iload_n 1, 1) := by decide +kernel
theorem d6 : decode yB 6 = .ok (.aload_n 3, 1) := by decide +kernel
theorem d7 : decode yB 7 = .ok (.iconst 0, 1) := by decide +kernel
theorem d8 : decode yB 8 = .ok (.iload_n 2, 1) := by decide +kernel
theorem d9 : decode yB 9 = .ok (.invokestatic 115, 3) := by decide +kernel
theorem d12 : decode yB 12 = .ok (.istore 4, 2) := by decide +kernel
theorem d14 : decode yB 14 = .ok (.iload 4, 2) := by decide +kernel
theorem d16 : decode yB 16 = .ok (.iload_n 2, 1) := by decide +kernel
theorem d17 : decode yB 17 = .ok (.if_icmp (.eq) 40, 3) := by decide +kernel
theorem d57 : decode yB 57 = .ok (.aload_n 3, 1) := by decide +kernel
theorem d58 : decode yB 58 = .ok (.areturn, 1) := by decide +kernel
def site : List Cond := [.arrayClass .byte, Cmp5.tab] ++ staticW U16 115 Cmp5.yN
def tab : Cond := tabOf yN yB 6 (some (.array .byte)) site
def P (b : Addr) (A : Cell) (o len : Nat) (args : Array Value) (s : State) : Prop := args = #[.ref b, .int (Int32.ofNat o), .int (Int32.ofNat len)] ∧ Ch b A s ∧ o + len ≤ A.slots.size ∧ len ≤ 536870912 ∧ ∀ i, i < len → ¬ 255 < cv A (o + i)
def E (b : Addr) (A : Cell) (o len : Nat) (r : Option Value) (s u : State) : Prop := NewArr .byte "[B" len (fun j => .int (lo8 (cv A (o + j)))) r s u ∧ u.heap.size = s.heap.size + 1
/-- no char of the range above 255: a new byte[] of their low bytes -/
theorem law (l : Launch) (b : Addr) (A : Cell) (o len : Nat) : Law l yN 3 3 1 18 yB 6 (some (.array .byte)) site (P b A o len) (E b A o len) [] 1 len := by
  refine Law.of_walk (plainFor_of_name (by decide +kernel)) (by decide +kernel) (by decide +kernel) (by decide) (fun _ _ h => by rw [h.1]; rfl) (fun _ U U' hal hh h => ⟨h.1, h.2.1.mv hal hh, h.2.2⟩) (fun r U U' V V' h1 hal h2 h => ⟨NewArr.mv r U U' V V' h1 hal h2 h.1, by rw [h1, h2]; exact h.2⟩) ?_
  intro p e s m args below meth c s₁ X0 hexec hbytes hml hret hlk hnm hown hh0 W hP
  obtain ⟨rfl, hA, l1, l2, hp⟩ := hP
  have a31 := hA.1.2.2.2
  have c1 : Steps p.tables e below (s₁.setTop (entryFrame m #[.ref b, .int (Int32.ofNat o), .int (Int32.ofNat len)] 6)) (s₁.setTop (mkF m 0 #[.val (.ref b), .val (.int (Int32.ofNat o)), .val (.int (Int32.ofNat len)), .unset, .unset, .unset] [])) := entry rfl
  have c2 : Steps p.tables e below (s₁.setTop (entryFrame m #[.ref b, .int (Int32.ofNat o), .int (Int32.ofNat len)] 6)) (s₁.setTop (mkF m 1 #[.val (.ref b), .val (.int (Int32.ofNat o)), .val (.int (Int32.ofNat len)), .unset, .unset, .unset] [.int (Int32.ofNat len)])) := c1.trans (by
    refine XS.iloadN X0.here hexec rfl (hb hbytes d0) rfl ?_
    exact Steps.refl _)
  obtain ⟨T3, B3, X3, ba3, bs3, bv3, bh3, bf3, st3⟩ := X0.anew hexec (atype := .byte) (wk W (.arrayClass .byte)) rfl (by show len * 1 ≤ _; omega) (by omega) (g := (mkF m 1 #[.val (.ref b), .val (.int (Int32.ofNat o)), .val (.int (Int32.ofNat len)), .unset, .unset, .unset] [.int (Int32.ofNat len)])) rfl (hb hbytes d1) (rest := []) rfl (Nat.le_refl _) (by show 0 + len ≤ len; omega)
  rw [hh0] at ba3 st3
  have kp3 : XT.Kept s T3 := (XT.Kept.of_eq hh0).push bh3
  have hA3 := hA.keep X3.warmed.alike (kp3 _ _ hA.1.1)
  have hne : b ≠ s.heap.size := hA.1.ne
  have c4 : Steps p.tables e below (s₁.setTop (entryFrame m #[.ref b, .int (Int32.ofNat o), .int (Int32.ofNat len)] 6)) (T3.setTop (mkF m 3 #[.val (.ref b), .val (.int (Int32.ofNat o)), .val (.int (Int32.ofNat len)), .unset, .unset, .unset] [.ref s.heap.size])) := c2.trans (st3 _ (Steps.refl _))
  have c5 : Steps p.tables e below (s₁.setTop (entryFrame m #[.ref b, .int (Int32.ofNat o), .int (Int32.ofNat len)] 6)) (T3.setTop (mkF m 9 #[.val (.ref b), .val (.int (Int32.ofNat o)), .val (.int (Int32.ofNat len)), .val (.ref s.heap.size), .unset, .unset] [.int (Int32.ofNat len), .int 0, .ref s.heap.size, .int (Int32.ofNat o), .ref b])) := c4.trans (by
    refine XS.astoreN X3.here hexec rfl (hb hbytes d3) rfl rfl rfl ?_
    refine XS.aloadN X3.here hexec rfl (hb hbytes d4) rfl rfl ?_
    refine XS.iloadN X3.here hexec rfl (hb hbytes d5) rfl ?_
    refine XS.aloadN X3.here hexec rfl (hb hbytes d6) rfl rfl ?_
    refine iconstV X3.here hexec rfl 0 (hb hbytes d7) (by decide) ?_
    refine XS.iloadN X3.here hexec rfl (hb hbytes d8) rfl ?_
    exact Steps.refl _)
  obtain ⟨v6, T6, X6, E6, g6⟩ := X3.callS hexec (Cmp5.law l b A s.heap.size B3 o 0 len) hown (wks W (staticW U16 115 Cmp5.yN)) (wk W Cmp5.tab) (W := 0) (Nat.le_of_ble_eq_true rfl) (Nat.le_of_ble_eq_true rfl) (Nat.le_refl _) (by show 0 + len + 0 ≤ len; omega) (g := (mkF m 9 #[.val (.ref b), .val (.int (Int32.ofNat o)), .val (.int (Int32.ofNat len)), .val (.ref s.heap.size), .unset, .unset] [.int (Int32.ofNat len), .int (Int32.ofNat 0), .ref s.heap.size, .int (Int32.ofNat o), .ref b])) rfl (by rw [hml]; rfl) c5 (argsL := [.ref b, .int (Int32.ofNat o), .ref s.heap.size, .int (Int32.ofNat 0), .int (Int32.ofNat len)]) (rest := []) rfl rfl (by show 2 * 0 + 0 ≤ _; decide) (hb hbytes d9) (⟨rfl, hA3, ba3, hne, l1, by rw [bs3]; simp, hp⟩)
  obtain ⟨rfl, B6, p6, f6⟩ := E6
  have c7 : Steps p.tables e below (s₁.setTop (entryFrame m #[.ref b, .int (Int32.ofNat o), .int (Int32.ofNat len)] 6)) (T6.setTop (mkF m 12 #[.val (.ref b), .val (.int (Int32.ofNat o)), .val (.int (Int32.ofNat len)), .val (.ref s.heap.size), .unset, .unset] [.int (Int32.ofNat len)])) := g6
  have c8 : Steps p.tables e below (s₁.setTop (entryFrame m #[.ref b, .int (Int32.ofNat o), .int (Int32.ofNat len)] 6)) (T6.setTop (mkF m 58 #[.val (.ref b), .val (.int (Int32.ofNat o)), .val (.int (Int32.ofNat len)), .val (.ref s.heap.size), .val (.int (Int32.ofNat len)), .unset] [.ref s.heap.size])) := c7.trans (by
    refine XS.istore X6.here hexec rfl (hb hbytes d12) rfl rfl ?_
    refine XS.iload X6.here hexec rfl (hb hbytes d14) rfl ?_
    refine XS.iloadN X6.here hexec rfl (hb hbytes d16) rfl ?_
    refine XS.icmpYes X6.here hexec rfl (pc0 := 17) rfl (hb hbytes d17) rfl (ii_eq_t rfl) (by decide) rfl ?_
    refine XS.aloadN X6.here hexec rfl (hb hbytes d57) rfl rfl ?_
    exact Steps.refl _)
  have X8 := X6.wide (L' := []) (cells' := 1) (slots' := len) (fun x hx hlt => by
    simp only [List.nil_append, copyLocs, List.mem_map, List.mem_range] at hx
    obtain ⟨i, -, rfl⟩ := hx
    exact absurd hlt (Nat.lt_irrefl _)) (Nat.le_refl _) (by omega)
  exact ⟨T6, some (.ref s.heap.size), _, _, _, X8, rfl, rfl, rfl, (fun h => by cases h), ⟨⟨rfl, B6, ba3.like (X3.warmed.alike.symm.trans X6.warmed.alike) p6.1 f6.1 f6.2.1 f6.2.2.1, f6.2.1.trans bv3, by rw [X6.warmed.alike.findClass, f6.1]; exact bf3, by rw [f6.2.2.1, bs3]; simp, fun j hj => by rw [f6.2.2.2 j, if_pos (by omega)]; rfl, kp3.put p6 (Nat.le_refl _)⟩, by rw [p6.2.2, bh3, hh0]; simp⟩, fun fs hl => c8.trans (X8.areturnOut hexec rfl hret rfl (hb hbytes d58) hl)⟩
end Cmp3
namespace CodL
def yN : MethodName := ⟨"java/lang/StringUTF16", "coderFromArrayLen", "([BI)B"⟩
abbrev yB : ByteArray := jdk_52_method_15_code
theorem d0 : decode yB 0 = .ok (.iload_n 1, 1) := by decide +kernel
theorem d1 : decode yB 1 = .ok (.aload_n 0, 1) := by decide +kernel
theorem d2 : decode yB 2 = .ok (.arraylength, 1) := by decide +kernel
theorem d3 : decode yB 3 = .ok (.isub, 1) := by decide +kernel
theorem d4 : decode yB 4 = .ok (.bipush 31, 2) := by decide +kernel
theorem d6 : decode yB 6 = .ok (.iushr, 1) := by decide +kernel
theorem d7 : decode yB 7 = .ok (.i2b, 1) := by decide +kernel
theorem d8 : decode yB 8 = .ok (.ireturn, 1) := by decide +kernel
def site : List Cond := []
def tab : Cond := tabOf yN yB 2 (some .byte) site
def P (d : Addr) (B : Cell) (args : Array Value) (s : State) : Prop := args = #[.ref d, .int (Int32.ofNat B.slots.size)] ∧ Arr .byte d B s
def E (r : Option Value) (s u : State) : Prop := XT.PureE (some (.int 0)) r s u
/-- an array as long as the number of chars: LATIN1 -/
theorem law (l : Launch) (d : Addr) (B : Cell) : Law l yN 2 2 0 0 yB 2 (some .byte) site (P d B) E [] 0 0 := by
  refine Law.of_walk (plainFor_of_name (by decide +kernel)) (by decide +kernel) (by decide +kernel) (by decide) (fun _ _ h => by rw [h.1]; rfl) (fun _ U U' hal hh h => ⟨h.1, h.2.mv hal hh⟩) (fun r U U' V V' h1 hal h2 h => XT.PureE.mv r U U' V V' h1 hal h2 h) ?_
  intro p e s m args below meth c s₁ X0 hexec hbytes hml hret hlk hnm hown hh0 W hP
  obtain ⟨rfl, hB⟩ := hP
  have hB0 := hB.mv X0.warmed.alike hh0
  have c1 : Steps p.tables e below (s₁.setTop (entryFrame m #[.ref d, .int (Int32.ofNat B.slots.size)] 2)) (s₁.setTop (mkF m 0 #[.val (.ref d), .val (.int (Int32.ofNat B.slots.size))] [])) := entry rfl
  have c2 : Steps p.tables e below (s₁.setTop (entryFrame m #[.ref d, .int (Int32.ofNat B.slots.size)] 2)) (s₁.setTop (mkF m 2 #[.val (.ref d), .val (.int (Int32.ofNat B.slots.size))] [.ref d, .int (Int32.ofNat B.slots.size)])) := c1.trans (by
    refine XS.iloadN X0.here hexec rfl (hb hbytes d0) rfl ?_
    refine XS.aloadN X0.here hexec rfl (hb hbytes d1) rfl rfl ?_
    exact Steps.refl _)
  have c3 : Steps p.tables e below (s₁.setTop (entryFrame m #[.ref d, .int (Int32.ofNat B.slots.size)] 2)) (s₁.setTop (mkF m 8 #[.val (.ref d), .val (.int (Int32.ofNat B.slots.size))] [.int (lo8 (ushr (Int32.ofNat B.slots.size - Int32.ofNat B.slots.size) 31))])) := c2.trans (by
    refine X0.alen hexec hB0 rfl rfl (hb hbytes d2) ?_
    refine XS.isub X0.here hexec rfl (hb hbytes d3) rfl ?_
    refine bipushV X0.here hexec rfl 31 (hb hbytes d4) (by decide) ?_
    refine iushr X0.here hexec rfl (hb hbytes d6) rfl ?_
    refine i2b X0.here hexec rfl (hb hbytes d7) rfl ?_
    exact Steps.refl _)
  have e0 : lo8 (ushr (Int32.ofNat B.slots.size - Int32.ofNat B.slots.size) 31) = 0 := by rw [Int32.sub_self]; decide
  rw [e0] at c3
  exact ⟨s₁, some (.int 0), _, _, _, X0, rfl, rfl, rfl, (fun h => by cases h), ⟨rfl, hh0⟩, fun fs hl => c3.trans (X0.ireturnOut hexec hret rfl (Or.inr (Or.inr (Or.inl rfl))) (hb hbytes d8) hl)⟩
end CodL
/-- the String at a is Latin-1 over a new byte[] (the heap's one new cell): the low bytes of the len chars of A from o on; every cell but a is kept -/
def Got (a : Addr) (D : Cell) (fV fC : Field) (A : Cell) (o len : Nat) (r : Option Value) (s u : State) : Prop := r = none ∧ ∃ D' V : Cell, Blank "java/lang/String" a D' u ∧ Same D D' [fV.slot, fC.slot] ∧ D'.slots[fV.slot]? = some (.ref s.heap.size) ∧ D'.slots[fC.slot]? = some (.int 0) ∧ Arr .byte s.heap.size V u ∧ V.vm = .none ∧ u.vm.findClass "[B" = some V.cls ∧ V.slots.size = len ∧ (∀ j, j < len → V.slots[j]? = some (.int (lo8 (cv A (o + j))))) ∧ (∀ (y : Addr) (c : Cell), y ≠ a → s.heap[y]? = some c → u.heap[y]? = some c) ∧ u.heap.size = s.heap.size + 1
theorem Got.mv {a : Addr} {D A : Cell} {fV fC : Field} {o len : Nat} : ∀ r (U U' V V' : State), U'.heap = U.heap → V.vm.Alike V'.vm → V'.heap = V.heap → Got a D fV fC A o len r U V → Got a D fV fC A o len r U' V' :=
  fun r U U' V V' h1 hal h2 ⟨e0, D', X, a1, a2, a3, a4, a5, a6, a7, a8, a9, a10, a11⟩ => ⟨e0, D', X, a1.mv hal h2, a2, by rw [h1]; exact a3, a4, by rw [h1]; exact a5.mv hal h2, a6, by rw [hal.findClass]; exact a7, a8, a9, by rw [h1, h2]; exact a10, by rw [h1, h2]; exact a11⟩
namespace New4
def yN : MethodName := ⟨"java/lang/String", "<init>", "([CIILjava/lang/Void;)V"⟩
abbrev yB : ByteArray := jdk_42_method_149_code
theorem d0 : decode yB 0 = .ok (.aload_n 0, 1) := by decide +kernel
theorem d1 : decode yB 1 = .ok (.invokespecial 1, 3) := by decide +kernel
theorem d4 : decode yB 4 = .ok (.iload_n 3, 1) := by decide +kernel
theorem d5 : decode yB 5 = .ok (.ifCond (.ne) 22, 3) := by decide +kernel
theorem d27 : decode yB 27 = .ok (.getstatic 38, 3) := by decide +kernel
theorem d30 : decode yB 30 = .ok (.ifCond (.eq) 28, 3) := by decide +kernel
theorem d33 : decode yB 33 = .ok (.aload_n 1, 1) := by decide +kernel
theorem d34 : decode yB 34 = .ok (.iload_n 2, 1) := by decide +kernel
theorem d35 : decode yB 35 = .ok (.iload_n 3, 1) := by decide +kernel
theorem d36 : decode yB 36 = .ok (.invokestatic 177, 3) := by decide +kernel
theorem d39 : decode yB 39 = .ok (.astore 5, 2) := by decide +kernel
theorem d41 : decode yB 41 = .ok (.aload_n 0, 1) := by decide +kernel
theorem d42 : decode yB 42 = .ok (.aload 5, 2) := by decide +kernel
theorem d44 : decode yB 44 = .ok (.iload_n 3, 1) := by decide +kernel
theorem d45 : decode yB 45 = .ok (.invokestatic 47, 3) := by decide +kernel
theorem d48 : decode yB 48 = .ok (.putfield 15, 3) := by decide +kernel
theorem d51 : decode yB 51 = .ok (.aload_n 0, 1) := by decide +kernel
theorem d52 : decode yB 52 = .ok (.aload 5, 2) := by decide +kernel
theorem d54 : decode yB 54 = .ok (.putfield 9, 3) := by decide +kernel
theorem d57 : decode yB 57 = .ok (.return_, 1) := by decide +kernel
def site : List Cond := [.fieldLink "java/lang/String" 38 "java/lang/String" "COMPACT_STRINGS" "Z", Cmp3.tab, CodL.tab, .laysFinal "java/lang/String" "java/lang/String" "value" "[B", .fieldLink "java/lang/String" 9 "java/lang/String" "value" "[B", .laysFinal "java/lang/String" "java/lang/String" "coder" "B", .fieldLink "java/lang/String" 15 "java/lang/String" "coder" "B"] ++ objW "java/lang/String" 1 ++ staticW "java/lang/String" 177 Cmp3.yN ++ staticW "java/lang/String" 47 CodL.yN
def tab : Cond := tabOf yN yB 6 none site
def P (a : Addr) (D : Cell) (fV fC : Field) (b : Addr) (A : Cell) (z : Int32) (o len : Nat) (args : Array Value) (s : State) : Prop := args = #[.ref a, .ref b, .int (Int32.ofNat o), .int (Int32.ofNat len), .null] ∧ Blank "java/lang/String" a D s ∧ Found "java/lang/String" "value" "[B" fV s ∧ Found "java/lang/String" "coder" "B" fC s ∧ Ch b A s ∧ StaticIs s "java/lang/String" "COMPACT_STRINGS" "Z" (.int z) ∧ ¬ z = 0 ∧ 0 < len ∧ o + len ≤ A.slots.size ∧ len ≤ 536870912 ∧ ∀ i, i < len → ¬ 255 < cv A (o + i)
def E (a : Addr) (D : Cell) (fV fC : Field) (A : Cell) (o len : Nat) (r : Option Value) (s u : State) : Prop := Got a D fV fC A o len r s u
/-- len > 0, no char of the range above 255: a Latin-1 String of their low bytes -/
theorem law (l : Launch) (a : Addr) (D : Cell) (fV fC : Field) (b : Addr) (A : Cell) (z : Int32) (o len : Nat) : Law l yN 5 4 2 35 yB 6 none site (P a D fV fC b A z o len) (E a D fV fC A o len) [⟨a, fC.slot⟩, ⟨a, fV.slot⟩] 1 len := by
  refine Law.of_walk (plainFor_of_name (by decide +kernel)) (by decide +kernel) (by decide +kernel) (by decide) (fun _ _ h => by rw [h.1]; rfl) (fun _ U U' hal hh h => ⟨h.1, h.2.1.mv hal hh, h.2.2.1.al hal, h.2.2.2.1.al hal, h.2.2.2.2.1.mv hal hh, h.2.2.2.2.2.1.there hal hh, h.2.2.2.2.2.2⟩) (fun r U U' V V' h1 hal h2 h => Got.mv r U U' V V' h1 hal h2 h) ?_
  intro p e s m args below meth c s₁ X0 hexec hbytes hml hret hlk hnm hown hh0 W hP
  obtain ⟨rfl, hB, f1, f2, hA, s1, hz, l0, l1, l2, hp⟩ := hP
  have a31 := hA.1.2.2.2
  have c1 : Steps p.tables e below (s₁.setTop (entryFrame m #[.ref a, .ref b, .int (Int32.ofNat o), .int (Int32.ofNat len), .null] 6)) (s₁.setTop (mkF m 0 #[.val (.ref a), .val (.ref b), .val (.int (Int32.ofNat o)), .val (.int (Int32.ofNat len)), .val .null, .unset] [])) := entry rfl
  have c2 : Steps p.tables e below (s₁.setTop (entryFrame m #[.ref a, .ref b, .int (Int32.ofNat o), .int (Int32.ofNat len), .null] 6)) (s₁.setTop (mkF m 1 #[.val (.ref a), .val (.ref b), .val (.int (Int32.ofNat o)), .val (.int (Int32.ofNat len)), .val .null, .unset] [.ref a])) := c1.trans (by
    refine XS.aloadN X0.here hexec rfl (hb hbytes d0) rfl rfl ?_
    exact Steps.refl _)
  obtain ⟨T3, X3, q3, st3⟩ := X0.oinit hexec hown (wks W (objW "java/lang/String" 1)) (g := (mkF m 1 #[.val (.ref a), .val (.ref b), .val (.int (Int32.ofNat o)), .val (.int (Int32.ofNat len)), .val .null, .unset] [.ref a])) rfl (by rw [hml]; rfl) (rest := []) rfl (hb hbytes d1) (W := 0) (by show 2 * 0 + 0 ≤ _; decide) (Nat.le_of_ble_eq_true rfl) (Nat.le_of_ble_eq_true rfl)
  have hh3 := q3.trans hh0
  have c4 : Steps p.tables e below (s₁.setTop (entryFrame m #[.ref a, .ref b, .int (Int32.ofNat o), .int (Int32.ofNat len), .null] 6)) (T3.setTop (mkF m 27 #[.val (.ref a), .val (.ref b), .val (.int (Int32.ofNat o)), .val (.int (Int32.ofNat len)), .val .null, .unset] [])) := (c2.trans (st3 _ (Steps.refl _))).trans (by
    refine XS.iloadN X3.here hexec rfl (hb hbytes d4) rfl ?_
    refine XS.ifYes X3.here hexec rfl (pc0 := 5) rfl (hb hbytes d5) rfl (i0_ne_t (nz32 (by omega) l0)) (by decide) rfl ?_
    exact Steps.refl _)
  obtain ⟨T5, X5, q5, st5⟩ := X3.sget hexec hown (wk W (.fieldLink "java/lang/String" 38 "java/lang/String" "COMPACT_STRINGS" "Z")) s1 (fun _ _ h => by rw [hh3]; exact h) (g := (mkF m 27 #[.val (.ref a), .val (.ref b), .val (.int (Int32.ofNat o)), .val (.int (Int32.ofNat len)), .val .null, .unset] [])) rfl (hb hbytes d27)
  have hh5 := q5.trans hh3
  have c6 : Steps p.tables e below (s₁.setTop (entryFrame m #[.ref a, .ref b, .int (Int32.ofNat o), .int (Int32.ofNat len), .null] 6)) (T5.setTop (mkF m 30 #[.val (.ref a), .val (.ref b), .val (.int (Int32.ofNat o)), .val (.int (Int32.ofNat len)), .val .null, .unset] [.int z])) := c4.trans (st5 _ (Steps.refl _))
  have c7 : Steps p.tables e below (s₁.setTop (entryFrame m #[.ref a, .ref b, .int (Int32.ofNat o), .int (Int32.ofNat len), .null] 6)) (T5.setTop (mkF m 36 #[.val (.ref a), .val (.ref b), .val (.int (Int32.ofNat o)), .val (.int (Int32.ofNat len)), .val .null, .unset] [.int (Int32.ofNat len), .int (Int32.ofNat o), .ref b])) := c6.trans (by
    refine XS.ifNo X5.here hexec rfl (hb hbytes d30) rfl (i0_eq_f hz) ?_
    refine XS.aloadN X5.here hexec rfl (hb hbytes d33) rfl rfl ?_
    refine XS.iloadN X5.here hexec rfl (hb hbytes d34) rfl ?_
    refine XS.iloadN X5.here hexec rfl (hb hbytes d35) rfl ?_
    exact Steps.refl _)
  obtain ⟨v8, T8, X8, E8, g8⟩ := X5.callS hexec (Cmp3.law l b A o len) hown (wks W (staticW "java/lang/String" 177 Cmp3.yN)) (wk W Cmp3.tab) (W := 0) (Nat.le_of_ble_eq_true rfl) (Nat.le_of_ble_eq_true rfl) (Nat.le_refl _) (by show 0 + len ≤ len; omega) (g := (mkF m 36 #[.val (.ref a), .val (.ref b), .val (.int (Int32.ofNat o)), .val (.int (Int32.ofNat len)), .val .null, .unset] [.int (Int32.ofNat len), .int (Int32.ofNat o), .ref b])) rfl (by rw [hml]; rfl) c7 (argsL := [.ref b, .int (Int32.ofNat o), .int (Int32.ofNat len)]) (rest := []) rfl rfl (by show 2 * 0 + 0 ≤ _; decide) (hb hbytes d36) (⟨rfl, hA.mv X5.warmed.alike hh5, l1, l2, hp⟩)
  obtain ⟨e8, z8⟩ := E8
  obtain ⟨rfl, N, n1, n2, n3, n4, n5, n6⟩ := NewArr.mv _ T5 s _ _ hh5.symm (Vm.Alike.refl _) rfl e8
  rw [hh5] at z8
  have hB1 := hB.keep X8.warmed.alike (n6 _ _ hB.1)
  have hne : s.heap.size ≠ a := (Nat.ne_of_lt (Array.getElem?_eq_some_iff.mp hB.1).1).symm
  have c9 : Steps p.tables e below (s₁.setTop (entryFrame m #[.ref a, .ref b, .int (Int32.ofNat o), .int (Int32.ofNat len), .null] 6)) (T8.setTop (mkF m 39 #[.val (.ref a), .val (.ref b), .val (.int (Int32.ofNat o)), .val (.int (Int32.ofNat len)), .val .null, .unset] [.ref s.heap.size])) := g8
  have c10 : Steps p.tables e below (s₁.setTop (entryFrame m #[.ref a, .ref b, .int (Int32.ofNat o), .int (Int32.ofNat len), .null] 6)) (T8.setTop (mkF m 45 #[.val (.ref a), .val (.ref b), .val (.int (Int32.ofNat o)), .val (.int (Int32.ofNat len)), .val .null, .val (.ref s.heap.size)] [.int (Int32.ofNat N.slots.size), .ref s.heap.size, .ref a])) := by
    have hc : Steps p.tables e below (s₁.setTop (entryFrame m #[.ref a, .ref b, .int (Int32.ofNat o), .int (Int32.ofNat len), .null] 6)) (T8.setTop (mkF m 45 #[.val (.ref a), .val (.ref b), .val (.int (Int32.ofNat o)), .val (.int (Int32.ofNat len)), .val .null, .val (.ref s.heap.size)] [.int (Int32.ofNat len), .ref s.heap.size, .ref a])) := c9.trans (by
      refine XS.astore X8.here hexec rfl (hb hbytes d39) rfl rfl rfl ?_
      refine XS.aloadN X8.here hexec rfl (hb hbytes d41) rfl rfl ?_
      refine XS.aload X8.here hexec rfl (hb hbytes d42) rfl rfl ?_
      refine XS.iloadN X8.here hexec rfl (hb hbytes d44) rfl ?_
      exact Steps.refl _)
    rw [n4]; exact hc
  obtain ⟨v11, T11, X11, E11, g11⟩ := X8.callS hexec (CodL.law l s.heap.size N) hown (wks W (staticW "java/lang/String" 47 CodL.yN)) (wk W CodL.tab) (W := 1) (Nat.le_of_ble_eq_true rfl) (Nat.le_of_ble_eq_true rfl) (Nat.le_refl _) (by show 0 + len + 0 ≤ len; omega) (g := (mkF m 45 #[.val (.ref a), .val (.ref b), .val (.int (Int32.ofNat o)), .val (.int (Int32.ofNat len)), .val .null, .val (.ref s.heap.size)] [.int (Int32.ofNat N.slots.size), .ref s.heap.size, .ref a])) rfl (by rw [hml]; rfl) c10 (argsL := [.ref s.heap.size, .int (Int32.ofNat N.slots.size)]) (rest := [.ref a]) rfl rfl (by show 2 * 0 + (1 + 0) ≤ _; decide) (hb hbytes d45) (⟨rfl, n1⟩)
  obtain ⟨rfl, q11⟩ := E11
  have hB11 := hB1.mv (X8.warmed.alike.symm.trans X11.warmed.alike) q11
  have c12 : Steps p.tables e below (s₁.setTop (entryFrame m #[.ref a, .ref b, .int (Int32.ofNat o), .int (Int32.ofNat len), .null] 6)) (T11.setTop (mkF m 48 #[.val (.ref a), .val (.ref b), .val (.int (Int32.ofNat o)), .val (.int (Int32.ofNat len)), .val .null, .val (.ref s.heap.size)] [.int 0, .ref a])) := g11
  obtain ⟨T13, X13, p13, bl13, sl13, st13⟩ := X11.finit hexec hown (wk W (.fieldLink "java/lang/String" 15 "java/lang/String" "coder" "B")) (Or.inr ⟨_, (wk W (.laysFinal "java/lang/String" "java/lang/String" "coder" "B"))⟩) (Or.inl ⟨rfl, hnm⟩) f2 (Or.inl rfl) hB11 (t := .byte) (by decide +kernel) rfl (g := (mkF m 48 #[.val (.ref a), .val (.ref b), .val (.int (Int32.ofNat o)), .val (.int (Int32.ofNat len)), .val .null, .val (.ref s.heap.size)] [.int 0, .ref a])) rfl (rest := []) rfl (hb hbytes d48)
  have c14 : Steps p.tables e below (s₁.setTop (entryFrame m #[.ref a, .ref b, .int (Int32.ofNat o), .int (Int32.ofNat len), .null] 6)) (T13.setTop (mkF m 54 #[.val (.ref a), .val (.ref b), .val (.int (Int32.ofNat o)), .val (.int (Int32.ofNat len)), .val .null, .val (.ref s.heap.size)] [.ref s.heap.size, .ref a])) := (c12.trans (st13 _ (Steps.refl _))).trans (by
    refine XS.aloadN X13.here hexec rfl (hb hbytes d51) rfl rfl ?_
    refine XS.aload X13.here hexec rfl (hb hbytes d52) rfl rfl ?_
    exact Steps.refl _)
  obtain ⟨T15, X15, p15, bl15, sl15, st15⟩ := X13.finit hexec hown (wk W (.fieldLink "java/lang/String" 9 "java/lang/String" "value" "[B")) (Or.inr ⟨_, (wk W (.laysFinal "java/lang/String" "java/lang/String" "value" "[B"))⟩) (Or.inl ⟨rfl, hnm⟩) f1 (Or.inl rfl) bl13 (t := (.array .byte)) (by decide +kernel) rfl (g := (mkF m 54 #[.val (.ref a), .val (.ref b), .val (.int (Int32.ofNat o)), .val (.int (Int32.ofNat len)), .val .null, .val (.ref s.heap.size)] [.ref s.heap.size, .ref a])) rfl (rest := []) rfl (hb hbytes d54)
  have c16 : Steps p.tables e below (s₁.setTop (entryFrame m #[.ref a, .ref b, .int (Int32.ofNat o), .int (Int32.ofNat len), .null] 6)) (T15.setTop (mkF m 57 #[.val (.ref a), .val (.ref b), .val (.int (Int32.ofNat o)), .val (.int (Int32.ofNat len)), .val .null, .val (.ref s.heap.size)] [])) := c14.trans (st15 _ (Steps.refl _))
  have ap := apart (Or.inr ⟨_, (wk W (.laysFinal "java/lang/String" "java/lang/String" "value" "[B"))⟩) (Or.inr ⟨_, (wk W (.laysFinal "java/lang/String" "java/lang/String" "coder" "B"))⟩) f1 f2 (t₁ := .array .byte) (t₂ := .byte) (by decide +kernel) (by decide +kernel) (by decide)
  have al := X8.warmed.alike.symm.trans X15.warmed.alike
  have n7 : T11.heap[s.heap.size]? = some N := by rw [q11]; exact n1.1
  exact ⟨T15, none, _, _, _, X15, by simp, rfl, by omega, (fun _ => rfl), ⟨rfl, _, N, bl15, ((Same.refl D _).set _ (by simp)).set _ (by simp), sl15, (Cell.slots_setSlot_ne _ ap).trans sl13, n1.keep al (p15.other hne (p13.other hne n7)), n2, by rw [al.findClass]; exact n3, n4, n5, fun y c h1 h2 => p15.other h1 (p13.other h1 (by rw [q11]; exact n6 y c h2)), by rw [p15.2.2, p13.2.2, q11]; exact z8⟩, fun fs hl => c16.trans (X15.returnOut hexec hret (hb hbytes d57) hl)⟩
end New4
namespace New1
def yN : MethodName := ⟨"java/lang/String", "<init>", "([C)V"⟩
abbrev yB : ByteArray := jdk_42_method_3_code
theorem d0 : decode yB 0 = .ok (.aload_n 0, 1) := by decide +kernel
theorem d1 : decode yB 1 = .ok (.aload_n 1, 1) := by decide +kernel
theorem d2 : decode yB 2 = .ok (.iconst 0, 1) := by decide +kernel
theorem d3 : decode yB 3 = .ok (.aload_n 1, 1) := by decide +kernel
theorem d4 : decode yB 4 = .ok (.arraylength, 1) := by decide +kernel
theorem d5 : decode yB 5 = .ok (.aconst_null, 1) := by decide +kernel
theorem d6 : decode yB 6 = .ok (.invokespecial 27, 3) := by decide +kernel
theorem d9 : decode yB 9 = .ok (.return_, 1) := by decide +kernel
def site : List Cond := [New4.tab] ++ initW "java/lang/String" 27 New4.yN
def tab : Cond := tabOf yN yB 2 none site
def P (a : Addr) (D : Cell) (fV fC : Field) (b : Addr) (A : Cell) (z : Int32) (args : Array Value) (s : State) : Prop := args = #[.ref a, .ref b] ∧ Blank "java/lang/String" a D s ∧ Found "java/lang/String" "value" "[B" fV s ∧ Found "java/lang/String" "coder" "B" fC s ∧ Ch b A s ∧ StaticIs s "java/lang/String" "COMPACT_STRINGS" "Z" (.int z) ∧ ¬ z = 0 ∧ 0 < A.slots.size ∧ A.slots.size ≤ 536870912 ∧ ∀ i, i < A.slots.size → ¬ 255 < cv A i
def E (a : Addr) (D : Cell) (fV fC : Field) (A : Cell) (r : Option Value) (s u : State) : Prop := Got a D fV fC A 0 A.slots.size r s u
/-- new String(chars), not empty, no char above 255: a Latin-1 String of their low bytes -/
theorem law (l : Launch) (a : Addr) (D : Cell) (fV fC : Field) (b : Addr) (A : Cell) (z : Int32) : Law l yN 2 1 3 52 yB 2 none site (P a D fV fC b A z) (E a D fV fC A) [⟨a, fC.slot⟩, ⟨a, fV.slot⟩] 1 A.slots.size := by
  refine Law.of_walk (plainFor_of_name (by decide +kernel)) (by decide +kernel) (by decide +kernel) (by decide) (fun _ _ h => by rw [h.1]; rfl) (fun _ U U' hal hh h => ⟨h.1, h.2.1.mv hal hh, h.2.2.1.al hal, h.2.2.2.1.al hal, h.2.2.2.2.1.mv hal hh, h.2.2.2.2.2.1.there hal hh, h.2.2.2.2.2.2⟩) (fun r U U' V V' h1 hal h2 h => Got.mv r U U' V V' h1 hal h2 h) ?_
  intro p e s m args below meth c s₁ X0 hexec hbytes hml hret hlk hnm hown hh0 W hP
  obtain ⟨rfl, hB, f1, f2, hA, s1, hz, l0, l2, hp⟩ := hP
  have c1 : Steps p.tables e below (s₁.setTop (entryFrame m #[.ref a, .ref b] 2)) (s₁.setTop (mkF m 0 #[.val (.ref a), .val (.ref b)] [])) := entry rfl
  have c2 : Steps p.tables e below (s₁.setTop (entryFrame m #[.ref a, .ref b] 2)) (s₁.setTop (mkF m 6 #[.val (.ref a), .val (.ref b)] [.null, .int (Int32.ofNat A.slots.size), .int 0, .ref b, .ref a])) := c1.trans (by
    refine XS.aloadN X0.here hexec rfl (hb hbytes d0) rfl rfl ?_
    refine XS.aloadN X0.here hexec rfl (hb hbytes d1) rfl rfl ?_
    refine iconstV X0.here hexec rfl 0 (hb hbytes d2) (by decide) ?_
    refine XS.aloadN X0.here hexec rfl (hb hbytes d3) rfl rfl ?_
    refine X0.alen hexec (hA.1.mv X0.warmed.alike hh0) rfl rfl (hb hbytes d4) ?_
    refine XS.aconstNull X0.here hexec rfl (hb hbytes d5) ?_
    exact Steps.refl _)
  obtain ⟨v3, T3, X3, E3, g3⟩ := X0.callN hexec (New4.law l a D fV fC b A z 0 A.slots.size) rfl hown (wks W (initW "java/lang/String" 27 New4.yN)) (W New4.tab (by simp only [site, List.mem_cons, List.mem_append, true_or, or_true])) (W := 0) (Nat.le_of_ble_eq_true rfl) (Nat.le_of_ble_eq_true rfl) (Nat.le_refl _) (by show 0 + A.slots.size ≤ A.slots.size; omega) (g := (mkF m 6 #[.val (.ref a), .val (.ref b)] [.null, .int (Int32.ofNat A.slots.size), .int (Int32.ofNat 0), .ref b, .ref a])) rfl (by rw [hml]; rfl) c2 (argsL := [.ref b, .int (Int32.ofNat 0), .int (Int32.ofNat A.slots.size), .null]) (rest := []) rfl rfl (by show 2 * 0 + 0 ≤ _; decide) (hb hbytes d6) (⟨rfl, hB.mv X0.warmed.alike hh0, f1.al X0.warmed.alike, f2.al X0.warmed.alike, hA.mv X0.warmed.alike hh0, s1.there X0.warmed.alike hh0, hz, l0, by omega, l2, fun i hi => by rw [Nat.zero_add]; exact hp i hi⟩)
  have e0 := Got.mv _ s₁ s _ _ hh0.symm (Vm.Alike.refl _) rfl E3
  obtain rfl := e0.1
  have c4 : Steps p.tables e below (s₁.setTop (entryFrame m #[.ref a, .ref b] 2)) (T3.setTop (mkF m 9 #[.val (.ref a), .val (.ref b)] [])) := g3
  exact ⟨T3, none, _, _, _, X3, by simp, rfl, by omega, (fun _ => rfl), e0, fun fs hl => c4.trans (X3.returnOut hexec hret (hb hbytes d9) hl)⟩
theorem pays {l : Launch} {R : Room} {p : Program} {e : Env} {below : List Frame} {s : State} {sargs : Array Value} {len W : Nat} (a : Addr) (D : Cell) (fV fC : Field) (b : Addr) (A : Cell) (z : Int32) (htab : tab.before sargs s = true) (hfr : 4 ≤ R.frames) (hlo : W + 65 ≤ R.locals) :
    Back l R p e below s sargs yN len W (fun A₁ a₁ => A₁.cells + 1 ≤ R.cells ∧ A₁.slots + A.slots.size ≤ R.slots ∧ P a D fV fC b A z a₁ A₁.U) (fun A₁ _ v₁ B₁ => E a D fV fC A v₁ A₁.U B₁.U ∧ B₁.locs = A₁.locs ++ [⟨a, fC.slot⟩, ⟨a, fV.slot⟩] ∧ B₁.cells = A₁.cells + 1 ∧ B₁.slots = A₁.slots + A.slots.size) :=
  (law l a D fV fC b A z).pays htab hfr (by omega)
end New1
end StrChars
namespace StrChars.Road
open Jvm Sem ClassFile Op Lib Jvm.Stand Jvm.Free Jvm.Free.XT
open Jvm.Lib.Cold (StaticIs)
abbrev ST : String := "java/lang/String"
/-- every table word that New1's law asks, flat -/
abbrev words : List Jvm.Cond := [.code New1.yN New1.yB 2 none, .initialized ST, .methodLink ST 27 New4.yN, .instanceMethod New4.yN,
  .code New4.yN New4.yB 6 none, .fieldLink ST 38 ST "COMPACT_STRINGS" "Z", .laysFinal ST ST "value" "[B", .fieldLink ST 9 ST "value" "[B", .laysFinal ST ST "coder" "B", .fieldLink ST 15 ST "coder" "B",
  .methodLink ST 1 Lib.objectInit, .instanceMethod Lib.objectInit, .code Lib.objectInit ⟨#[0xb1]⟩ 1 none, .methodLink ST 177 Cmp3.yN, .static Cmp3.yN, .methodLink ST 47 CodL.yN, .static CodL.yN,
  .code Cmp3.yN Cmp3.yB 6 (some (.array .byte)), .initialized U16, .arrayClass .byte, .methodLink U16 115 Cmp5.yN, .static Cmp5.yN, .code Cmp5.yN Cmp5.yB 7 (some .int), .code CodL.yN CodL.yB 2 (some .byte)]
theorem tab_of {a : Array Value} {s : State} (h : ∀ w ∈ words, w.before a s = true) : New1.tab.before a s = true := by
  have h5 : Cmp5.tab.before a s = true := unparts (wk h (.code Cmp5.yN Cmp5.yB 7 (some .int))) (wks h (.initialized Cmp5.yN.cls :: Cmp5.site))
  have hc : CodL.tab.before a s = true := unparts (wk h (.code CodL.yN CodL.yB 2 (some .byte))) (wks h (.initialized CodL.yN.cls :: CodL.site))
  have q5 : ∀ w ∈ Cmp5.tab :: words, w.before a s = true := fun w hw => (List.mem_cons.mp hw).elim (fun e => e ▸ h5) (h w)
  have h3 : Cmp3.tab.before a s = true := unparts (wk q5 (.code Cmp3.yN Cmp3.yB 6 (some (.array .byte)))) (wks q5 (.initialized Cmp3.yN.cls :: Cmp3.site))
  have q3 : ∀ w ∈ Cmp3.tab :: CodL.tab :: words, w.before a s = true := fun w hw => (List.mem_cons.mp hw).elim (fun e => e ▸ h3) fun hw => (List.mem_cons.mp hw).elim (fun e => e ▸ hc) (h w)
  have h4 : New4.tab.before a s = true := unparts (wk q3 (.code New4.yN New4.yB 6 none)) (wks q3 (.initialized New4.yN.cls :: New4.site))
  have q4 : ∀ w ∈ New4.tab :: words, w.before a s = true := fun w hw => (List.mem_cons.mp hw).elim (fun e => e ▸ h4) (h w)
  exact unparts (wk q4 (.code New1.yN New1.yB 2 none)) (wks q4 (.initialized New1.yN.cls :: New1.site))
/-- the words ride from the start Z to the walk's own state -/
theorem moved {Z s : State} {a0 args : Array Value} (hZ : Z.Warmed39 s.vm) (hw : ∀ d ∈ words, d.before a0 Z = true) : ∀ d ∈ words, d.before args s = true := fun d hd => by
  have q := hw d hd
  have t : ∀ d ∈ words, d = .arrayClass .byte ∨ (d.onTables && d.keepsFace) = true := by decide +kernel
  rcases t d hd with rfl | t
  · exact RoadKit.mvA hZ q
  · exact RoadKit.mv hZ q t
/-- WHAT COMES BACK, over the tables of the start Z: h the heap at the call, h' behind it -/
def Q (Z : State) (x : Addr) (A : Cell) (h : Heap) (v : Option Value) (h' : Heap) (L : List Loc) : Prop := v = none ∧ (∀ y ∈ L, y.base = x) ∧ RoadKit.Keep h h' [x] ∧ h'.size = h.size + 1 ∧ RoadKit.Exa Z h' x ST ∧ RoadKit.Fld Z h' x ST "value" "[B" (.ref h.size) ∧ RoadKit.Fld Z h' x ST "coder" "B" (.int 0) ∧
  (∃ V : Cell, RoadKit.Arr Z h' h.size V .byte ∧ V.vm = .none ∧ Z.vm.findClass "[B" = some V.cls ∧ V.slots.size = A.slots.size ∧ ∀ j, j < A.slots.size → V.slots[j]? = some (.int (lo8 (cv A j)))) ∧
  ∀ (O n d : String) (w : Value), RoadKit.Fld Z h x O n d w → RoadKit.slotOf Z O n d ≠ RoadKit.slotOf Z ST "value" "[B" → RoadKit.slotOf Z O n d ≠ RoadKit.slotOf Z ST "coder" "B" → RoadKit.Fld Z h' x O n d w
/-- **new String(chars) AT A CALL, IN THE ROAD'S FORM**: for specialBack behind newO: x the fresh String, b the char[] with the cell A -/
theorem back {p : Program} {l : Launch} {e : Env} {R : Room} {s : State} {args : Array Value} {below : List Frame} {len W : Nat} {Z : State} {a0 : Array Value} {h : Heap} (hZ : Z.Warmed39 s.vm) (hw : ∀ d ∈ words, d.before a0 Z = true) {kI : Nat} (wi : (Jvm.Cond.instantiable ST kI).before a0 Z = true)
    {x b : Addr} {A : Cell} {z : Int32} {v0 c0 : Value} (E : RoadKit.Exa Z h x ST) (V : RoadKit.Fld Z h x ST "value" "[B" v0) (C : RoadKit.Fld Z h x ST "coder" "B" c0) (K : RoadKit.Arr Z h b A .char) (hty : Typed .char A) (S : RoadKit.Sta Z h ST "COMPACT_STRINGS" "Z" (.int z)) (hz : ¬ z = 0)
    (l0 : 0 < A.slots.size) (l2 : A.slots.size ≤ 536870912) (hp : ∀ i, i < A.slots.size → ¬ 255 < cv A i) (hfr : 4 ≤ R.frames) (hlo : W + 65 ≤ R.locals) :
    Back l R p e below s args New1.yN len W (fun P a => a = #[.ref x, .ref b] ∧ P.U.heap = h ∧ P.cells + 1 ≤ R.cells ∧ P.slots + A.slots.size ≤ R.slots)
      (fun P _ v B => ∃ L, Q Z x A h v B.U.heap L ∧ B.locs = P.locs ++ L ∧ B.cells = P.cells + 1 ∧ B.slots = P.slots + A.slots.size) := by
  intro m meth c P g ig mk a X hg hsize hdg hW hn hp'
  obtain ⟨rfl, rfl, r1, r2⟩ := hp'
  have al : Z.vm.Alike P.U.vm := hZ.alike.trans X.warmed.alike
  obtain ⟨D, cfV, kV, iV, fV, hD, gV, stV, knV, obV, asV, slV⟩ := id V
  obtain ⟨D', cfC, kC, iC, fC, hD', gC, stC, -, -, asC, slC⟩ := id C
  cases hD.symm.trans hD'
  obtain ⟨D2, kD, e1, e2, e3, e4, e5⟩ := id E
  cases hD.symm.trans e1
  obtain ⟨c2, k2, i1, i2, i3, -⟩ := Cond.instantiable_spec wi
  cases e2.symm.trans i1
  cases e3.symm.trans i2
  obtain ⟨kU, u1, u2⟩ := al.2.2 _ _ e3
  have hB : Blank ST x D P.U := ⟨hD, ⟨knV, fun q hq => by rw [hq] at obV; cases obV⟩, by rw [al.findClass]; exact e2, kU, u1, by rw [u2]; exact i3, by rw [u2]; exact e5 i3⟩
  have F1 : Found ST "value" "[B" fV P.U := ⟨SBG.found_only al ⟨cfV, kV, iV, gV⟩, stV⟩
  have F2 : Found ST "coder" "B" fC P.U := ⟨SBG.found_only al ⟨cfC, kC, iC, gC⟩, stC⟩
  have hA : Ch b A P.U := ⟨⟨K.1, State.isArrayOf_alike al K.2.1, K.2.2, by omega⟩, hty⟩
  have hS : StaticIs P.U ST "COMPACT_STRINGS" "Z" (.int z) := by
    obtain ⟨cfS, iS, kS, fS, st, cS, t1, t2, t3, t4, t5, t6, t7⟩ := S
    exact StaticIs.there (s := { Z with heap := P.U.heap }) ⟨cfS, iS, kS, fS, st, cS, t1, t2, t3, t4, t5, (fun q => by rw [q] at t6; cases t6), t7⟩ al rfl
  obtain ⟨v, B, X', ⟨⟨hv, E', V', q1, q2, q3, q4, q5, q6, q7, q8, q9, q10, q11⟩, hl, hc, hs⟩, st⟩ := New1.pays x D fV fC b A z (tab_of (moved hZ hw)) hfr hlo m meth c P g ig mk _ X hg hsize hdg hW hn ⟨r1, r2, rfl, hB, F1, F2, hA, hS, hz, l0, l2, hp⟩
  have al' : Z.vm.Alike B.U.vm := hZ.alike.trans X'.warmed.alike
  have hsz : E'.slots.size = D.slots.size := by
    obtain ⟨-, -, -, kB, w1, w2, w3⟩ := q1
    obtain ⟨kB', y1, y2⟩ := al'.2.2 _ _ e3
    rw [q2.2.1] at w1
    cases w1.symm.trans y1
    rw [w3, e5 i3, y2]
  refine ⟨v, B, X', ⟨_, ⟨hv, ?_, ⟨by omega, fun y cy hy hn' => q10 y cy (by simpa using hn') hy, fun y cy hy => ?_⟩, q11, ⟨E', _, q1.1, by rw [q2.2.1]; exact e2, by rw [q2.2.1]; exact e3, by rw [q2.1]; exact obV, fun _ => by rw [hsz]; exact e5 i3⟩,
    ⟨E', cfV, kV, iV, fV, q1.1, gV, stV, by rw [q2.1]; exact knV, by rw [q2.1]; exact obV, by rw [q2.2.1]; exact asV, q3⟩, ⟨E', cfC, kC, iC, fC, q1.1, gC, stC, by rw [q2.1]; exact knV, by rw [q2.1]; exact obV, by rw [q2.2.1]; exact asC, q4⟩,
    ⟨V', ⟨q5.1, State.isArrayOf_alike al'.symm q5.2.1, q5.2.2.1⟩, q6, by rw [← al'.findClass]; exact q7, q8, fun j hj => by have := q9 j hj; rwa [Nat.zero_add] at this⟩, fun O n d w F n1 n2 => ?_⟩, hl, hc, hs⟩, st⟩
  · intro y hy
    simp only [List.mem_cons, List.not_mem_nil, or_false] at hy
    rcases hy with rfl | rfl <;> rfl
  · by_cases q : y = x
    · subst q
      cases hD.symm.trans hy
      exact ⟨E', q1.1, q2.2.1, q2.1, hsz⟩
    · exact ⟨cy, q10 y cy q hy, rfl, rfl, rfl⟩
  · obtain ⟨D3, cf, k, i, f, g1, g2, g3, g4, g5, g6, g7⟩ := F
    cases hD.symm.trans g1
    simp only [RoadKit.slotOf, g2, gV, gC, Option.map_some, Option.getD_some] at n1 n2
    exact ⟨E', cf, k, i, f, q1.1, g2, g3, by rw [q2.1]; exact g4, by rw [q2.1]; exact g5, by rw [q2.2.1]; exact g6, by rw [q2.2.2 f.slot (by simp [n1, n2])]; exact g7⟩
end StrChars.Road
namespace StrChars.Road
open Jvm Sem ClassFile Op Lib Jvm.Stand Jvm.Free Jvm.Free.XT
/-- WHAT COMES BACK, the byte[] as a list of values -/
def QA (Z : State) (x : Addr) (zn : Int32) (cs : List Int32) (h : Heap) (v : Option Value) (h' : Heap) (L : List Loc) : Prop := v = none ∧ (∀ y ∈ L, y.base = x) ∧ RoadKit.Keep h h' [x] ∧ h'.size = h.size + 1 ∧ RoadKit.Exa Z h' x ST ∧ RoadKit.Fld Z h' x ST "value" "[B" (.ref h.size) ∧ RoadKit.Fld Z h' x ST "coder" "B" (.int 0) ∧
  (∃ kb, Z.vm.findClass "[B" = some kb ∧ RoadKit.Arv Z h' h.size kb .byte zn (cs.map fun c => .int (lo8 c)) (.int 0)) ∧
  ∀ (O n d : String) (w : Value), RoadKit.Fld Z h x O n d w → RoadKit.slotOf Z O n d ≠ RoadKit.slotOf Z ST "value" "[B" → RoadKit.slotOf Z O n d ≠ RoadKit.slotOf Z ST "coder" "B" → RoadKit.Fld Z h' x O n d w
/-- **new String(chars) AT A CALL, THE ARRAYS AS LISTS**: the char[] at b holds cs, not empty, no char above 255 -/
theorem backArv {p : Program} {l : Launch} {e : Env} {R : Room} {s : State} {args : Array Value} {below : List Frame} {len W : Nat} {Z : State} {a0 : Array Value} {h : Heap} (hZ : Z.Warmed39 s.vm) (hw : ∀ d ∈ words, d.before a0 Z = true) {kI : Nat} (wi : (Jvm.Cond.instantiable ST kI).before a0 Z = true)
    {x b : Addr} {k : ClassId} {zn z : Int32} {cs : List Int32} {dv v0 c0 : Value} (E : RoadKit.Exa Z h x ST) (V : RoadKit.Fld Z h x ST "value" "[B" v0) (C : RoadKit.Fld Z h x ST "coder" "B" c0) (K : RoadKit.Arv Z h b k .char zn (cs.map Value.int) dv) (S : RoadKit.Sta Z h ST "COMPACT_STRINGS" "Z" (.int z)) (hz : ¬ z = 0)
    (hlen : zn.toNatClampNeg = cs.length) (h0 : 0 < cs.length) (hbig : cs.length ≤ 536870912) (hall : ∀ c ∈ cs, ¬ 255 < c) (hfr : 4 ≤ R.frames) (hlo : W + 65 ≤ R.locals) :
    Back l R p e below s args New1.yN len W (fun P a => a = #[.ref x, .ref b] ∧ P.U.heap = h ∧ P.cells + 1 ≤ R.cells ∧ P.slots + cs.length ≤ R.slots)
      (fun P _ v B => ∃ L, QA Z x zn cs h v B.U.heap L ∧ B.locs = P.locs ++ L ∧ B.cells = P.cells + 1 ∧ B.slots = P.slots + cs.length) := by
  obtain ⟨A, K1, K2, K3, K4, K5, K6⟩ := K
  have e : A.slots.size = cs.length := K3.trans hlen
  have hat : ∀ (i : Nat) (hi : i < cs.length), A.slots[i]? = some (.int cs[i]) := fun i hi => by rw [K5 i (by omega)]; simp [List.getD_eq_getElem?_getD, hi]
  have hcv : ∀ (i : Nat) (hi : i < cs.length), cv A i = cs[i] := fun i hi => by unfold cv; rw [hat i hi]
  have hty : Typed .char A := fun i v hv => by
    have hi : i < A.slots.size := (Array.getElem?_eq_some_iff.mp hv).1
    have q := K5 i hi
    rw [hv] at q
    rw [Option.some.inj q]
    exact K6 i hi
  refine Back.mono (back hZ hw wi E V C K1 hty S hz (by omega) (by omega) (fun i hi => by rw [hcv i (by omega)]; exact hall _ (List.getElem_mem _)) hfr hlo) (fun P a hp => ⟨hp.1, hp.2.1, hp.2.2.1, by rw [e]; exact hp.2.2.2⟩) (fun P a v B hp hq => ?_)
  obtain ⟨L, ⟨q1, q2, q3, q4, q5, q6, q7, ⟨V', v1, v2, v3, v4, v5⟩, q9⟩, hl, hc, hs⟩ := hq
  refine ⟨L, ⟨q1, q2, q3, q4, q5, q6, q7, ⟨V'.cls, v3, V', v1, rfl, by rw [v4, e, hlen], K4, fun i hi => ?_, fun i hi => ?_⟩, q9⟩, hl, hc, by rw [hs, e]⟩
  · have hi' : i < cs.length := by omega
    rw [v5 i (by omega), hcv i hi']; simp [List.getD_eq_getElem?_getD, hi']
  · have hi' : i < cs.length := by omega
    simp only [List.getD_eq_getElem?_getD, List.getElem?_map, List.getElem?_eq_getElem hi', Option.map_some, Option.getD_some]
    exact fits_lo8 _
end StrChars.Road
namespace StrChars.Road
open Jvm Sem ClassFile Op Lib Jvm.Stand Jvm.Free Jvm.Free.XT
/-- WHAT COMES BACK, in the writer's own shape -/
def QV (Z : State) (x : Addr) (N : Int32) (bs : List Int32) (h : Heap) (n0 : Nat) (v : Option Value) (h' : Heap) (L : List Loc) : Prop := v = none ∧ RoadKit.Fr n0 L ∧ RoadKit.Keep h h' [x] ∧ RoadKit.Exa Z h' x ST ∧ RoadKit.Fld Z h' x ST "coder" "B" (.int 0) ∧
  ∃ (t : Addr) (kb : ClassId), n0 ≤ t ∧ h.size ≤ t ∧ ¬ t = x ∧ RoadKit.Fld Z h' x ST "value" "[B" (.ref t) ∧ RoadKit.Arv Z h' t kb .byte N (bs.map Value.int) (.int 0)
/-- **new String(chars) AT A CALL, FOR THE WRITER**: a char[] of n known ints, each 0 to 255 -/
theorem backV {p : Program} {l : Launch} {e : Env} {R : Room} {s : State} {args : Array Value} {below : List Frame} {len W : Nat} {Z : State} {a0 : Array Value} {h : Heap} (hZ : Z.Warmed39 s.vm) (hw : ∀ d ∈ words, d.before a0 Z = true) {kI : Nat} (wi : (Jvm.Cond.instantiable ST kI).before a0 Z = true)
    {x b : Addr} {kC : ClassId} {cs bs : List Int32} {d v0 c0 : Value} {z N : Int32} {n n0 : Nat} (hx0 : n0 ≤ x) (hh0 : n0 ≤ h.size) (E : RoadKit.Exa Z h x ST) (V : RoadKit.Fld Z h x ST "value" "[B" v0) (C : RoadKit.Fld Z h x ST "coder" "B" c0) (K : RoadKit.Arv Z h b kC .char N (cs.map Value.int) d) (S : RoadKit.Sta Z h ST "COMPACT_STRINGS" "Z" (.int z)) (hz : ¬ z = 0)
    (hn : cs.length = n) (hN : N = Int32.ofNat n) (l0 : 0 < n) (l2 : n ≤ 4000) (hp : ∀ c ∈ cs, ¬ c < 0 ∧ ¬ (255 : Int32) < c) (hb : bs = cs.map (fun c => c.toInt8.toInt32)) (hfr : 4 ≤ R.frames) (hlo : W + 65 ≤ R.locals) :
    Back l R p e below s args (⟨"java/lang/String", "<init>", "([C)V"⟩ : MethodName) len W (fun P a => a = #[.ref x, .ref b] ∧ P.U.heap = h ∧ P.cells + 1 ≤ R.cells ∧ P.slots + n ≤ R.slots)
      (fun P _ v B => ∃ L, QV Z x N bs h n0 v B.U.heap L ∧ B.locs = P.locs ++ L ∧ B.cells = P.cells + 1 ∧ B.slots = P.slots + n) := by
  subst hn hN hb
  refine Back.mono (backArv hZ hw wi E V C K S hz (n32 (by omega)) l0 (by omega) (fun c hc => (hp c hc).2) hfr hlo) (fun P a hp => hp) (fun P a v B hp hq => ?_)
  obtain ⟨L, ⟨q1, q2, q3, q4, q5, q6, q7, ⟨kb, v1, v2⟩, q9⟩, hl, hc, hs⟩ := hq
  exact ⟨L, ⟨q1, fun y hy => by rw [q2 y hy]; exact hx0, q3, q5, q7, h.size, kb, hh0, Nat.le_refl _, Nat.ne_of_gt E.lt, q6, by rw [List.map_map]; exact v2⟩, hl, hc, hs⟩
end StrChars.Road
end Jvm.Pilot.@@N@@
namespace Jvm.Pilot.@@N@@
open Jvm Jvm.ClassFile Sem Op Lib Jvm.Free Jvm.Stand Jvm.LawKit Jvm.RoadKit Bundle Jvm.Pilot.@@N@@.Jvm.D
theorem own_selp {s : State} {args : Array Value} {C : String} {y : MethodName} (h : (Cond.selects C y y).before args s = true) (hpriv : s.PrivateAt y) (hinst : (Cond.instanceMethod y).before args s = true) (hy : y.cls ≠ "java/lang/invoke/MethodHandle" ∧ y.cls ≠ "java/lang/invoke/VarHandle") :
    (Cond.selects y.cls y y).before args s = true := by
  obtain ⟨c, r, mm, -, hr, hm, -, mk, hmk, hni⟩ := Cond.selects_spec h
  obtain ⟨mk', methM, hnamed, hmethM, -, -⟩ := Cond.instanceMethod_spec hinst
  cases hm.symm.trans hnamed
  have hfound : s.methodFound? y.cls y.name y.desc = some mm := State.methodFound?_of_named hnamed hy
  have hsel : selectMethod {} s.vm mm.cls mm = .method mm := selectMethod_private hmethM (hpriv mm methM hnamed hmethM)
  simp only [Cond.before, Cond.holds, Cond.value, findClass_of_methodNamed hnamed, hfound, hnamed, hsel, hmk]
  simp; exact hni
theorem own_nf {s : State} {a0 : Array Value} {y y' : MethodName} (h : NotFace s y) (hd : (Jvm.Cond.declares y).before a0 s = true) (e : y.cls = y'.cls) : NotFace s y' := fun r0 h0 => by
  obtain ⟨m, meth, hn, -, -, -⟩ := Cond.declares_spec hd
  obtain ⟨kr, hk, hi⟩ := h m hn
  have a := findClass_of_methodNamed hn
  have b := findClass_of_methodNamed h0
  rw [e] at a
  have c := Option.some.inj (a.symm.trans b)
  exact ⟨kr, by rw [← c]; exact hk, hi⟩
theorem own_same {Z : State} {a0 : Array Value} {y : MethodName} (hf : NotFace Z y) (h : (Jvm.Cond.declares y).before a0 Z = true) (hy : y.cls ≠ "java/lang/invoke/MethodHandle" ∧ y.cls ≠ "java/lang/invoke/VarHandle") : (Jvm.Cond.sameMethod y.cls y.cls y.name y.desc).before a0 Z = true := by
  obtain ⟨m, meth, hn, hm, -, -⟩ := Cond.declares_spec h
  have hfc := findClass_of_methodNamed hn
  have hfo := State.methodFound?_of_named hn hy
  have hn' : Z.methodNamed? ⟨y.cls, y.name, y.desc⟩ = some m := hn
  obtain ⟨kr, hk, hi⟩ := hf m hn
  simp [Cond.before, Cond.holds, Cond.value, hfc, hfo, hn', hk, hi]
theorem own_wd {Z : State} {a0 : Array Value} (hw : ∀ d ∈ tables_1, d.before a0 Z = true) (i : Nat) {d : Jvm.Cond} (h : tables_1[i]? = some d) : d.before a0 Z = true := hw _ (List.mem_of_getElem? h)
def own_b (P : Prop) [Decidable P] : Int32 := if P then (1 : Int32) else (0 : Int32)
theorem own_bt {P : Prop} [Decidable P] (h : P) : own_b P = (1 : Int32) := if_pos h
theorem own_bf {P : Prop} [Decidable P] (h : ¬ P) : own_b P = (0 : Int32) := if_neg h
theorem own_btn {P : Prop} [Decidable P] (h : P) : ¬ (own_b P = (0 : Int32)) := by rw [own_bt h]; decide
theorem own_bfn {P : Prop} [Decidable P] (h : ¬ P) : ¬ (own_b P = (1 : Int32)) := by rw [own_bf h]; decide
theorem own_b_congr {P Q : Prop} [Decidable P] [Decidable Q] (h : P ↔ Q) : own_b P = own_b Q := by
  by_cases q : P
  · rw [own_bt q, own_bt (h.mp q)]
  · rw [own_bf q, own_bf fun z => q (h.mpr z)]
theorem own_eqI {args : Array Value} {s : State} {t : Term} {k : Int32} (h : (Jvm.Cond.eq t (.int k)).value args s none s [] = some true) : t.eval args s none [] s = some (.int k) := by
  obtain ⟨x, y, h1, h2, -, h4⟩ := cmp_v (Or.inl h)
  cases Option.some.inj (h2.symm.trans (Term.int_eval k))
  obtain ⟨z, rfl⟩ := h4
  rw [h1, gotT (Cond.eq_ints h1 h2) h]
theorem own_eqR {args : Array Value} {s : State} {t u : Term} {y : Addr} (hu : u.eval args s none [] s = some (.ref y)) (h : (Jvm.Cond.eq t u).value args s none s [] = some true) : t.eval args s none [] s = some (.ref y) := by
  obtain ⟨x, y', h1, h2, -, h4⟩ := cmp_v (Or.inl h)
  cases Option.some.inj (h2.symm.trans hu)
  rw [h1, gotT (eq_R h1 h2 h4.2 rfl) h]
theorem own_len {args : Array Value} {s : State} {t : Term} {a : Addr} {cl : Cell} {ty : FieldType} {k : Int32} (ev : t.eval args s none [] s = some (.ref a)) (A : Arr s s.heap a cl ty) (h : (Term.length t).eval args s none [] s = some (.int k)) : cl.slots.size < 2 ^ 31 ∧ cl.slots.size.toInt32 = k := by
  have ha : s.arrayAt? a = some cl := A.fin (Vm.Alike.refl _)
  by_cases hl : cl.slots.size < 2 ^ 31
  · rw [len_f ev ha hl] at h
    exact ⟨hl, by simpa using h⟩
  · simp [Term.eval, ev, ha, hl] at h
theorem own_eqL {args : Array Value} {s : State} {t : Term} {k : Int64} (h : (Jvm.Cond.eq t (.long k)).value args s none s [] = some true) : t.eval args s none [] s = some (.long k) := by
  obtain ⟨x, y, h1, h2, -, h4⟩ := cmp_v (Or.inl h)
  cases Option.some.inj (h2.symm.trans (long_at k))
  obtain ⟨z, rfl⟩ := h4
  rw [h1, gotT (eq_L h1 h2) h]
abbrev un : Slot := .unset
abbrev vi (x : Int32) : Slot := .val (.int x)
abbrev vr (x : Addr) : Slot := .val (.ref x)
abbrev SF (p : Program) (e : Env) (below : List Frame) (T : State) (m : MethodId) (pc : Nat) (L : Array Slot) (S : List Value) (t : State) : Prop := Steps p.tables e below (T.setTop (mkF m pc L S)) t
def own_EL : List (String × Nat) := [("com/example/prueba/prueba/MediaTypes", 73), ("com/example/prueba/prueba/MediaTypes", 79), ("java/lang/StringLatin1", 151), ("java/lang/StringLatin1", 168), ("java/lang/StringLatin1", 170), ("java/lang/StringLatin1", 172)]
theorem own_EW {Z : State} {a0 : Array Value} (hw : ∀ d ∈ tables_1, d.before a0 Z = true) : EW Z a0 own_EL := (EW.cons (hw _ (List.mem_of_getElem? (i := 133) rfl)) (by decide +kernel) (EW.cons (hw _ (List.mem_of_getElem? (i := 145) rfl)) (by decide +kernel) (EW.cons (hw _ (List.mem_of_getElem? (i := 193) rfl)) (by decide +kernel) (EW.cons (hw _ (List.mem_of_getElem? (i := 175) rfl)) (by decide +kernel) (EW.cons (hw _ (List.mem_of_getElem? (i := 176) rfl)) (by decide +kernel) (EW.cons (hw _ (List.mem_of_getElem? (i := 177) rfl)) (by decide +kernel) EW.nil))))))
set_option maxRecDepth 65536 in
theorem own_wS {Z : State} {a0 : Array Value} (hw : ∀ d ∈ tables_1, d.before a0 Z = true) : ∀ d ∈ Bundle.stringAtoms, d.before a0 Z = true := fun d hd => hw d ((by decide +kernel : ∀ d ∈ Bundle.stringAtoms, d ∈ tables_1) d hd)
theorem own_chr (x : Int32) : ¬ ((x &&& (255 : Int32)).toUInt32.toUInt16.toUInt32.toInt32).toUInt32.toUInt16.toUInt32.toInt32 < 0 ∧ ¬ (255 : Int32) < ((x &&& (255 : Int32)).toUInt32.toUInt16.toUInt32.toInt32).toUInt32.toUInt16.toUInt32.toInt32 := by
  have h1 := c_and x 255 (by decide)
  have h2 := c_i2c (x &&& (255 : Int32))
  have h3 := c_i2c ((x &&& (255 : Int32)).toUInt32.toUInt16.toUInt32.toInt32)
  have e1 : (255 : Int32).toInt = 255 := by decide
  have e0 : (0 : Int32).toInt = 0 := by decide
  simp only [Int32.lt_iff_toInt_lt, e1, e0] at *
  omega
theorem own_up (cs : List Int32) (h : ∀ c ∈ cs, ¬ c < 0 ∧ ¬ (255 : Int32) < c) : ∀ c ∈ cs, ¬ c < 0 ∧ ¬ (65535 : Int32) < c := fun c hc => ⟨(h c hc).1, fun q => (h c hc).2 (by rw [Int32.lt_iff_toInt_lt] at q ⊢; have e1 : (65535 : Int32).toInt = 65535 := rfl; have e2 : (255 : Int32).toInt = 255 := rfl; omega)⟩
set_option maxRecDepth 65536 in
theorem own_hws {Z : State} {a0 : Array Value} (hw : ∀ d ∈ tables_1, d.before a0 Z = true) : ∀ d ∈ StrChars.Road.words, d.before a0 Z = true := fun d hd => hw d ((by decide +kernel : ∀ d ∈ StrChars.Road.words, d ∈ tables_1) d hd)
theorem own_b_of {P : Prop} [Decidable P] (h : ¬ (own_b P = (0 : Int32))) : P := Decidable.byContradiction fun q => h (own_bf q)
theorem own_b_not {P : Prop} [Decidable P] (h : own_b P = (0 : Int32)) : ¬ P := fun q => own_btn q h
theorem own_safe_blank {Z : State} {EL : List (String × Nat)} {vm : Vm} {h : Heap} {x : Addr} (hal : Z.vm.Alike vm) (E : Exa Z h x "java/lang/String") (F : Fld Z h x "java/lang/String" "value" "[B" .null) : Safe Z EL vm h x := fun B => by
  obtain ⟨p, -, u, a, -, q, -, G, rfl | rfl⟩ := B
  · obtain ⟨cell, cf, k, i, f, e1, e2, -, -, -, -, e7⟩ := F
    cases (show h[q.sa]? = some q.sC from G.ha).symm.trans e1
    obtain ⟨cS, ⟨⟨-, -, -, ⟨c1, k1, i1, f1, -⟩, -, -, -, v1, -⟩, -⟩, -⟩ := G
    obtain ⟨k3, e3, -⟩ := State.fieldFound?_setVm (s := ({ Z with heap := h } : State)) hal (show ({ Z with heap := h } : State).fieldFound? _ _ _ = _ from e2)
    have e4 := (show (Wst Z vm h).fieldFound? _ _ _ = _ from e3).symm.trans f1
    simp only [Option.some.injEq, Prod.mk.injEq] at e4
    rw [← e4.2.2.2, e7] at v1
    simp at v1
  · obtain ⟨cell, k, e1, e2, e3, -, -⟩ := E
    cases (show h[q.sd]? = some q.SA from G.hd).symm.trans e1
    obtain ⟨cS, -, -, f, -⟩ := G
    have f' : vm.findClass "[B" = some q.SA.cls := f
    rw [hal.findClass] at f'
    obtain ⟨k1, q1, q2⟩ := Vm.findClass_spec f'
    obtain ⟨k2, q3, q4⟩ := Vm.findClass_spec e2
    cases q1.symm.trans q3
    exact absurd (q2.symm.trans q4) (by decide)
theorem own_i2c {x : Int32} (h0 : ¬ (x < (0 : Int32))) (h1 : ¬ ((255 : Int32) < x)) : x.toUInt32.toUInt16.toUInt32.toInt32 = x := by
  have h2 := c_i2c x
  have e1 : (255 : Int32).toInt = 255 := by decide
  have e0 : (0 : Int32).toInt = 0 := by decide
  simp only [Int32.lt_iff_toInt_lt, ← Int32.toInt_inj, e1, e0] at *
  omega
theorem own_ind {G : Prop} {A : Type} (mu : A → Nat) (P : A → State → List Loc → Heap → Prop) (step : ∀ a T L h, P a T L h → (∀ b T' L' h', mu b < mu a → P b T' L' h' → G) → G) (a : A) (T : State) (L : List Loc) (h : Heap) (ha : P a T L h) : G := by
  have H : ∀ (k : Nat) (a : A) (T : State) (L : List Loc) (h : Heap), mu a = k → P a T L h → G := by
    intro k
    induction k using Nat.strongRecOn with
    | _ k ih =>
      intro a T L h hk hp
      exact step a T L h hp (fun b T' L' h' hb hp' => ih (mu b) (by omega) b T' L' h' rfl hp')
  exact H _ a T L h rfl ha
def own_by (c : Int32) : Int32 := c.toInt8.toInt32
def own_fv (f : Nat → Int32) (n : Nat) : List Value := (List.range n).map fun j => .int (own_by (f j))
def own_zf : Nat → Int32 := fun _ => 0
theorem own_fvlen (f : Nat → Int32) (n : Nat) : (own_fv f n).length = n := by simp [own_fv]
theorem own_fvget (f : Nat → Int32) (n j : Nat) (d : Value) (h : j < n) : (own_fv f n).getD j d = .int (own_by (f j)) := by simp [own_fv, List.getD_eq_getElem?_getD, h]
theorem own_fvout (f : Nat → Int32) (n j : Nat) (d : Value) (h : ¬ j < n) : (own_fv f n).getD j d = d := by rw [List.getD_eq_getElem?_getD, List.getElem?_eq_none (by rw [own_fvlen]; omega)]; rfl
theorem own_fvcongr {f g : Nat → Int32} {n : Nat} (h : ∀ j, j < n → f j = g j) : own_fv f n = own_fv g n := by
  unfold own_fv; apply List.map_congr_left; intro j hj; rw [h j (List.mem_range.mp hj)]
theorem own_int {n : Nat} (h : n < 2147483648) : (Int32.ofNat n).toInt = n := Int32.toInt_ofNat_of_lt (by omega)
theorem own_nat {n : Nat} (h : n < 2147483648) : (Int32.ofNat n).toNatClampNeg = n := by rw [Int32.toNatClampNeg, own_int h]; rfl
theorem own_lt {i n : Nat} (hi : i < 2147483648) (hn : n < 2147483648) : Int32.ofNat i < Int32.ofNat n ↔ i < n := by rw [Int32.lt_iff_toInt_lt, own_int hi, own_int hn]; omega
theorem own_eq {i n : Nat} (hi : i < 2147483648) (hn : n < 2147483648) : Int32.ofNat i = Int32.ofNat n ↔ i = n := by rw [← Int32.toInt_inj, own_int hi, own_int hn]; omega
theorem own_nn {n : Nat} (h : n < 2147483648) : ¬ Int32.ofNat n < 0 := by rw [Int32.lt_iff_toInt_lt, own_int h, show (0 : Int32).toInt = 0 from rfl]; omega
theorem own_add (a b : Nat) : Int32.ofNat a + Int32.ofNat b = Int32.ofNat (a + b) := (Int32.ofNat_add a b).symm
theorem own_one (i : Nat) : Int32.ofNat i + (1 : Int32) = Int32.ofNat (i + 1) := own_add i 1
theorem own_sub {a b : Nat} (h : b ≤ a) : Int32.ofNat a - Int32.ofNat b = Int32.ofNat (a - b) := by
  have e : Int32.ofNat a = Int32.ofNat (a - b) + Int32.ofNat b := by rw [own_add, Nat.sub_add_cancel h]
  rw [e, Int32.add_sub_cancel]
theorem own_pred {a : Nat} (h : 1 ≤ a) : Int32.ofNat a - (1 : Int32) = Int32.ofNat (a - 1) := own_sub h
theorem own_predm {a : Nat} (h : 1 ≤ a) : Int32.ofNat a + (-1 : Int32) = Int32.ofNat (a - 1) := by rw [← own_pred h, Int32.sub_eq_add_neg]
theorem own_in {c : Cell} {n i : Nat} (S : c.slots.size = (Int32.ofNat n).toNatClampNeg) (h : i < n) (hn : n < 2147483648) : ¬ (Int32.ofNat i < 0 ∨ c.slots.size ≤ (Int32.ofNat i).toNatClampNeg) := by
  rw [S, own_nat hn, own_nat (by omega)]; exact fun q => q.elim (own_nn (by omega)) (fun q => by omega)
theorem own_rd {c : Cell} {n i : Nat} {j : Int32} {f : Nat → Int32} {d : Value} (S : c.slots.size = (Int32.ofNat n).toNatClampNeg) (H : Has c (own_fv f n) d) (e : j = Int32.ofNat i) (h : i < n) (hn : n < 2147483648) : (¬ (j < 0 ∨ c.slots.size ≤ j.toNatClampNeg)) ∧ c.slots[j.toNatClampNeg]? = some (.int (own_by (f i))) := by
  subst e
  exact ⟨own_in S h hn, H.at (own_in S h hn) (by rw [own_nat (by omega), own_fvget _ _ _ _ h])⟩
theorem own_fv0 (n : Nat) : ∀ i, (own_fv own_zf n).getD i (.int (0 : Int32)) = ([] : List Value).getD i (.int (0 : Int32)) := fun i => by
  by_cases h : i < n
  · rw [own_fvget _ _ _ _ h]; rfl
  · rw [own_fvout _ _ _ _ h]; rfl
theorem own_setfv {f g : Nat → Int32} {n i : Nat} {x : Int32} {d : Value} (hx : i < n) (h1 : own_by (g i) = own_by x) (h2 : ∀ j, j < n → j ≠ i → g j = f j) : ∀ j, (own_fv g n).getD j d = ((own_fv f n).set i (.int (own_by x))).getD j d := fun j => by
  by_cases hj : j < n
  · by_cases e : j = i
    · subst e; rw [own_fvget _ _ _ _ hj, h1]; simp [List.getD_eq_getElem?_getD, own_fvlen, hj]
    · rw [own_fvget _ _ _ _ hj, h2 j hj e, ← own_fvget f n j d hj]; simp [List.getD_eq_getElem?_getD, Ne.symm e]
  · rw [own_fvout _ _ _ _ hj, List.getD_eq_getElem?_getD, List.getElem?_eq_none (by rw [List.length_set, own_fvlen]; omega)]; rfl
theorem own_cpfv {F G H : Nat → Int32} {N M sp dp nn : Nat} {d d' : Value} (h1 : sp + nn ≤ N) (h2 : dp + nn ≤ M) (hH : ∀ j, j < M → H j = if dp ≤ j ∧ j < dp + nn then F (sp + (j - dp)) else G j) : ∀ i, (own_fv H M).getD i d' = ((own_fv G M).take dp ++ ((List.range nn).map fun i => (own_fv F N).getD (sp + i) d) ++ (own_fv G M).drop (dp + nn)).getD i d' := fun i => by
  have e : own_fv H M = (own_fv G M).take dp ++ ((List.range nn).map fun i => (own_fv F N).getD (sp + i) d) ++ (own_fv G M).drop (dp + nn) := by
    apply List.ext_getElem?
    intro j
    by_cases hj : j < M
    · have hL : (own_fv H M)[j]? = some (.int (own_by (H j))) := by simp [own_fv, hj]
      rw [hL, hH j hj]
      by_cases q1 : j < dp
      · rw [if_neg (by omega), List.append_assoc, List.getElem?_append_left (by simp [own_fvlen]; omega)]; simp [own_fv, q1, hj]
      · by_cases q2 : j < dp + nn
        · rw [if_pos ⟨by omega, q2⟩, List.append_assoc, List.getElem?_append_right (by simp [own_fvlen]; omega)]
          have el : ((own_fv G M).take dp).length = dp := by simp [own_fvlen]; omega
          rw [el, List.getElem?_append_left (by simp; omega)]
          simp only [List.getElem?_map, List.getElem?_range (show j - dp < nn by omega), Option.map_some]
          rw [own_fvget _ _ _ _ (by omega)]
        · rw [if_neg (by omega), List.getElem?_append_right (by simp [own_fvlen]; omega)]
          have el : ((own_fv G M).take dp ++ (List.range nn).map fun i => (own_fv F N).getD (sp + i) d).length = dp + nn := by simp [own_fvlen]; omega
          rw [el, List.getElem?_drop, show dp + nn + (j - (dp + nn)) = j by omega]; simp [own_fv, hj]
    · rw [List.getElem?_eq_none (by rw [own_fvlen]; omega), List.getElem?_eq_none (by simp [own_fvlen]; omega)]
  rw [e]
theorem own_cp {p : Program} {l : Launch} {e : Env} {R : Room} {s : State} {m : MethodId} {args : Array Value} {below : List Frame} {meth : Method} {c : Code} {T : State} {locs : List Loc} {cells slots : Nat} {Z : State} {h : Heap} {a b : Addr} {k k' : ClassId} {dv dd : Value}
    (X : Stand p l e R s m args below meth c T locs cells slots) (hx : p.tables.exec = Jvm.exec) (hZ : Z.Warmed39 s.vm) {a0 : Array Value} {own : String} {index : Nat} (hown : s.vm.findClass own = some m.cls)
    (w1 : (Cond.methodLink own index Jvm.Stand.acN).before a0 Z = true) (w2 : (Cond.native Jvm.Stand.acN).before a0 Z = true) (w3 : (Cond.static Jvm.Stand.acN).before a0 Z = true) (w4 : (Cond.initialized "java/lang/System").before a0 Z = true) (eT : T.heap = h)
    {sp dp nn N M : Nat} {F G H : Nat → Int32} (A : Arv Z h a k .byte (Int32.ofNat N) (own_fv F N) dv) (B : Arv Z h b k' .byte (Int32.ofNat M) (own_fv G M) dd)
    (h1 : sp + nn ≤ N) (h2 : dp + nn ≤ M) (hN : N < 2147483648) (hM : M < 2147483648) (hnn : nn < 2147483648) (hH : ∀ j, j < M → H j = if dp ≤ j ∧ j < dp + nn then F (sp + (j - dp)) else G j) {n0 : Nat} (Nf : Fr n0 locs) (ge : n0 ≤ b)
    {g : JFrame} (hg : g.method = m) (hsize : g.locals.size = c.maxLocals) {rest : List Value} (hs : g.stack = .int (Int32.ofNat nn) :: .int (Int32.ofNat dp) :: .ref b :: .int (Int32.ofNat sp) :: .ref a :: rest) (hd : decode c.code g.pc = .ok (.invokestatic index, 3))
    (hf : 1 ≤ R.frames) {W : Nat} (hW : 2 * g.monitorRoom + (rest.map fun v => v.category).sum ≤ W) (hlo : W + (nativeFrameWords "java/lang/System" "arraycopy" 5 + 11) ≤ R.locals) :
    ∃ T' h' L, Stand p l e R s m args below meth c T' L cells slots ∧ T'.heap = h' ∧ Fr n0 L ∧ Keep h h' [b] ∧ Arv Z h' b k' .byte (Int32.ofNat M) (own_fv H M) dd ∧
      ∀ target, Steps p.tables e below (T'.setTop { g with pc := g.pc + 3, stack := rest }) target → Steps p.tables e below (T.setTop g) target := by
  obtain ⟨T', h', L, X', e', N', K', A', st⟩ := cpA X hx hZ hown w1 w2 w3 w4 eT A B (Or.inl ⟨rfl, rfl⟩) (own_nn (by omega)) (own_nn (by omega)) (own_nn hnn) (by rw [own_nat (by omega), own_nat hnn, own_nat hN]; exact h1) (by rw [own_nat (by omega), own_nat hnn, own_nat hM]; exact h2) rfl (by rw [own_nat (by omega), own_nat hnn, own_fvlen]; exact h2) Nf ge hg hsize hs hd hf hW hlo
  rw [own_nat (show dp < 2147483648 by omega), own_nat hnn, own_nat (show sp < 2147483648 by omega)] at A'
  exact ⟨T', h', L, X', e', N', K', A'.pad (own_cpfv h1 h2 hH), st⟩
theorem own_isref {v : Value} (h : v.isRef = true) : (∃ a, v = .ref a) ∨ v = .null := by cases v <;> first | exact Or.inl ⟨_, rfl⟩ | exact Or.inr rfl | cases h
def own_sh (f : Nat → Int32) (s : Nat) : Nat → Int32 := fun j => f (s + j)
theorem own_sh0 (f : Nat → Int32) : own_sh f 0 = f := by funext j; simp [own_sh]
def own_low (c : Int32) : Int32 := if c < (65 : Int32) then c else if (122 : Int32) < (c ||| (32 : Int32)) then (if (c ||| (32 : Int32)) < (224 : Int32) then c else if (254 : Int32) < (c ||| (32 : Int32)) then c else if (c ||| (32 : Int32)) = (247 : Int32) then c else (c ||| (32 : Int32))) else (c ||| (32 : Int32))
def own_lw (f : Nat → Int32) : Nat → Int32 := fun j => own_low (f j)
def own_mxf (f : Nat → Int32) (i : Nat) : Nat → Int32 := fun j => if j < i then own_low (f j) else 0
def own_ix (f : Nat → Int32) (n : Nat) (r : Int32) : Prop := (∃ k, k < n ∧ r = Int32.ofNat k ∧ f k = 59 ∧ ∀ j, j < k → ¬ f j = 59) ∨ (r = (-1 : Int32) ∧ ∀ j, j < n → ¬ f j = 59)
def own_tr (f : Nat → Int32) (n u e : Nat) : Prop := u ≤ e ∧ e ≤ n ∧ (∀ j, j < u → ¬ (32 : Int32) < f j) ∧ (∀ j, e ≤ j → j < n → ¬ (32 : Int32) < f j) ∧ ((u < e ∧ (32 : Int32) < f u ∧ (32 : Int32) < f (e - 1)) ∨ (u = n ∧ e = n))
def own_whole (f : Nat → Int32) (n : Nat) : Prop := n = 0 ∨ ((32 : Int32) < f 0 ∧ (32 : Int32) < f (n - 1))
def own_mt (f : Nat → Int32) (n k u e : Nat) : Prop := (k ≤ n ∧ (∀ j, j < k → ¬ f j = 59) ∧ (k < n → f k = 59)) ∧ own_tr f k u e
def own_min (a b : Int32) : Int32 := if b < a then b else a
theorem own_minself (a : Int32) : own_min a a = a := ite_self _
theorem own_minle {a b : Nat} (h : b ≤ a) (ha : a < 2147483648) : own_min (Int32.ofNat a) (Int32.ofNat b) = Int32.ofNat b := by
  unfold own_min
  by_cases q : b < a
  · rw [if_pos ((own_lt (by omega) ha).mpr q)]
  · rw [if_neg (fun z => q ((own_lt (by omega) ha).mp z)), show a = b by omega]
theorem own_le {a b : Nat} (h : a ≤ b) (hb : b < 2147483648) : ¬ (Int32.ofNat b < Int32.ofNat a) := fun q => by have := (own_lt hb (by omega)).mp q; omega
theorem own_subm (s m : Nat) : Int32.ofNat (s + m) - Int32.ofNat s = Int32.ofNat m := by rw [own_sub (by omega), Nat.add_sub_cancel_left]
theorem own_shr0 (c : Int32) : c >>> ((0 : Int32) &&& 31) = c := by
  have e : ((0 : Int32) &&& 31) = 0 := by decide
  rw [e]; simp
theorem own_byte {P : Int32 → Prop} [DecidablePred P] (H : ∀ k : Fin 256, P (Int32.ofNat k.val)) {c : Int32} (h : ¬ c < 0 ∧ ¬ (255 : Int32) < c) : P c := by
  obtain ⟨h1, h2⟩ := h
  rw [Int32.lt_iff_toInt_lt] at h1 h2
  have e0 : (0 : Int32).toInt = 0 := rfl
  have e1 : (255 : Int32).toInt = 255 := rfl
  have e : c = Int32.ofNat c.toInt.toNat := by rw [← Int32.toInt_inj, own_int (by omega)]; omega
  rw [e]; exact H ⟨c.toInt.toNat, by omega⟩
theorem own_b255 {c : Int32} (h : ¬ c < 0 ∧ ¬ (255 : Int32) < c) : own_by c &&& (255 : Int32) = c := own_byte (P := fun c => own_by c &&& (255 : Int32) = c) (by decide +kernel) h
theorem own_by59 {c : Int32} (h : ¬ c < 0 ∧ ¬ (255 : Int32) < c) : own_by c = ((59 : Int32).toInt8.toInt32) → c = 59 := own_byte (P := fun c => own_by c = ((59 : Int32).toInt8.toInt32) → c = 59) (by decide +kernel) h
theorem own_lowr {c : Int32} (h : ¬ c < 0 ∧ ¬ (255 : Int32) < c) : ¬ own_low c < 0 ∧ ¬ (255 : Int32) < own_low c := own_byte (P := fun c => ¬ own_low c < 0 ∧ ¬ (255 : Int32) < own_low c) (by decide +kernel) h
theorem own_all {P : Nat → Prop} {i : Nat} (h : ∀ j, j < i → P j) (q : P i) : ∀ j, j < i + 1 → P j := fun j hj => by
  by_cases e : j = i
  · subst e; exact q
  · exact h j (by omega)
theorem own_allr {P : Nat → Prop} {n i : Nat} (h : ∀ j, i ≤ j → j < n → P j) (hi : 1 ≤ i) (q : P (i - 1)) : ∀ j, i - 1 ≤ j → j < n → P j := fun j h1 h2 => by
  by_cases e : j = i - 1
  · subst e; exact q
  · exact h j (by omega) h2
theorem own_tr_of {f : Nat → Int32} {n : Nat} (h : own_whole f n) : own_tr f n 0 n := by
  rcases h with h | ⟨h1, h2⟩
  · exact ⟨by omega, by omega, fun j hj => absurd hj (by omega), fun j h1 h2 => absurd h2 (by omega), Or.inr ⟨by omega, rfl⟩⟩
  · by_cases q : n = 0
    · exact ⟨by omega, by omega, fun j hj => absurd hj (by omega), fun j h1 h2 => absurd h2 (by omega), Or.inr ⟨by omega, rfl⟩⟩
    · exact ⟨by omega, by omega, fun j hj => absurd hj (by omega), fun j h1 h2 => absurd h2 (by omega), Or.inl ⟨by omega, h1, h2⟩⟩
theorem own_whole_tr {f : Nat → Int32} {n u e : Nat} (h : own_whole f n) (t : own_tr f n u e) : u = 0 ∧ e = n := by
  obtain ⟨h1, h2, h3, h4, h5⟩ := t
  rcases h with h | ⟨q1, q2⟩
  · omega
  · by_cases z : n = 0
    · omega
    · have a : u = 0 := by
        by_cases w : u = 0
        · exact w
        · exact absurd q1 (h3 0 (by omega))
      have b : e = n := by
        by_cases w : e = n
        · exact w
        · exact absurd q2 (h4 (n - 1) (by omega) (by omega))
      exact ⟨a, b⟩
theorem own_tr_whole {f : Nat → Int32} {n : Nat} (t : own_tr f n 0 n) : own_whole f n := by
  obtain ⟨h1, h2, h3, h4, h5⟩ := t
  rcases h5 with ⟨a, b, c⟩ | ⟨a, b⟩
  · exact Or.inr ⟨b, c⟩
  · exact Or.inl (by omega)
theorem own_strict {f : Nat → Int32} {n u e : Nat} (h : ¬ own_whole f n) (t : own_tr f n u e) : ¬ (u = 0 ∧ e - u = n) := fun q => h (own_tr_whole (by
  obtain ⟨q1, q2⟩ := q; subst q1; have : e = n := by omega
  subst this; exact t))
theorem own_hpsh {f : Nat → Int32} {n u e k : Nat} (hp : ∀ j, j < n → ¬ f j < 0 ∧ ¬ (255 : Int32) < f j) (t : own_tr f k u e) (hk : k ≤ n) : ∀ j, j < e - u → ¬ own_sh f u j < 0 ∧ ¬ (255 : Int32) < own_sh f u j := fun j hj => hp (u + j) (by have := t.2.1; omega)
theorem own_arvne {Z : State} {h : Heap} {a b : Addr} {k k' : ClassId} {z z' : Int32} {vs vs' : List Value} {d d' : Value} (A : Arv Z h a k .byte z vs d) (B : Arv Z h b k' .byte z' vs' d') (q : z.toNatClampNeg ≠ z'.toNatClampNeg) : a ≠ b := fun e => by
  subst e
  obtain ⟨c, A1, -, S, -⟩ := A
  obtain ⟨c', B1, -, S', -⟩ := B
  cases A1.1.symm.trans B1.1
  exact q (S.symm.trans S')
theorem own_cplow {f : Nat → Int32} {i n : Nat} (h : ∀ j, j < i → own_low (f j) = f j) : ∀ j, j < n → own_mxf f i j = if 0 ≤ j ∧ j < 0 + i then f (0 + (j - 0)) else own_zf j := fun j _ => by
  unfold own_mxf
  by_cases q : j < i
  · rw [if_pos q, if_pos ⟨Nat.zero_le _, by omega⟩, h j q, Nat.zero_add, Nat.sub_zero]
  · rw [if_neg q, if_neg (by omega)]; rfl
theorem own_byby (x : Int32) : own_by (x.toInt8.toInt32) = own_by x := by unfold own_by; rw [Int8.toInt8_toInt32]
theorem own_mxs (f : Nat → Int32) (i : Nat) : own_by (own_mxf f (i + 1) i) = own_by ((own_low (f i)).toInt8.toInt32) := by rw [own_byby]; unfold own_mxf; rw [if_pos (by omega)]
theorem own_mxo (f : Nat → Int32) (i : Nat) {n : Nat} : ∀ j, j < n → j ≠ i → own_mxf f (i + 1) j = own_mxf f i j := fun j _ hj => by
  unfold own_mxf
  by_cases q : j < i
  · rw [if_pos (by omega), if_pos q]
  · rw [if_neg (by omega), if_neg q]
def own_ap : Nat → Int32 := fun j => ([97, 112, 112, 108, 105, 99, 97, 116, 105, 111, 110, 47, 106, 115, 111, 110] : List Int32).getD j 0
def own_su : Nat → Int32 := fun j => ([43, 106, 115, 111, 110] : List Int32).getD j 0
theorem own_apV : own_fv own_ap 16 = [.int (97 : Int32), .int (112 : Int32), .int (112 : Int32), .int (108 : Int32), .int (105 : Int32), .int (99 : Int32), .int (97 : Int32), .int (116 : Int32), .int (105 : Int32), .int (111 : Int32), .int (110 : Int32), .int (47 : Int32), .int (106 : Int32), .int (115 : Int32), .int (111 : Int32), .int (110 : Int32)] := by decide +kernel
def own_eqs (f : Nat → Int32) (n : Nat) (g : Nat → Int32) (q : Nat) : Prop := n = q ∧ ∀ j, j < n → f j = g j
def own_en (f : Nat → Int32) (ix : Nat) : Prop := ∀ j, j < 5 → f (ix + j) = own_su j
def own_ew (f : Nat → Int32) (n : Nat) : Prop := 5 ≤ n ∧ own_en f (n - 5)
def own_js (f : Nat → Int32) (n : Nat) : Prop := own_eqs f n own_ap 16 ∨ own_ew f n
theorem own_byinj {c d : Int32} (hc : ¬ c < 0 ∧ ¬ (255 : Int32) < c) (hd : ¬ d < 0 ∧ ¬ (255 : Int32) < d) (h : own_by c = own_by d) : c = d := by rw [← own_b255 hc, ← own_b255 hd, h]
theorem own_strsame {Z : State} {h : Heap} {a b t t' : Addr} {k k' : ClassId} {f g : Nat → Int32} {n q : Nat} {d d' : Value} (e : a = b) (F : Fld Z h a "java/lang/String" "value" "[B" (.ref t)) (G : Fld Z h b "java/lang/String" "value" "[B" (.ref t')) (A : Arv Z h t k .byte (Int32.ofNat n) (own_fv f n) d) (B : Arv Z h t' k' .byte (Int32.ofNat q) (own_fv g q) d')
    (hp : ∀ j, j < n → ¬ f j < 0 ∧ ¬ (255 : Int32) < f j) (hg : ∀ j, j < q → ¬ g j < 0 ∧ ¬ (255 : Int32) < g j) (hn : n < 2147483648) (hq : q < 2147483648) : own_eqs f n g q := by
  subst e
  have et : t = t' := Classical.byContradiction fun w => Fld.ne F G (fun z => w (Value.ref.inj z)) rfl
  subst et
  obtain ⟨c, A1, -, S, -, H, -⟩ := A
  obtain ⟨c', B1, -, S', -, H', -⟩ := B
  cases A1.1.symm.trans B1.1
  rw [own_nat hn] at S; rw [own_nat hq] at S'
  have enq : n = q := S.symm.trans S'
  subst enq
  refine ⟨rfl, fun j hj => ?_⟩
  have h1 := H j (by omega); have h2 := H' j (by omega)
  rw [own_fvget _ _ _ _ hj] at h1 h2
  have h3 := h1.symm.trans h2
  exact own_byinj (hp j hj) (hg j hj) (Value.int.inj (Option.some.inj h3))
theorem own_sub5 {f : Nat → Int32} {ix : Nat} (hp : ∀ j, j < 5 → ¬ f (ix + j) < 0 ∧ ¬ (255 : Int32) < f (ix + j)) (h0 : own_by (f (ix + 0)) = (43 : Int32)) (h1 : own_by (f (ix + 1)) = (106 : Int32)) (h2 : own_by (f (ix + 2)) = (115 : Int32)) (h3 : own_by (f (ix + 3)) = (111 : Int32)) (h4 : own_by (f (ix + 4)) = (110 : Int32)) : own_en f ix := fun j hj => by
  rcases (by omega : j = 0 ∨ j = 1 ∨ j = 2 ∨ j = 3 ∨ j = 4) with rfl | rfl | rfl | rfl | rfl
  · exact own_byinj (hp 0 (by omega)) (by decide) (h0.trans (by decide))
  · exact own_byinj (hp 1 (by omega)) (by decide) (h1.trans (by decide))
  · exact own_byinj (hp 2 (by omega)) (by decide) (h2.trans (by decide))
  · exact own_byinj (hp 3 (by omega)) (by decide) (h3.trans (by decide))
  · exact own_byinj (hp 4 (by omega)) (by decide) (h4.trans (by decide))
theorem own_subr (a b : Nat) : Int32.ofNat (a + b) - Int32.ofNat b = Int32.ofNat a := by rw [own_sub (by omega), Nat.add_sub_cancel]
theorem own_neg {n : Nat} (h : n ≤ 4) : Int32.ofNat n - (5 : Int32) < (0 : Int32) := by
  rcases (by omega : n = 0 ∨ n = 1 ∨ n = 2 ∨ n = 3 ∨ n = 4) with rfl | rfl | rfl | rfl | rfl <;> decide
theorem own_aprange : ∀ j, j < 16 → ¬ own_ap j < 0 ∧ ¬ (255 : Int32) < own_ap j := fun j hj => (by decide +kernel : ∀ k : Fin 16, ¬ own_ap k.val < 0 ∧ ¬ (255 : Int32) < own_ap k.val) ⟨j, hj⟩
theorem own_hpmt {f : Nat → Int32} {n k u e : Nat} (hp : ∀ j, j < n → ¬ f j < 0 ∧ ¬ (255 : Int32) < f j) (t : own_mt f n k u e) : ∀ j, j < e - u → ¬ own_lw (own_sh f u) j < 0 ∧ ¬ (255 : Int32) < own_lw (own_sh f u) j := fun j hj => own_lowr (hp (u + j) (by have := t.1.1; have := t.2.2.1; omega))
theorem own_mtle {f : Nat → Int32} {n k u e : Nat} (t : own_mt f n k u e) : u ≤ e ∧ e ≤ n := ⟨t.2.1, Nat.le_trans t.2.2.1 t.1.1⟩
def own_n16 (c : Int32) : Int32 := c.toUInt32.toUInt16.toUInt32.toInt32
def own_cased (c u : Int32) : Int32 := if u = (0 : Int32) then (c.toUInt32.toUInt16.toUInt32.toInt32) else (((c - (32 : Int32)).toUInt32.toUInt16.toUInt32.toInt32).toUInt32.toUInt16.toUInt32.toInt32)
def own_cv (f : Nat → Int32) (n : Nat) : List Value := (List.range n).map fun j => .int (f j)
theorem own_cvlen (f : Nat → Int32) (n : Nat) : (own_cv f n).length = n := by simp [own_cv]
theorem own_cvget (f : Nat → Int32) (n j : Nat) (d : Value) (h : j < n) : (own_cv f n).getD j d = .int (f j) := by simp [own_cv, List.getD_eq_getElem?_getD, h]
theorem own_cvout (f : Nat → Int32) (n j : Nat) (d : Value) (h : ¬ j < n) : (own_cv f n).getD j d = d := by rw [List.getD_eq_getElem?_getD, List.getElem?_eq_none (by rw [own_cvlen]; omega)]; rfl
theorem own_setcv {f g : Nat → Int32} {n i : Nat} {x : Int32} {d : Value} (h1 : g i = own_n16 x) (h2 : ∀ j, j ≠ i → g j = f j) : ∀ j, (own_cv g n).getD j d = ((own_cv f n).set i (.int (x.toUInt32.toUInt16.toUInt32.toInt32))).getD j d := fun j => by
  by_cases hj : j < n
  · by_cases e : j = i
    · subst e; rw [own_cvget _ _ _ _ hj, h1]; simp [List.getD_eq_getElem?_getD, own_cvlen, hj, own_n16]
    · rw [own_cvget _ _ _ _ hj, h2 j e, ← own_cvget f n j d hj]; simp [List.getD_eq_getElem?_getD, Ne.symm e]
  · rw [own_cvout _ _ _ _ hj, List.getD_eq_getElem?_getD, List.getElem?_eq_none (by rw [List.length_set, own_cvlen]; omega)]; rfl
def own_set (f : Nat → Int32) (i : Nat) (v : Int32) : Nat → Int32 := fun j => if j = i then v else f j
theorem own_seti (f : Nat → Int32) (i : Nat) (v : Int32) : own_set f i v i = v := if_pos rfl
theorem own_seto (f : Nat → Int32) (i : Nat) (v : Int32) : ∀ j, j ≠ i → own_set f i v j = f j := fun j h => if_neg h
def own_co (z x y u : Int32) : Nat → Int32
  | 0 => own_n16 z
  | 11 => own_n16 x
  | 12 => own_n16 y
  | j => own_n16 (own_cased (own_ap j) u)
def own_put (f : Nat → Int32) (z x y u : Int32) (o i : Nat) : Nat → Int32 := fun j => if o ≤ j ∧ j < o + i then own_co z x y u (j - o) else f j
theorem own_put_s {f : Nat → Int32} {z x y u v : Int32} {o i : Nat} (h : own_co z x y u i = own_n16 v) : own_put f z x y u o (i + 1) (o + i) = own_n16 v := by
  unfold own_put; rw [if_pos ⟨by omega, by omega⟩, Nat.add_sub_cancel_left, h]
theorem own_put_o {f : Nat → Int32} {z x y u : Int32} {o i : Nat} : ∀ j, j ≠ o + i → own_put f z x y u o (i + 1) j = own_put f z x y u o i j := fun j hj => by
  unfold own_put
  by_cases q : o ≤ j ∧ j < o + i
  · rw [if_pos ⟨q.1, by omega⟩, if_pos q]
  · rw [if_neg (fun w => q ⟨w.1, by omega⟩), if_neg q]
theorem own_put_o0 {f : Nat → Int32} {z x y u : Int32} {o : Nat} : ∀ j, j ≠ o → own_put f z x y u o 1 j = f j := fun j hj => if_neg (fun w => hj (by omega))
def own_tc : Nat → Int32 := fun j => ([59, 43, 106, 115, 111, 110] : List Int32).getD j 0
def own_tl (f : Nat → Int32) (o i : Nat) : Nat → Int32 := fun j => if o ≤ j ∧ j < o + i then own_tc (j - o) else f j
theorem own_tl_s {f : Nat → Int32} {v : Int32} {o i : Nat} (h : own_tc i = own_n16 v) : own_tl f o (i + 1) (o + i) = own_n16 v := by
  unfold own_tl; rw [if_pos ⟨by omega, by omega⟩, Nat.add_sub_cancel_left, h]
theorem own_tl_o {f : Nat → Int32} {o i : Nat} : ∀ j, j ≠ o + i → own_tl f o (i + 1) j = own_tl f o i j := fun j hj => by
  unfold own_tl
  by_cases q : o ≤ j ∧ j < o + i
  · rw [if_pos ⟨q.1, by omega⟩, if_pos q]
  · rw [if_neg (fun w => q ⟨w.1, by omega⟩), if_neg q]
theorem own_tl_o0 {f : Nat → Int32} {o : Nat} : ∀ j, j ≠ o → own_tl f o 1 j = f j := fun j hj => if_neg (fun w => hj (by omega))
theorem own_hpL {F : Nat → Int32} {n : Nat} (hp : ∀ j, ¬ F j < 0 ∧ ¬ (255 : Int32) < F j) : ∀ c ∈ (List.range n).map F, ¬ c < 0 ∧ ¬ (255 : Int32) < c := fun c hc => by
  obtain ⟨j, -, rfl⟩ := List.mem_map.mp hc; exact hp j
theorem own_low43 {c : Int32} (h : ¬ c < 0 ∧ ¬ (255 : Int32) < c) : own_low c = (43 : Int32) → c = 43 := own_byte (P := fun c => own_low c = (43 : Int32) → c = 43) (by decide +kernel) h
theorem own_low47 {c : Int32} (h : ¬ c < 0 ∧ ¬ (255 : Int32) < c) : own_low c = (47 : Int32) → c = 47 := own_byte (P := fun c => own_low c = (47 : Int32) → c = 47) (by decide +kernel) h
theorem own_low97 {c : Int32} (h : ¬ c < 0 ∧ ¬ (255 : Int32) < c) : own_low c = (97 : Int32) → c = 97 ∨ c = 65 := own_byte (P := fun c => own_low c = (97 : Int32) → c = 97 ∨ c = 65) (by decide +kernel) h
theorem own_low106 {c : Int32} (h : ¬ c < 0 ∧ ¬ (255 : Int32) < c) : own_low c = (106 : Int32) → c = 106 ∨ c = 74 := own_byte (P := fun c => own_low c = (106 : Int32) → c = 106 ∨ c = 74) (by decide +kernel) h
theorem own_json {f : Nat → Int32} {n k u e o : Nat} (mt : own_mt f n k u e) (ho : o ≤ 1) (hn : o + 16 ≤ n) (hr : ∀ j, ¬ f j < 0 ∧ ¬ (255 : Int32) < f j)
    (hL : ∀ i, i < 16 → i ≠ 0 → i ≠ 11 → i ≠ 12 → own_low (f (o + i)) = own_ap i ∧ (32 : Int32) < f (o + i) ∧ ¬ f (o + i) = 59)
    (hE : (o + 16 = n ∨ f (o + 16) = 59) ∨ (o + 17 ≤ n ∧ (o + 17 = n ∨ f (o + 17) = 59))) :
    own_js (own_lw (own_sh f u)) (e - u) ↔ (¬ (o = 1 ∧ f 0 = 59)) ∧ ¬ f o = 59 ∧ ¬ (¬ (o + 16 = n ∨ f (o + 16) = 59) ∧ (32 : Int32) < f (o + 16)) ∧ ((f (o + 11) = 43 ∧ (f (o + 12) = 106 ∨ f (o + 12) = 74)) ∨ (f (o + 11) = 47 ∧ (f (o + 12) = 106 ∨ f (o + 12) = 74) ∧ (f o = 97 ∨ f o = 65) ∧ ¬ (o = 1 ∧ (32 : Int32) < f 0))) := by
  obtain ⟨⟨hk, h59, hk59⟩, h1, h2, h3, h4, h5⟩ := mt
  have gv : ∀ j, own_lw (own_sh f u) j = own_low (f (u + j)) := fun j => rfl
  have hkl : ∀ i, i < 16 → i ≠ 0 → i ≠ 11 → i ≠ 12 → k ≠ o + i := fun i a b c d q => (hL i a b c d).2.2 (by rw [← q]; exact hk59 (by omega))
  have hk17 : k ≤ o + 17 := by
    rcases hE with (q | q) | ⟨q0, q | q⟩
    · omega
    · exact Nat.le_of_not_lt fun w => h59 (o + 16) (by omega) q
    · omega
    · exact Nat.le_of_not_lt fun w => h59 (o + 17) (by omega) q
  have he : ∀ i, i < 16 → i ≠ 0 → i ≠ 11 → i ≠ 12 → o + i < k → o + i < e := fun i a b c d q => Nat.lt_of_not_le fun w => h4 (o + i) w q (hL i a b c d).2.1
  have hu : ∀ i, i < 16 → i ≠ 0 → i ≠ 11 → i ≠ 12 → u ≤ o + i := fun i a b c d => Nat.le_of_not_lt fun w => h3 (o + i) w (hL i a b c d).2.1
  have i1 := hkl 1 (by decide) (by decide) (by decide) (by decide)
  have i2 := hkl 2 (by decide) (by decide) (by decide) (by decide)
  have i3 := hkl 3 (by decide) (by decide) (by decide) (by decide)
  have i4 := hkl 4 (by decide) (by decide) (by decide) (by decide)
  have i5 := hkl 5 (by decide) (by decide) (by decide) (by decide)
  have i6 := hkl 6 (by decide) (by decide) (by decide) (by decide)
  have i7 := hkl 7 (by decide) (by decide) (by decide) (by decide)
  have i8 := hkl 8 (by decide) (by decide) (by decide) (by decide)
  have i9 := hkl 9 (by decide) (by decide) (by decide) (by decide)
  have i10 := hkl 10 (by decide) (by decide) (by decide) (by decide)
  have i13 := hkl 13 (by decide) (by decide) (by decide) (by decide)
  have i14 := hkl 14 (by decide) (by decide) (by decide) (by decide)
  have i15 := hkl 15 (by decide) (by decide) (by decide) (by decide)
  have L : ∀ i, i < 16 → i ≠ 0 → i ≠ 11 → i ≠ 12 → own_low (f (o + i)) = own_ap i := fun i a b c d => (hL i a b c d).1
  constructor
  · intro js
    have m5 : 5 ≤ e - u := by rcases js with ⟨q, -⟩ | ⟨q, -⟩ <;> omega
    have k11 : o + 11 ≤ k := by omega
    have e11 := he 10 (by decide) (by decide) (by decide) (by decide) (by omega)
    have k13 : o + 13 ≤ k := by
      rcases Nat.lt_or_ge k (o + 13) with q | q
      · exfalso
        rcases js with ⟨m16, -⟩ | ⟨-, en⟩
        · omega
        · have z := en 0 (by omega)
          rw [gv] at z
          rcases (by omega : e = o + 11 ∨ e = o + 12) with w | w
          · rw [show u + (e - u - 5 + 0) = o + 6 by omega, L 6 (by decide) (by decide) (by decide) (by decide)] at z; exact absurd z (by decide)
          · rw [show u + (e - u - 5 + 0) = o + 7 by omega, L 7 (by decide) (by decide) (by decide) (by decide)] at z; exact absurd z (by decide)
      · exact q
    have k16 : o + 16 ≤ k := by omega
    have e16 := he 15 (by decide) (by decide) (by decide) (by decide) (by omega)
    have c16 : e = o + 16 := by
      rcases (by omega : e = o + 16 ∨ e = o + 17) with w | w
      · exact w
      · exfalso
        rcases js with ⟨m16, al⟩ | ⟨-, en⟩
        · have z := al 0 (by omega)
          rw [gv, show u + 0 = o + 1 by omega, L 1 (by decide) (by decide) (by decide) (by decide)] at z; exact absurd z (by decide)
        · have z := en 1 (by omega)
          rw [gv, show u + (e - u - 5 + 1) = o + 13 by omega, L 13 (by decide) (by decide) (by decide) (by decide)] at z; exact absurd z (by decide)
    refine ⟨fun q => h59 0 (by omega) q.2, h59 o (by omega), fun q => ?_, ?_⟩
    · have kk : o + 16 < k := by
        rcases Nat.lt_or_ge (o + 16) k with w | w
        · exact w
        · exfalso
          have ek : k = o + 16 := by omega
          by_cases en : o + 16 = n
          · exact q.1 (Or.inl en)
          · exact q.1 (Or.inr (by rw [← ek]; exact hk59 (by omega)))
      exact h4 (o + 16) (by omega) kk q.2
    · rcases js with ⟨m16, al⟩ | ⟨-, en⟩
      · right
        have z0 := al 0 (by omega)
        have z11 := al 11 (by omega)
        have z12 := al 12 (by omega)
        rw [gv, show u + 0 = o by omega] at z0
        rw [gv, show u + 11 = o + 11 by omega] at z11
        rw [gv, show u + 12 = o + 12 by omega] at z12
        exact ⟨own_low47 (hr _) z11, own_low106 (hr _) z12, own_low97 (hr _) z0, fun q => h3 0 (by omega) q.2⟩
      · left
        have z0 := en 0 (by omega)
        have z1 := en 1 (by omega)
        rw [gv, show u + (e - u - 5 + 0) = o + 11 by omega] at z0
        rw [gv, show u + (e - u - 5 + 1) = o + 12 by omega] at z1
        exact ⟨own_low43 (hr _) z0, own_low106 (hr _) z1⟩
  · rintro ⟨c1, c2, c3, c4⟩
    have x59 : ¬ f (o + 11) = 59 := by rcases c4 with ⟨q, -⟩ | ⟨q, -⟩ <;> rw [q] <;> decide
    have y59 : ¬ f (o + 12) = 59 := by rcases c4 with ⟨-, q | q⟩ | ⟨-, q | q, -⟩ <;> rw [q] <;> decide
    have k16 : o + 16 ≤ k := by
      rcases Nat.lt_or_ge k (o + 16) with q | q
      · exfalso
        have fk := hk59 (by omega)
        rcases (by omega : (k = 0 ∧ o = 1) ∨ k = o ∨ k = o + 11 ∨ k = o + 12) with w | w | w | w
        · exact c1 ⟨w.2, by rw [← w.1]; exact fk⟩
        · exact c2 (by rw [← w]; exact fk)
        · exact x59 (by rw [← w]; exact fk)
        · exact y59 (by rw [← w]; exact fk)
      · exact q
    have e16 := he 15 (by decide) (by decide) (by decide) (by decide) (by omega)
    have ub1 : u ≤ o + 1 := hu 1 (by decide) (by decide) (by decide) (by decide)
    have c16 : e = o + 16 := by
      rcases (by omega : e = o + 16 ∨ e = o + 17) with w | w
      · exact w
      · exfalso
        rcases h5 with ⟨d1, d2, d3⟩ | ⟨d1, d2⟩
        · refine c3 ⟨fun q => ?_, by rw [show o + 16 = e - 1 by omega]; exact d3⟩
          rcases q with q | q
          · omega
          · exact h59 (o + 16) (by omega) q
        · omega
    rcases c4 with ⟨x, y⟩ | ⟨x, y, z, a⟩
    · right
      refine ⟨by omega, fun j hj => ?_⟩
      rw [gv, show u + (e - u - 5 + j) = o + (11 + j) by omega]
      rcases (by omega : j = 0 ∨ j = 1 ∨ j = 2 ∨ j = 3 ∨ j = 4) with rfl | rfl | rfl | rfl | rfl
      · show own_low (f (o + 11)) = _; rw [x]; decide
      · show own_low (f (o + 12)) = _; rcases y with y | y <;> rw [y] <;> decide
      · show own_low (f (o + 13)) = _; rw [L 13 (by decide) (by decide) (by decide) (by decide)]; decide
      · show own_low (f (o + 14)) = _; rw [L 14 (by decide) (by decide) (by decide) (by decide)]; decide
      · show own_low (f (o + 15)) = _; rw [L 15 (by decide) (by decide) (by decide) (by decide)]; decide
    · left
      have uo : u = o := by
        have u1 : u ≤ o := Nat.le_of_not_lt fun w => h3 o w (by rcases z with z | z <;> rw [z] <;> decide)
        rcases (by omega : u = o ∨ (u = 0 ∧ o = 1)) with w | w
        · exact w
        · exfalso
          rcases h5 with ⟨d1, d2, d3⟩ | ⟨d1, d2⟩
          · exact a ⟨w.2, by rw [← w.1]; exact d2⟩
          · omega
      refine ⟨by omega, fun j hj => ?_⟩
      rw [gv, show u + j = o + j by omega]
      by_cases q0 : j = 0
      · subst q0; show own_low (f o) = _; rcases z with z | z <;> rw [z] <;> decide
      · by_cases q1 : j = 11
        · subst q1; rw [x]; decide
        · by_cases q2 : j = 12
          · subst q2; rcases y with y | y <;> rw [y] <;> decide
          · exact L j (by omega) q0 q1 q2
theorem own_co_l {z x y u : Int32} (hu : u = 0 ∨ u = 1) : ∀ i, i < 16 → i ≠ 0 → i ≠ 11 → i ≠ 12 → own_low (own_co z x y u i) = own_ap i ∧ (32 : Int32) < own_co z x y u i ∧ ¬ own_co z x y u i = 59 := fun i hi h0 h1 h2 => by
  have e : own_co z x y u i = own_n16 (own_cased (own_ap i) u) := by unfold own_co; split <;> first | contradiction | rfl
  rw [e]
  rcases hu with rfl | rfl
  · exact (by decide +kernel : ∀ k : Fin 16, k.val ≠ 0 → k.val ≠ 11 → k.val ≠ 12 → own_low (own_n16 (own_cased (own_ap k.val) 0)) = own_ap k.val ∧ (32 : Int32) < own_n16 (own_cased (own_ap k.val) 0) ∧ ¬ own_n16 (own_cased (own_ap k.val) 0) = 59) ⟨i, hi⟩ h0 h1 h2
  · exact (by decide +kernel : ∀ k : Fin 16, k.val ≠ 0 → k.val ≠ 11 → k.val ≠ 12 → own_low (own_n16 (own_cased (own_ap k.val) 1)) = own_ap k.val ∧ (32 : Int32) < own_n16 (own_cased (own_ap k.val) 1) ∧ ¬ own_n16 (own_cased (own_ap k.val) 1) = 59) ⟨i, hi⟩ h0 h1 h2
theorem own_n16r {c : Int32} (h : ¬ c < 0 ∧ ¬ (255 : Int32) < c) : own_n16 c = c := own_byte (P := fun c => own_n16 c = c) (by decide +kernel) h
theorem own_rzf : ∀ j, ¬ own_zf j < 0 ∧ ¬ (255 : Int32) < own_zf j := fun _ => ⟨by show ¬ (0 : Int32) < 0; decide, by show ¬ (255 : Int32) < 0; decide⟩
theorem own_rset {f : Nat → Int32} {i : Nat} {v : Int32} (h : ∀ j, ¬ f j < 0 ∧ ¬ (255 : Int32) < f j) (hv : ¬ v < 0 ∧ ¬ (255 : Int32) < v) : ∀ j, ¬ own_set f i (own_n16 v) j < 0 ∧ ¬ (255 : Int32) < own_set f i (own_n16 v) j := fun j => by
  unfold own_set; rw [own_n16r hv]; split
  · exact hv
  · exact h j
theorem own_rco {z x y u : Int32} (hz : ¬ z < 0 ∧ ¬ (255 : Int32) < z) (hx : ¬ x < 0 ∧ ¬ (255 : Int32) < x) (hy : ¬ y < 0 ∧ ¬ (255 : Int32) < y) (hu : u = 0 ∨ u = 1) : ∀ i, i < 16 → ¬ own_co z x y u i < 0 ∧ ¬ (255 : Int32) < own_co z x y u i := fun i hi => by
  by_cases h0 : i = 0
  · subst h0; show ¬ own_n16 z < 0 ∧ ¬ (255 : Int32) < own_n16 z; rw [own_n16r hz]; exact hz
  · by_cases h1 : i = 11
    · subst h1; show ¬ own_n16 x < 0 ∧ ¬ (255 : Int32) < own_n16 x; rw [own_n16r hx]; exact hx
    · by_cases h2 : i = 12
      · subst h2; show ¬ own_n16 y < 0 ∧ ¬ (255 : Int32) < own_n16 y; rw [own_n16r hy]; exact hy
      · have e : own_co z x y u i = own_n16 (own_cased (own_ap i) u) := by unfold own_co; split <;> first | contradiction | rfl
        rw [e]
        rcases hu with rfl | rfl
        · exact (by decide +kernel : ∀ k : Fin 16, ¬ own_n16 (own_cased (own_ap k.val) 0) < 0 ∧ ¬ (255 : Int32) < own_n16 (own_cased (own_ap k.val) 0)) ⟨i, hi⟩
        · exact (by decide +kernel : ∀ k : Fin 16, ¬ own_n16 (own_cased (own_ap k.val) 1) < 0 ∧ ¬ (255 : Int32) < own_n16 (own_cased (own_ap k.val) 1)) ⟨i, hi⟩
theorem own_rput {f : Nat → Int32} {z x y u : Int32} {o : Nat} (h : ∀ j, ¬ f j < 0 ∧ ¬ (255 : Int32) < f j) (hz : ¬ z < 0 ∧ ¬ (255 : Int32) < z) (hx : ¬ x < 0 ∧ ¬ (255 : Int32) < x) (hy : ¬ y < 0 ∧ ¬ (255 : Int32) < y) (hu : u = 0 ∨ u = 1) : ∀ j, ¬ own_put f z x y u o 16 j < 0 ∧ ¬ (255 : Int32) < own_put f z x y u o 16 j := fun j => by
  unfold own_put; split
  · exact own_rco hz hx hy hu _ (by omega)
  · exact h j
theorem own_rtl {f : Nat → Int32} {o : Nat} (h : ∀ j, ¬ f j < 0 ∧ ¬ (255 : Int32) < f j) : ∀ j, ¬ own_tl f o 6 j < 0 ∧ ¬ (255 : Int32) < own_tl f o 6 j := fun j => by
  unfold own_tl; split
  · next q => exact (by decide +kernel : ∀ k : Fin 6, ¬ own_tc k.val < 0 ∧ ¬ (255 : Int32) < own_tc k.val) ⟨j - o, by omega⟩
  · exact h j
abbrev own_yj (y : Int32) : Prop := y = (106 : Int32) ∨ y = (74 : Int32)
abbrev own_za (z : Int32) : Prop := z = (97 : Int32) ∨ z = (65 : Int32)
abbrev own_e1 (a z x y r : Int32) : Prop := ¬ a = (59 : Int32) ∧ ¬ z = (59 : Int32) ∧ ¬ ((32 : Int32) < r ∧ ¬ r = (59 : Int32)) ∧ ((x = (43 : Int32) ∧ own_yj y) ∨ (x = (47 : Int32) ∧ own_yj y ∧ own_za z ∧ ¬ (32 : Int32) < a))
abbrev own_e0 (z x y : Int32) : Prop := ¬ z = (59 : Int32) ∧ ((x = (43 : Int32) ∧ own_yj y) ∨ (x = (47 : Int32) ∧ own_yj y ∧ own_za z))
theorem own_js1 {f : Nat → Int32} {n k ua ub : Nat} {a z x y r u : Int32} (mt : own_mt f n k ua ub) (hr : ∀ j, ¬ f j < 0 ∧ ¬ (255 : Int32) < f j) (hn : 18 ≤ n) (hu : u = 0 ∨ u = 1) (hz : ¬ z < 0 ∧ ¬ (255 : Int32) < z) (hx : ¬ x < 0 ∧ ¬ (255 : Int32) < x) (hy : ¬ y < 0 ∧ ¬ (255 : Int32) < y) (f0 : f 0 = a) (fc : ∀ i, i < 16 → f (1 + i) = own_co z x y u i) (f17 : f 17 = r) (f18 : 18 = n ∨ f 18 = 59) : own_js (own_lw (own_sh f ua)) (ub - ua) ↔ own_e1 a z x y r := by
  have h := own_json (o := 1) mt (by omega) (by omega) hr (fun i a b c d => by rw [fc i a]; exact own_co_l hu i a b c d) (Or.inr ⟨hn, f18⟩)
  have e1 : f 1 = z := (fc 0 (by omega)).trans (own_n16r hz)
  have e12 : f (1 + 11) = x := (fc 11 (by omega)).trans (own_n16r hx)
  have e13 : f (1 + 12) = y := (fc 12 (by omega)).trans (own_n16r hy)
  have e17 : f (1 + 16) = r := f17
  rw [f0, e1, e12, e13, e17] at h
  refine h.trans ⟨fun ⟨p1, p2, p3, p4⟩ => ⟨fun q => p1 ⟨rfl, q⟩, p2, fun q => p3 ⟨fun w => w.elim (fun v => by omega) q.2, q.1⟩, p4.imp id (fun w => ⟨w.1, w.2.1, w.2.2.1, fun q => w.2.2.2 ⟨rfl, q⟩⟩)⟩, fun ⟨p1, p2, p3, p4⟩ => ⟨fun q => p1 q.2, p2, fun q => p3 ⟨q.2, fun w => q.1 (Or.inr w)⟩, p4.imp id (fun w => ⟨w.1, w.2.1, w.2.2.1, fun q => w.2.2.2 q.2⟩)⟩⟩
theorem own_js0 {f : Nat → Int32} {n k ua ub : Nat} {z x y u : Int32} (mt : own_mt f n k ua ub) (hr : ∀ j, ¬ f j < 0 ∧ ¬ (255 : Int32) < f j) (hn : 16 ≤ n) (hu : u = 0 ∨ u = 1) (hz : ¬ z < 0 ∧ ¬ (255 : Int32) < z) (hx : ¬ x < 0 ∧ ¬ (255 : Int32) < x) (hy : ¬ y < 0 ∧ ¬ (255 : Int32) < y) (fc : ∀ i, i < 16 → f i = own_co z x y u i) (f16 : 16 = n ∨ f 16 = 59) : own_js (own_lw (own_sh f ua)) (ub - ua) ↔ own_e0 z x y := by
  have h := own_json (o := 0) mt (by omega) (by omega) hr (fun i a b c d => by rw [Nat.zero_add, fc i a]; exact own_co_l hu i a b c d) (Or.inl f16)
  have e0 : f 0 = z := (fc 0 (by omega)).trans (own_n16r hz)
  have e11 : f (0 + 11) = x := (fc 11 (by omega)).trans (own_n16r hx)
  have e12 : f (0 + 12) = y := (fc 12 (by omega)).trans (own_n16r hy)
  rw [e0, e11, e12] at h
  exact h.trans ⟨fun ⟨p1, p2, p3, p4⟩ => ⟨p2, p4.imp id (fun w => ⟨w.1, w.2.1, w.2.2.1⟩)⟩, fun ⟨p2, p4⟩ => ⟨fun q => absurd q.1 (by decide), p2, fun q => q.1 f16, p4.imp id (fun w => ⟨w.1, w.2.1, w.2.2, fun q => absurd q.1 (by decide)⟩)⟩⟩
theorem own_and255 (x : Int32) : ¬ (x &&& (255 : Int32)) < 0 ∧ ¬ (255 : Int32) < (x &&& (255 : Int32)) := by
  have h1 := c_and x 255 (by decide)
  have e1 : (255 : Int32).toInt = 255 := by decide
  have e0 : (0 : Int32).toInt = 0 := by decide
  simp only [Int32.lt_iff_toInt_lt, e1, e0] at *
  omega
theorem own_i2c255 (x : Int32) : ¬ ((x &&& (255 : Int32)).toUInt32.toUInt16.toUInt32.toInt32) < 0 ∧ ¬ (255 : Int32) < ((x &&& (255 : Int32)).toUInt32.toUInt16.toUInt32.toInt32) := by
  have h := own_and255 x
  have e : (x &&& (255 : Int32)).toUInt32.toUInt16.toUInt32.toInt32 = x &&& (255 : Int32) := own_n16r h
  rw [e]; exact h
theorem own_k0_c {z x y u : Int32} : ∀ i, i < 16 → own_put own_zf z x y u 0 16 i = own_co z x y u i := fun i hi => by unfold own_put; rw [if_pos ⟨by omega, by omega⟩, Nat.sub_zero]
theorem own_k3_c {z x y u : Int32} : ∀ i, i < 16 → own_tl (own_put own_zf z x y u 0 16) 16 6 i = own_co z x y u i := fun i hi => by
  have e : own_tl (own_put own_zf z x y u 0 16) 16 6 i = own_put own_zf z x y u 0 16 i := if_neg (by omega)
  rw [e]; exact own_k0_c i hi
theorem own_k1_0 {a z x y r u : Int32} (ha : ¬ a < 0 ∧ ¬ (255 : Int32) < a) : own_set (own_put (own_set own_zf 0 (own_n16 a)) z x y u 1 16) 17 (own_n16 r) 0 = a := by
  unfold own_set own_put; rw [if_neg (by decide), if_neg (by decide)]; exact (if_pos rfl).trans (own_n16r ha)
theorem own_k1_c {a z x y r u : Int32} : ∀ i, i < 16 → own_set (own_put (own_set own_zf 0 (own_n16 a)) z x y u 1 16) 17 (own_n16 r) (1 + i) = own_co z x y u i := fun i hi => by
  unfold own_set own_put; rw [if_neg (by omega), if_pos ⟨by omega, by omega⟩, Nat.add_sub_cancel_left]
theorem own_k1_17 {a z x y r u : Int32} (hr : ¬ r < 0 ∧ ¬ (255 : Int32) < r) : own_set (own_put (own_set own_zf 0 (own_n16 a)) z x y u 1 16) 17 (own_n16 r) 17 = r := (if_pos rfl).trans (own_n16r hr)
abbrev own_pr (x : Int32) : Prop := (x &&& (3 : Int32)) = (1 : Int32) ∨ (x &&& (3 : Int32)) = (2 : Int32)
abbrev own_ex (ap : Prop) (a z x y r : Int32) : Prop := ¬ (ap ∧ a = (59 : Int32)) ∧ ¬ z = (59 : Int32) ∧ ¬ (ap ∧ (32 : Int32) < r ∧ ¬ r = (59 : Int32)) ∧ ((x = (43 : Int32) ∧ own_yj y) ∨ (x = (47 : Int32) ∧ own_yj y ∧ own_za z ∧ ¬ (ap ∧ (32 : Int32) < a)))
theorem own_exT {ap : Prop} {a z x y r : Int32} (h : ap) : own_e1 a z x y r ↔ own_ex ap a z x y r := ⟨fun ⟨p1, p2, p3, p4⟩ => ⟨fun q => p1 q.2, p2, fun q => p3 q.2, p4.imp id (fun w => ⟨w.1, w.2.1, w.2.2.1, fun q => w.2.2.2 q.2⟩)⟩, fun ⟨p1, p2, p3, p4⟩ => ⟨fun q => p1 ⟨h, q⟩, p2, fun q => p3 ⟨h, q⟩, p4.imp id (fun w => ⟨w.1, w.2.1, w.2.2.1, fun q => w.2.2.2 ⟨h, q⟩⟩)⟩⟩
theorem own_exF {ap : Prop} {a z x y r : Int32} (h : ¬ ap) : own_e0 z x y ↔ own_ex ap a z x y r := ⟨fun ⟨p2, p4⟩ => ⟨fun q => h q.1, p2, fun q => h q.1, p4.imp id (fun w => ⟨w.1, w.2.1, w.2.2, fun q => h q.1⟩)⟩, fun ⟨p1, p2, p3, p4⟩ => ⟨p2, p4.imp id (fun w => ⟨w.1, w.2.1, w.2.2.1⟩)⟩⟩
theorem own_tlo {f : Nat → Int32} {o j : Nat} {v : Int32} (h : j < o) (e : f j = v) : own_tl f o 6 j = v := (if_neg (by omega)).trans e

theorem d15_0 : decode jdk_42_method_152_code 0 = .ok (.getstatic 38, 3) := by decide +kernel
theorem d15_3 : decode jdk_42_method_152_code 3 = .ok (.ifCond .eq 10, 3) := by decide +kernel
theorem d15_6 : decode jdk_42_method_152_code 6 = .ok (.aload_n 0, 1) := by decide +kernel
theorem d15_7 : decode jdk_42_method_152_code 7 = .ok (.getfield 15, 3) := by decide +kernel
theorem d15_10 : decode jdk_42_method_152_code 10 = .ok (.goto 4, 3) := by decide +kernel
theorem d15_14 : decode jdk_42_method_152_code 14 = .ok (.ireturn, 1) := by decide +kernel
theorem pn_java_lang_String : plainName "java/lang/String" = true := by first | (simp [plainName, overriddenIn]; done) | decide +kernel
theorem ef15 (m : MethodId) (tz : Addr) : entryFrame m #[(.ref tz)] 1 = mkF m 0 #[vr tz] [] := by first | (simp [entryFrame, mkF, argsToLocals, Value.category]; done) | rfl
def Q15 (Z : State) (tz : Addr) (st_COMPACT_STRINGS : Int32) (h0 : Heap) (n0 : Nat) (v : Option Value) (h : Heap) (L : List Loc) : Prop := v = some (.int (0 : Int32)) ∧ Fr n0 L ∧ h = h0
set_option maxRecDepth 65536 in
set_option maxHeartbeats 40000000 in
theorem rm15 (l : Launch) (Z : State) (a0 : Array Value) (hw : ∀ d ∈ tables_1, d.before a0 Z = true) (ws : List Jvm.Cond) (tz : Addr) (st_COMPACT_STRINGS : Int32) (h0 : Heap) (n0 : Nat) (Z0 : n0 ≤ h0.size) (O0 : Old Z n0 h0) (F_tz_coder : Fld Z h0 tz "java/lang/String" "coder" "B" (.int (0 : Int32))) (S_COMPACT_STRINGS : Sta Z Z.heap "java/lang/String" "COMPACT_STRINGS" "Z" (.int st_COMPACT_STRINGS)) (hcomp : ¬ (st_COMPACT_STRINGS = (0 : Int32))) :
    MetFree l (⟨"java/lang/String", "coder", "()B"⟩ : MethodName) (head1 (Jvm.Cond.code (⟨"java/lang/String", "coder", "()B"⟩ : MethodName) jdk_42_method_152_code 1 (some .byte) :: ws) ({ frames := 0, cells := 0, slots := 0, locals := 0 } : Room)) (fun a U => a = #[(.ref tz)] ∧ Z.Warmed39 U.vm ∧ U.heap = h0) (fun _ _ _ _ _ => True) (fun _ U o U' => ∃ v L, o = .returned v ∧ Q15 Z tz st_COMPACT_STRINGS h0 n0 v U'.heap L ∧ FrameEnd U o U' L ({ frames := 0, cells := 0, slots := 0, locals := 0 } : Room).cells ({ frames := 0, cells := 0, slots := 0, locals := 0 } : Room).slots) := by
  refine MetFree.of_bodySF (plainFor_of_name pn_java_lang_String) hisR ?_
  intro p e s m args below meth c s₁ Bd hml0 hP hK
  obtain ⟨rfl, hZ, hh⟩ := hP
  have hx := Bd.exec
  have hby := Bd.bytes
  have hml : c.maxLocals = 1 := hml0
  have hown : s.vm.findClass "java/lang/String" = some m.cls := findClass_of_methodNamed Bd.named
  have hnm := (name_of_methodNamed Bd.named Bd.method).1
  have X0 : Stand p l e ({ frames := 0, cells := 0, slots := 0, locals := 0 } : Room) s m #[(.ref tz)] below meth c s₁ [] 0 0 := Stand.of_body Bd
  have e0 : s₁.heap = h0 := by rw [← hh, Bd.state]; rfl
  have N0 := Fr.nil n0
  have K0 : Keep h0 h0 [] := Keep.refl _ _
  have pre0 : ∀ t, SF p e below s₁ m 0 #[vr tz] [] t → Steps p.tables e below (s₁.setTop (entryFrame m #[(.ref tz)] 1)) t := fun t k => castTop (ef15 m tz) k
  obtain ⟨T1, X1, e1, st1⟩ := getS2 X0 hx hZ hown (host := "") (Or.inl (own_wd hw 21 rfl)) Via.refl e0 (S_COMPACT_STRINGS.ext O0.2) (g := (mkF m 0 #[vr tz] [])) rfl (hb hby d15_0)
  obtain ⟨T2, X2, e2, st2⟩ := getF X1 hx hZ hown (host := "") (Or.inl (own_wd hw 33 rfl)) Via.refl e1 F_tz_coder (g := (mkF m 7 #[vr tz] [(.ref tz)])) rfl rfl (hb hby d15_7)
  obtain ⟨fs, hr, hrun, hended, hW, hsame⟩ := X2.leave (v := some (.int (0 : Int32))) (fun h => by rw [Bd.returns] at h; cases h)
  refine ⟨_, _, pre0 _ ?_, hrun, hended, _, _, rfl, ?_, ⟨_, rfl⟩, hW, hsame.mono (by decide) (by decide)⟩
  · show SF p e below s₁ m 0 #[vr tz] [] _
    refine st1 _ ?_
    show SF p e below T1 m 3 #[vr tz] [(.int st_COMPACT_STRINGS)] _
    refine XS.ifNo X1.here hx rfl (hb hby d15_3) rfl ((if0 _ _).trans (feq hcomp).1) ?_
    refine XS.aloadN X1.here hx rfl (hb hby d15_6) rfl rfl ?_
    show SF p e below T1 m 7 _ [(.ref tz)] _
    refine st2 _ ?_
    show SF p e below T2 m 10 #[vr tz] [(.int (0 : Int32))] _
    refine XS.goto X2.here hx rfl (pc0 := 10) (pc' := 14) rfl (hb hby d15_10) (by decide) (by decide) ?_
    show SF p e below T2 m 14 _ [(.int (0 : Int32))] _
    exact retN X2 hx (t := .byte) Bd.returns (by simp) (hb hby d15_14) hr
  · show Q15 Z tz st_COMPACT_STRINGS h0 n0 _ T2.heap _
    rw [e2]
    exact ⟨rfl, N0, rfl⟩
theorem d13_0 : decode jdk_42_method_154_code 0 = .ok (.getstatic 38, 3) := by decide +kernel
theorem d13_3 : decode jdk_42_method_154_code 3 = .ok (.ifCond .eq 14, 3) := by decide +kernel
theorem d13_6 : decode jdk_42_method_154_code 6 = .ok (.aload_n 0, 1) := by decide +kernel
theorem d13_7 : decode jdk_42_method_154_code 7 = .ok (.getfield 15, 3) := by decide +kernel
theorem d13_10 : decode jdk_42_method_154_code 10 = .ok (.ifCond .ne 7, 3) := by decide +kernel
theorem d13_13 : decode jdk_42_method_154_code 13 = .ok (.iconst 1, 1) := by decide +kernel
theorem d13_14 : decode jdk_42_method_154_code 14 = .ok (.goto 4, 3) := by decide +kernel
theorem d13_18 : decode jdk_42_method_154_code 18 = .ok (.ireturn, 1) := by decide +kernel
theorem ef13 (m : MethodId) (tz : Addr) : entryFrame m #[(.ref tz)] 1 = mkF m 0 #[vr tz] [] := by first | (simp [entryFrame, mkF, argsToLocals, Value.category]; done) | rfl
def Q13 (Z : State) (tz : Addr) (st_COMPACT_STRINGS : Int32) (h0 : Heap) (n0 : Nat) (v : Option Value) (h : Heap) (L : List Loc) : Prop := v = some (.int (1 : Int32)) ∧ Fr n0 L ∧ h = h0
set_option maxRecDepth 65536 in
set_option maxHeartbeats 40000000 in
theorem rm13 (l : Launch) (Z : State) (a0 : Array Value) (hw : ∀ d ∈ tables_1, d.before a0 Z = true) (ws : List Jvm.Cond) (tz : Addr) (st_COMPACT_STRINGS : Int32) (h0 : Heap) (n0 : Nat) (Z0 : n0 ≤ h0.size) (O0 : Old Z n0 h0) (F_tz_coder : Fld Z h0 tz "java/lang/String" "coder" "B" (.int (0 : Int32))) (S_COMPACT_STRINGS : Sta Z Z.heap "java/lang/String" "COMPACT_STRINGS" "Z" (.int st_COMPACT_STRINGS)) (hcomp : ¬ (st_COMPACT_STRINGS = (0 : Int32))) :
    MetFree l (⟨"java/lang/String", "isLatin1", "()Z"⟩ : MethodName) (head1 (Jvm.Cond.code (⟨"java/lang/String", "isLatin1", "()Z"⟩ : MethodName) jdk_42_method_154_code 1 (some .boolean) :: ws) ({ frames := 0, cells := 0, slots := 0, locals := 0 } : Room)) (fun a U => a = #[(.ref tz)] ∧ Z.Warmed39 U.vm ∧ U.heap = h0) (fun _ _ _ _ _ => True) (fun _ U o U' => ∃ v L, o = .returned v ∧ Q13 Z tz st_COMPACT_STRINGS h0 n0 v U'.heap L ∧ FrameEnd U o U' L ({ frames := 0, cells := 0, slots := 0, locals := 0 } : Room).cells ({ frames := 0, cells := 0, slots := 0, locals := 0 } : Room).slots) := by
  refine MetFree.of_bodySF (plainFor_of_name pn_java_lang_String) hisR ?_
  intro p e s m args below meth c s₁ Bd hml0 hP hK
  obtain ⟨rfl, hZ, hh⟩ := hP
  have hx := Bd.exec
  have hby := Bd.bytes
  have hml : c.maxLocals = 1 := hml0
  have hown : s.vm.findClass "java/lang/String" = some m.cls := findClass_of_methodNamed Bd.named
  have hnm := (name_of_methodNamed Bd.named Bd.method).1
  have X0 : Stand p l e ({ frames := 0, cells := 0, slots := 0, locals := 0 } : Room) s m #[(.ref tz)] below meth c s₁ [] 0 0 := Stand.of_body Bd
  have e0 : s₁.heap = h0 := by rw [← hh, Bd.state]; rfl
  have N0 := Fr.nil n0
  have K0 : Keep h0 h0 [] := Keep.refl _ _
  have pre0 : ∀ t, SF p e below s₁ m 0 #[vr tz] [] t → Steps p.tables e below (s₁.setTop (entryFrame m #[(.ref tz)] 1)) t := fun t k => castTop (ef13 m tz) k
  obtain ⟨T3, X3, e3, st3⟩ := getS2 X0 hx hZ hown (host := "") (Or.inl (own_wd hw 21 rfl)) Via.refl e0 (S_COMPACT_STRINGS.ext O0.2) (g := (mkF m 0 #[vr tz] [])) rfl (hb hby d13_0)
  obtain ⟨T4, X4, e4, st4⟩ := getF X3 hx hZ hown (host := "") (Or.inl (own_wd hw 33 rfl)) Via.refl e3 F_tz_coder (g := (mkF m 7 #[vr tz] [(.ref tz)])) rfl rfl (hb hby d13_7)
  obtain ⟨fs, hr, hrun, hended, hW, hsame⟩ := X4.leave (v := some (.int (1 : Int32))) (fun h => by rw [Bd.returns] at h; cases h)
  refine ⟨_, _, pre0 _ ?_, hrun, hended, _, _, rfl, ?_, ⟨_, rfl⟩, hW, hsame.mono (by decide) (by decide)⟩
  · show SF p e below s₁ m 0 #[vr tz] [] _
    refine st3 _ ?_
    show SF p e below T3 m 3 #[vr tz] [(.int st_COMPACT_STRINGS)] _
    refine XS.ifNo X3.here hx rfl (hb hby d13_3) rfl ((if0 _ _).trans (feq hcomp).1) ?_
    refine XS.aloadN X3.here hx rfl (hb hby d13_6) rfl rfl ?_
    show SF p e below T3 m 7 _ [(.ref tz)] _
    refine st4 _ ?_
    show SF p e below T4 m 10 #[vr tz] [(.int (0 : Int32))] _
    refine XS.ifNo X4.here hx rfl (hb hby d13_10) rfl ((if0 _ _).trans (teq (by decide : (0 : Int32) = (0 : Int32))).2) ?_
    refine XS.iconst X4.here hx rfl (hb hby d13_13) ?_
    refine XS.goto X4.here hx rfl (pc0 := 14) (pc' := 18) rfl (hb hby d13_14) (by decide) (by decide) ?_
    show SF p e below T4 m 18 _ [(.int (1 : Int32))] _
    exact retN X4 hx (t := .boolean) Bd.returns (by simp) (hb hby d13_18) hr
  · show Q13 Z tz st_COMPACT_STRINGS h0 n0 _ T4.heap _
    rw [e4]
    exact ⟨rfl, N0, rfl⟩
theorem d14_0 : decode jdk_42_method_54_code 0 = .ok (.aload_n 0, 1) := by decide +kernel
theorem d14_1 : decode jdk_42_method_54_code 1 = .ok (.getfield 9, 3) := by decide +kernel
theorem d14_4 : decode jdk_42_method_54_code 4 = .ok (.arraylength, 1) := by decide +kernel
theorem d14_5 : decode jdk_42_method_54_code 5 = .ok (.aload_n 0, 1) := by decide +kernel
theorem pd_0 : parseMethodDescriptor "()B" = some ⟨[], some .byte⟩ := by decide +kernel
theorem d14_6 : decode jdk_42_method_54_code 6 = .ok (.invokevirtual 335, 3) := by decide +kernel
theorem d14_9 : decode jdk_42_method_54_code 9 = .ok (.ishr, 1) := by decide +kernel
theorem d14_10 : decode jdk_42_method_54_code 10 = .ok (.ireturn, 1) := by decide +kernel
theorem ef14 (m : MethodId) (tz : Addr) : entryFrame m #[(.ref tz)] 1 = mkF m 0 #[vr tz] [] := by first | (simp [entryFrame, mkF, argsToLocals, Value.category]; done) | rfl
def Q14 (Z : State) (tz : Addr) (tz_value : Addr) (ks : ClassId) (f : Nat → Int32) (n : Nat) (st_COMPACT_STRINGS : Int32) (h0 : Heap) (n0 : Nat) (v : Option Value) (h : Heap) (L : List Loc) : Prop := v = some (.int (Int32.ofNat n)) ∧ Fr n0 L ∧ h = h0
set_option maxRecDepth 65536 in
set_option maxHeartbeats 40000000 in
theorem rm14 (l : Launch) (Z : State) (a0 : Array Value) (hw : ∀ d ∈ tables_1, d.before a0 Z = true) (ws : List Jvm.Cond) (tz : Addr) (tz_value : Addr) (ks : ClassId) (f : Nat → Int32) (n : Nat) (st_COMPACT_STRINGS : Int32) (h0 : Heap) (n0 : Nat) (Z0 : n0 ≤ h0.size) (O0 : Old Z n0 h0) (E_tz : Exa Z h0 tz "java/lang/String") (F_tz_value : Fld Z h0 tz "java/lang/String" "value" "[B" (.ref tz_value)) (F_tz_coder : Fld Z h0 tz "java/lang/String" "coder" "B" (.int (0 : Int32))) (V_tz_value : Arv Z h0 tz_value ks .byte (Int32.ofNat n) (own_fv f n) (.int 0)) (S_COMPACT_STRINGS : Sta Z Z.heap "java/lang/String" "COMPACT_STRINGS" "Z" (.int st_COMPACT_STRINGS)) (hcomp : ¬ (st_COMPACT_STRINGS = (0 : Int32))) :
    MetFree l (⟨"java/lang/String", "length", "()I"⟩ : MethodName) (head1 (Jvm.Cond.code (⟨"java/lang/String", "length", "()I"⟩ : MethodName) jdk_42_method_54_code 1 (some .int) :: ws) ({ frames := 1, cells := 0, slots := 0, locals := 13 } : Room)) (fun a U => a = #[(.ref tz)] ∧ Z.Warmed39 U.vm ∧ U.heap = h0) (fun _ _ _ _ _ => True) (fun _ U o U' => ∃ v L, o = .returned v ∧ Q14 Z tz tz_value ks f n st_COMPACT_STRINGS h0 n0 v U'.heap L ∧ FrameEnd U o U' L ({ frames := 1, cells := 0, slots := 0, locals := 13 } : Room).cells ({ frames := 1, cells := 0, slots := 0, locals := 13 } : Room).slots) := by
  refine MetFree.of_bodySF (plainFor_of_name pn_java_lang_String) hisR ?_
  intro p e s m args below meth c s₁ Bd hml0 hP hK
  obtain ⟨rfl, hZ, hh⟩ := hP
  have hx := Bd.exec
  have hby := Bd.bytes
  have hml : c.maxLocals = 1 := hml0
  have hown : s.vm.findClass "java/lang/String" = some m.cls := findClass_of_methodNamed Bd.named
  have hnm := (name_of_methodNamed Bd.named Bd.method).1
  have X0 : Stand p l e ({ frames := 1, cells := 0, slots := 0, locals := 13 } : Room) s m #[(.ref tz)] below meth c s₁ [] 0 0 := Stand.of_body Bd
  have e0 : s₁.heap = h0 := by rw [← hh, Bd.state]; rfl
  have N0 := Fr.nil n0
  have K0 : Keep h0 h0 [] := Keep.refl _ _
  have pre0 : ∀ t, SF p e below s₁ m 0 #[vr tz] [] t → Steps p.tables e below (s₁.setTop (entryFrame m #[(.ref tz)] 1)) t := fun t k => castTop (ef14 m tz) k
  obtain ⟨T5, X5, e5, st5⟩ := getF X0 hx hZ hown (host := "") (Or.inl (own_wd hw 35 rfl)) Via.refl e0 F_tz_value (g := (mkF m 1 #[vr tz] [(.ref tz)])) rfl rfl (hb hby d14_1)
  obtain ⟨cl_a6, Ar_a6, -, S_a6, N_a6, -, -⟩ := id V_tz_value
  obtain ⟨cq7, kq7, q7a, q7b, q7c⟩ := isOf hZ e5 E_tz
  obtain ⟨_, _, ⟨T7, L7, k7, n7⟩, -, X7, ⟨Lc7, hQ7, l7, y7, z7⟩, st7⟩ := X5.virtualBack hx (y := (⟨"java/lang/String", "coder", "()B"⟩ : MethodName)) (z := (⟨"java/lang/String", "coder", "()B"⟩ : MethodName)) hown (mvT hZ (own_wd hw 64 rfl)) (mvT hZ (own_wd hw 65 rfl)) (notFace_of_selects (args := #[]) (mvT hZ (own_wd hw 67 rfl))) (mvT hZ (own_wd hw 67 rfl)) (mvT hZ (own_wd hw 66 rfl)) (by decide) (backOf (W := 1) (rm15 l Z a0 hw [] tz st_COMPACT_STRINGS h0 n0 Z0 O0 F_tz_coder S_COMPACT_STRINGS hcomp) hZ (own_wd hw 68 rfl) (own_wd hw 10 rfl) (by decide) (by decide)) q7a q7c (g := (mkF m 6 #[vr tz] [(.ref tz), (.int (Int32.ofNat n))])) rfl (by rw [hml]; rfl) (Steps.refl _) (argsL := []) (rest := [(.int (Int32.ofNat n))]) (lenOf pd_0 rfl) rfl (by show 2 * 0 + _ ≤ _; exact Nat.le_of_eq rfl) (hb hby d14_6) (fun _ _ => ⟨rfl, e5, (by decide : 0 + 0 ≤ _), (by decide : 0 + 0 ≤ _)⟩)
  dsimp only [Pt.U, Pt.locs, Pt.cells, Pt.slots] at X7 l7 y7 z7 st7 hQ7
  subst y7 z7
  obtain ⟨rfl, N7q, eh7⟩ := hQ7
  have N7 : Fr n0 L7 := by rw [l7]; exact Fr.app N0 N7q
  have rn8 : ((Int32.ofNat n) >>> ((0 : Int32) &&& 31)) = (Int32.ofNat n) := own_shr0 _
  obtain ⟨fs, hr, hrun, hended, hW, hsame⟩ := X7.leave (v := some (.int (Int32.ofNat n))) (fun h => by rw [Bd.returns] at h; cases h)
  refine ⟨_, _, pre0 _ ?_, hrun, hended, _, _, rfl, ?_, ⟨_, rfl⟩, hW, hsame.mono (by decide) (by decide)⟩
  · show SF p e below s₁ m 0 #[vr tz] [] _
    refine XS.aloadN X0.here hx rfl (hb hby d14_0) rfl rfl ?_
    show SF p e below s₁ m 1 _ [(.ref tz)] _
    refine st5 _ ?_
    show SF p e below T5 m 4 #[vr tz] [(.ref tz_value)] _
    refine X5.arraylength hx (by rw [e5]; exact Ar_a6.1) (State.isArrayOf_alike hZ.alike Ar_a6.2.1) (g := (mkF m 4 #[vr tz] [(.ref tz_value)])) rfl rfl (hb hby d14_4) _ ?_
    rw [len_of S_a6 N_a6]
    refine XS.aloadN X5.here hx rfl (hb hby d14_5) rfl rfl ?_
    show SF p e below T5 m 6 _ [(.ref tz), (.int (Int32.ofNat n))] _
    refine st7.trans ?_
    show SF p e below T7 m 9 #[vr tz] [(.int (0 : Int32)), (.int (Int32.ofNat n))] _
    refine XS.ishr X7.here hx rfl (hb hby d14_9) rfl ?_
    show SF p e below T7 m 10 _ [(.int ((Int32.ofNat n) >>> ((0 : Int32) &&& 31)))] _
    rw [rn8]
    show SF p e below T7 m 10 _ [(.int (Int32.ofNat n))] _
    exact retI X7 hx Bd.returns (hb hby d14_10) hr
  · show Q14 Z tz tz_value ks f n st_COMPACT_STRINGS h0 n0 _ T7.heap _
    rw [eh7]
    exact ⟨rfl, N7, rfl⟩
theorem d17_0 : decode jdk_43_method_4_code 0 = .ok (.iload_n 0, 1) := by decide +kernel
theorem d17_1 : decode jdk_43_method_4_code 1 = .ok (.ifCond .lt 14, 3) := by decide +kernel
theorem d17_4 : decode jdk_43_method_4_code 4 = .ok (.iload_n 0, 1) := by decide +kernel
theorem d17_5 : decode jdk_43_method_4_code 5 = .ok (.sipush 255, 3) := by decide +kernel
theorem d17_8 : decode jdk_43_method_4_code 8 = .ok (.if_icmp .gt 7, 3) := by decide +kernel
theorem d17_11 : decode jdk_43_method_4_code 11 = .ok (.iconst 1, 1) := by decide +kernel
theorem d17_12 : decode jdk_43_method_4_code 12 = .ok (.goto 4, 3) := by decide +kernel
theorem d17_16 : decode jdk_43_method_4_code 16 = .ok (.ireturn, 1) := by decide +kernel
theorem pn_java_lang_StringLatin1 : plainName "java/lang/StringLatin1" = true := by first | (simp [plainName, overriddenIn]; done) | decide +kernel
theorem ef17 (m : MethodId) (x1 : Int32) : entryFrame m #[(.int x1)] 1 = mkF m 0 #[vi x1] [] := by first | (simp [entryFrame, mkF, argsToLocals, Value.category]; done) | rfl
def Q17 (Z : State) (x1 : Int32) (h0 : Heap) (n0 : Nat) (v : Option Value) (h : Heap) (L : List Loc) : Prop := v = some (.int (1 : Int32)) ∧ Fr n0 L ∧ h = h0
set_option maxRecDepth 65536 in
set_option maxHeartbeats 40000000 in
theorem rm17 (l : Launch) (Z : State) (a0 : Array Value) (hw : ∀ d ∈ tables_1, d.before a0 Z = true) (ws : List Jvm.Cond) (x1 : Int32) (h0 : Heap) (n0 : Nat) (Z0 : n0 ≤ h0.size) (O0 : Old Z n0 h0) (h0c : ¬ (x1 < (0 : Int32))) (h1c : ¬ ((255 : Int32) < x1)) :
    MetFree l (⟨"java/lang/StringLatin1", "canEncode", "(I)Z"⟩ : MethodName) (head1 (Jvm.Cond.code (⟨"java/lang/StringLatin1", "canEncode", "(I)Z"⟩ : MethodName) jdk_43_method_4_code 1 (some .boolean) :: ws) ({ frames := 0, cells := 0, slots := 0, locals := 0 } : Room)) (fun a U => a = #[(.int x1)] ∧ Z.Warmed39 U.vm ∧ U.heap = h0) (fun _ _ _ _ _ => True) (fun _ U o U' => ∃ v L, o = .returned v ∧ Q17 Z x1 h0 n0 v U'.heap L ∧ FrameEnd U o U' L ({ frames := 0, cells := 0, slots := 0, locals := 0 } : Room).cells ({ frames := 0, cells := 0, slots := 0, locals := 0 } : Room).slots) := by
  refine MetFree.of_bodySF (plainFor_of_name pn_java_lang_StringLatin1) hisR ?_
  intro p e s m args below meth c s₁ Bd hml0 hP hK
  obtain ⟨rfl, hZ, hh⟩ := hP
  have hx := Bd.exec
  have hby := Bd.bytes
  have hml : c.maxLocals = 1 := hml0
  have hown : s.vm.findClass "java/lang/StringLatin1" = some m.cls := findClass_of_methodNamed Bd.named
  have hnm := (name_of_methodNamed Bd.named Bd.method).1
  have X0 : Stand p l e ({ frames := 0, cells := 0, slots := 0, locals := 0 } : Room) s m #[(.int x1)] below meth c s₁ [] 0 0 := Stand.of_body Bd
  have e0 : s₁.heap = h0 := by rw [← hh, Bd.state]; rfl
  have N0 := Fr.nil n0
  have K0 : Keep h0 h0 [] := Keep.refl _ _
  have pre0 : ∀ t, SF p e below s₁ m 0 #[vi x1] [] t → Steps p.tables e below (s₁.setTop (entryFrame m #[(.int x1)] 1)) t := fun t k => castTop (ef17 m x1) k
  obtain ⟨fs, hr, hrun, hended, hW, hsame⟩ := X0.leave (v := some (.int (1 : Int32))) (fun h => by rw [Bd.returns] at h; cases h)
  refine ⟨_, _, pre0 _ ?_, hrun, hended, _, _, rfl, ?_, ⟨_, rfl⟩, hW, hsame.mono (by decide) (by decide)⟩
  · show SF p e below s₁ m 0 #[vi x1] [] _
    refine XS.iloadN X0.here hx rfl (hb hby d17_0) rfl ?_
    refine XS.ifNo X0.here hx rfl (hb hby d17_1) rfl ((if0 _ _).trans (flt h0c).1) ?_
    refine XS.iloadN X0.here hx rfl (hb hby d17_4) rfl ?_
    refine XS.sipush X0.here hx rfl (hb hby d17_5) ?_
    refine XS.icmpNo X0.here hx rfl (hb hby d17_8) rfl (flt h1c).2.2.1 ?_
    refine XS.iconst X0.here hx rfl (hb hby d17_11) ?_
    show SF p e below s₁ m 12 #[vi x1] [(.int (1 : Int32))] _
    refine XS.goto X0.here hx rfl (pc0 := 12) (pc' := 16) rfl (hb hby d17_12) (by decide) (by decide) ?_
    show SF p e below s₁ m 16 _ [(.int (1 : Int32))] _
    exact retN X0 hx (t := .boolean) Bd.returns (by simp) (hb hby d17_16) hr
  · show Q17 Z x1 h0 n0 _ s₁.heap _
    rw [e0]
    exact ⟨rfl, N0, rfl⟩
theorem d18_0 : decode jdk_29_method_65_code 0 = .ok (.iload_n 0, 1) := by decide +kernel
theorem d18_1 : decode jdk_29_method_65_code 1 = .ok (.iload_n 1, 1) := by decide +kernel
theorem d18_2 : decode jdk_29_method_65_code 2 = .ok (.if_icmp .lt 7, 3) := by decide +kernel
theorem d18_5 : decode jdk_29_method_65_code 5 = .ok (.iload_n 0, 1) := by decide +kernel
theorem d18_6 : decode jdk_29_method_65_code 6 = .ok (.goto 4, 3) := by decide +kernel
theorem d18_10 : decode jdk_29_method_65_code 10 = .ok (.ireturn, 1) := by decide +kernel
-- java/lang/Math
theorem ef18_0 (m : MethodId)  : entryFrame m #[(.int (0 : Int32)), (.int (0 : Int32))] 2 = mkF m 0 #[vi (0 : Int32), vi (0 : Int32)] [] := by first | (simp [entryFrame, mkF, argsToLocals, Value.category]; done) | rfl
def Q18_0 (Z : State)  (h0 : Heap) (n0 : Nat) (v : Option Value) (h : Heap) (L : List Loc) : Prop := v = some (.int (0 : Int32)) ∧ Fr n0 L ∧ h = h0
set_option maxRecDepth 65536 in
set_option maxHeartbeats 40000000 in
theorem rm18_0 (l : Launch) (Z : State) (a0 : Array Value) (hw : ∀ d ∈ tables_1, d.before a0 Z = true) (ws : List Jvm.Cond)  (h0 : Heap) (n0 : Nat) (Z0 : n0 ≤ h0.size) (O0 : Old Z n0 h0) :
    MetFree l (⟨"java/lang/Math", "max", "(II)I"⟩ : MethodName) (head1 (Jvm.Cond.code (⟨"java/lang/Math", "max", "(II)I"⟩ : MethodName) jdk_29_method_65_code 2 (some .int) :: ws) ({ frames := 0, cells := 0, slots := 0, locals := 0 } : Room)) (fun a U => a = #[(.int (0 : Int32)), (.int (0 : Int32))] ∧ Z.Warmed39 U.vm ∧ U.heap = h0) (fun _ _ _ _ _ => True) (fun _ U o U' => ∃ v L, o = .returned v ∧ Q18_0 Z  h0 n0 v U'.heap L ∧ FrameEnd U o U' L ({ frames := 0, cells := 0, slots := 0, locals := 0 } : Room).cells ({ frames := 0, cells := 0, slots := 0, locals := 0 } : Room).slots) := by
  refine MetFree.of_bodySF (Jvm.Free.JP.mathPlain rfl (by decide +kernel)) hisR ?_
  intro p e s m args below meth c s₁ Bd hml0 hP hK
  obtain ⟨rfl, hZ, hh⟩ := hP
  have hx := Bd.exec
  have hby := Bd.bytes
  have hml : c.maxLocals = 2 := hml0
  have hown : s.vm.findClass "java/lang/Math" = some m.cls := findClass_of_methodNamed Bd.named
  have hnm := (name_of_methodNamed Bd.named Bd.method).1
  have X0 : Stand p l e ({ frames := 0, cells := 0, slots := 0, locals := 0 } : Room) s m #[(.int (0 : Int32)), (.int (0 : Int32))] below meth c s₁ [] 0 0 := Stand.of_body Bd
  have e0 : s₁.heap = h0 := by rw [← hh, Bd.state]; rfl
  have N0 := Fr.nil n0
  have K0 : Keep h0 h0 [] := Keep.refl _ _
  have pre0 : ∀ t, SF p e below s₁ m 0 #[vi (0 : Int32), vi (0 : Int32)] [] t → Steps p.tables e below (s₁.setTop (entryFrame m #[(.int (0 : Int32)), (.int (0 : Int32))] 2)) t := fun t k => castTop (ef18_0 m ) k
  obtain ⟨fs, hr, hrun, hended, hW, hsame⟩ := X0.leave (v := some (.int (0 : Int32))) (fun h => by rw [Bd.returns] at h; cases h)
  refine ⟨_, _, pre0 _ ?_, hrun, hended, _, _, rfl, ?_, ⟨_, rfl⟩, hW, hsame.mono (by decide) (by decide)⟩
  · show SF p e below s₁ m 0 #[vi (0 : Int32), vi (0 : Int32)] [] _
    refine XS.iloadN X0.here hx rfl (hb hby d18_0) rfl ?_
    refine XS.iloadN X0.here hx rfl (hb hby d18_1) rfl ?_
    refine XS.icmpNo X0.here hx rfl (hb hby d18_2) rfl (flt (by decide : ¬ ((0 : Int32) < (0 : Int32)))).1 ?_
    refine XS.iloadN X0.here hx rfl (hb hby d18_5) rfl ?_
    refine XS.goto X0.here hx rfl (pc0 := 6) (pc' := 10) rfl (hb hby d18_6) (by decide) (by decide) ?_
    show SF p e below s₁ m 10 #[vi (0 : Int32), vi (0 : Int32)] [(.int (0 : Int32))] _
    exact retI X0 hx Bd.returns (hb hby d18_10) hr
  · show Q18_0 Z  h0 n0 _ s₁.heap _
    rw [e0]
    exact ⟨rfl, N0, rfl⟩
theorem d19_0 : decode jdk_29_method_69_code 0 = .ok (.iload_n 0, 1) := by decide +kernel
theorem d19_1 : decode jdk_29_method_69_code 1 = .ok (.iload_n 1, 1) := by decide +kernel
theorem d19_2 : decode jdk_29_method_69_code 2 = .ok (.if_icmp .gt 7, 3) := by decide +kernel
theorem d19_9 : decode jdk_29_method_69_code 9 = .ok (.iload_n 1, 1) := by decide +kernel
theorem d19_10 : decode jdk_29_method_69_code 10 = .ok (.ireturn, 1) := by decide +kernel
theorem d19_5 : decode jdk_29_method_69_code 5 = .ok (.iload_n 0, 1) := by decide +kernel
theorem d19_6 : decode jdk_29_method_69_code 6 = .ok (.goto 4, 3) := by decide +kernel
theorem ef19 (m : MethodId) (x1 : Int32) (x2 : Int32) : entryFrame m #[(.int x1), (.int x2)] 2 = mkF m 0 #[vi x1, vi x2] [] := by first | (simp [entryFrame, mkF, argsToLocals, Value.category]; done) | rfl
def Q19 (Z : State) (x1 : Int32) (x2 : Int32) (h0 : Heap) (n0 : Nat) (v : Option Value) (h : Heap) (L : List Loc) : Prop := v = some (.int (own_min x1 x2)) ∧ Fr n0 L ∧ h = h0
set_option maxRecDepth 65536 in
set_option maxHeartbeats 40000000 in
theorem rm19 (l : Launch) (Z : State) (a0 : Array Value) (hw : ∀ d ∈ tables_1, d.before a0 Z = true) (ws : List Jvm.Cond) (x1 : Int32) (x2 : Int32) (h0 : Heap) (n0 : Nat) (Z0 : n0 ≤ h0.size) (O0 : Old Z n0 h0) :
    MetFree l (⟨"java/lang/Math", "min", "(II)I"⟩ : MethodName) (head1 (Jvm.Cond.code (⟨"java/lang/Math", "min", "(II)I"⟩ : MethodName) jdk_29_method_69_code 2 (some .int) :: ws) ({ frames := 0, cells := 0, slots := 0, locals := 0 } : Room)) (fun a U => a = #[(.int x1), (.int x2)] ∧ Z.Warmed39 U.vm ∧ U.heap = h0) (fun _ _ _ _ _ => True) (fun _ U o U' => ∃ v L, o = .returned v ∧ Q19 Z x1 x2 h0 n0 v U'.heap L ∧ FrameEnd U o U' L ({ frames := 0, cells := 0, slots := 0, locals := 0 } : Room).cells ({ frames := 0, cells := 0, slots := 0, locals := 0 } : Room).slots) := by
  refine MetFree.of_bodySF (Jvm.Free.JP.mathPlain rfl (by decide +kernel)) hisR ?_
  intro p e s m args below meth c s₁ Bd hml0 hP hK
  obtain ⟨rfl, hZ, hh⟩ := hP
  have hx := Bd.exec
  have hby := Bd.bytes
  have hml : c.maxLocals = 2 := hml0
  have hown : s.vm.findClass "java/lang/Math" = some m.cls := findClass_of_methodNamed Bd.named
  have hnm := (name_of_methodNamed Bd.named Bd.method).1
  have X0 : Stand p l e ({ frames := 0, cells := 0, slots := 0, locals := 0 } : Room) s m #[(.int x1), (.int x2)] below meth c s₁ [] 0 0 := Stand.of_body Bd
  have e0 : s₁.heap = h0 := by rw [← hh, Bd.state]; rfl
  have N0 := Fr.nil n0
  have K0 : Keep h0 h0 [] := Keep.refl _ _
  have pre0 : ∀ t, SF p e below s₁ m 0 #[vi x1, vi x2] [] t → Steps p.tables e below (s₁.setTop (entryFrame m #[(.int x1), (.int x2)] 2)) t := fun t k => castTop (ef19 m x1 x2) k
  have pre9 := fun t (kt : SF p e below s₁ m 2 #[vi x1, vi x2] [(.int x2), (.int x1)] t) => pre0 t (by
    refine XS.iloadN X0.here hx rfl (hb hby d19_0) rfl ?_
    refine XS.iloadN X0.here hx rfl (hb hby d19_1) rfl ?_
    exact kt)
  by_cases hc2 : x2 < x1
  · skip
    obtain ⟨fs, hr, hrun, hended, hW, hsame⟩ := X0.leave (v := some (.int x2)) (fun h => by rw [Bd.returns] at h; cases h)
    refine ⟨_, _, pre9 _ ?_, hrun, hended, _, _, rfl, ?_, ⟨_, rfl⟩, hW, hsame.mono (by decide) (by decide)⟩
    · show SF p e below s₁ m 2 #[vi x1, vi x2] [(.int x2), (.int x1)] _
      refine XS.icmpYes X0.here hx rfl (pc0 := 2) (pc' := 9) rfl (hb hby d19_2) rfl (tlt hc2).2.2.1 (by decide) (by decide) ?_
      refine XS.iloadN X0.here hx rfl (hb hby d19_9) rfl ?_
      show SF p e below s₁ m 10 _ [(.int x2)] _
      exact retI X0 hx Bd.returns (hb hby d19_10) hr
    · show Q19 Z x1 x2 h0 n0 _ s₁.heap _
      rw [e0]
      exact ⟨(by unfold own_min; first | rw [if_pos (by assumption)] | rw [if_neg (by assumption)]), N0, rfl⟩
  · skip
    obtain ⟨fs, hr, hrun, hended, hW, hsame⟩ := X0.leave (v := some (.int x1)) (fun h => by rw [Bd.returns] at h; cases h)
    refine ⟨_, _, pre9 _ ?_, hrun, hended, _, _, rfl, ?_, ⟨_, rfl⟩, hW, hsame.mono (by decide) (by decide)⟩
    · show SF p e below s₁ m 2 #[vi x1, vi x2] [(.int x2), (.int x1)] _
      refine XS.icmpNo X0.here hx rfl (hb hby d19_2) rfl (flt hc2).2.2.1 ?_
      refine XS.iloadN X0.here hx rfl (hb hby d19_5) rfl ?_
      refine XS.goto X0.here hx rfl (pc0 := 6) (pc' := 10) rfl (hb hby d19_6) (by decide) (by decide) ?_
      show SF p e below s₁ m 10 _ [(.int x1)] _
      exact retI X0 hx Bd.returns (hb hby d19_10) hr
    · show Q19 Z x1 x2 h0 n0 _ s₁.heap _
      rw [e0]
      exact ⟨(by unfold own_min; first | rw [if_pos (by assumption)] | rw [if_neg (by assumption)]), N0, rfl⟩
theorem d20_0 : decode jdk_43_method_23_code 0 = .ok (.iload_n 1, 1) := by decide +kernel
theorem d20_1 : decode jdk_43_method_23_code 1 = .ok (.i2b, 1) := by decide +kernel
theorem d20_2 : decode jdk_43_method_23_code 2 = .ok (.istore 4, 2) := by decide +kernel
theorem d20_4 : decode jdk_43_method_23_code 4 = .ok (.iload_n 2, 1) := by decide +kernel
theorem d20_5 : decode jdk_43_method_23_code 5 = .ok (.istore 5, 2) := by decide +kernel
theorem d20_7 : decode jdk_43_method_23_code 7 = .ok (.iload 5, 2) := by decide +kernel
theorem d20_9 : decode jdk_43_method_23_code 9 = .ok (.iload_n 3, 1) := by decide +kernel
theorem d20_10 : decode jdk_43_method_23_code 10 = .ok (.if_icmp .ge 21, 3) := by decide +kernel
theorem d20_13 : decode jdk_43_method_23_code 13 = .ok (.aload_n 0, 1) := by decide +kernel
theorem d20_14 : decode jdk_43_method_23_code 14 = .ok (.iload 5, 2) := by decide +kernel
theorem d20_16 : decode jdk_43_method_23_code 16 = .ok (.baload, 1) := by decide +kernel
theorem d20_17 : decode jdk_43_method_23_code 17 = .ok (.iload 4, 2) := by decide +kernel
theorem d20_19 : decode jdk_43_method_23_code 19 = .ok (.if_icmp .ne 6, 3) := by decide +kernel
theorem d20_22 : decode jdk_43_method_23_code 22 = .ok (.iload 5, 2) := by decide +kernel
theorem d20_24 : decode jdk_43_method_23_code 24 = .ok (.ireturn, 1) := by decide +kernel
theorem d20_25 : decode jdk_43_method_23_code 25 = .ok (.iinc 5 1, 3) := by decide +kernel
theorem d20_28 : decode jdk_43_method_23_code 28 = .ok (.goto (-21), 3) := by decide +kernel
theorem d20_31 : decode jdk_43_method_23_code 31 = .ok (.iconst (-1), 1) := by decide +kernel
theorem d20_32 : decode jdk_43_method_23_code 32 = .ok (.ireturn, 1) := by decide +kernel
theorem ef20 (m : MethodId) (x1 : Addr) : entryFrame m #[(.ref x1), (.int (59 : Int32)), (.int (0 : Int32)), (.int (Int32.ofNat n))] 6 = mkF m 0 #[vr x1, vi (59 : Int32), vi (0 : Int32), vi (Int32.ofNat n), un, un] [] := by first | (simp [entryFrame, mkF, argsToLocals, Value.category]; done) | rfl
def Q20 (Z : State) (x1 : Addr) (ks : ClassId) (f : Nat → Int32) (n : Nat) (h0 : Heap) (n0 : Nat) (v : Option Value) (h : Heap) (L : List Loc) : Prop := ∃ (r : Int32), v = some (.int r) ∧ Fr n0 L ∧ h = h0 ∧ (own_ix f n r)
set_option maxRecDepth 65536 in
set_option maxHeartbeats 40000000 in
theorem rm20 (l : Launch) (Z : State) (a0 : Array Value) (hw : ∀ d ∈ tables_1, d.before a0 Z = true) (ws : List Jvm.Cond) (x1 : Addr) (ks : ClassId) (f : Nat → Int32) (n : Nat) (h0 : Heap) (n0 : Nat) (Z0 : n0 ≤ h0.size) (O0 : Old Z n0 h0) (V_x1 : Arv Z h0 x1 ks .byte (Int32.ofNat n) (own_fv f n) (.int 0)) (hp : ∀ j, j < n → ¬ f j < 0 ∧ ¬ (255 : Int32) < f j) (hn : n ≤ 24) :
    MetFree l (⟨"java/lang/StringLatin1", "indexOfChar", "([BIII)I"⟩ : MethodName) (head1 (Jvm.Cond.code (⟨"java/lang/StringLatin1", "indexOfChar", "([BIII)I"⟩ : MethodName) jdk_43_method_23_code 6 (some .int) :: ws) ({ frames := 0, cells := 0, slots := 0, locals := 0 } : Room)) (fun a U => a = #[(.ref x1), (.int (59 : Int32)), (.int (0 : Int32)), (.int (Int32.ofNat n))] ∧ Z.Warmed39 U.vm ∧ U.heap = h0) (fun _ _ _ _ _ => True) (fun _ U o U' => ∃ v L, o = .returned v ∧ Q20 Z x1 ks f n h0 n0 v U'.heap L ∧ FrameEnd U o U' L ({ frames := 0, cells := 0, slots := 0, locals := 0 } : Room).cells ({ frames := 0, cells := 0, slots := 0, locals := 0 } : Room).slots) := by
  refine MetFree.of_bodySF (plainFor_of_name pn_java_lang_StringLatin1) hisR ?_
  intro p e s m args below meth c s₁ Bd hml0 hP hK
  obtain ⟨rfl, hZ, hh⟩ := hP
  have hx := Bd.exec
  have hby := Bd.bytes
  have hml : c.maxLocals = 6 := hml0
  have hown : s.vm.findClass "java/lang/StringLatin1" = some m.cls := findClass_of_methodNamed Bd.named
  have hnm := (name_of_methodNamed Bd.named Bd.method).1
  have X0 : Stand p l e ({ frames := 0, cells := 0, slots := 0, locals := 0 } : Room) s m #[(.ref x1), (.int (59 : Int32)), (.int (0 : Int32)), (.int (Int32.ofNat n))] below meth c s₁ [] 0 0 := Stand.of_body Bd
  have e0 : s₁.heap = h0 := by rw [← hh, Bd.state]; rfl
  have N0 := Fr.nil n0
  have K0 : Keep h0 h0 [] := Keep.refl _ _
  have pre0 : ∀ t, SF p e below s₁ m 0 #[vr x1, vi (59 : Int32), vi (0 : Int32), vi (Int32.ofNat n), un, un] [] t → Steps p.tables e below (s₁.setTop (entryFrame m #[(.ref x1), (.int (59 : Int32)), (.int (0 : Int32)), (.int (Int32.ofNat n))] 6)) t := fun t k => castTop (ef20 m x1) k
  have pre10 := fun t (kt : SF p e below s₁ m 7 #[vr x1, vi (59 : Int32), vi (0 : Int32), vi (Int32.ofNat n), vi ((59 : Int32).toInt8.toInt32), vi (0 : Int32)] [] t) => pre0 t (by
    refine XS.iloadN X0.here hx rfl (hb hby d20_0) rfl ?_
    show SF p e below s₁ m 1 _ [(.int (59 : Int32))] _
    refine XS.i2b X0.here hx rfl (hb hby d20_1) rfl ?_
    refine XS.istore X0.here hx rfl (hb hby d20_2) rfl (l' := #[vr x1, vi (59 : Int32), vi (0 : Int32), vi (Int32.ofNat n), vi ((59 : Int32).toInt8.toInt32), un]) rfl ?_
    refine XS.iloadN X0.here hx rfl (hb hby d20_4) rfl ?_
    refine XS.istore X0.here hx rfl (hb hby d20_5) rfl (l' := #[vr x1, vi (59 : Int32), vi (0 : Int32), vi (Int32.ofNat n), vi ((59 : Int32).toInt8.toInt32), vi (0 : Int32)]) rfl ?_
    exact kt)
  refine own_ind (A := Nat) (fun i_11 => n - i_11) (fun i_11 T11 L11 h11 => (i_11 ≤ n) ∧ (∀ j, j < i_11 → ¬ f j = 59) ∧ Stand p l e ({ frames := 0, cells := 0, slots := 0, locals := 0 } : Room) s m #[(.ref x1), (.int (59 : Int32)), (.int (0 : Int32)), (.int (Int32.ofNat n))] below meth c T11 L11 0 0 ∧ T11.heap = h0 ∧ Fr n0 L11 ∧ ∀ t, SF p e below T11 m 7 #[vr x1, vi (59 : Int32), vi (0 : Int32), vi (Int32.ofNat n), vi ((59 : Int32).toInt8.toInt32), vi (Int32.ofNat i_11)] [] t → Steps p.tables e below (s₁.setTop (entryFrame m #[(.ref x1), (.int (59 : Int32)), (.int (0 : Int32)), (.int (Int32.ofNat n))] 6)) t) ?_ 0 s₁ _ h0 ⟨(by omega), (fun j hj => absurd hj (by omega)), X0, e0, N0, pre10⟩
  rintro i_11 T11 L11 h11 ⟨hi_11, hl_11, X11, e11, N11, pre11⟩ ih11
  have pre12 := fun t (kt : SF p e below T11 m 10 #[vr x1, vi (59 : Int32), vi (0 : Int32), vi (Int32.ofNat n), vi ((59 : Int32).toInt8.toInt32), vi (Int32.ofNat i_11)] [(.int (Int32.ofNat n)), (.int (Int32.ofNat i_11))] t) => pre11 t (by
    refine XS.iload X11.here hx rfl (hb hby d20_7) rfl ?_
    refine XS.iloadN X11.here hx rfl (hb hby d20_9) rfl ?_
    exact kt)
  by_cases hc10 : (Int32.ofNat i_11) < (Int32.ofNat n)
  · skip
    have nf13 : (i_11 < n) := (own_lt (i := i_11) (n := n) (by omega) (by omega)).mp hc10
    obtain ⟨cl_a14, Ar_a14, -, S_a14, N_a14, H_a14, -⟩ := id V_x1
    obtain ⟨hin_a14, hat_a14⟩ := own_rd (j := (Int32.ofNat i_11)) (i := i_11) S_a14 H_a14 rfl (by omega) (by omega)
    have pre15 := fun t (kt : SF p e below T11 m 19 #[vr x1, vi (59 : Int32), vi (0 : Int32), vi (Int32.ofNat n), vi ((59 : Int32).toInt8.toInt32), vi (Int32.ofNat i_11)] [(.int ((59 : Int32).toInt8.toInt32)), (.int (own_by (f i_11)))] t) => pre12 t (by
      refine XS.icmpNo X11.here hx rfl (hb hby d20_10) rfl (tlt hc10).2.1 ?_
      refine XS.aloadN X11.here hx rfl (hb hby d20_13) rfl rfl ?_
      refine XS.iload X11.here hx rfl (hb hby d20_14) rfl ?_
      show SF p e below T11 m 16 _ [(.int (Int32.ofNat i_11)), (.ref x1)] _
      refine X11.baloadBytes hx (j := (Int32.ofNat i_11)) (v := (.int (own_by (f i_11)))) (by rw [e11]; exact Ar_a14.1) (State.isArrayOf_alike hZ.alike Ar_a14.2.1) Ar_a14.2.2 hin_a14 hat_a14 (g := (mkF m 16 #[vr x1, vi (59 : Int32), vi (0 : Int32), vi (Int32.ofNat n), vi ((59 : Int32).toInt8.toInt32), vi (Int32.ofNat i_11)] [(.int (Int32.ofNat i_11)), (.ref x1)])) rfl rfl (hb hby d20_16) _ ?_
      refine XS.iload X11.here hx rfl (hb hby d20_17) rfl ?_
      exact kt)
    by_cases hc19 : (own_by (f i_11)) = ((59 : Int32).toInt8.toInt32)
    · skip
      obtain ⟨fs, hr, hrun, hended, hW, hsame⟩ := X11.leave (v := some (.int (Int32.ofNat i_11))) (fun h => by rw [Bd.returns] at h; cases h)
      refine ⟨_, _, pre15 _ ?_, hrun, hended, _, _, rfl, ?_, ⟨_, rfl⟩, hW, hsame.mono (by decide) (by decide)⟩
      · show SF p e below T11 m 19 #[vr x1, vi (59 : Int32), vi (0 : Int32), vi (Int32.ofNat n), vi ((59 : Int32).toInt8.toInt32), vi (Int32.ofNat i_11)] [(.int ((59 : Int32).toInt8.toInt32)), (.int (own_by (f i_11)))] _
        refine XS.icmpNo X11.here hx rfl (hb hby d20_19) rfl (teq hc19).2 ?_
        refine XS.iload X11.here hx rfl (hb hby d20_22) rfl ?_
        show SF p e below T11 m 24 _ [(.int (Int32.ofNat i_11))] _
        exact retI X11 hx Bd.returns (hb hby d20_24) hr
      · show Q20 Z x1 ks f n h0 n0 _ T11.heap _
        rw [e11]
        exact ⟨(Int32.ofNat i_11), rfl, N11, rfl, (Or.inl ⟨i_11, by omega, rfl, own_by59 (hp i_11 (by omega)) hc19, hl_11⟩)⟩
    · skip
      have pre16 := fun t (kt : SF p e below T11 m 7 #[vr x1, vi (59 : Int32), vi (0 : Int32), vi (Int32.ofNat n), vi ((59 : Int32).toInt8.toInt32), vi ((Int32.ofNat i_11) + (1 : Int32))] [] t) => pre15 t (by
        refine XS.icmpYes X11.here hx rfl (pc0 := 19) (pc' := 25) rfl (hb hby d20_19) rfl (feq hc19).2 (by decide) (by decide) ?_
        refine XS.iinc X11.here hx rfl (hb hby d20_25) rfl (l' := #[vr x1, vi (59 : Int32), vi (0 : Int32), vi (Int32.ofNat n), vi ((59 : Int32).toInt8.toInt32), vi ((Int32.ofNat i_11) + (1 : Int32))]) rfl ?_
        refine XS.goto X11.here hx rfl (pc0 := 28) (pc' := 7) rfl (hb hby d20_28) (by decide) (by decide) ?_
        exact kt)
      exact ih11 (i_11 + 1) T11 _ h0 (by omega) ⟨(by omega), (own_all hl_11 (fun q => hc19 (by rw [q]; rfl))), X11, e11, N11, (fun t kt => pre16 t (by rw [own_one]; exact kt))⟩
  · skip
    have nf17 : ¬ (i_11 < n) := fun zq => hc10 ((own_lt (i := i_11) (n := n) (by omega) (by omega)).mpr zq)
    obtain ⟨fs, hr, hrun, hended, hW, hsame⟩ := X11.leave (v := some (.int (-1 : Int32))) (fun h => by rw [Bd.returns] at h; cases h)
    refine ⟨_, _, pre12 _ ?_, hrun, hended, _, _, rfl, ?_, ⟨_, rfl⟩, hW, hsame.mono (by decide) (by decide)⟩
    · show SF p e below T11 m 10 #[vr x1, vi (59 : Int32), vi (0 : Int32), vi (Int32.ofNat n), vi ((59 : Int32).toInt8.toInt32), vi (Int32.ofNat i_11)] [(.int (Int32.ofNat n)), (.int (Int32.ofNat i_11))] _
      refine XS.icmpYes X11.here hx rfl (pc0 := 10) (pc' := 31) rfl (hb hby d20_10) rfl (flt hc10).2.1 (by decide) (by decide) ?_
      refine XS.iconst X11.here hx rfl (hb hby d20_31) ?_
      show SF p e below T11 m 32 #[vr x1, vi (59 : Int32), vi (0 : Int32), vi (Int32.ofNat n), vi ((59 : Int32).toInt8.toInt32), vi (Int32.ofNat i_11)] [(.int (-1 : Int32))] _
      exact retI X11 hx Bd.returns (hb hby d20_32) hr
    · show Q20 Z x1 ks f n h0 n0 _ T11.heap _
      rw [e11]
      exact ⟨(-1 : Int32), rfl, N11, rfl, (Or.inr ⟨rfl, fun j hj => hl_11 j (by omega)⟩)⟩
theorem d16_0 : decode jdk_43_method_22_code 0 = .ok (.iload_n 1, 1) := by decide +kernel
theorem pd_1 : parseMethodDescriptor "(I)Z" = some ⟨[.int], some .boolean⟩ := by decide +kernel
theorem d16_1 : decode jdk_43_method_22_code 1 = .ok (.invokestatic 88, 3) := by decide +kernel
theorem d16_4 : decode jdk_43_method_22_code 4 = .ok (.ifCond .ne 5, 3) := by decide +kernel
theorem d16_9 : decode jdk_43_method_22_code 9 = .ok (.iload_n 2, 1) := by decide +kernel
theorem d16_10 : decode jdk_43_method_22_code 10 = .ok (.iconst 0, 1) := by decide +kernel
theorem pd_2 : parseMethodDescriptor "(II)I" = some ⟨[.int, .int], some .int⟩ := by decide +kernel
theorem d16_11 : decode jdk_43_method_22_code 11 = .ok (.invokestatic 92, 3) := by decide +kernel
theorem d16_14 : decode jdk_43_method_22_code 14 = .ok (.istore_n 2, 1) := by decide +kernel
theorem d16_15 : decode jdk_43_method_22_code 15 = .ok (.iload_n 3, 1) := by decide +kernel
theorem d16_16 : decode jdk_43_method_22_code 16 = .ok (.aload_n 0, 1) := by decide +kernel
theorem d16_17 : decode jdk_43_method_22_code 17 = .ok (.arraylength, 1) := by decide +kernel
theorem d16_18 : decode jdk_43_method_22_code 18 = .ok (.invokestatic 38, 3) := by decide +kernel
theorem d16_21 : decode jdk_43_method_22_code 21 = .ok (.istore_n 3, 1) := by decide +kernel
theorem d16_22 : decode jdk_43_method_22_code 22 = .ok (.iload_n 2, 1) := by decide +kernel
theorem d16_23 : decode jdk_43_method_22_code 23 = .ok (.iload_n 3, 1) := by decide +kernel
theorem d16_24 : decode jdk_43_method_22_code 24 = .ok (.if_icmp .lt 5, 3) := by decide +kernel
theorem d16_29 : decode jdk_43_method_22_code 29 = .ok (.aload_n 0, 1) := by decide +kernel
theorem d16_30 : decode jdk_43_method_22_code 30 = .ok (.iload_n 1, 1) := by decide +kernel
theorem d16_31 : decode jdk_43_method_22_code 31 = .ok (.iload_n 2, 1) := by decide +kernel
theorem d16_32 : decode jdk_43_method_22_code 32 = .ok (.iload_n 3, 1) := by decide +kernel
theorem pd_3 : parseMethodDescriptor "([BIII)I" = some ⟨[(.array .byte), .int, .int, .int], some .int⟩ := by decide +kernel
theorem d16_33 : decode jdk_43_method_22_code 33 = .ok (.invokestatic 95, 3) := by decide +kernel
theorem d16_36 : decode jdk_43_method_22_code 36 = .ok (.ireturn, 1) := by decide +kernel
theorem d16_27 : decode jdk_43_method_22_code 27 = .ok (.iconst (-1), 1) := by decide +kernel
theorem d16_28 : decode jdk_43_method_22_code 28 = .ok (.ireturn, 1) := by decide +kernel
theorem ef16 (m : MethodId) (x1 : Addr) : entryFrame m #[(.ref x1), (.int (59 : Int32)), (.int (0 : Int32)), (.int (Int32.ofNat n))] 4 = mkF m 0 #[vr x1, vi (59 : Int32), vi (0 : Int32), vi (Int32.ofNat n)] [] := by first | (simp [entryFrame, mkF, argsToLocals, Value.category]; done) | rfl
def Q16 (Z : State) (x1 : Addr) (ks : ClassId) (f : Nat → Int32) (n : Nat) (h0 : Heap) (n0 : Nat) (v : Option Value) (h : Heap) (L : List Loc) : Prop := ∃ (r : Int32), v = some (.int r) ∧ Fr n0 L ∧ h = h0 ∧ (own_ix f n r)
set_option maxRecDepth 65536 in
set_option maxHeartbeats 40000000 in
theorem rm16 (l : Launch) (Z : State) (a0 : Array Value) (hw : ∀ d ∈ tables_1, d.before a0 Z = true) (ws : List Jvm.Cond) (x1 : Addr) (ks : ClassId) (f : Nat → Int32) (n : Nat) (h0 : Heap) (n0 : Nat) (Z0 : n0 ≤ h0.size) (O0 : Old Z n0 h0) (V_x1 : Arv Z h0 x1 ks .byte (Int32.ofNat n) (own_fv f n) (.int 0)) (hp : ∀ j, j < n → ¬ f j < 0 ∧ ¬ (255 : Int32) < f j) (hn : n ≤ 24) :
    MetFree l (⟨"java/lang/StringLatin1", "indexOf", "([BIII)I"⟩ : MethodName) (head1 (Jvm.Cond.code (⟨"java/lang/StringLatin1", "indexOf", "([BIII)I"⟩ : MethodName) jdk_43_method_22_code 4 (some .int) :: ws) ({ frames := 1, cells := 0, slots := 0, locals := 17 } : Room)) (fun a U => a = #[(.ref x1), (.int (59 : Int32)), (.int (0 : Int32)), (.int (Int32.ofNat n))] ∧ Z.Warmed39 U.vm ∧ U.heap = h0) (fun _ _ _ _ _ => True) (fun _ U o U' => ∃ v L, o = .returned v ∧ Q16 Z x1 ks f n h0 n0 v U'.heap L ∧ FrameEnd U o U' L ({ frames := 1, cells := 0, slots := 0, locals := 17 } : Room).cells ({ frames := 1, cells := 0, slots := 0, locals := 17 } : Room).slots) := by
  refine MetFree.of_bodySF (plainFor_of_name pn_java_lang_StringLatin1) hisR ?_
  intro p e s m args below meth c s₁ Bd hml0 hP hK
  obtain ⟨rfl, hZ, hh⟩ := hP
  have hx := Bd.exec
  have hby := Bd.bytes
  have hml : c.maxLocals = 4 := hml0
  have hown : s.vm.findClass "java/lang/StringLatin1" = some m.cls := findClass_of_methodNamed Bd.named
  have hnm := (name_of_methodNamed Bd.named Bd.method).1
  have X0 : Stand p l e ({ frames := 1, cells := 0, slots := 0, locals := 17 } : Room) s m #[(.ref x1), (.int (59 : Int32)), (.int (0 : Int32)), (.int (Int32.ofNat n))] below meth c s₁ [] 0 0 := Stand.of_body Bd
  have e0 : s₁.heap = h0 := by rw [← hh, Bd.state]; rfl
  have N0 := Fr.nil n0
  have K0 : Keep h0 h0 [] := Keep.refl _ _
  have pre0 : ∀ t, SF p e below s₁ m 0 #[vr x1, vi (59 : Int32), vi (0 : Int32), vi (Int32.ofNat n)] [] t → Steps p.tables e below (s₁.setTop (entryFrame m #[(.ref x1), (.int (59 : Int32)), (.int (0 : Int32)), (.int (Int32.ofNat n))] 4)) t := fun t k => castTop (ef16 m x1) k
  have pp18 : ¬ ((59 : Int32) < (0 : Int32)) := by decide
  have pp19 : ¬ ((255 : Int32) < (59 : Int32)) := by decide
  obtain ⟨_, _, ⟨T20, L20, k20, n20⟩, -, X20, ⟨Lc20, hQ20, l20, y20, z20⟩, st20⟩ := Jvm.LawKit.callS X0 hx (y := (⟨"java/lang/StringLatin1", "canEncode", "(I)Z"⟩ : MethodName)) hown (mvT hZ (own_wd hw 73 rfl)) (mvT hZ (own_wd hw 74 rfl)) (mvT hZ (own_wd hw 71 rfl)) (mvT hZ (own_wd hw 75 rfl)) (by decide) (backOf (W := 0) (rm17 l Z a0 hw [] (59 : Int32) h0 n0 Z0 O0 pp18 pp19) hZ (own_wd hw 75 rfl) (own_wd hw 71 rfl) (by decide) (by decide)) (g := (mkF m 1 #[vr x1, vi (59 : Int32), vi (0 : Int32), vi (Int32.ofNat n)] [(.int (59 : Int32))])) rfl (by rw [hml]; rfl) (argsL := [(.int (59 : Int32))]) (rest := []) (lenOf pd_1 rfl) rfl (by show 2 * 0 + _ ≤ _; exact Nat.le_of_eq rfl) (hb hby d16_1) (fun _ _ => ⟨rfl, e0, (by decide : 0 + 0 ≤ _), (by decide : 0 + 0 ≤ _)⟩)
  dsimp only [Pt.U, Pt.locs, Pt.cells, Pt.slots] at X20 l20 y20 z20 st20 hQ20
  subst y20 z20
  obtain ⟨rfl, N20q, eh20⟩ := hQ20
  have N20 : Fr n0 L20 := by rw [l20]; exact Fr.app N0 N20q
  obtain ⟨_, _, ⟨T21, L21, k21, n21⟩, -, X21, ⟨Lc21, hQ21, l21, y21, z21⟩, st21⟩ := Jvm.LawKit.callS X20 hx (y := (⟨"java/lang/Math", "max", "(II)I"⟩ : MethodName)) hown (mvT hZ (own_wd hw 76 rfl)) (mvT hZ (own_wd hw 77 rfl)) (mvT hZ (own_wd hw 78 rfl)) (mvT hZ (own_wd hw 79 rfl)) (by decide) (backOf (W := 0) (rm18_0 l Z a0 hw []  h0 n0 Z0 O0) hZ (own_wd hw 79 rfl) (own_wd hw 78 rfl) (by decide) (by decide)) (g := (mkF m 11 #[vr x1, vi (59 : Int32), vi (0 : Int32), vi (Int32.ofNat n)] [(.int (0 : Int32)), (.int (0 : Int32))])) rfl (by rw [hml]; rfl) (argsL := [(.int (0 : Int32)), (.int (0 : Int32))]) (rest := []) (lenOf pd_2 rfl) rfl (by show 2 * 0 + _ ≤ _; exact Nat.le_of_eq rfl) (hb hby d16_11) (fun _ _ => ⟨rfl, eh20, (by decide : 0 + 0 ≤ _), (by decide : 0 + 0 ≤ _)⟩)
  dsimp only [Pt.U, Pt.locs, Pt.cells, Pt.slots] at X21 l21 y21 z21 st21 hQ21
  subst y21 z21
  obtain ⟨rfl, N21q, eh21⟩ := hQ21
  have N21 : Fr n0 L21 := by rw [l21]; exact Fr.app N20 N21q
  obtain ⟨cl_a22, Ar_a22, -, S_a22, N_a22, -, -⟩ := id V_x1
  obtain ⟨_, _, ⟨T23, L23, k23, n23⟩, -, X23, ⟨Lc23, hQ23, l23, y23, z23⟩, st23⟩ := Jvm.LawKit.callS X21 hx (y := (⟨"java/lang/Math", "min", "(II)I"⟩ : MethodName)) hown (mvT hZ (own_wd hw 80 rfl)) (mvT hZ (own_wd hw 81 rfl)) (mvT hZ (own_wd hw 78 rfl)) (mvT hZ (own_wd hw 82 rfl)) (by decide) (backOf (W := 0) (rm19 l Z a0 hw [] (Int32.ofNat n) (Int32.ofNat n) h0 n0 Z0 O0) hZ (own_wd hw 82 rfl) (own_wd hw 78 rfl) (by decide) (by decide)) (g := (mkF m 18 #[vr x1, vi (59 : Int32), vi (0 : Int32), vi (Int32.ofNat n)] [(.int (Int32.ofNat n)), (.int (Int32.ofNat n))])) rfl (by rw [hml]; rfl) (argsL := [(.int (Int32.ofNat n)), (.int (Int32.ofNat n))]) (rest := []) (lenOf pd_2 rfl) rfl (by show 2 * 0 + _ ≤ _; exact Nat.le_of_eq rfl) (hb hby d16_18) (fun _ _ => ⟨rfl, eh21, (by decide : 0 + 0 ≤ _), (by decide : 0 + 0 ≤ _)⟩)
  dsimp only [Pt.U, Pt.locs, Pt.cells, Pt.slots] at X23 l23 y23 z23 st23 hQ23
  subst y23 z23
  obtain ⟨rfl, N23q, eh23⟩ := hQ23
  have N23 : Fr n0 L23 := by rw [l23]; exact Fr.app N21 N23q
  have rn24 : (own_min (Int32.ofNat n) (Int32.ofNat n)) = (Int32.ofNat n) := own_minself _
  have pre25 := fun t (kt : SF p e below T23 m 24 #[vr x1, vi (59 : Int32), vi (0 : Int32), vi (Int32.ofNat n)] [(.int (Int32.ofNat n)), (.int (0 : Int32))] t) => pre0 t (by
    refine XS.iloadN X0.here hx rfl (hb hby d16_0) rfl ?_
    show SF p e below s₁ m 1 _ [(.int (59 : Int32))] _
    refine st20 _ ?_
    show SF p e below T20 m 4 #[vr x1, vi (59 : Int32), vi (0 : Int32), vi (Int32.ofNat n)] [(.int (1 : Int32))] _
    refine XS.ifYes X20.here hx rfl (pc0 := 4) (pc' := 9) rfl (hb hby d16_4) rfl ((if0 _ _).trans (feq (by decide : ¬ ((1 : Int32) = (0 : Int32)))).2) (by decide) (by decide) ?_
    refine XS.iloadN X20.here hx rfl (hb hby d16_9) rfl ?_
    refine XS.iconst X20.here hx rfl (hb hby d16_10) ?_
    show SF p e below T20 m 11 _ [(.int (0 : Int32)), (.int (0 : Int32))] _
    refine st21 _ ?_
    show SF p e below T21 m 14 #[vr x1, vi (59 : Int32), vi (0 : Int32), vi (Int32.ofNat n)] [(.int (0 : Int32))] _
    refine XS.istoreN X21.here hx rfl (hb hby d16_14) rfl (l' := #[vr x1, vi (59 : Int32), vi (0 : Int32), vi (Int32.ofNat n)]) rfl ?_
    refine XS.iloadN X21.here hx rfl (hb hby d16_15) rfl ?_
    refine XS.aloadN X21.here hx rfl (hb hby d16_16) rfl rfl ?_
    show SF p e below T21 m 17 _ [(.ref x1), (.int (Int32.ofNat n))] _
    refine X21.arraylength hx (by rw [eh21]; exact Ar_a22.1) (State.isArrayOf_alike hZ.alike Ar_a22.2.1) (g := (mkF m 17 #[vr x1, vi (59 : Int32), vi (0 : Int32), vi (Int32.ofNat n)] [(.ref x1), (.int (Int32.ofNat n))])) rfl rfl (hb hby d16_17) _ ?_
    rw [len_of S_a22 N_a22]
    show SF p e below T21 m 18 _ [(.int (Int32.ofNat n)), (.int (Int32.ofNat n))] _
    refine st23 _ ?_
    show SF p e below T23 m 21 #[vr x1, vi (59 : Int32), vi (0 : Int32), vi (Int32.ofNat n)] [(.int (own_min (Int32.ofNat n) (Int32.ofNat n)))] _
    rw [rn24]
    refine XS.istoreN X23.here hx rfl (hb hby d16_21) rfl (l' := #[vr x1, vi (59 : Int32), vi (0 : Int32), vi (Int32.ofNat n)]) rfl ?_
    refine XS.iloadN X23.here hx rfl (hb hby d16_22) rfl ?_
    refine XS.iloadN X23.here hx rfl (hb hby d16_23) rfl ?_
    exact kt)
  by_cases hc24 : (0 : Int32) < (Int32.ofNat n)
  · skip
    have nf26 : (0 < n) := (own_lt (i := 0) (n := n) (by omega) (by omega)).mp hc24
    obtain ⟨_, _, ⟨T27, L27, k27, n27⟩, -, X27, ⟨Lc27, hQ27, l27, y27, z27⟩, st27⟩ := Jvm.LawKit.callS X23 hx (y := (⟨"java/lang/StringLatin1", "indexOfChar", "([BIII)I"⟩ : MethodName)) hown (mvT hZ (own_wd hw 83 rfl)) (mvT hZ (own_wd hw 84 rfl)) (mvT hZ (own_wd hw 71 rfl)) (mvT hZ (own_wd hw 85 rfl)) (by decide) (backOf (W := 0) (rm20 l Z a0 hw [] x1 ks f n h0 n0 Z0 O0 V_x1 hp (by omega)) hZ (own_wd hw 85 rfl) (own_wd hw 71 rfl) (by decide) (by decide)) (g := (mkF m 33 #[vr x1, vi (59 : Int32), vi (0 : Int32), vi (Int32.ofNat n)] [(.int (Int32.ofNat n)), (.int (0 : Int32)), (.int (59 : Int32)), (.ref x1)])) rfl (by rw [hml]; rfl) (argsL := [(.ref x1), (.int (59 : Int32)), (.int (0 : Int32)), (.int (Int32.ofNat n))]) (rest := []) (lenOf pd_3 rfl) rfl (by show 2 * 0 + _ ≤ _; exact Nat.le_of_eq rfl) (hb hby d16_33) (fun _ _ => ⟨rfl, eh23, (by decide : 0 + 0 ≤ _), (by decide : 0 + 0 ≤ _)⟩)
    dsimp only [Pt.U, Pt.locs, Pt.cells, Pt.slots] at X27 l27 y27 z27 st27 hQ27
    subst y27 z27
    obtain ⟨r_27, rfl, N27q, eh27, Q27_0⟩ := hQ27
    have N27 : Fr n0 L27 := by rw [l27]; exact Fr.app N23 N27q
    obtain ⟨fs, hr, hrun, hended, hW, hsame⟩ := X27.leave (v := some (.int r_27)) (fun h => by rw [Bd.returns] at h; cases h)
    refine ⟨_, _, pre25 _ ?_, hrun, hended, _, _, rfl, ?_, ⟨_, rfl⟩, hW, hsame.mono (by decide) (by decide)⟩
    · show SF p e below T23 m 24 #[vr x1, vi (59 : Int32), vi (0 : Int32), vi (Int32.ofNat n)] [(.int (Int32.ofNat n)), (.int (0 : Int32))] _
      refine XS.icmpYes X23.here hx rfl (pc0 := 24) (pc' := 29) rfl (hb hby d16_24) rfl (tlt hc24).1 (by decide) (by decide) ?_
      refine XS.aloadN X23.here hx rfl (hb hby d16_29) rfl rfl ?_
      show SF p e below T23 m 30 _ [(.ref x1)] _
      refine XS.iloadN X23.here hx rfl (hb hby d16_30) rfl ?_
      refine XS.iloadN X23.here hx rfl (hb hby d16_31) rfl ?_
      refine XS.iloadN X23.here hx rfl (hb hby d16_32) rfl ?_
      show SF p e below T23 m 33 _ [(.int (Int32.ofNat n)), (.int (0 : Int32)), (.int (59 : Int32)), (.ref x1)] _
      refine st27 _ ?_
      show SF p e below T27 m 36 #[vr x1, vi (59 : Int32), vi (0 : Int32), vi (Int32.ofNat n)] [(.int r_27)] _
      exact retI X27 hx Bd.returns (hb hby d16_36) hr
    · show Q16 Z x1 ks f n h0 n0 _ T27.heap _
      rw [eh27]
      exact ⟨r_27, rfl, N27, rfl, (by assumption)⟩
  · skip
    have nf28 : ¬ (0 < n) := fun zq => hc24 ((own_lt (i := 0) (n := n) (by omega) (by omega)).mpr zq)
    obtain ⟨fs, hr, hrun, hended, hW, hsame⟩ := X23.leave (v := some (.int (-1 : Int32))) (fun h => by rw [Bd.returns] at h; cases h)
    refine ⟨_, _, pre25 _ ?_, hrun, hended, _, _, rfl, ?_, ⟨_, rfl⟩, hW, hsame.mono (by decide) (by decide)⟩
    · show SF p e below T23 m 24 #[vr x1, vi (59 : Int32), vi (0 : Int32), vi (Int32.ofNat n)] [(.int (Int32.ofNat n)), (.int (0 : Int32))] _
      refine XS.icmpNo X23.here hx rfl (hb hby d16_24) rfl (flt hc24).1 ?_
      refine XS.iconst X23.here hx rfl (hb hby d16_27) ?_
      show SF p e below T23 m 28 _ [(.int (-1 : Int32))] _
      exact retI X23 hx Bd.returns (hb hby d16_28) hr
    · show Q16 Z x1 ks f n h0 n0 _ T23.heap _
      rw [eh23]
      exact ⟨(-1 : Int32), rfl, N23, rfl, (Or.inr ⟨rfl, fun j hj => absurd hj (by omega)⟩)⟩
theorem d12_0 : decode jdk_42_method_80_code 0 = .ok (.aload_n 0, 1) := by decide +kernel
theorem pd_4 : parseMethodDescriptor "()Z" = some ⟨[], some .boolean⟩ := by decide +kernel
theorem d12_1 : decode jdk_42_method_80_code 1 = .ok (.invokevirtual 492, 3) := by decide +kernel
theorem d12_4 : decode jdk_42_method_80_code 4 = .ok (.ifCond .eq 19, 3) := by decide +kernel
theorem d12_7 : decode jdk_42_method_80_code 7 = .ok (.aload_n 0, 1) := by decide +kernel
theorem d12_8 : decode jdk_42_method_80_code 8 = .ok (.getfield 9, 3) := by decide +kernel
theorem d12_11 : decode jdk_42_method_80_code 11 = .ok (.iload_n 1, 1) := by decide +kernel
theorem d12_12 : decode jdk_42_method_80_code 12 = .ok (.iload_n 2, 1) := by decide +kernel
theorem d12_13 : decode jdk_42_method_80_code 13 = .ok (.aload_n 0, 1) := by decide +kernel
theorem pd_5 : parseMethodDescriptor "()I" = some ⟨[], some .int⟩ := by decide +kernel
theorem d12_14 : decode jdk_42_method_80_code 14 = .ok (.invokevirtual 505, 3) := by decide +kernel
theorem d12_17 : decode jdk_42_method_80_code 17 = .ok (.invokestatic 637, 3) := by decide +kernel
theorem d12_20 : decode jdk_42_method_80_code 20 = .ok (.goto 16, 3) := by decide +kernel
theorem d12_36 : decode jdk_42_method_80_code 36 = .ok (.ireturn, 1) := by decide +kernel
theorem ef12 (m : MethodId) (tz : Addr) : entryFrame m #[(.ref tz), (.int (59 : Int32)), (.int (0 : Int32))] 3 = mkF m 0 #[vr tz, vi (59 : Int32), vi (0 : Int32)] [] := by first | (simp [entryFrame, mkF, argsToLocals, Value.category]; done) | rfl
def Q12 (Z : State) (tz : Addr) (tz_value : Addr) (ks : ClassId) (f : Nat → Int32) (n : Nat) (st_COMPACT_STRINGS : Int32) (h0 : Heap) (n0 : Nat) (v : Option Value) (h : Heap) (L : List Loc) : Prop := ∃ (r : Int32), v = some (.int r) ∧ Fr n0 L ∧ h = h0 ∧ (own_ix f n r)
set_option maxRecDepth 65536 in
set_option maxHeartbeats 40000000 in
theorem rm12 (l : Launch) (Z : State) (a0 : Array Value) (hw : ∀ d ∈ tables_1, d.before a0 Z = true) (ws : List Jvm.Cond) (tz : Addr) (tz_value : Addr) (ks : ClassId) (f : Nat → Int32) (n : Nat) (st_COMPACT_STRINGS : Int32) (h0 : Heap) (n0 : Nat) (Z0 : n0 ≤ h0.size) (O0 : Old Z n0 h0) (E_tz : Exa Z h0 tz "java/lang/String") (F_tz_value : Fld Z h0 tz "java/lang/String" "value" "[B" (.ref tz_value)) (F_tz_coder : Fld Z h0 tz "java/lang/String" "coder" "B" (.int (0 : Int32))) (V_tz_value : Arv Z h0 tz_value ks .byte (Int32.ofNat n) (own_fv f n) (.int 0)) (hp : ∀ j, j < n → ¬ f j < 0 ∧ ¬ (255 : Int32) < f j) (hn : n ≤ 24) (S_COMPACT_STRINGS : Sta Z Z.heap "java/lang/String" "COMPACT_STRINGS" "Z" (.int st_COMPACT_STRINGS)) (hcomp : ¬ (st_COMPACT_STRINGS = (0 : Int32))) :
    MetFree l (⟨"java/lang/String", "indexOf", "(II)I"⟩ : MethodName) (head1 (Jvm.Cond.code (⟨"java/lang/String", "indexOf", "(II)I"⟩ : MethodName) jdk_42_method_80_code 3 (some .int) :: ws) ({ frames := 2, cells := 0, slots := 0, locals := 32 } : Room)) (fun a U => a = #[(.ref tz), (.int (59 : Int32)), (.int (0 : Int32))] ∧ Z.Warmed39 U.vm ∧ U.heap = h0) (fun _ _ _ _ _ => True) (fun _ U o U' => ∃ v L, o = .returned v ∧ Q12 Z tz tz_value ks f n st_COMPACT_STRINGS h0 n0 v U'.heap L ∧ FrameEnd U o U' L ({ frames := 2, cells := 0, slots := 0, locals := 32 } : Room).cells ({ frames := 2, cells := 0, slots := 0, locals := 32 } : Room).slots) := by
  refine MetFree.of_bodySF (plainFor_of_name pn_java_lang_String) hisR ?_
  intro p e s m args below meth c s₁ Bd hml0 hP hK
  obtain ⟨rfl, hZ, hh⟩ := hP
  have hx := Bd.exec
  have hby := Bd.bytes
  have hml : c.maxLocals = 3 := hml0
  have hown : s.vm.findClass "java/lang/String" = some m.cls := findClass_of_methodNamed Bd.named
  have hnm := (name_of_methodNamed Bd.named Bd.method).1
  have X0 : Stand p l e ({ frames := 2, cells := 0, slots := 0, locals := 32 } : Room) s m #[(.ref tz), (.int (59 : Int32)), (.int (0 : Int32))] below meth c s₁ [] 0 0 := Stand.of_body Bd
  have e0 : s₁.heap = h0 := by rw [← hh, Bd.state]; rfl
  have N0 := Fr.nil n0
  have K0 : Keep h0 h0 [] := Keep.refl _ _
  have pre0 : ∀ t, SF p e below s₁ m 0 #[vr tz, vi (59 : Int32), vi (0 : Int32)] [] t → Steps p.tables e below (s₁.setTop (entryFrame m #[(.ref tz), (.int (59 : Int32)), (.int (0 : Int32))] 3)) t := fun t k => castTop (ef12 m tz) k
  obtain ⟨cq29, kq29, q29a, q29b, q29c⟩ := isOf hZ e0 E_tz
  obtain ⟨_, _, ⟨T29, L29, k29, n29⟩, -, X29, ⟨Lc29, hQ29, l29, y29, z29⟩, st29⟩ := X0.virtualBack hx (y := (⟨"java/lang/String", "isLatin1", "()Z"⟩ : MethodName)) (z := (⟨"java/lang/String", "isLatin1", "()Z"⟩ : MethodName)) hown (mvT hZ (own_wd hw 54 rfl)) (mvT hZ (own_wd hw 55 rfl)) (notFace_of_selects (args := #[]) (mvT hZ (own_wd hw 57 rfl))) (mvT hZ (own_wd hw 57 rfl)) (mvT hZ (own_wd hw 56 rfl)) (by decide) (backOf (W := 0) (rm13 l Z a0 hw [] tz st_COMPACT_STRINGS h0 n0 Z0 O0 F_tz_coder S_COMPACT_STRINGS hcomp) hZ (own_wd hw 58 rfl) (own_wd hw 10 rfl) (by decide) (by decide)) q29a q29c (g := (mkF m 1 #[vr tz, vi (59 : Int32), vi (0 : Int32)] [(.ref tz)])) rfl (by rw [hml]; rfl) (Steps.refl _) (argsL := []) (rest := []) (lenOf pd_4 rfl) rfl (by show 2 * 0 + _ ≤ _; exact Nat.le_of_eq rfl) (hb hby d12_1) (fun _ _ => ⟨rfl, e0, (by decide : 0 + 0 ≤ _), (by decide : 0 + 0 ≤ _)⟩)
  dsimp only [Pt.U, Pt.locs, Pt.cells, Pt.slots] at X29 l29 y29 z29 st29 hQ29
  subst y29 z29
  obtain ⟨rfl, N29q, eh29⟩ := hQ29
  have N29 : Fr n0 L29 := by rw [l29]; exact Fr.app N0 N29q
  obtain ⟨T30, X30, e30, st30⟩ := getF X29 hx hZ hown (host := "") (Or.inl (own_wd hw 35 rfl)) Via.refl eh29 F_tz_value (g := (mkF m 8 #[vr tz, vi (59 : Int32), vi (0 : Int32)] [(.ref tz)])) rfl rfl (hb hby d12_8)
  obtain ⟨cq31, kq31, q31a, q31b, q31c⟩ := isOf hZ e30 E_tz
  obtain ⟨_, _, ⟨T31, L31, k31, n31⟩, -, X31, ⟨Lc31, hQ31, l31, y31, z31⟩, st31⟩ := X30.virtualBack hx (y := (⟨"java/lang/String", "length", "()I"⟩ : MethodName)) (z := (⟨"java/lang/String", "length", "()I"⟩ : MethodName)) hown (mvT hZ (own_wd hw 59 rfl)) (mvT hZ (own_wd hw 60 rfl)) (notFace_of_selects (args := #[]) (mvT hZ (own_wd hw 62 rfl))) (mvT hZ (own_wd hw 62 rfl)) (mvT hZ (own_wd hw 61 rfl)) (by decide) (backOf (W := 3) (rm14 l Z a0 hw [] tz tz_value ks f n st_COMPACT_STRINGS h0 n0 Z0 O0 E_tz F_tz_value F_tz_coder V_tz_value S_COMPACT_STRINGS hcomp) hZ (own_wd hw 63 rfl) (own_wd hw 10 rfl) (by decide) (by decide)) q31a q31c (g := (mkF m 14 #[vr tz, vi (59 : Int32), vi (0 : Int32)] [(.ref tz), (.int (0 : Int32)), (.int (59 : Int32)), (.ref tz_value)])) rfl (by rw [hml]; rfl) (Steps.refl _) (argsL := []) (rest := [(.int (0 : Int32)), (.int (59 : Int32)), (.ref tz_value)]) (lenOf pd_5 rfl) rfl (by show 2 * 0 + _ ≤ _; exact Nat.le_of_eq rfl) (hb hby d12_14) (fun _ _ => ⟨rfl, e30, (by decide : 0 + 0 ≤ _), (by decide : 0 + 0 ≤ _)⟩)
  dsimp only [Pt.U, Pt.locs, Pt.cells, Pt.slots] at X31 l31 y31 z31 st31 hQ31
  subst y31 z31
  obtain ⟨rfl, N31q, eh31⟩ := hQ31
  have N31 : Fr n0 L31 := by rw [l31]; exact Fr.app N29 N31q
  obtain ⟨_, _, ⟨T32, L32, k32, n32⟩, -, X32, ⟨Lc32, hQ32, l32, y32, z32⟩, st32⟩ := Jvm.LawKit.callS X31 hx (y := (⟨"java/lang/StringLatin1", "indexOf", "([BIII)I"⟩ : MethodName)) hown (mvT hZ (own_wd hw 69 rfl)) (mvT hZ (own_wd hw 70 rfl)) (mvT hZ (own_wd hw 71 rfl)) (mvT hZ (own_wd hw 72 rfl)) (by decide) (backOf (W := 0) (rm16 l Z a0 hw [] tz_value ks f n h0 n0 Z0 O0 V_tz_value hp (by omega)) hZ (own_wd hw 72 rfl) (own_wd hw 71 rfl) (by decide) (by decide)) (g := (mkF m 17 #[vr tz, vi (59 : Int32), vi (0 : Int32)] [(.int (Int32.ofNat n)), (.int (0 : Int32)), (.int (59 : Int32)), (.ref tz_value)])) rfl (by rw [hml]; rfl) (argsL := [(.ref tz_value), (.int (59 : Int32)), (.int (0 : Int32)), (.int (Int32.ofNat n))]) (rest := []) (lenOf pd_3 rfl) rfl (by show 2 * 0 + _ ≤ _; exact Nat.le_of_eq rfl) (hb hby d12_17) (fun _ _ => ⟨rfl, eh31, (by decide : 0 + 0 ≤ _), (by decide : 0 + 0 ≤ _)⟩)
  dsimp only [Pt.U, Pt.locs, Pt.cells, Pt.slots] at X32 l32 y32 z32 st32 hQ32
  subst y32 z32
  obtain ⟨r_32, rfl, N32q, eh32, Q32_0⟩ := hQ32
  have N32 : Fr n0 L32 := by rw [l32]; exact Fr.app N31 N32q
  obtain ⟨fs, hr, hrun, hended, hW, hsame⟩ := X32.leave (v := some (.int r_32)) (fun h => by rw [Bd.returns] at h; cases h)
  refine ⟨_, _, pre0 _ ?_, hrun, hended, _, _, rfl, ?_, ⟨_, rfl⟩, hW, hsame.mono (by decide) (by decide)⟩
  · show SF p e below s₁ m 0 #[vr tz, vi (59 : Int32), vi (0 : Int32)] [] _
    refine XS.aloadN X0.here hx rfl (hb hby d12_0) rfl rfl ?_
    show SF p e below s₁ m 1 #[vr tz, vi (59 : Int32), vi (0 : Int32)] [(.ref tz)] _
    refine st29.trans ?_
    show SF p e below T29 m 4 #[vr tz, vi (59 : Int32), vi (0 : Int32)] [(.int (1 : Int32))] _
    refine XS.ifNo X29.here hx rfl (hb hby d12_4) rfl ((if0 _ _).trans (feq (by decide : ¬ ((1 : Int32) = (0 : Int32)))).1) ?_
    refine XS.aloadN X29.here hx rfl (hb hby d12_7) rfl rfl ?_
    show SF p e below T29 m 8 _ [(.ref tz)] _
    refine st30 _ ?_
    show SF p e below T30 m 11 #[vr tz, vi (59 : Int32), vi (0 : Int32)] [(.ref tz_value)] _
    refine XS.iloadN X30.here hx rfl (hb hby d12_11) rfl ?_
    refine XS.iloadN X30.here hx rfl (hb hby d12_12) rfl ?_
    refine XS.aloadN X30.here hx rfl (hb hby d12_13) rfl rfl ?_
    show SF p e below T30 m 14 _ [(.ref tz), (.int (0 : Int32)), (.int (59 : Int32)), (.ref tz_value)] _
    refine st31.trans ?_
    show SF p e below T31 m 17 #[vr tz, vi (59 : Int32), vi (0 : Int32)] [(.int (Int32.ofNat n)), (.int (0 : Int32)), (.int (59 : Int32)), (.ref tz_value)] _
    refine st32 _ ?_
    show SF p e below T32 m 20 #[vr tz, vi (59 : Int32), vi (0 : Int32)] [(.int r_32)] _
    refine XS.goto X32.here hx rfl (pc0 := 20) (pc' := 36) rfl (hb hby d12_20) (by decide) (by decide) ?_
    show SF p e below T32 m 36 _ [(.int r_32)] _
    exact retI X32 hx Bd.returns (hb hby d12_36) hr
  · show Q12 Z tz tz_value ks f n st_COMPACT_STRINGS h0 n0 _ T32.heap _
    rw [eh32]
    exact ⟨r_32, rfl, N32, rfl, (by assumption)⟩
theorem d11_0 : decode jdk_42_method_79_code 0 = .ok (.aload_n 0, 1) := by decide +kernel
theorem d11_1 : decode jdk_42_method_79_code 1 = .ok (.iload_n 1, 1) := by decide +kernel
theorem d11_2 : decode jdk_42_method_79_code 2 = .ok (.iconst 0, 1) := by decide +kernel
theorem d11_3 : decode jdk_42_method_79_code 3 = .ok (.invokevirtual 633, 3) := by decide +kernel
theorem d11_6 : decode jdk_42_method_79_code 6 = .ok (.ireturn, 1) := by decide +kernel
theorem ef11 (m : MethodId) (tz : Addr) : entryFrame m #[(.ref tz), (.int (59 : Int32))] 2 = mkF m 0 #[vr tz, vi (59 : Int32)] [] := by first | (simp [entryFrame, mkF, argsToLocals, Value.category]; done) | rfl
def Q11 (Z : State) (tz : Addr) (tz_value : Addr) (ks : ClassId) (f : Nat → Int32) (n : Nat) (st_COMPACT_STRINGS : Int32) (h0 : Heap) (n0 : Nat) (v : Option Value) (h : Heap) (L : List Loc) : Prop := ∃ (r : Int32), v = some (.int r) ∧ Fr n0 L ∧ h = h0 ∧ (own_ix f n r)
set_option maxRecDepth 65536 in
set_option maxHeartbeats 40000000 in
theorem rm11 (l : Launch) (Z : State) (a0 : Array Value) (hw : ∀ d ∈ tables_1, d.before a0 Z = true) (ws : List Jvm.Cond) (tz : Addr) (tz_value : Addr) (ks : ClassId) (f : Nat → Int32) (n : Nat) (st_COMPACT_STRINGS : Int32) (h0 : Heap) (n0 : Nat) (Z0 : n0 ≤ h0.size) (O0 : Old Z n0 h0) (E_tz : Exa Z h0 tz "java/lang/String") (F_tz_value : Fld Z h0 tz "java/lang/String" "value" "[B" (.ref tz_value)) (F_tz_coder : Fld Z h0 tz "java/lang/String" "coder" "B" (.int (0 : Int32))) (V_tz_value : Arv Z h0 tz_value ks .byte (Int32.ofNat n) (own_fv f n) (.int 0)) (hp : ∀ j, j < n → ¬ f j < 0 ∧ ¬ (255 : Int32) < f j) (hn : n ≤ 24) (S_COMPACT_STRINGS : Sta Z Z.heap "java/lang/String" "COMPACT_STRINGS" "Z" (.int st_COMPACT_STRINGS)) (hcomp : ¬ (st_COMPACT_STRINGS = (0 : Int32))) :
    MetFree l (⟨"java/lang/String", "indexOf", "(I)I"⟩ : MethodName) (head1 (Jvm.Cond.code (⟨"java/lang/String", "indexOf", "(I)I"⟩ : MethodName) jdk_42_method_79_code 2 (some .int) :: ws) ({ frames := 3, cells := 0, slots := 0, locals := 46 } : Room)) (fun a U => a = #[(.ref tz), (.int (59 : Int32))] ∧ Z.Warmed39 U.vm ∧ U.heap = h0) (fun _ _ _ _ _ => True) (fun _ U o U' => ∃ v L, o = .returned v ∧ Q11 Z tz tz_value ks f n st_COMPACT_STRINGS h0 n0 v U'.heap L ∧ FrameEnd U o U' L ({ frames := 3, cells := 0, slots := 0, locals := 46 } : Room).cells ({ frames := 3, cells := 0, slots := 0, locals := 46 } : Room).slots) := by
  refine MetFree.of_bodySF (plainFor_of_name pn_java_lang_String) hisR ?_
  intro p e s m args below meth c s₁ Bd hml0 hP hK
  obtain ⟨rfl, hZ, hh⟩ := hP
  have hx := Bd.exec
  have hby := Bd.bytes
  have hml : c.maxLocals = 2 := hml0
  have hown : s.vm.findClass "java/lang/String" = some m.cls := findClass_of_methodNamed Bd.named
  have hnm := (name_of_methodNamed Bd.named Bd.method).1
  have X0 : Stand p l e ({ frames := 3, cells := 0, slots := 0, locals := 46 } : Room) s m #[(.ref tz), (.int (59 : Int32))] below meth c s₁ [] 0 0 := Stand.of_body Bd
  have e0 : s₁.heap = h0 := by rw [← hh, Bd.state]; rfl
  have N0 := Fr.nil n0
  have K0 : Keep h0 h0 [] := Keep.refl _ _
  have pre0 : ∀ t, SF p e below s₁ m 0 #[vr tz, vi (59 : Int32)] [] t → Steps p.tables e below (s₁.setTop (entryFrame m #[(.ref tz), (.int (59 : Int32))] 2)) t := fun t k => castTop (ef11 m tz) k
  obtain ⟨cq33, kq33, q33a, q33b, q33c⟩ := isOf hZ e0 E_tz
  obtain ⟨_, _, ⟨T33, L33, k33, n33⟩, -, X33, ⟨Lc33, hQ33, l33, y33, z33⟩, st33⟩ := X0.virtualBack hx (y := (⟨"java/lang/String", "indexOf", "(II)I"⟩ : MethodName)) (z := (⟨"java/lang/String", "indexOf", "(II)I"⟩ : MethodName)) hown (mvT hZ (own_wd hw 49 rfl)) (mvT hZ (own_wd hw 50 rfl)) (notFace_of_selects (args := #[]) (mvT hZ (own_wd hw 52 rfl))) (mvT hZ (own_wd hw 52 rfl)) (mvT hZ (own_wd hw 51 rfl)) (by decide) (backOf (W := 0) (rm12 l Z a0 hw [] tz tz_value ks f n st_COMPACT_STRINGS h0 n0 Z0 O0 E_tz F_tz_value F_tz_coder V_tz_value hp (by omega) S_COMPACT_STRINGS hcomp) hZ (own_wd hw 53 rfl) (own_wd hw 10 rfl) (by decide) (by decide)) q33a q33c (g := (mkF m 3 #[vr tz, vi (59 : Int32)] [(.int (0 : Int32)), (.int (59 : Int32)), (.ref tz)])) rfl (by rw [hml]; rfl) (Steps.refl _) (argsL := [(.int (59 : Int32)), (.int (0 : Int32))]) (rest := []) (lenOf pd_2 rfl) rfl (by show 2 * 0 + _ ≤ _; exact Nat.le_of_eq rfl) (hb hby d11_3) (fun _ _ => ⟨rfl, e0, (by decide : 0 + 0 ≤ _), (by decide : 0 + 0 ≤ _)⟩)
  dsimp only [Pt.U, Pt.locs, Pt.cells, Pt.slots] at X33 l33 y33 z33 st33 hQ33
  subst y33 z33
  obtain ⟨r_33, rfl, N33q, eh33, Q33_0⟩ := hQ33
  have N33 : Fr n0 L33 := by rw [l33]; exact Fr.app N0 N33q
  obtain ⟨fs, hr, hrun, hended, hW, hsame⟩ := X33.leave (v := some (.int r_33)) (fun h => by rw [Bd.returns] at h; cases h)
  refine ⟨_, _, pre0 _ ?_, hrun, hended, _, _, rfl, ?_, ⟨_, rfl⟩, hW, hsame.mono (by decide) (by decide)⟩
  · show SF p e below s₁ m 0 #[vr tz, vi (59 : Int32)] [] _
    refine XS.aloadN X0.here hx rfl (hb hby d11_0) rfl rfl ?_
    refine XS.iloadN X0.here hx rfl (hb hby d11_1) rfl ?_
    refine XS.iconst X0.here hx rfl (hb hby d11_2) ?_
    show SF p e below s₁ m 3 #[vr tz, vi (59 : Int32)] [(.int (0 : Int32)), (.int (59 : Int32)), (.ref tz)] _
    refine st33.trans ?_
    show SF p e below T33 m 6 #[vr tz, vi (59 : Int32)] [(.int r_33)] _
    exact retI X33 hx Bd.returns (hb hby d11_6) hr
  · show Q11 Z tz tz_value ks f n st_COMPACT_STRINGS h0 n0 _ T33.heap _
    rw [eh33]
    exact ⟨r_33, rfl, N33, rfl, (by assumption)⟩
theorem d40_0 : decode jdk_41_method_12_code 0 = .ok (.iload_n 0, 1) := by decide +kernel
theorem d40_1 : decode jdk_41_method_12_code 1 = .ok (.ifCond .lt 13, 3) := by decide +kernel
theorem d40_4 : decode jdk_41_method_12_code 4 = .ok (.iload_n 0, 1) := by decide +kernel
theorem d40_5 : decode jdk_41_method_12_code 5 = .ok (.iload_n 1, 1) := by decide +kernel
theorem d40_6 : decode jdk_41_method_12_code 6 = .ok (.if_icmp .gt 8, 3) := by decide +kernel
theorem d40_9 : decode jdk_41_method_12_code 9 = .ok (.iload_n 1, 1) := by decide +kernel
theorem d40_10 : decode jdk_41_method_12_code 10 = .ok (.iload_n 2, 1) := by decide +kernel
theorem d40_11 : decode jdk_41_method_12_code 11 = .ok (.if_icmp .le 11, 3) := by decide +kernel
theorem d40_22 : decode jdk_41_method_12_code 22 = .ok (.iload_n 0, 1) := by decide +kernel
theorem d40_23 : decode jdk_41_method_12_code 23 = .ok (.ireturn, 1) := by decide +kernel
theorem pn_jdk_internal_util_Preconditions : plainName "jdk/internal/util/Preconditions" = true := by first | (simp [plainName, overriddenIn]; done) | decide +kernel
theorem ef40_r (m : MethodId) (x2 : Int32) (x3 : Int32) (x4 : Addr) : entryFrame m #[(.int (0 : Int32)), (.int x2), (.int x3), (.ref x4)] 4 = mkF m 0 #[vi (0 : Int32), vi x2, vi x3, vr x4] [] := by first | (simp [entryFrame, mkF, argsToLocals, Value.category]; done) | rfl
def Q40_r (Z : State) (x2 : Int32) (x3 : Int32) (x4 : Addr) (h0 : Heap) (n0 : Nat) (v : Option Value) (h : Heap) (L : List Loc) : Prop := v = some (.int (0 : Int32)) ∧ Fr n0 L ∧ h = h0
set_option maxRecDepth 65536 in
set_option maxHeartbeats 40000000 in
theorem rm40_r (l : Launch) (Z : State) (a0 : Array Value) (hw : ∀ d ∈ tables_1, d.before a0 Z = true) (ws : List Jvm.Cond) (x2 : Int32) (x3 : Int32) (x4 : Addr) (h0 : Heap) (n0 : Nat) (Z0 : n0 ≤ h0.size) (O0 : Old Z n0 h0) (hle : ¬ (x3 < x2)) (hge : ¬ (x2 < (0 : Int32))) :
    MetFree l (⟨"jdk/internal/util/Preconditions", "checkFromToIndex", "(IIILjava/util/function/BiFunction;)I"⟩ : MethodName) (head1 (Jvm.Cond.code (⟨"jdk/internal/util/Preconditions", "checkFromToIndex", "(IIILjava/util/function/BiFunction;)I"⟩ : MethodName) jdk_41_method_12_code 4 (some .int) :: ws) ({ frames := 0, cells := 0, slots := 0, locals := 0 } : Room)) (fun a U => a = #[(.int (0 : Int32)), (.int x2), (.int x3), (.ref x4)] ∧ Z.Warmed39 U.vm ∧ U.heap = h0) (fun _ _ _ _ _ => True) (fun _ U o U' => ∃ v L, o = .returned v ∧ Q40_r Z x2 x3 x4 h0 n0 v U'.heap L ∧ FrameEnd U o U' L ({ frames := 0, cells := 0, slots := 0, locals := 0 } : Room).cells ({ frames := 0, cells := 0, slots := 0, locals := 0 } : Room).slots) := by
  refine MetFree.of_bodySF (plainFor_of_name pn_jdk_internal_util_Preconditions) hisR ?_
  intro p e s m args below meth c s₁ Bd hml0 hP hK
  obtain ⟨rfl, hZ, hh⟩ := hP
  have hx := Bd.exec
  have hby := Bd.bytes
  have hml : c.maxLocals = 4 := hml0
  have hown : s.vm.findClass "jdk/internal/util/Preconditions" = some m.cls := findClass_of_methodNamed Bd.named
  have hnm := (name_of_methodNamed Bd.named Bd.method).1
  have X0 : Stand p l e ({ frames := 0, cells := 0, slots := 0, locals := 0 } : Room) s m #[(.int (0 : Int32)), (.int x2), (.int x3), (.ref x4)] below meth c s₁ [] 0 0 := Stand.of_body Bd
  have e0 : s₁.heap = h0 := by rw [← hh, Bd.state]; rfl
  have N0 := Fr.nil n0
  have K0 : Keep h0 h0 [] := Keep.refl _ _
  have pre0 : ∀ t, SF p e below s₁ m 0 #[vi (0 : Int32), vi x2, vi x3, vr x4] [] t → Steps p.tables e below (s₁.setTop (entryFrame m #[(.int (0 : Int32)), (.int x2), (.int x3), (.ref x4)] 4)) t := fun t k => castTop (ef40_r m x2 x3 x4) k
  obtain ⟨fs, hr, hrun, hended, hW, hsame⟩ := X0.leave (v := some (.int (0 : Int32))) (fun h => by rw [Bd.returns] at h; cases h)
  refine ⟨_, _, pre0 _ ?_, hrun, hended, _, _, rfl, ?_, ⟨_, rfl⟩, hW, hsame.mono (by decide) (by decide)⟩
  · show SF p e below s₁ m 0 #[vi (0 : Int32), vi x2, vi x3, vr x4] [] _
    refine XS.iloadN X0.here hx rfl (hb hby d40_0) rfl ?_
    refine XS.ifNo X0.here hx rfl (hb hby d40_1) rfl ((if0 _ _).trans (flt (by decide : ¬ ((0 : Int32) < (0 : Int32)))).1) ?_
    refine XS.iloadN X0.here hx rfl (hb hby d40_4) rfl ?_
    refine XS.iloadN X0.here hx rfl (hb hby d40_5) rfl ?_
    refine XS.icmpNo X0.here hx rfl (hb hby d40_6) rfl (flt hge).2.2.1 ?_
    refine XS.iloadN X0.here hx rfl (hb hby d40_9) rfl ?_
    show SF p e below s₁ m 10 #[vi (0 : Int32), vi x2, vi x3, vr x4] [(.int x2)] _
    refine XS.iloadN X0.here hx rfl (hb hby d40_10) rfl ?_
    refine XS.icmpYes X0.here hx rfl (pc0 := 11) (pc' := 22) rfl (hb hby d40_11) rfl (flt hle).2.2.2 (by decide) (by decide) ?_
    refine XS.iloadN X0.here hx rfl (hb hby d40_22) rfl ?_
    show SF p e below s₁ m 23 _ [(.int (0 : Int32))] _
    exact retI X0 hx Bd.returns (hb hby d40_23) hr
  · show Q40_r Z x2 x3 x4 h0 n0 _ s₁.heap _
    rw [e0]
    exact ⟨rfl, N0, rfl⟩
theorem ef40_n (m : MethodId) (x2 : Int32) (x3 : Int32) : entryFrame m #[(.int (0 : Int32)), (.int x2), (.int x3), .null] 4 = mkF m 0 #[vi (0 : Int32), vi x2, vi x3, .val .null] [] := by first | (simp [entryFrame, mkF, argsToLocals, Value.category]; done) | rfl
def Q40_n (Z : State) (x2 : Int32) (x3 : Int32) (h0 : Heap) (n0 : Nat) (v : Option Value) (h : Heap) (L : List Loc) : Prop := v = some (.int (0 : Int32)) ∧ Fr n0 L ∧ h = h0
set_option maxRecDepth 65536 in
set_option maxHeartbeats 40000000 in
theorem rm40_n (l : Launch) (Z : State) (a0 : Array Value) (hw : ∀ d ∈ tables_1, d.before a0 Z = true) (ws : List Jvm.Cond) (x2 : Int32) (x3 : Int32) (h0 : Heap) (n0 : Nat) (Z0 : n0 ≤ h0.size) (O0 : Old Z n0 h0) (hle : ¬ (x3 < x2)) (hge : ¬ (x2 < (0 : Int32))) :
    MetFree l (⟨"jdk/internal/util/Preconditions", "checkFromToIndex", "(IIILjava/util/function/BiFunction;)I"⟩ : MethodName) (head1 (Jvm.Cond.code (⟨"jdk/internal/util/Preconditions", "checkFromToIndex", "(IIILjava/util/function/BiFunction;)I"⟩ : MethodName) jdk_41_method_12_code 4 (some .int) :: ws) ({ frames := 0, cells := 0, slots := 0, locals := 0 } : Room)) (fun a U => a = #[(.int (0 : Int32)), (.int x2), (.int x3), .null] ∧ Z.Warmed39 U.vm ∧ U.heap = h0) (fun _ _ _ _ _ => True) (fun _ U o U' => ∃ v L, o = .returned v ∧ Q40_n Z x2 x3 h0 n0 v U'.heap L ∧ FrameEnd U o U' L ({ frames := 0, cells := 0, slots := 0, locals := 0 } : Room).cells ({ frames := 0, cells := 0, slots := 0, locals := 0 } : Room).slots) := by
  refine MetFree.of_bodySF (plainFor_of_name pn_jdk_internal_util_Preconditions) hisR ?_
  intro p e s m args below meth c s₁ Bd hml0 hP hK
  obtain ⟨rfl, hZ, hh⟩ := hP
  have hx := Bd.exec
  have hby := Bd.bytes
  have hml : c.maxLocals = 4 := hml0
  have hown : s.vm.findClass "jdk/internal/util/Preconditions" = some m.cls := findClass_of_methodNamed Bd.named
  have hnm := (name_of_methodNamed Bd.named Bd.method).1
  have X0 : Stand p l e ({ frames := 0, cells := 0, slots := 0, locals := 0 } : Room) s m #[(.int (0 : Int32)), (.int x2), (.int x3), .null] below meth c s₁ [] 0 0 := Stand.of_body Bd
  have e0 : s₁.heap = h0 := by rw [← hh, Bd.state]; rfl
  have N0 := Fr.nil n0
  have K0 : Keep h0 h0 [] := Keep.refl _ _
  have pre0 : ∀ t, SF p e below s₁ m 0 #[vi (0 : Int32), vi x2, vi x3, .val .null] [] t → Steps p.tables e below (s₁.setTop (entryFrame m #[(.int (0 : Int32)), (.int x2), (.int x3), .null] 4)) t := fun t k => castTop (ef40_n m x2 x3) k
  obtain ⟨fs, hr, hrun, hended, hW, hsame⟩ := X0.leave (v := some (.int (0 : Int32))) (fun h => by rw [Bd.returns] at h; cases h)
  refine ⟨_, _, pre0 _ ?_, hrun, hended, _, _, rfl, ?_, ⟨_, rfl⟩, hW, hsame.mono (by decide) (by decide)⟩
  · show SF p e below s₁ m 0 #[vi (0 : Int32), vi x2, vi x3, .val .null] [] _
    refine XS.iloadN X0.here hx rfl (hb hby d40_0) rfl ?_
    refine XS.ifNo X0.here hx rfl (hb hby d40_1) rfl ((if0 _ _).trans (flt (by decide : ¬ ((0 : Int32) < (0 : Int32)))).1) ?_
    refine XS.iloadN X0.here hx rfl (hb hby d40_4) rfl ?_
    refine XS.iloadN X0.here hx rfl (hb hby d40_5) rfl ?_
    refine XS.icmpNo X0.here hx rfl (hb hby d40_6) rfl (flt hge).2.2.1 ?_
    refine XS.iloadN X0.here hx rfl (hb hby d40_9) rfl ?_
    show SF p e below s₁ m 10 #[vi (0 : Int32), vi x2, vi x3, .val .null] [(.int x2)] _
    refine XS.iloadN X0.here hx rfl (hb hby d40_10) rfl ?_
    refine XS.icmpYes X0.here hx rfl (pc0 := 11) (pc' := 22) rfl (hb hby d40_11) rfl (flt hle).2.2.2 (by decide) (by decide) ?_
    refine XS.iloadN X0.here hx rfl (hb hby d40_22) rfl ?_
    show SF p e below s₁ m 23 _ [(.int (0 : Int32))] _
    exact retI X0 hx Bd.returns (hb hby d40_23) hr
  · show Q40_n Z x2 x3 h0 n0 _ s₁.heap _
    rw [e0]
    exact ⟨rfl, N0, rfl⟩
theorem d39_0 : decode jdk_42_method_158_code 0 = .ok (.iload_n 0, 1) := by decide +kernel
theorem d39_1 : decode jdk_42_method_158_code 1 = .ok (.iload_n 1, 1) := by decide +kernel
theorem d39_2 : decode jdk_42_method_158_code 2 = .ok (.iload_n 2, 1) := by decide +kernel
theorem d39_3 : decode jdk_42_method_158_code 3 = .ok (.getstatic 1053, 3) := by decide +kernel
theorem pd_6 : parseMethodDescriptor "(IIILjava/util/function/BiFunction;)I" = some ⟨[.int, .int, .int, (.object "java/util/function/BiFunction")], some .int⟩ := by decide +kernel
theorem d39_6 : decode jdk_42_method_158_code 6 = .ok (.invokestatic 1062, 3) := by decide +kernel
theorem d39_9 : decode jdk_42_method_158_code 9 = .ok (.pop, 1) := by decide +kernel
theorem d39_10 : decode jdk_42_method_158_code 10 = .ok (.return_, 1) := by decide +kernel
theorem ef39 (m : MethodId) (x2 : Int32) (x3 : Int32) : entryFrame m #[(.int (0 : Int32)), (.int x2), (.int x3)] 3 = mkF m 0 #[vi (0 : Int32), vi x2, vi x3] [] := by first | (simp [entryFrame, mkF, argsToLocals, Value.category]; done) | rfl
def Q39 (Z : State) (x2 : Int32) (x3 : Int32) (st_fm : Value) (h0 : Heap) (n0 : Nat) (v : Option Value) (h : Heap) (L : List Loc) : Prop := v = none ∧ Fr n0 L ∧ h = h0
set_option maxRecDepth 65536 in
set_option maxHeartbeats 40000000 in
theorem rm39 (l : Launch) (Z : State) (a0 : Array Value) (hw : ∀ d ∈ tables_1, d.before a0 Z = true) (ws : List Jvm.Cond) (x2 : Int32) (x3 : Int32) (st_fm : Value) (h0 : Heap) (n0 : Nat) (Z0 : n0 ≤ h0.size) (O0 : Old Z n0 h0) (hle : ¬ (x3 < x2)) (hge : ¬ (x2 < (0 : Int32))) (S_fm : Sta Z Z.heap "jdk/internal/util/Preconditions" "SIOOBE_FORMATTER" "Ljava/util/function/BiFunction;" st_fm) (hfm : st_fm.isRef = true) :
    MetFree l (⟨"java/lang/String", "checkBoundsBeginEnd", "(III)V"⟩ : MethodName) (head1 (Jvm.Cond.code (⟨"java/lang/String", "checkBoundsBeginEnd", "(III)V"⟩ : MethodName) jdk_42_method_158_code 3 none :: ws) ({ frames := 1, cells := 0, slots := 0, locals := 15 } : Room)) (fun a U => a = #[(.int (0 : Int32)), (.int x2), (.int x3)] ∧ Z.Warmed39 U.vm ∧ U.heap = h0) (fun _ _ _ _ _ => True) (fun _ U o U' => ∃ v L, o = .returned v ∧ Q39 Z x2 x3 st_fm h0 n0 v U'.heap L ∧ FrameEnd U o U' L ({ frames := 1, cells := 0, slots := 0, locals := 15 } : Room).cells ({ frames := 1, cells := 0, slots := 0, locals := 15 } : Room).slots) := by
  refine MetFree.of_bodySF (plainFor_of_name pn_java_lang_String) hisR ?_
  intro p e s m args below meth c s₁ Bd hml0 hP hK
  obtain ⟨rfl, hZ, hh⟩ := hP
  have hx := Bd.exec
  have hby := Bd.bytes
  have hml : c.maxLocals = 3 := hml0
  have hown : s.vm.findClass "java/lang/String" = some m.cls := findClass_of_methodNamed Bd.named
  have hnm := (name_of_methodNamed Bd.named Bd.method).1
  have X0 : Stand p l e ({ frames := 1, cells := 0, slots := 0, locals := 15 } : Room) s m #[(.int (0 : Int32)), (.int x2), (.int x3)] below meth c s₁ [] 0 0 := Stand.of_body Bd
  have e0 : s₁.heap = h0 := by rw [← hh, Bd.state]; rfl
  have N0 := Fr.nil n0
  have K0 : Keep h0 h0 [] := Keep.refl _ _
  have pre0 : ∀ t, SF p e below s₁ m 0 #[vi (0 : Int32), vi x2, vi x3] [] t → Steps p.tables e below (s₁.setTop (entryFrame m #[(.int (0 : Int32)), (.int x2), (.int x3)] 3)) t := fun t k => castTop (ef39 m x2 x3) k
  rcases own_isref hfm with ⟨fa, hfe⟩ | hfe
  · skip
    rw [hfe] at S_fm
    obtain ⟨T34, X34, e34, st34⟩ := getS2 X0 hx hZ hown (host := "") (Or.inl (own_wd hw 187 rfl)) Via.refl e0 (S_fm.ext O0.2) (g := (mkF m 3 #[vi (0 : Int32), vi x2, vi x3] [(.int x3), (.int x2), (.int (0 : Int32))])) rfl (hb hby d39_3)
    have pp35 : ¬ (x3 < x2) := hle
    have pp36 : ¬ (x2 < (0 : Int32)) := hge
    obtain ⟨_, _, ⟨T37, L37, k37, n37⟩, -, X37, ⟨Lc37, hQ37, l37, y37, z37⟩, st37⟩ := Jvm.LawKit.callS X34 hx (y := (⟨"jdk/internal/util/Preconditions", "checkFromToIndex", "(IIILjava/util/function/BiFunction;)I"⟩ : MethodName)) hown (mvT hZ (own_wd hw 189 rfl)) (mvT hZ (own_wd hw 190 rfl)) (mvT hZ (own_wd hw 188 rfl)) (mvT hZ (own_wd hw 191 rfl)) (by decide) (backOf (W := 0) (rm40_r l Z a0 hw [] x2 x3 fa h0 n0 Z0 O0 pp35 pp36) hZ (own_wd hw 191 rfl) (own_wd hw 188 rfl) (by decide) (by decide)) (g := (mkF m 6 #[vi (0 : Int32), vi x2, vi x3] [(.ref fa), (.int x3), (.int x2), (.int (0 : Int32))])) rfl (by rw [hml]; rfl) (argsL := [(.int (0 : Int32)), (.int x2), (.int x3), (.ref fa)]) (rest := []) (lenOf pd_6 rfl) rfl (by show 2 * 0 + _ ≤ _; exact Nat.le_of_eq rfl) (hb hby d39_6) (fun _ _ => ⟨rfl, e34, (by decide : 0 + 0 ≤ _), (by decide : 0 + 0 ≤ _)⟩)
    dsimp only [Pt.U, Pt.locs, Pt.cells, Pt.slots] at X37 l37 y37 z37 st37 hQ37
    subst y37 z37
    obtain ⟨rfl, N37q, eh37⟩ := hQ37
    have N37 : Fr n0 L37 := by rw [l37]; exact Fr.app N0 N37q
    obtain ⟨fs, hr, hrun, hended, hW, hsame⟩ := X37.leave (v := none) (fun _ => rfl)
    refine ⟨_, _, pre0 _ ?_, hrun, hended, _, _, rfl, ?_, ⟨_, rfl⟩, hW, hsame.mono (by decide) (by decide)⟩
    · show SF p e below s₁ m 0 #[vi (0 : Int32), vi x2, vi x3] [] _
      refine XS.iloadN X0.here hx rfl (hb hby d39_0) rfl ?_
      refine XS.iloadN X0.here hx rfl (hb hby d39_1) rfl ?_
      refine XS.iloadN X0.here hx rfl (hb hby d39_2) rfl ?_
      show SF p e below s₁ m 3 #[vi (0 : Int32), vi x2, vi x3] [(.int x3), (.int x2), (.int (0 : Int32))] _
      refine st34 _ ?_
      show SF p e below T34 m 6 #[vi (0 : Int32), vi x2, vi x3] [(.ref fa), (.int x3), (.int x2), (.int (0 : Int32))] _
      refine st37 _ ?_
      show SF p e below T37 m 9 #[vi (0 : Int32), vi x2, vi x3] [(.int (0 : Int32))] _
      refine XS.pop X37.here hx rfl (hb hby d39_9) rfl rfl ?_
      show SF p e below T37 m 10 _ [] _
      exact X37.returnOut hx Bd.returns (hb hby d39_10) hr
    · show Q39 Z x2 x3 st_fm h0 n0 _ T37.heap _
      rw [eh37]
      exact ⟨rfl, N37, rfl⟩
  · skip
    rw [hfe] at S_fm
    obtain ⟨T38, X38, e38, st38⟩ := getS2 X0 hx hZ hown (host := "") (Or.inl (own_wd hw 187 rfl)) Via.refl e0 (S_fm.ext O0.2) (g := (mkF m 3 #[vi (0 : Int32), vi x2, vi x3] [(.int x3), (.int x2), (.int (0 : Int32))])) rfl (hb hby d39_3)
    have pp39 : ¬ (x3 < x2) := hle
    have pp40 : ¬ (x2 < (0 : Int32)) := hge
    obtain ⟨_, _, ⟨T41, L41, k41, n41⟩, -, X41, ⟨Lc41, hQ41, l41, y41, z41⟩, st41⟩ := Jvm.LawKit.callS X38 hx (y := (⟨"jdk/internal/util/Preconditions", "checkFromToIndex", "(IIILjava/util/function/BiFunction;)I"⟩ : MethodName)) hown (mvT hZ (own_wd hw 189 rfl)) (mvT hZ (own_wd hw 190 rfl)) (mvT hZ (own_wd hw 188 rfl)) (mvT hZ (own_wd hw 191 rfl)) (by decide) (backOf (W := 0) (rm40_n l Z a0 hw [] x2 x3 h0 n0 Z0 O0 pp39 pp40) hZ (own_wd hw 191 rfl) (own_wd hw 188 rfl) (by decide) (by decide)) (g := (mkF m 6 #[vi (0 : Int32), vi x2, vi x3] [.null, (.int x3), (.int x2), (.int (0 : Int32))])) rfl (by rw [hml]; rfl) (argsL := [(.int (0 : Int32)), (.int x2), (.int x3), .null]) (rest := []) (lenOf pd_6 rfl) rfl (by show 2 * 0 + _ ≤ _; exact Nat.le_of_eq rfl) (hb hby d39_6) (fun _ _ => ⟨rfl, e38, (by decide : 0 + 0 ≤ _), (by decide : 0 + 0 ≤ _)⟩)
    dsimp only [Pt.U, Pt.locs, Pt.cells, Pt.slots] at X41 l41 y41 z41 st41 hQ41
    subst y41 z41
    obtain ⟨rfl, N41q, eh41⟩ := hQ41
    have N41 : Fr n0 L41 := by rw [l41]; exact Fr.app N0 N41q
    obtain ⟨fs, hr, hrun, hended, hW, hsame⟩ := X41.leave (v := none) (fun _ => rfl)
    refine ⟨_, _, pre0 _ ?_, hrun, hended, _, _, rfl, ?_, ⟨_, rfl⟩, hW, hsame.mono (by decide) (by decide)⟩
    · show SF p e below s₁ m 0 #[vi (0 : Int32), vi x2, vi x3] [] _
      refine XS.iloadN X0.here hx rfl (hb hby d39_0) rfl ?_
      refine XS.iloadN X0.here hx rfl (hb hby d39_1) rfl ?_
      refine XS.iloadN X0.here hx rfl (hb hby d39_2) rfl ?_
      show SF p e below s₁ m 3 _ [(.int x3), (.int x2), (.int (0 : Int32))] _
      refine st38 _ ?_
      show SF p e below T38 m 6 #[vi (0 : Int32), vi x2, vi x3] [.null, (.int x3), (.int x2), (.int (0 : Int32))] _
      refine st41 _ ?_
      show SF p e below T41 m 9 #[vi (0 : Int32), vi x2, vi x3] [(.int (0 : Int32))] _
      refine XS.pop X41.here hx rfl (hb hby d39_9) rfl rfl ?_
      show SF p e below T41 m 10 _ [] _
      exact X41.returnOut hx Bd.returns (hb hby d39_10) hr
    · show Q39 Z x2 x3 st_fm h0 n0 _ T41.heap _
      rw [eh41]
      exact ⟨rfl, N41, rfl⟩
theorem d27_0 : decode jdk_42_method_151_code 0 = .ok (.aload_n 0, 1) := by decide +kernel
theorem d27_1 : decode jdk_42_method_151_code 1 = .ok (.invokespecial 1, 3) := by decide +kernel
theorem d27_4 : decode jdk_42_method_151_code 4 = .ok (.aload_n 0, 1) := by decide +kernel
theorem d27_5 : decode jdk_42_method_151_code 5 = .ok (.aload_n 1, 1) := by decide +kernel
theorem d27_6 : decode jdk_42_method_151_code 6 = .ok (.putfield 9, 3) := by decide +kernel
theorem d27_9 : decode jdk_42_method_151_code 9 = .ok (.aload_n 0, 1) := by decide +kernel
theorem d27_10 : decode jdk_42_method_151_code 10 = .ok (.iload_n 2, 1) := by decide +kernel
theorem d27_11 : decode jdk_42_method_151_code 11 = .ok (.putfield 15, 3) := by decide +kernel
theorem d27_14 : decode jdk_42_method_151_code 14 = .ok (.return_, 1) := by decide +kernel
theorem ef27 (m : MethodId) (tz : Addr) (x1 : Addr) : entryFrame m #[(.ref tz), (.ref x1), (.int (0 : Int32))] 3 = mkF m 0 #[vr tz, vr x1, vi (0 : Int32)] [] := by first | (simp [entryFrame, mkF, argsToLocals, Value.category]; done) | rfl
def Q27 (Z : State) (tz : Addr) (x1 : Addr) (u_tz_value : Value) (u_tz_coder : Value) (h0 : Heap) (n0 : Nat) (v : Option Value) (h : Heap) (L : List Loc) : Prop := v = none ∧ Fr n0 L ∧ Keep h0 h [tz] ∧ Exa Z h tz "java/lang/String" ∧ Fld Z h tz "java/lang/String" "value" "[B" (.ref x1) ∧ Fld Z h tz "java/lang/String" "coder" "B" (.int (0 : Int32))
set_option maxRecDepth 65536 in
set_option maxHeartbeats 40000000 in
theorem rm27 (l : Launch) (Z : State) (a0 : Array Value) (hw : ∀ d ∈ tables_1, d.before a0 Z = true) (ws : List Jvm.Cond) (tz : Addr) (x1 : Addr) (u_tz_value : Value) (u_tz_coder : Value) (h0 : Heap) (n0 : Nat) (Z0 : n0 ≤ h0.size) (O0 : Old Z n0 h0) (E_tz : Exa Z h0 tz "java/lang/String") (F_u_tz_value : Fld Z h0 tz "java/lang/String" "value" "[B" u_tz_value) (g_tz : n0 ≤ tz) (F_u_tz_coder : Fld Z h0 tz "java/lang/String" "coder" "B" u_tz_coder) :
    MetFree l (⟨"java/lang/String", "<init>", "([BB)V"⟩ : MethodName) (head1 (Jvm.Cond.code (⟨"java/lang/String", "<init>", "([BB)V"⟩ : MethodName) jdk_42_method_151_code 3 none :: ws) ({ frames := 1, cells := 0, slots := 0, locals := 12 } : Room)) (fun a U => a = #[(.ref tz), (.ref x1), (.int (0 : Int32))] ∧ Z.Warmed39 U.vm ∧ U.heap = h0) (fun _ _ _ _ _ => True) (fun _ U o U' => ∃ v L, o = .returned v ∧ Q27 Z tz x1 u_tz_value u_tz_coder h0 n0 v U'.heap L ∧ FrameEnd U o U' L ({ frames := 1, cells := 0, slots := 0, locals := 12 } : Room).cells ({ frames := 1, cells := 0, slots := 0, locals := 12 } : Room).slots) := by
  refine MetFree.of_bodySF (plainFor_of_name pn_java_lang_String) hisR ?_
  intro p e s m args below meth c s₁ Bd hml0 hP hK
  obtain ⟨rfl, hZ, hh⟩ := hP
  have hx := Bd.exec
  have hby := Bd.bytes
  have hml : c.maxLocals = 3 := hml0
  have hown : s.vm.findClass "java/lang/String" = some m.cls := findClass_of_methodNamed Bd.named
  have hnm := (name_of_methodNamed Bd.named Bd.method).1
  have X0 : Stand p l e ({ frames := 1, cells := 0, slots := 0, locals := 12 } : Room) s m #[(.ref tz), (.ref x1), (.int (0 : Int32))] below meth c s₁ [] 0 0 := Stand.of_body Bd
  have e0 : s₁.heap = h0 := by rw [← hh, Bd.state]; rfl
  have N0 := Fr.nil n0
  have K0 : Keep h0 h0 [tz] := Keep.refl _ _
  have pre0 : ∀ t, SF p e below s₁ m 0 #[vr tz, vr x1, vi (0 : Int32)] [] t → Steps p.tables e below (s₁.setTop (entryFrame m #[(.ref tz), (.ref x1), (.int (0 : Int32))] 3)) t := fun t k => castTop (ef27 m tz x1) k
  obtain ⟨T42, X42, e42, st42⟩ := initO X0 hx hZ hown (own_wd hw 18 rfl) (own_wd hw 19 rfl) (own_wd hw 20 rfl) e0 (g := (mkF m 1 #[vr tz, vr x1, vi (0 : Int32)] [(.ref tz)])) rfl (by rw [hml]; rfl) rfl (hb hby d27_1) (by decide) (W := 0) (by show 2 * 0 + _ ≤ _; exact Nat.le_of_eq rfl) (by decide)
  obtain ⟨T43, h43, X43, e43, W43, st43⟩ := putF X42 hx hZ hown (host := "") (Or.inl (own_wd hw 35 rfl)) Via.refl e42 F_u_tz_value E_tz (Or.inr ⟨(own_wd hw 36 rfl), rfl, hnm⟩) (own_wd hw 9 rfl) (ty := (.array .byte)) (by decide) rfl rfl (g := (mkF m 6 #[vr tz, vr x1, vi (0 : Int32)] [(.ref x1), (.ref tz)])) rfl rfl (hb hby d27_6)
  have O43 : Old Z n0 h43 := O0.wr W43 g_tz
  have Z43 : n0 ≤ h43.size := Nat.le_trans Z0 (Keep.of_wr W43).1
  have K43 : Keep h0 h43 [tz] := K0.wr W43 (Or.inl (List.mem_of_getElem? (i := 0) rfl))
  have N43 := Fr.snoc X43 N0 g_tz
  have Fw43 : Fld Z h43 tz "java/lang/String" "value" "[B" (.ref x1) := F_u_tz_value.same W43
  have C44 : Exa Z h43 tz "java/lang/String" := (E_tz.wr W43)
  have F45 : Fld Z h43 tz "java/lang/String" "coder" "B" u_tz_coder := (F_u_tz_coder.other W43 (Or.inr (slot_ne (Or.inr (own_wd hw 34 rfl)) (Or.inr (own_wd hw 36 rfl)) (by decide) (t := .byte) (t' := (.array .byte)) (by decide) (by decide))))
  obtain ⟨T46, h46, X46, e46, W46, st46⟩ := putFN X43 hx hZ hown (own_wd hw 33 rfl) Via.refl e43 F45 C44 (Or.inr ⟨(own_wd hw 34 rfl), rfl, hnm⟩) (own_wd hw 9 rfl) (ty := .byte) (v' := (.int (0 : Int32))) (by decide) rfl rfl (g := (mkF m 11 #[vr tz, vr x1, vi (0 : Int32)] [(.int (0 : Int32)), (.ref tz)])) rfl rfl (hb hby d27_11)
  have O46 : Old Z n0 h46 := O43.wr W46 g_tz
  have Z46 : n0 ≤ h46.size := Nat.le_trans Z43 (Keep.of_wr W46).1
  have K46 : Keep h0 h46 [tz] := K43.wr W46 (Or.inl (List.mem_of_getElem? (i := 0) rfl))
  have N46 := Fr.snoc X46 N43 g_tz
  have Fw46 : Fld Z h46 tz "java/lang/String" "coder" "B" (.int (0 : Int32)) := F45.same W46
  have C47 : Exa Z h46 tz "java/lang/String" := (C44.wr W46)
  have F48 : Fld Z h46 tz "java/lang/String" "value" "[B" (.ref x1) := (Fw43.other W46 (Or.inr (slot_ne (Or.inr (own_wd hw 36 rfl)) (Or.inr (own_wd hw 34 rfl)) (by decide) (t := (.array .byte)) (t' := .byte) (by decide) (by decide))))
  obtain ⟨fs, hr, hrun, hended, hW, hsame⟩ := X46.leave (v := none) (fun _ => rfl)
  refine ⟨_, _, pre0 _ ?_, hrun, hended, _, _, rfl, ?_, ⟨_, rfl⟩, hW, hsame.mono (by decide) (by decide)⟩
  · show SF p e below s₁ m 0 #[vr tz, vr x1, vi (0 : Int32)] [] _
    refine XS.aloadN X0.here hx rfl (hb hby d27_0) rfl rfl ?_
    show SF p e below s₁ m 1 #[vr tz, vr x1, vi (0 : Int32)] [(.ref tz)] _
    refine st42 _ ?_
    show SF p e below T42 m 4 #[vr tz, vr x1, vi (0 : Int32)] [] _
    refine XS.aloadN X42.here hx rfl (hb hby d27_4) rfl rfl ?_
    refine XS.aloadN X42.here hx rfl (hb hby d27_5) rfl rfl ?_
    show SF p e below T42 m 6 _ [(.ref x1), (.ref tz)] _
    refine st43 _ ?_
    show SF p e below T43 m 9 #[vr tz, vr x1, vi (0 : Int32)] [] _
    refine XS.aloadN X43.here hx rfl (hb hby d27_9) rfl rfl ?_
    refine XS.iloadN X43.here hx rfl (hb hby d27_10) rfl ?_
    show SF p e below T43 m 11 _ [(.int (0 : Int32)), (.ref tz)] _
    refine st46 _ ?_
    show SF p e below T46 m 14 #[vr tz, vr x1, vi (0 : Int32)] [] _
    exact X46.returnOut hx Bd.returns (hb hby d27_14) hr
  · show Q27 Z tz x1 u_tz_value u_tz_coder h0 n0 _ T46.heap _
    rw [e46]
    exact ⟨rfl, N46, K46, C47, F48, Fw46⟩
theorem d26_0 : decode jdk_65_method_131_code 0 = .ok (.iload_n 1, 1) := by decide +kernel
theorem d26_1 : decode jdk_65_method_131_code 1 = .ok (.iload_n 0, 1) := by decide +kernel
theorem d26_2 : decode jdk_65_method_131_code 2 = .ok (.if_icmp .ge 35, 3) := by decide +kernel
theorem d26_37 : decode jdk_65_method_131_code 37 = .ok (.return_, 1) := by decide +kernel
theorem pn_java_util_Arrays : plainName "java/util/Arrays" = true := by first | (simp [plainName, overriddenIn]; done) | decide +kernel
theorem ef26 (m : MethodId) (x1 : Int32) (x2 : Int32) : entryFrame m #[(.int x1), (.int x2)] 2 = mkF m 0 #[vi x1, vi x2] [] := by first | (simp [entryFrame, mkF, argsToLocals, Value.category]; done) | rfl
def Q26 (Z : State) (x1 : Int32) (x2 : Int32) (h0 : Heap) (n0 : Nat) (v : Option Value) (h : Heap) (L : List Loc) : Prop := v = none ∧ Fr n0 L ∧ h = h0
set_option maxRecDepth 65536 in
set_option maxHeartbeats 40000000 in
theorem rm26 (l : Launch) (Z : State) (a0 : Array Value) (hw : ∀ d ∈ tables_1, d.before a0 Z = true) (ws : List Jvm.Cond) (x1 : Int32) (x2 : Int32) (h0 : Heap) (n0 : Nat) (Z0 : n0 ≤ h0.size) (O0 : Old Z n0 h0) (hge : ¬ (x2 < x1)) :
    MetFree l (⟨"java/util/Arrays", "checkLength", "(II)V"⟩ : MethodName) (head1 (Jvm.Cond.code (⟨"java/util/Arrays", "checkLength", "(II)V"⟩ : MethodName) jdk_65_method_131_code 2 none :: ws) ({ frames := 0, cells := 0, slots := 0, locals := 0 } : Room)) (fun a U => a = #[(.int x1), (.int x2)] ∧ Z.Warmed39 U.vm ∧ U.heap = h0) (fun _ _ _ _ _ => True) (fun _ U o U' => ∃ v L, o = .returned v ∧ Q26 Z x1 x2 h0 n0 v U'.heap L ∧ FrameEnd U o U' L ({ frames := 0, cells := 0, slots := 0, locals := 0 } : Room).cells ({ frames := 0, cells := 0, slots := 0, locals := 0 } : Room).slots) := by
  refine MetFree.of_bodySF (plainFor_of_name pn_java_util_Arrays) hisR ?_
  intro p e s m args below meth c s₁ Bd hml0 hP hK
  obtain ⟨rfl, hZ, hh⟩ := hP
  have hx := Bd.exec
  have hby := Bd.bytes
  have hml : c.maxLocals = 2 := hml0
  have hown : s.vm.findClass "java/util/Arrays" = some m.cls := findClass_of_methodNamed Bd.named
  have hnm := (name_of_methodNamed Bd.named Bd.method).1
  have X0 : Stand p l e ({ frames := 0, cells := 0, slots := 0, locals := 0 } : Room) s m #[(.int x1), (.int x2)] below meth c s₁ [] 0 0 := Stand.of_body Bd
  have e0 : s₁.heap = h0 := by rw [← hh, Bd.state]; rfl
  have N0 := Fr.nil n0
  have K0 : Keep h0 h0 [] := Keep.refl _ _
  have pre0 : ∀ t, SF p e below s₁ m 0 #[vi x1, vi x2] [] t → Steps p.tables e below (s₁.setTop (entryFrame m #[(.int x1), (.int x2)] 2)) t := fun t k => castTop (ef26 m x1 x2) k
  obtain ⟨fs, hr, hrun, hended, hW, hsame⟩ := X0.leave (v := none) (fun _ => rfl)
  refine ⟨_, _, pre0 _ ?_, hrun, hended, _, _, rfl, ?_, ⟨_, rfl⟩, hW, hsame.mono (by decide) (by decide)⟩
  · show SF p e below s₁ m 0 #[vi x1, vi x2] [] _
    refine XS.iloadN X0.here hx rfl (hb hby d26_0) rfl ?_
    refine XS.iloadN X0.here hx rfl (hb hby d26_1) rfl ?_
    refine XS.icmpYes X0.here hx rfl (pc0 := 2) (pc' := 37) rfl (hb hby d26_2) rfl (flt hge).2.1 (by decide) (by decide) ?_
    show SF p e below s₁ m 37 #[vi x1, vi x2] [] _
    exact X0.returnOut hx Bd.returns (hb hby d26_37) hr
  · show Q26 Z x1 x2 h0 n0 _ s₁.heap _
    rw [e0]
    exact ⟨rfl, N0, rfl⟩
theorem d25_0 : decode jdk_65_method_133_code 0 = .ok (.iload_n 1, 1) := by decide +kernel
theorem d25_1 : decode jdk_65_method_133_code 1 = .ok (.iload_n 2, 1) := by decide +kernel
theorem pd_7 : parseMethodDescriptor "(II)V" = some ⟨[.int, .int], none⟩ := by decide +kernel
theorem d25_2 : decode jdk_65_method_133_code 2 = .ok (.invokestatic 343, 3) := by decide +kernel
theorem d25_5 : decode jdk_65_method_133_code 5 = .ok (.iload_n 2, 1) := by decide +kernel
theorem d25_6 : decode jdk_65_method_133_code 6 = .ok (.iload_n 1, 1) := by decide +kernel
theorem d25_7 : decode jdk_65_method_133_code 7 = .ok (.isub, 1) := by decide +kernel
theorem d25_8 : decode jdk_65_method_133_code 8 = .ok (.istore_n 3, 1) := by decide +kernel
theorem d25_9 : decode jdk_65_method_133_code 9 = .ok (.iload_n 3, 1) := by decide +kernel
theorem d25_10 : decode jdk_65_method_133_code 10 = .ok (.newarray .byte, 2) := by decide +kernel
theorem d25_12 : decode jdk_65_method_133_code 12 = .ok (.astore 4, 2) := by decide +kernel
theorem d25_14 : decode jdk_65_method_133_code 14 = .ok (.aload_n 0, 1) := by decide +kernel
theorem d25_15 : decode jdk_65_method_133_code 15 = .ok (.iload_n 1, 1) := by decide +kernel
theorem d25_16 : decode jdk_65_method_133_code 16 = .ok (.aload 4, 2) := by decide +kernel
theorem d25_18 : decode jdk_65_method_133_code 18 = .ok (.iconst 0, 1) := by decide +kernel
theorem d25_19 : decode jdk_65_method_133_code 19 = .ok (.aload_n 0, 1) := by decide +kernel
theorem d25_20 : decode jdk_65_method_133_code 20 = .ok (.arraylength, 1) := by decide +kernel
theorem d25_21 : decode jdk_65_method_133_code 21 = .ok (.iload_n 1, 1) := by decide +kernel
theorem d25_22 : decode jdk_65_method_133_code 22 = .ok (.isub, 1) := by decide +kernel
theorem d25_23 : decode jdk_65_method_133_code 23 = .ok (.iload_n 3, 1) := by decide +kernel
theorem d25_24 : decode jdk_65_method_133_code 24 = .ok (.invokestatic 304, 3) := by decide +kernel
theorem d25_27 : decode jdk_65_method_133_code 27 = .ok (.invokestatic 150, 3) := by decide +kernel
theorem d25_30 : decode jdk_65_method_133_code 30 = .ok (.aload 4, 2) := by decide +kernel
theorem d25_32 : decode jdk_65_method_133_code 32 = .ok (.areturn, 1) := by decide +kernel
theorem ef25 (m : MethodId) (x1 : Addr) : entryFrame m #[(.ref x1), (.int (Int32.ofNat sa)), (.int (Int32.ofNat (sa + ml)))] 5 = mkF m 0 #[vr x1, vi (Int32.ofNat sa), vi (Int32.ofNat (sa + ml)), un, un] [] := by first | (simp [entryFrame, mkF, argsToLocals, Value.category]; done) | rfl
def Q25 (Z : State) (x1 : Addr) (ks : ClassId) (f : Nat → Int32) (n : Nat) (sa : Nat) (ml : Nat) (h0 : Heap) (n0 : Nat) (v : Option Value) (h : Heap) (L : List Loc) : Prop := ∃ (b : Addr), ∃ (kk : ClassId), v = some (.ref b) ∧ Fr n0 L ∧ Keep h0 h [] ∧ h0.size ≤ b ∧ Arv Z h b kk .byte (Int32.ofNat ml) (own_fv (own_sh f sa) ml) (.int 0)
set_option maxRecDepth 65536 in
set_option maxHeartbeats 40000000 in
theorem rm25 (l : Launch) (Z : State) (a0 : Array Value) (hw : ∀ d ∈ tables_1, d.before a0 Z = true) (ws : List Jvm.Cond) (x1 : Addr) (ks : ClassId) (f : Nat → Int32) (n : Nat) (sa : Nat) (ml : Nat) (h0 : Heap) (n0 : Nat) (Z0 : n0 ≤ h0.size) (O0 : Old Z n0 h0) (V_x1 : Arv Z h0 x1 ks .byte (Int32.ofNat n) (own_fv f n) (.int 0)) (hsm : sa + ml ≤ n) (hn : n ≤ 24) :
    MetFree l (⟨"java/util/Arrays", "copyOfRangeByte", "([BII)[B"⟩ : MethodName) (head1 (Jvm.Cond.code (⟨"java/util/Arrays", "copyOfRangeByte", "([BII)[B"⟩ : MethodName) jdk_65_method_133_code 5 (some (.array .byte)) :: ws) ({ frames := 1, cells := 1, slots := 24, locals := 18 } : Room)) (fun a U => a = #[(.ref x1), (.int (Int32.ofNat sa)), (.int (Int32.ofNat (sa + ml)))] ∧ Z.Warmed39 U.vm ∧ U.heap = h0) (fun _ _ _ _ _ => True) (fun _ U o U' => ∃ v L, o = .returned v ∧ Q25 Z x1 ks f n sa ml h0 n0 v U'.heap L ∧ FrameEnd U o U' L ({ frames := 1, cells := 1, slots := 24, locals := 18 } : Room).cells ({ frames := 1, cells := 1, slots := 24, locals := 18 } : Room).slots) := by
  refine MetFree.of_bodySF (plainFor_of_name pn_java_util_Arrays) hisR ?_
  intro p e s m args below meth c s₁ Bd hml0 hP hK
  obtain ⟨rfl, hZ, hh⟩ := hP
  have hx := Bd.exec
  have hby := Bd.bytes
  have hml : c.maxLocals = 5 := hml0
  have hown : s.vm.findClass "java/util/Arrays" = some m.cls := findClass_of_methodNamed Bd.named
  have hnm := (name_of_methodNamed Bd.named Bd.method).1
  have X0 : Stand p l e ({ frames := 1, cells := 1, slots := 24, locals := 18 } : Room) s m #[(.ref x1), (.int (Int32.ofNat sa)), (.int (Int32.ofNat (sa + ml)))] below meth c s₁ [] 0 0 := Stand.of_body Bd
  have e0 : s₁.heap = h0 := by rw [← hh, Bd.state]; rfl
  have N0 := Fr.nil n0
  have K0 : Keep h0 h0 [] := Keep.refl _ _
  have pre0 : ∀ t, SF p e below s₁ m 0 #[vr x1, vi (Int32.ofNat sa), vi (Int32.ofNat (sa + ml)), un, un] [] t → Steps p.tables e below (s₁.setTop (entryFrame m #[(.ref x1), (.int (Int32.ofNat sa)), (.int (Int32.ofNat (sa + ml)))] 5)) t := fun t k => castTop (ef25 m x1) k
  have pp49 : ¬ ((Int32.ofNat (sa + ml)) < (Int32.ofNat sa)) := own_le (by omega) (by omega)
  obtain ⟨_, _, ⟨T50, L50, k50, n50⟩, -, X50, ⟨Lc50, hQ50, l50, y50, z50⟩, st50⟩ := Jvm.LawKit.callS X0 hx (y := (⟨"java/util/Arrays", "checkLength", "(II)V"⟩ : MethodName)) hown (mvT hZ (own_wd hw 105 rfl)) (mvT hZ (own_wd hw 106 rfl)) (mvT hZ (own_wd hw 100 rfl)) (mvT hZ (own_wd hw 107 rfl)) (by decide) (backOf (W := 0) (rm26 l Z a0 hw [] (Int32.ofNat sa) (Int32.ofNat (sa + ml)) h0 n0 Z0 O0 pp49) hZ (own_wd hw 107 rfl) (own_wd hw 100 rfl) (by decide) (by decide)) (g := (mkF m 2 #[vr x1, vi (Int32.ofNat sa), vi (Int32.ofNat (sa + ml)), un, un] [(.int (Int32.ofNat (sa + ml))), (.int (Int32.ofNat sa))])) rfl (by rw [hml]; rfl) (argsL := [(.int (Int32.ofNat sa)), (.int (Int32.ofNat (sa + ml)))]) (rest := []) (lenOf pd_7 rfl) rfl (by show 2 * 0 + _ ≤ _; exact Nat.le_of_eq rfl) (hb hby d25_2) (fun _ _ => ⟨rfl, e0, (by decide : 0 + 0 ≤ _), (by decide : 0 + 0 ≤ _)⟩)
  dsimp only [Pt.U, Pt.locs, Pt.cells, Pt.slots] at X50 l50 y50 z50 st50 hQ50
  subst y50 z50
  obtain ⟨rfl, N50q, eh50⟩ := hQ50
  have N50 : Fr n0 L50 := by rw [l50]; exact Fr.app N0 N50q
  have rn51 : ((Int32.ofNat (sa + ml)) - (Int32.ofNat sa)) = (Int32.ofNat ml) := own_subm sa ml
  obtain ⟨T52, h52, k52, X52, e52, E52, A52, st52⟩ := newP X50 hx hZ (own_wd hw 26 rfl) eh50 (g := (mkF m 10 #[vr x1, vi (Int32.ofNat sa), vi (Int32.ofNat (sa + ml)), vi (Int32.ofNat ml), un] [(.int (Int32.ofNat ml))])) rfl (hb hby d25_10) rfl (own_nn (by omega)) (cap := 24) (by rw [own_nat (by omega)]; omega) (by decide) (by decide) (by decide)
  obtain ⟨b52, g52⟩ : ∃ z, z = h0.size := ⟨_, rfl⟩
  rw [← g52] at A52 st52
  have O52 : Old Z n0 h52 := O0.ext E52
  have Z52 : n0 ≤ h52.size := Nat.le_trans Z0 E52.1
  have K52 : Keep h0 h52 [] := K0.ext E52
  have g_b52 : n0 ≤ b52 := Nat.le_trans Z0 (Nat.le_of_eq g52.symm)
  have sz_b52 : h0.size ≤ b52 := Nat.le_trans K0.1 (Nat.le_of_eq g52.symm)
  have V52 : Arv Z h52 b52 k52 .byte (Int32.ofNat ml) (own_fv own_zf ml) (.int (0 : Int32)) := (Arv.new A52 (own_nn (by omega))).pad (own_fv0 _)
  have V53 : Arv Z h52 x1 ks .byte (Int32.ofNat n) (own_fv f n) (.int 0) := (V_x1.ext E52)
  obtain ⟨cl_a54, Ar_a54, -, S_a54, N_a54, -, -⟩ := id V53
  have rn55 : ((Int32.ofNat n) - (Int32.ofNat sa)) = (Int32.ofNat (n - sa)) := own_sub (by omega)
  obtain ⟨_, _, ⟨T56, L56, k56, n56⟩, -, X56, ⟨Lc56, hQ56, l56, y56, z56⟩, st56⟩ := Jvm.LawKit.callS X52 hx (y := (⟨"java/lang/Math", "min", "(II)I"⟩ : MethodName)) hown (mvT hZ (own_wd hw 108 rfl)) (mvT hZ (own_wd hw 81 rfl)) (mvT hZ (own_wd hw 78 rfl)) (mvT hZ (own_wd hw 82 rfl)) (by decide) (backOf (W := 4) (rm19 l Z a0 hw [] (Int32.ofNat (n - sa)) (Int32.ofNat ml) h52 n0 Z52 O52) hZ (own_wd hw 82 rfl) (own_wd hw 78 rfl) (by decide) (by decide)) (g := (mkF m 24 #[vr x1, vi (Int32.ofNat sa), vi (Int32.ofNat (sa + ml)), vi (Int32.ofNat ml), vr b52] [(.int (Int32.ofNat ml)), (.int (Int32.ofNat (n - sa))), (.int (0 : Int32)), (.ref b52), (.int (Int32.ofNat sa)), (.ref x1)])) rfl (by rw [hml]; rfl) (argsL := [(.int (Int32.ofNat (n - sa))), (.int (Int32.ofNat ml))]) (rest := [(.int (0 : Int32)), (.ref b52), (.int (Int32.ofNat sa)), (.ref x1)]) (lenOf pd_2 rfl) rfl (by show 2 * 0 + _ ≤ _; exact Nat.le_of_eq rfl) (hb hby d25_24) (fun _ _ => ⟨rfl, e52, (by decide : 1 + 0 ≤ _), (by decide : 24 + 0 ≤ _)⟩)
  dsimp only [Pt.U, Pt.locs, Pt.cells, Pt.slots] at X56 l56 y56 z56 st56 hQ56
  subst y56 z56
  obtain ⟨rfl, N56q, eh56⟩ := hQ56
  have N56 : Fr n0 L56 := by rw [l56]; exact Fr.app N50 N56q
  have rn57 : (own_min (Int32.ofNat (n - sa)) (Int32.ofNat ml)) = (Int32.ofNat ml) := own_minle (by omega) (by omega)
  obtain ⟨T58, h58, L58, X58, e58, N58, KK58, A58, st58⟩ := own_cp X56 hx hZ hown (own_wd hw 109 rfl) (own_wd hw 112 rfl) (own_wd hw 110 rfl) (own_wd hw 111 rfl) eh56 (sp := sa) (dp := 0) (nn := ml) (H := (own_sh f sa)) V53 V52 (by omega) (by omega) (by omega) (by omega) (by omega) (fun j hj => by rw [if_pos ⟨Nat.zero_le _, by omega⟩]; rfl) N56 g_b52 (g := (mkF m 27 #[vr x1, vi (Int32.ofNat sa), vi (Int32.ofNat (sa + ml)), vi (Int32.ofNat ml), vr b52] [(.int (Int32.ofNat ml)), (.int (0 : Int32)), (.ref b52), (.int (Int32.ofNat sa)), (.ref x1)])) rfl (by rw [hml]; rfl) rfl (hb hby d25_27) (by decide) (W := 0) (by show 2 * 0 + _ ≤ _; exact Nat.le_of_eq rfl) (by decide)
  have O58 : Old Z n0 h58 := O52.keep KK58 (allS g_b52 all0)
  have Z58 : n0 ≤ h58.size := Nat.le_trans Z52 KK58.1
  have K58 : Keep h0 h58 [] := K52.trans KK58 (allS (Or.inr sz_b52) all0)
  obtain ⟨fs, hr, hrun, hended, hW, hsame⟩ := X58.leave (v := some (.ref b52)) (fun h => by rw [Bd.returns] at h; cases h)
  refine ⟨_, _, pre0 _ ?_, hrun, hended, _, _, rfl, ?_, ⟨_, rfl⟩, hW, hsame.mono (by decide) (by decide)⟩
  · show SF p e below s₁ m 0 #[vr x1, vi (Int32.ofNat sa), vi (Int32.ofNat (sa + ml)), un, un] [] _
    refine XS.iloadN X0.here hx rfl (hb hby d25_0) rfl ?_
    refine XS.iloadN X0.here hx rfl (hb hby d25_1) rfl ?_
    show SF p e below s₁ m 2 #[vr x1, vi (Int32.ofNat sa), vi (Int32.ofNat (sa + ml)), un, un] [(.int (Int32.ofNat (sa + ml))), (.int (Int32.ofNat sa))] _
    refine st50 _ ?_
    show SF p e below T50 m 5 #[vr x1, vi (Int32.ofNat sa), vi (Int32.ofNat (sa + ml)), un, un] [] _
    refine XS.iloadN X50.here hx rfl (hb hby d25_5) rfl ?_
    refine XS.iloadN X50.here hx rfl (hb hby d25_6) rfl ?_
    refine XS.isub X50.here hx rfl (hb hby d25_7) rfl ?_
    show SF p e below T50 m 8 _ [(.int ((Int32.ofNat (sa + ml)) - (Int32.ofNat sa)))] _
    rw [rn51]
    refine XS.istoreN X50.here hx rfl (hb hby d25_8) rfl (l' := #[vr x1, vi (Int32.ofNat sa), vi (Int32.ofNat (sa + ml)), vi (Int32.ofNat ml), un]) rfl ?_
    refine XS.iloadN X50.here hx rfl (hb hby d25_9) rfl ?_
    show SF p e below T50 m 10 _ [(.int (Int32.ofNat ml))] _
    refine st52 _ ?_
    show SF p e below T52 m 12 #[vr x1, vi (Int32.ofNat sa), vi (Int32.ofNat (sa + ml)), vi (Int32.ofNat ml), un] [(.ref b52)] _
    refine XS.astore X52.here hx rfl (hb hby d25_12) rfl rfl (l' := #[vr x1, vi (Int32.ofNat sa), vi (Int32.ofNat (sa + ml)), vi (Int32.ofNat ml), vr b52]) rfl ?_
    refine XS.aloadN X52.here hx rfl (hb hby d25_14) rfl rfl ?_
    refine XS.iloadN X52.here hx rfl (hb hby d25_15) rfl ?_
    refine XS.aload X52.here hx rfl (hb hby d25_16) rfl rfl ?_
    refine XS.iconst X52.here hx rfl (hb hby d25_18) ?_
    refine XS.aloadN X52.here hx rfl (hb hby d25_19) rfl rfl ?_
    show SF p e below T52 m 20 _ [(.ref x1), (.int (0 : Int32)), (.ref b52), (.int (Int32.ofNat sa)), (.ref x1)] _
    refine X52.arraylength hx (by rw [e52]; exact Ar_a54.1) (State.isArrayOf_alike hZ.alike Ar_a54.2.1) (g := (mkF m 20 #[vr x1, vi (Int32.ofNat sa), vi (Int32.ofNat (sa + ml)), vi (Int32.ofNat ml), vr b52] [(.ref x1), (.int (0 : Int32)), (.ref b52), (.int (Int32.ofNat sa)), (.ref x1)])) rfl rfl (hb hby d25_20) _ ?_
    rw [len_of S_a54 N_a54]
    refine XS.iloadN X52.here hx rfl (hb hby d25_21) rfl ?_
    refine XS.isub X52.here hx rfl (hb hby d25_22) rfl ?_
    show SF p e below T52 m 23 _ [(.int ((Int32.ofNat n) - (Int32.ofNat sa))), (.int (0 : Int32)), (.ref b52), (.int (Int32.ofNat sa)), (.ref x1)] _
    rw [rn55]
    refine XS.iloadN X52.here hx rfl (hb hby d25_23) rfl ?_
    show SF p e below T52 m 24 _ [(.int (Int32.ofNat ml)), (.int (Int32.ofNat (n - sa))), (.int (0 : Int32)), (.ref b52), (.int (Int32.ofNat sa)), (.ref x1)] _
    refine st56 _ ?_
    show SF p e below T56 m 27 #[vr x1, vi (Int32.ofNat sa), vi (Int32.ofNat (sa + ml)), vi (Int32.ofNat ml), vr b52] [(.int (own_min (Int32.ofNat (n - sa)) (Int32.ofNat ml))), (.int (0 : Int32)), (.ref b52), (.int (Int32.ofNat sa)), (.ref x1)] _
    rw [rn57]
    show SF p e below T56 m 27 _ [(.int (Int32.ofNat ml)), (.int (0 : Int32)), (.ref b52), (.int (Int32.ofNat sa)), (.ref x1)] _
    refine st58 _ ?_
    show SF p e below T58 m 30 #[vr x1, vi (Int32.ofNat sa), vi (Int32.ofNat (sa + ml)), vi (Int32.ofNat ml), vr b52] [] _
    refine XS.aload X58.here hx rfl (hb hby d25_30) rfl rfl ?_
    show SF p e below T58 m 32 _ [(.ref b52)] _
    jvm_step X58.here [X58.here.top, hx, (hb hby d25_32), X58.method', Bd.returns, Value.isRef, FieldType.isReference]
    first | (intro acts; rw [hr _ acts rfl rfl rfl]) | rw [hr _ _ rfl rfl rfl]
    exact Steps.refl _
  · show Q25 Z x1 ks f n sa ml h0 n0 _ T58.heap _
    rw [e58]
    exact ⟨b52, k52, rfl, N58, K58, sz_b52, A58⟩
theorem d24_0 : decode jdk_65_method_132_code 0 = .ok (.iload_n 1, 1) := by decide +kernel
theorem d24_1 : decode jdk_65_method_132_code 1 = .ok (.ifCond .ne 9, 3) := by decide +kernel
theorem d24_4 : decode jdk_65_method_132_code 4 = .ok (.iload_n 2, 1) := by decide +kernel
theorem d24_5 : decode jdk_65_method_132_code 5 = .ok (.aload_n 0, 1) := by decide +kernel
theorem d24_6 : decode jdk_65_method_132_code 6 = .ok (.arraylength, 1) := by decide +kernel
theorem d24_7 : decode jdk_65_method_132_code 7 = .ok (.if_icmp .eq 10, 3) := by decide +kernel
theorem d24_10 : decode jdk_65_method_132_code 10 = .ok (.aload_n 0, 1) := by decide +kernel
theorem d24_11 : decode jdk_65_method_132_code 11 = .ok (.iload_n 1, 1) := by decide +kernel
theorem d24_12 : decode jdk_65_method_132_code 12 = .ok (.iload_n 2, 1) := by decide +kernel
theorem pd_8 : parseMethodDescriptor "([BII)[B" = some ⟨[(.array .byte), .int, .int], some (.array .byte)⟩ := by decide +kernel
theorem d24_13 : decode jdk_65_method_132_code 13 = .ok (.invokestatic 339, 3) := by decide +kernel
theorem d24_16 : decode jdk_65_method_132_code 16 = .ok (.areturn, 1) := by decide +kernel
theorem ef24 (m : MethodId) (x1 : Addr) : entryFrame m #[(.ref x1), (.int (Int32.ofNat sa)), (.int (Int32.ofNat (sa + ml)))] 3 = mkF m 0 #[vr x1, vi (Int32.ofNat sa), vi (Int32.ofNat (sa + ml))] [] := by first | (simp [entryFrame, mkF, argsToLocals, Value.category]; done) | rfl
def Q24 (Z : State) (x1 : Addr) (ks : ClassId) (f : Nat → Int32) (n : Nat) (sa : Nat) (ml : Nat) (h0 : Heap) (n0 : Nat) (v : Option Value) (h : Heap) (L : List Loc) : Prop := ∃ (b : Addr), ∃ (kk : ClassId), v = some (.ref b) ∧ Fr n0 L ∧ Keep h0 h [] ∧ h0.size ≤ b ∧ Arv Z h b kk .byte (Int32.ofNat ml) (own_fv (own_sh f sa) ml) (.int 0)
set_option maxRecDepth 65536 in
set_option maxHeartbeats 40000000 in
theorem rm24 (l : Launch) (Z : State) (a0 : Array Value) (hw : ∀ d ∈ tables_1, d.before a0 Z = true) (ws : List Jvm.Cond) (x1 : Addr) (ks : ClassId) (f : Nat → Int32) (n : Nat) (sa : Nat) (ml : Nat) (h0 : Heap) (n0 : Nat) (Z0 : n0 ≤ h0.size) (O0 : Old Z n0 h0) (V_x1 : Arv Z h0 x1 ks .byte (Int32.ofNat n) (own_fv f n) (.int 0)) (hsm : sa + ml ≤ n) (hn : n ≤ 24) (hstr : ¬ (sa = 0 ∧ ml = n)) :
    MetFree l (⟨"java/util/Arrays", "copyOfRange", "([BII)[B"⟩ : MethodName) (head1 (Jvm.Cond.code (⟨"java/util/Arrays", "copyOfRange", "([BII)[B"⟩ : MethodName) jdk_65_method_132_code 3 (some (.array .byte)) :: ws) ({ frames := 2, cells := 1, slots := 24, locals := 34 } : Room)) (fun a U => a = #[(.ref x1), (.int (Int32.ofNat sa)), (.int (Int32.ofNat (sa + ml)))] ∧ Z.Warmed39 U.vm ∧ U.heap = h0) (fun _ _ _ _ _ => True) (fun _ U o U' => ∃ v L, o = .returned v ∧ Q24 Z x1 ks f n sa ml h0 n0 v U'.heap L ∧ FrameEnd U o U' L ({ frames := 2, cells := 1, slots := 24, locals := 34 } : Room).cells ({ frames := 2, cells := 1, slots := 24, locals := 34 } : Room).slots) := by
  refine MetFree.of_bodySF (plainFor_of_name pn_java_util_Arrays) hisR ?_
  intro p e s m args below meth c s₁ Bd hml0 hP hK
  obtain ⟨rfl, hZ, hh⟩ := hP
  have hx := Bd.exec
  have hby := Bd.bytes
  have hml : c.maxLocals = 3 := hml0
  have hown : s.vm.findClass "java/util/Arrays" = some m.cls := findClass_of_methodNamed Bd.named
  have hnm := (name_of_methodNamed Bd.named Bd.method).1
  have X0 : Stand p l e ({ frames := 2, cells := 1, slots := 24, locals := 34 } : Room) s m #[(.ref x1), (.int (Int32.ofNat sa)), (.int (Int32.ofNat (sa + ml)))] below meth c s₁ [] 0 0 := Stand.of_body Bd
  have e0 : s₁.heap = h0 := by rw [← hh, Bd.state]; rfl
  have N0 := Fr.nil n0
  have K0 : Keep h0 h0 [] := Keep.refl _ _
  have pre0 : ∀ t, SF p e below s₁ m 0 #[vr x1, vi (Int32.ofNat sa), vi (Int32.ofNat (sa + ml))] [] t → Steps p.tables e below (s₁.setTop (entryFrame m #[(.ref x1), (.int (Int32.ofNat sa)), (.int (Int32.ofNat (sa + ml)))] 3)) t := fun t k => castTop (ef24 m x1) k
  have pre59 := fun t (kt : SF p e below s₁ m 1 #[vr x1, vi (Int32.ofNat sa), vi (Int32.ofNat (sa + ml))] [(.int (Int32.ofNat sa))] t) => pre0 t (by
    refine XS.iloadN X0.here hx rfl (hb hby d24_0) rfl ?_
    exact kt)
  by_cases hc1 : (Int32.ofNat sa) = (0 : Int32)
  · skip
    have nf60 : (sa = 0) := (own_eq (i := sa) (n := 0) (by omega) (by omega)).mp hc1
    obtain ⟨cl_a61, Ar_a61, -, S_a61, N_a61, -, -⟩ := id V_x1
    have pre62 := fun t (kt : SF p e below s₁ m 7 #[vr x1, vi (Int32.ofNat sa), vi (Int32.ofNat (sa + ml))] [(.int (Int32.ofNat n)), (.int (Int32.ofNat (sa + ml)))] t) => pre59 t (by
      refine XS.ifNo X0.here hx rfl (hb hby d24_1) rfl ((if0 _ _).trans (teq hc1).2) ?_
      refine XS.iloadN X0.here hx rfl (hb hby d24_4) rfl ?_
      refine XS.aloadN X0.here hx rfl (hb hby d24_5) rfl rfl ?_
      show SF p e below s₁ m 6 _ [(.ref x1), (.int (Int32.ofNat (sa + ml)))] _
      refine X0.arraylength hx (by rw [e0]; exact Ar_a61.1) (State.isArrayOf_alike hZ.alike Ar_a61.2.1) (g := (mkF m 6 #[vr x1, vi (Int32.ofNat sa), vi (Int32.ofNat (sa + ml))] [(.ref x1), (.int (Int32.ofNat (sa + ml)))])) rfl rfl (hb hby d24_6) _ ?_
      rw [len_of S_a61 N_a61]
      exact kt)
    by_cases hc7 : (Int32.ofNat (sa + ml)) = (Int32.ofNat n)
    · skip
      have nf63 : ((sa + ml) = n) := (own_eq (i := (sa + ml)) (n := n) (by omega) (by omega)).mp hc7
      exact False.elim (by omega)
    · skip
      have nf64 : ¬ ((sa + ml) = n) := fun zq => hc7 ((own_eq (i := (sa + ml)) (n := n) (by omega) (by omega)).mpr zq)
      obtain ⟨_, _, ⟨T65, L65, k65, n65⟩, -, X65, ⟨Lc65, hQ65, l65, y65, z65⟩, st65⟩ := Jvm.LawKit.callS X0 hx (y := (⟨"java/util/Arrays", "copyOfRangeByte", "([BII)[B"⟩ : MethodName)) hown (mvT hZ (own_wd hw 102 rfl)) (mvT hZ (own_wd hw 103 rfl)) (mvT hZ (own_wd hw 100 rfl)) (mvT hZ (own_wd hw 104 rfl)) (by decide) (backOf (W := 0) (rm25 l Z a0 hw [] x1 ks f n sa ml h0 n0 Z0 O0 V_x1 (by omega) (by omega)) hZ (own_wd hw 104 rfl) (own_wd hw 100 rfl) (by decide) (by decide)) (g := (mkF m 13 #[vr x1, vi (Int32.ofNat sa), vi (Int32.ofNat (sa + ml))] [(.int (Int32.ofNat (sa + ml))), (.int (Int32.ofNat sa)), (.ref x1)])) rfl (by rw [hml]; rfl) (argsL := [(.ref x1), (.int (Int32.ofNat sa)), (.int (Int32.ofNat (sa + ml)))]) (rest := []) (lenOf pd_8 rfl) rfl (by show 2 * 0 + _ ≤ _; exact Nat.le_of_eq rfl) (hb hby d24_13) (fun _ _ => ⟨rfl, e0, (by decide : 0 + 1 ≤ _), (by decide : 0 + 24 ≤ _)⟩)
      dsimp only [Pt.U, Pt.locs, Pt.cells, Pt.slots] at X65 l65 y65 z65 st65 hQ65
      subst y65 z65
      obtain ⟨b_65, kk_65, rfl, N65q, KK65, Q65_0, Q65_1⟩ := hQ65
      have N65 : Fr n0 L65 := by rw [l65]; exact Fr.app N0 N65q
      have O65 : Old Z n0 T65.heap := O0.keep KK65 all0
      have Z65 : n0 ≤ T65.heap.size := Nat.le_trans Z0 KK65.1
      have K65 : Keep h0 T65.heap [] := K0.trans KK65 all0
      have g_b_65 : n0 ≤ b_65 := Nat.le_trans Z0 Q65_0
      have sz_b_65 : h0.size ≤ b_65 := Nat.le_trans K0.1 Q65_0
      obtain ⟨fs, hr, hrun, hended, hW, hsame⟩ := X65.leave (v := some (.ref b_65)) (fun h => by rw [Bd.returns] at h; cases h)
      refine ⟨_, _, pre62 _ ?_, hrun, hended, _, _, rfl, ?_, ⟨_, rfl⟩, hW, hsame.mono (by decide) (by decide)⟩
      · show SF p e below s₁ m 7 #[vr x1, vi (Int32.ofNat sa), vi (Int32.ofNat (sa + ml))] [(.int (Int32.ofNat n)), (.int (Int32.ofNat (sa + ml)))] _
        refine XS.icmpNo X0.here hx rfl (hb hby d24_7) rfl (feq hc7).1 ?_
        refine XS.aloadN X0.here hx rfl (hb hby d24_10) rfl rfl ?_
        refine XS.iloadN X0.here hx rfl (hb hby d24_11) rfl ?_
        refine XS.iloadN X0.here hx rfl (hb hby d24_12) rfl ?_
        show SF p e below s₁ m 13 _ [(.int (Int32.ofNat (sa + ml))), (.int (Int32.ofNat sa)), (.ref x1)] _
        refine st65 _ ?_
        show SF p e below T65 m 16 #[vr x1, vi (Int32.ofNat sa), vi (Int32.ofNat (sa + ml))] [(.ref b_65)] _
        jvm_step X65.here [X65.here.top, hx, (hb hby d24_16), X65.method', Bd.returns, Value.isRef, FieldType.isReference]
        first | (intro acts; rw [hr _ acts rfl rfl rfl]) | rw [hr _ _ rfl rfl rfl]
        exact Steps.refl _
      · show Q24 Z x1 ks f n sa ml h0 n0 _ T65.heap _
        exact ⟨b_65, kk_65, rfl, N65, K65, sz_b_65, Q65_1⟩
  · skip
    have nf66 : ¬ (sa = 0) := fun zq => hc1 ((own_eq (i := sa) (n := 0) (by omega) (by omega)).mpr zq)
    obtain ⟨_, _, ⟨T67, L67, k67, n67⟩, -, X67, ⟨Lc67, hQ67, l67, y67, z67⟩, st67⟩ := Jvm.LawKit.callS X0 hx (y := (⟨"java/util/Arrays", "copyOfRangeByte", "([BII)[B"⟩ : MethodName)) hown (mvT hZ (own_wd hw 102 rfl)) (mvT hZ (own_wd hw 103 rfl)) (mvT hZ (own_wd hw 100 rfl)) (mvT hZ (own_wd hw 104 rfl)) (by decide) (backOf (W := 0) (rm25 l Z a0 hw [] x1 ks f n sa ml h0 n0 Z0 O0 V_x1 (by omega) (by omega)) hZ (own_wd hw 104 rfl) (own_wd hw 100 rfl) (by decide) (by decide)) (g := (mkF m 13 #[vr x1, vi (Int32.ofNat sa), vi (Int32.ofNat (sa + ml))] [(.int (Int32.ofNat (sa + ml))), (.int (Int32.ofNat sa)), (.ref x1)])) rfl (by rw [hml]; rfl) (argsL := [(.ref x1), (.int (Int32.ofNat sa)), (.int (Int32.ofNat (sa + ml)))]) (rest := []) (lenOf pd_8 rfl) rfl (by show 2 * 0 + _ ≤ _; exact Nat.le_of_eq rfl) (hb hby d24_13) (fun _ _ => ⟨rfl, e0, (by decide : 0 + 1 ≤ _), (by decide : 0 + 24 ≤ _)⟩)
    dsimp only [Pt.U, Pt.locs, Pt.cells, Pt.slots] at X67 l67 y67 z67 st67 hQ67
    subst y67 z67
    obtain ⟨b_67, kk_67, rfl, N67q, KK67, Q67_0, Q67_1⟩ := hQ67
    have N67 : Fr n0 L67 := by rw [l67]; exact Fr.app N0 N67q
    have O67 : Old Z n0 T67.heap := O0.keep KK67 all0
    have Z67 : n0 ≤ T67.heap.size := Nat.le_trans Z0 KK67.1
    have K67 : Keep h0 T67.heap [] := K0.trans KK67 all0
    have g_b_67 : n0 ≤ b_67 := Nat.le_trans Z0 Q67_0
    have sz_b_67 : h0.size ≤ b_67 := Nat.le_trans K0.1 Q67_0
    obtain ⟨fs, hr, hrun, hended, hW, hsame⟩ := X67.leave (v := some (.ref b_67)) (fun h => by rw [Bd.returns] at h; cases h)
    refine ⟨_, _, pre59 _ ?_, hrun, hended, _, _, rfl, ?_, ⟨_, rfl⟩, hW, hsame.mono (by decide) (by decide)⟩
    · show SF p e below s₁ m 1 #[vr x1, vi (Int32.ofNat sa), vi (Int32.ofNat (sa + ml))] [(.int (Int32.ofNat sa))] _
      refine XS.ifYes X0.here hx rfl (pc0 := 1) (pc' := 10) rfl (hb hby d24_1) rfl ((if0 _ _).trans (feq hc1).2) (by decide) (by decide) ?_
      refine XS.aloadN X0.here hx rfl (hb hby d24_10) rfl rfl ?_
      refine XS.iloadN X0.here hx rfl (hb hby d24_11) rfl ?_
      refine XS.iloadN X0.here hx rfl (hb hby d24_12) rfl ?_
      show SF p e below s₁ m 13 _ [(.int (Int32.ofNat (sa + ml))), (.int (Int32.ofNat sa)), (.ref x1)] _
      refine st67 _ ?_
      show SF p e below T67 m 16 #[vr x1, vi (Int32.ofNat sa), vi (Int32.ofNat (sa + ml))] [(.ref b_67)] _
      jvm_step X67.here [X67.here.top, hx, (hb hby d24_16), X67.method', Bd.returns, Value.isRef, FieldType.isReference]
      first | (intro acts; rw [hr _ acts rfl rfl rfl]) | rw [hr _ _ rfl rfl rfl]
      exact Steps.refl _
    · show Q24 Z x1 ks f n sa ml h0 n0 _ T67.heap _
      exact ⟨b_67, kk_67, rfl, N67, K67, sz_b_67, Q67_1⟩
theorem d23_0 : decode jdk_43_method_47_code 0 = .ok (.iload_n 2, 1) := by decide +kernel
theorem d23_1 : decode jdk_43_method_47_code 1 = .ok (.ifCond .ne 6, 3) := by decide +kernel
theorem d23_4 : decode jdk_43_method_47_code 4 = .ok (.ldc 151, 2) := by decide +kernel
theorem d23_6 : decode jdk_43_method_47_code 6 = .ok (.areturn, 1) := by decide +kernel
theorem d23_7 : decode jdk_43_method_47_code 7 = .ok (.new 1, 3) := by decide +kernel
theorem d23_10 : decode jdk_43_method_47_code 10 = .ok (.dup, 1) := by decide +kernel
theorem d23_11 : decode jdk_43_method_47_code 11 = .ok (.aload_n 0, 1) := by decide +kernel
theorem d23_12 : decode jdk_43_method_47_code 12 = .ok (.iload_n 1, 1) := by decide +kernel
theorem d23_13 : decode jdk_43_method_47_code 13 = .ok (.iload_n 1, 1) := by decide +kernel
theorem d23_14 : decode jdk_43_method_47_code 14 = .ok (.iload_n 2, 1) := by decide +kernel
theorem d23_15 : decode jdk_43_method_47_code 15 = .ok (.iadd, 1) := by decide +kernel
theorem d23_16 : decode jdk_43_method_47_code 16 = .ok (.invokestatic 232, 3) := by decide +kernel
theorem d23_19 : decode jdk_43_method_47_code 19 = .ok (.iconst 0, 1) := by decide +kernel
theorem pd_9 : parseMethodDescriptor "([BB)V" = some ⟨[(.array .byte), .byte], none⟩ := by decide +kernel
theorem d23_20 : decode jdk_43_method_47_code 20 = .ok (.invokespecial 112, 3) := by decide +kernel
theorem d23_23 : decode jdk_43_method_47_code 23 = .ok (.areturn, 1) := by decide +kernel
theorem ef23 (m : MethodId) (x1 : Addr) : entryFrame m #[(.ref x1), (.int (Int32.ofNat sa)), (.int (Int32.ofNat ml))] 3 = mkF m 0 #[vr x1, vi (Int32.ofNat sa), vi (Int32.ofNat ml)] [] := by first | (simp [entryFrame, mkF, argsToLocals, Value.category]; done) | rfl
def Q23 (Z : State) (x1 : Addr) (ks : ClassId) (f : Nat → Int32) (n : Nat) (sa : Nat) (ml : Nat) (h0 : Heap) (n0 : Nat) (v : Option Value) (h : Heap) (L : List Loc) : Prop := ∃ (b : Addr), ∃ (t : Addr), ∃ (kk : ClassId), v = some (.ref b) ∧ Fr n0 L ∧ Keep h0 h [] ∧ Exa Z h b "java/lang/String" ∧ Fld Z h b "java/lang/String" "value" "[B" (.ref t) ∧ Fld Z h b "java/lang/String" "coder" "B" (.int (0 : Int32)) ∧ Arv Z h t kk .byte (Int32.ofNat ml) (own_fv (own_sh f sa) ml) (.int 0)
set_option maxRecDepth 65536 in
set_option maxHeartbeats 40000000 in
theorem rm23 (l : Launch) (Z : State) (a0 : Array Value) (hw : ∀ d ∈ tables_1, d.before a0 Z = true) (ws : List Jvm.Cond) (x1 : Addr) (ks : ClassId) (f : Nat → Int32) (n : Nat) (sa : Nat) (ml : Nat) (h0 : Heap) (n0 : Nat) (Z0 : n0 ≤ h0.size) (O0 : Old Z n0 h0) (V_x1 : Arv Z h0 x1 ks .byte (Int32.ofNat n) (own_fv f n) (.int 0)) (hsm : sa + ml ≤ n) (hn : n ≤ 24) (hstr : ¬ (sa = 0 ∧ ml = n)) :
    MetFree l (⟨"java/lang/StringLatin1", "newString", "([BII)Ljava/lang/String;"⟩ : MethodName) (head1 (Jvm.Cond.code (⟨"java/lang/StringLatin1", "newString", "([BII)Ljava/lang/String;"⟩ : MethodName) jdk_43_method_47_code 3 (some (.object "java/lang/String")) :: ws) ({ frames := 3, cells := 2, slots := 28, locals := 50 } : Room)) (fun a U => a = #[(.ref x1), (.int (Int32.ofNat sa)), (.int (Int32.ofNat ml))] ∧ Z.Warmed39 U.vm ∧ U.heap = h0 ∧ CHv Z own_EL U.vm h0) (fun _ _ _ _ _ => True) (fun _ U o U' => ∃ v L, o = .returned v ∧ Q23 Z x1 ks f n sa ml h0 n0 v U'.heap L ∧ CHr Z own_EL U.vm U.heap U'.vm U'.heap ∧ ReturnedEndW U o U' L ({ frames := 3, cells := 2, slots := 28, locals := 50 } : Room).cells ({ frames := 3, cells := 2, slots := 28, locals := 50 } : Room).slots) := by
  refine MetFree.of_bodySF (plainFor_of_name pn_java_lang_StringLatin1) hisR ?_
  intro p e s m args below meth c s₁ Bd hml0 hP hK
  obtain ⟨rfl, hZ, hh, CH0⟩ := hP
  have hx := Bd.exec
  have hby := Bd.bytes
  have hml : c.maxLocals = 3 := hml0
  have hown : (s.setVm s.vm).vm.findClass "java/lang/StringLatin1" = some m.cls := findClass_of_methodNamed Bd.named
  have hnm := (name_of_methodNamed Bd.named Bd.method).1
  have X0 : Stand p l e ({ frames := 3, cells := 2, slots := 28, locals := 50 } : Room) (s.setVm s.vm) m #[(.ref x1), (.int (Int32.ofNat sa)), (.int (Int32.ofNat ml))] below meth c s₁ [] 0 0 := Stand.of_body Bd
  have e0 : s₁.heap = h0 := by rw [← hh, Bd.state]; rfl
  have N0 := Fr.nil n0
  have K0 : Keep h0 h0 [] := Keep.refl _ _
  have pre0 : ∀ t, SF p e below s₁ m 0 #[vr x1, vi (Int32.ofNat sa), vi (Int32.ofNat ml)] [] t → Steps p.tables e below (s₁.setTop (entryFrame m #[(.ref x1), (.int (Int32.ofNat sa)), (.int (Int32.ofNat ml))] 3)) t := fun t k => castTop (ef23 m x1) k
  have hZa : Z.Warmed39 (s.setVm s.vm).vm := hZ
  have howna : (s.setVm s.vm).vm.findClass "java/lang/StringLatin1" = some m.cls := hown
  have hS0 : s.Since s.vm h0.size := (State.WarmedH.refl s).since _
  have hk0 : h0.size ≤ h0.size := Nat.le_refl _
  have CR0 : CHr Z own_EL s.vm h0 s.vm h0 := CHr.refl CH0
  have pre68 := fun t (kt : SF p e below s₁ m 1 #[vr x1, vi (Int32.ofNat sa), vi (Int32.ofNat ml)] [(.int (Int32.ofNat ml))] t) => pre0 t (by
    refine XS.iloadN X0.here hx rfl (hb hby d23_0) rfl ?_
    exact kt)
  by_cases hc1 : (Int32.ofNat ml) = (0 : Int32)
  · skip
    have nf69 : (ml = 0) := (own_eq (i := ml) (n := 0) (by omega) (by omega)).mp hc1
    obtain ⟨b70, T70, h70, k70, t70, kb70, X70, e70, E70, hS70, hk70, hZ70, hown70, Ex70, Co70, Va70, Ar70, lta70, ltb70, R70, Lt70, sep70, st70⟩ := ldcCH (s := s) (vm0 := s.vm) X0 hx hZa howna (own_wd hw 193 rfl) (own_wS hw) e0 hS0 hk0 (own_EW hw) (List.mem_of_getElem? (i := 2) rfl) CH0 (vs := []) (z := (0 : Int32)) ⟨by decide +kernel, by decide +kernel⟩ (by decide) (by decide) (g := (mkF m 4 #[vr x1, vi (Int32.ofNat sa), vi (Int32.ofNat ml)] [])) rfl (hb hby d23_4) (n := 0) (by decide +kernel) (by decide) (by decide) (by decide)
    have O70 : Old Z n0 h70 := O0.ext E70
    have Z70 : n0 ≤ h70.size := Nat.le_trans Z0 E70.1
    have K70 : Keep h0 h70 [] := K0.ext E70
    have CH70 : CHv Z own_EL T70.vm h70 := R70.1
    have CR70 : CHr Z own_EL s.vm h0 T70.vm h70 := CR0.trans R70
    obtain ⟨fs, hr, hrun, hended, hW, hsame⟩ := X70.leave (v := some (.ref b70)) (fun h => by rw [Bd.returns] at h; cases h)
    have hend := hS70.ended hW (show _ ≤ T70.heap.size from by rw [e70]; exact hk70) hsame
    have hcr : CHr Z own_EL s.vm s.heap T70.vm T70.heap := by
      rw [hh, e70]
      exact CR70.trans (CHv.at X70 hZ70 (own_EW hw) CH70)
    refine ⟨_, _, pre68 _ ?_, hrun, hended, _, _, rfl, ?_, hcr, ⟨_, rfl⟩, hend.1, hend.2.1, hend.2.2.mono (by decide) (by decide)⟩
    · show SF p e below s₁ m 1 #[vr x1, vi (Int32.ofNat sa), vi (Int32.ofNat ml)] [(.int (Int32.ofNat ml))] _
      refine XS.ifNo X0.here hx rfl (hb hby d23_1) rfl ((if0 _ _).trans (teq hc1).2) ?_
      show SF p e below s₁ m 4 _ [] _
      refine st70 _ ?_
      show SF p e below T70 m 6 #[vr x1, vi (Int32.ofNat sa), vi (Int32.ofNat ml)] [(.ref b70)] _
      jvm_step X70.here [X70.here.top, hx, (hb hby d23_6), X70.method', Bd.returns, Value.isRef, FieldType.isReference]
      first | (intro acts; rw [hr _ acts rfl rfl rfl]) | rw [hr _ _ rfl rfl rfl]
      exact Steps.refl _
    · show Q23 Z x1 ks f n sa ml h0 n0 _ T70.heap _
      rw [e70]
      exact ⟨b70, t70, kb70, rfl, N0, K70, Ex70, Va70, Co70, (by have q : ml = 0 := (by omega); rw [q]; exact Ar70)⟩
  · skip
    have nf71 : ¬ (ml = 0) := fun zq => hc1 ((own_eq (i := ml) (n := 0) (by omega) (by omega)).mpr zq)
    obtain ⟨T72, h72, X72, e72, E72, A72, D72, U72, st72⟩ := newO X0 hx hZa howna (own_wd hw 97 rfl) (own_wd hw 9 rfl) (own_wd hw 10 rfl) e0 (g := (mkF m 7 #[vr x1, vi (Int32.ofNat sa), vi (Int32.ofNat ml)] [])) rfl (hb hby d23_7) (by decide) (by decide)
    obtain ⟨b72, g72⟩ : ∃ z, z = h0.size := ⟨_, rfl⟩
    rw [← g72] at A72 D72 st72
    have O72 : Old Z n0 h72 := O0.ext E72
    have Z72 : n0 ≤ h72.size := Nat.le_trans Z0 E72.1
    have K72 : Keep h0 h72 [] := K0.ext E72
    have CH72 : CHv Z own_EL s.vm h72 := CHv.ext E72 CH0
    have CR72 : CHr Z own_EL s.vm h0 s.vm h72 := CR0.trans (CHr.ext E72 CH0)
    have g_b72 : n0 ≤ b72 := Nat.le_trans Z0 (Nat.le_of_eq g72.symm)
    have sz_b72 : h0.size ≤ b72 := Nat.le_trans K0.1 (Nat.le_of_eq g72.symm)
    have F_b72_coder : Fld Z h72 b72 "java/lang/String" "coder" "B" (.int (0 : Int32)) := D72 (Or.inr (own_wd hw 34 rfl)) (ty := .byte) (by decide)
    have F_b72_value : Fld Z h72 b72 "java/lang/String" "value" "[B" .null := D72 (Or.inr (own_wd hw 36 rfl)) (ty := (.array .byte)) (by decide)
    have rn73 : ((Int32.ofNat sa) + (Int32.ofNat ml)) = (Int32.ofNat (sa + ml)) := own_add _ _
    have V74 : Arv Z h72 x1 ks .byte (Int32.ofNat n) (own_fv f n) (.int 0) := (V_x1.ext E72)
    obtain ⟨_, _, ⟨T75, L75, k75, n75⟩, -, X75, ⟨Lc75, hQ75, l75, y75, z75⟩, st75⟩ := Jvm.LawKit.callS X72 hx (y := (⟨"java/util/Arrays", "copyOfRange", "([BII)[B"⟩ : MethodName)) howna (mvT hZa (own_wd hw 98 rfl)) (mvT hZa (own_wd hw 99 rfl)) (mvT hZa (own_wd hw 100 rfl)) (mvT hZa (own_wd hw 101 rfl)) (by decide) (backOf (W := 2) (rm24 l Z a0 hw [] x1 ks f n sa ml h72 n0 Z72 O72 V74 (by omega) (by omega) (by omega)) hZa (own_wd hw 101 rfl) (own_wd hw 100 rfl) (by decide) (by decide)) (g := (mkF m 16 #[vr x1, vi (Int32.ofNat sa), vi (Int32.ofNat ml)] [(.int (Int32.ofNat (sa + ml))), (.int (Int32.ofNat sa)), (.ref x1), (.ref b72), (.ref b72)])) rfl (by rw [hml]; rfl) (argsL := [(.ref x1), (.int (Int32.ofNat sa)), (.int (Int32.ofNat (sa + ml)))]) (rest := [(.ref b72), (.ref b72)]) (lenOf pd_8 rfl) rfl (by show 2 * 0 + _ ≤ _; exact Nat.le_of_eq rfl) (hb hby d23_16) (fun _ _ => ⟨rfl, e72, (by decide : 1 + 1 ≤ _), (by decide : 4 + 24 ≤ _)⟩)
    dsimp only [Pt.U, Pt.locs, Pt.cells, Pt.slots] at X75 l75 y75 z75 st75 hQ75
    subst y75 z75
    obtain ⟨b_75, kk_75, rfl, N75q, KK75, Q75_0, Q75_1⟩ := hQ75
    have N75 : Fr n0 L75 := by rw [l75]; exact Fr.app N0 N75q
    have O75 : Old Z n0 T75.heap := O72.keep KK75 all0
    have Z75 : n0 ≤ T75.heap.size := Nat.le_trans Z72 KK75.1
    have K75 : Keep h0 T75.heap [] := K72.trans KK75 all0
    have CH75 : CHv Z own_EL s.vm T75.heap := CHv.keep KK75 sf0 CH72
    have CR75 : CHr Z own_EL s.vm h0 s.vm T75.heap := CR72.trans (CHr.keep KK75 sf0 CH72)
    have g_b_75 : n0 ≤ b_75 := Nat.le_trans (Nat.le_trans Z0 E72.1) Q75_0
    have sz_b_75 : h0.size ≤ b_75 := Nat.le_trans K72.1 Q75_0
    have F76 : Fld Z T75.heap b72 "java/lang/String" "value" "[B" .null := (F_b72_value.keep KK75 nin0)
    have F77 : Fld Z T75.heap b72 "java/lang/String" "coder" "B" (.int (0 : Int32)) := (F_b72_coder.keep KK75 nin0)
    have C78 : Exa Z T75.heap b72 "java/lang/String" := (A72.keep KK75)
    obtain ⟨_, _, ⟨T79, L79, k79, n79⟩, -, X79, ⟨Lc79, hQ79, l79, y79, z79⟩, st79⟩ := X75.specialBack hx (y := (⟨"java/lang/String", "<init>", "([BB)V"⟩ : MethodName)) rfl howna (mvT hZa (own_wd hw 113 rfl)) (mvT hZa (own_wd hw 114 rfl)) (mvT hZa (own_wd hw 115 rfl)) (by decide) (backOf (W := 1) (rm27 l Z a0 hw [] b72 b_75 .null (.int (0 : Int32)) T75.heap n0 Z75 O75 C78 F76 g_b72 F77) hZa (own_wd hw 115 rfl) (own_wd hw 10 rfl) (by decide) (by decide)) (g := (mkF m 20 #[vr x1, vi (Int32.ofNat sa), vi (Int32.ofNat ml)] [(.int (0 : Int32)), (.ref b_75), (.ref b72), (.ref b72)])) rfl (by rw [hml]; rfl) (Steps.refl _) (a := b72) (argsL := [(.ref b_75), (.int (0 : Int32))]) (rest := [(.ref b72)]) (lenOf pd_9 rfl) rfl (by show 2 * 0 + _ ≤ _; exact Nat.le_of_eq rfl) (hb hby d23_20) (fun _ _ => ⟨rfl, rfl, (by decide : 2 + 0 ≤ _), (by decide : 28 + 0 ≤ _)⟩)
    dsimp only [Pt.U, Pt.locs, Pt.cells, Pt.slots] at X79 l79 y79 z79 st79 hQ79
    subst y79 z79
    obtain ⟨rfl, N79q, KK79, Q79_0, Q79_1, Q79_2⟩ := hQ79
    have N79 : Fr n0 L79 := by rw [l79]; exact Fr.app N75 N79q
    have sf80 : Safe Z own_EL s.vm T75.heap b72 := (Safe.keep KK75 sf0 CH72 (Safe.ext E72 CH0 (Safe.new (Nat.le_of_eq g72.symm))))
    have O79 : Old Z n0 T79.heap := O75.keep KK79 (allS g_b72 all0)
    have Z79 : n0 ≤ T79.heap.size := Nat.le_trans Z75 KK79.1
    have K79 : Keep h0 T79.heap [] := K75.trans KK79 (allS (Or.inr sz_b72) all0)
    have CH79 : CHv Z own_EL s.vm T79.heap := CHv.keep KK79 (sfS sf80 sf0) CH75
    have CR79 : CHr Z own_EL s.vm h0 s.vm T79.heap := CR75.trans (CHr.keep KK79 (sfS sf80 sf0) CH75)
    have V81 : Arv Z T79.heap b_75 kk_75 .byte (Int32.ofNat ml) (own_fv (own_sh f sa) ml) (.int 0) := (Q75_1.keep KK79 (ninS (Ne.symm (Nat.ne_of_lt (Nat.lt_of_lt_of_le A72.lt Q75_0))) nin0))
    obtain ⟨fs, hr, hrun, hended, hW, hsame⟩ := X79.leave (v := some (.ref b72)) (fun h => by rw [Bd.returns] at h; cases h)
    have hend := hS0.ended hW (show _ ≤ T79.heap.size from (Nat.le_trans (Nat.le_trans (Nat.le_trans hk0 E72.1) KK75.1) KK79.1)) hsame
    have hcr : CHr Z own_EL s.vm s.heap T79.vm T79.heap := by
      rw [hh]
      exact CR79.trans (CHv.at X79 hZa (own_EW hw) CH79)
    refine ⟨_, _, pre68 _ ?_, hrun, hended, _, _, rfl, ?_, hcr, ⟨_, rfl⟩, hend.1, hend.2.1, hend.2.2.mono (by decide) (by decide)⟩
    · show SF p e below s₁ m 1 #[vr x1, vi (Int32.ofNat sa), vi (Int32.ofNat ml)] [(.int (Int32.ofNat ml))] _
      refine XS.ifYes X0.here hx rfl (pc0 := 1) (pc' := 7) rfl (hb hby d23_1) rfl ((if0 _ _).trans (feq hc1).2) (by decide) (by decide) ?_
      show SF p e below s₁ m 7 _ [] _
      refine st72 _ ?_
      show SF p e below T72 m 10 #[vr x1, vi (Int32.ofNat sa), vi (Int32.ofNat ml)] [(.ref b72)] _
      refine XS.dup X72.here hx rfl (hb hby d23_10) rfl rfl ?_
      refine XS.aloadN X72.here hx rfl (hb hby d23_11) rfl rfl ?_
      refine XS.iloadN X72.here hx rfl (hb hby d23_12) rfl ?_
      refine XS.iloadN X72.here hx rfl (hb hby d23_13) rfl ?_
      refine XS.iloadN X72.here hx rfl (hb hby d23_14) rfl ?_
      refine XS.iadd X72.here hx rfl (hb hby d23_15) rfl ?_
      show SF p e below T72 m 16 _ [(.int ((Int32.ofNat sa) + (Int32.ofNat ml))), (.int (Int32.ofNat sa)), (.ref x1), (.ref b72), (.ref b72)] _
      rw [rn73]
      show SF p e below T72 m 16 _ [(.int (Int32.ofNat (sa + ml))), (.int (Int32.ofNat sa)), (.ref x1), (.ref b72), (.ref b72)] _
      refine st75 _ ?_
      show SF p e below T75 m 19 #[vr x1, vi (Int32.ofNat sa), vi (Int32.ofNat ml)] [(.ref b_75), (.ref b72), (.ref b72)] _
      refine XS.iconst X75.here hx rfl (hb hby d23_19) ?_
      show SF p e below T75 m 20 _ [(.int (0 : Int32)), (.ref b_75), (.ref b72), (.ref b72)] _
      refine st79.trans ?_
      show SF p e below T79 m 23 #[vr x1, vi (Int32.ofNat sa), vi (Int32.ofNat ml)] [(.ref b72)] _
      jvm_step X79.here [X79.here.top, hx, (hb hby d23_23), X79.method', Bd.returns, Value.isRef, FieldType.isReference]
      first | (intro acts; rw [hr _ acts rfl rfl rfl]) | rw [hr _ _ rfl rfl rfl]
      exact Steps.refl _
    · show Q23 Z x1 ks f n sa ml h0 n0 _ T79.heap _
      exact ⟨b72, b_75, kk_75, rfl, N79, K79, Q79_0, Q79_1, Q79_2, V81⟩
theorem d38_0 : decode jdk_42_method_92_code 0 = .ok (.aload_n 0, 1) := by decide +kernel
theorem d38_1 : decode jdk_42_method_92_code 1 = .ok (.invokevirtual 505, 3) := by decide +kernel
theorem d38_4 : decode jdk_42_method_92_code 4 = .ok (.istore_n 3, 1) := by decide +kernel
theorem d38_5 : decode jdk_42_method_92_code 5 = .ok (.iload_n 1, 1) := by decide +kernel
theorem d38_6 : decode jdk_42_method_92_code 6 = .ok (.iload_n 2, 1) := by decide +kernel
theorem d38_7 : decode jdk_42_method_92_code 7 = .ok (.iload_n 3, 1) := by decide +kernel
theorem pd_10 : parseMethodDescriptor "(III)V" = some ⟨[.int, .int, .int], none⟩ := by decide +kernel
theorem d38_8 : decode jdk_42_method_92_code 8 = .ok (.invokestatic 521, 3) := by decide +kernel
theorem d38_11 : decode jdk_42_method_92_code 11 = .ok (.iload_n 1, 1) := by decide +kernel
theorem d38_12 : decode jdk_42_method_92_code 12 = .ok (.ifCond .ne 10, 3) := by decide +kernel
theorem d38_15 : decode jdk_42_method_92_code 15 = .ok (.iload_n 2, 1) := by decide +kernel
theorem d38_16 : decode jdk_42_method_92_code 16 = .ok (.iload_n 3, 1) := by decide +kernel
theorem d38_17 : decode jdk_42_method_92_code 17 = .ok (.if_icmp .ne 5, 3) := by decide +kernel
theorem d38_22 : decode jdk_42_method_92_code 22 = .ok (.iload_n 2, 1) := by decide +kernel
theorem d38_23 : decode jdk_42_method_92_code 23 = .ok (.iload_n 1, 1) := by decide +kernel
theorem d38_24 : decode jdk_42_method_92_code 24 = .ok (.isub, 1) := by decide +kernel
theorem d38_25 : decode jdk_42_method_92_code 25 = .ok (.istore 4, 2) := by decide +kernel
theorem d38_27 : decode jdk_42_method_92_code 27 = .ok (.aload_n 0, 1) := by decide +kernel
theorem d38_28 : decode jdk_42_method_92_code 28 = .ok (.invokevirtual 492, 3) := by decide +kernel
theorem d38_31 : decode jdk_42_method_92_code 31 = .ok (.ifCond .eq 16, 3) := by decide +kernel
theorem d38_34 : decode jdk_42_method_92_code 34 = .ok (.aload_n 0, 1) := by decide +kernel
theorem d38_35 : decode jdk_42_method_92_code 35 = .ok (.getfield 9, 3) := by decide +kernel
theorem d38_38 : decode jdk_42_method_92_code 38 = .ok (.iload_n 1, 1) := by decide +kernel
theorem d38_39 : decode jdk_42_method_92_code 39 = .ok (.iload 4, 2) := by decide +kernel
theorem pd_11 : parseMethodDescriptor "([BII)Ljava/lang/String;" = some ⟨[(.array .byte), .int, .int], some (.object "java/lang/String")⟩ := by decide +kernel
theorem d38_41 : decode jdk_42_method_92_code 41 = .ok (.invokestatic 685, 3) := by decide +kernel
theorem d38_44 : decode jdk_42_method_92_code 44 = .ok (.goto 13, 3) := by decide +kernel
theorem d38_57 : decode jdk_42_method_92_code 57 = .ok (.areturn, 1) := by decide +kernel
theorem ef38 (m : MethodId) (tz : Addr) : entryFrame m #[(.ref tz), (.int (0 : Int32)), (.int (Int32.ofNat ka))] 5 = mkF m 0 #[vr tz, vi (0 : Int32), vi (Int32.ofNat ka), un, un] [] := by first | (simp [entryFrame, mkF, argsToLocals, Value.category]; done) | rfl
def Q38 (Z : State) (tz : Addr) (tz_value : Addr) (ks : ClassId) (f : Nat → Int32) (n : Nat) (ka : Nat) (st_COMPACT_STRINGS : Int32) (st_fm : Value) (h0 : Heap) (n0 : Nat) (v : Option Value) (h : Heap) (L : List Loc) : Prop := ∃ (b : Addr), ∃ (t : Addr), ∃ (kk : ClassId), v = some (.ref b) ∧ Fr n0 L ∧ Keep h0 h [] ∧ Exa Z h b "java/lang/String" ∧ Fld Z h b "java/lang/String" "value" "[B" (.ref t) ∧ Fld Z h b "java/lang/String" "coder" "B" (.int (0 : Int32)) ∧ Arv Z h t kk .byte (Int32.ofNat ka) (own_fv f ka) (.int 0)
set_option maxRecDepth 65536 in
set_option maxHeartbeats 40000000 in
theorem rm38 (l : Launch) (Z : State) (a0 : Array Value) (hw : ∀ d ∈ tables_1, d.before a0 Z = true) (ws : List Jvm.Cond) (tz : Addr) (tz_value : Addr) (ks : ClassId) (f : Nat → Int32) (n : Nat) (ka : Nat) (st_COMPACT_STRINGS : Int32) (st_fm : Value) (h0 : Heap) (n0 : Nat) (Z0 : n0 ≤ h0.size) (O0 : Old Z n0 h0) (E_tz : Exa Z h0 tz "java/lang/String") (F_tz_value : Fld Z h0 tz "java/lang/String" "value" "[B" (.ref tz_value)) (F_tz_coder : Fld Z h0 tz "java/lang/String" "coder" "B" (.int (0 : Int32))) (V_tz_value : Arv Z h0 tz_value ks .byte (Int32.ofNat n) (own_fv f n) (.int 0)) (hk : ka < n) (hn : n ≤ 24) (S_COMPACT_STRINGS : Sta Z Z.heap "java/lang/String" "COMPACT_STRINGS" "Z" (.int st_COMPACT_STRINGS)) (hcomp : ¬ (st_COMPACT_STRINGS = (0 : Int32))) (S_fm : Sta Z Z.heap "jdk/internal/util/Preconditions" "SIOOBE_FORMATTER" "Ljava/util/function/BiFunction;" st_fm) (hfm : st_fm.isRef = true) :
    MetFree l (⟨"java/lang/String", "substring", "(II)Ljava/lang/String;"⟩ : MethodName) (head1 (Jvm.Cond.code (⟨"java/lang/String", "substring", "(II)Ljava/lang/String;"⟩ : MethodName) jdk_42_method_92_code 5 (some (.object "java/lang/String")) :: ws) ({ frames := 4, cells := 2, slots := 28, locals := 64 } : Room)) (fun a U => a = #[(.ref tz), (.int (0 : Int32)), (.int (Int32.ofNat ka))] ∧ Z.Warmed39 U.vm ∧ U.heap = h0 ∧ CHv Z own_EL U.vm h0) (fun _ _ _ _ _ => True) (fun _ U o U' => ∃ v L, o = .returned v ∧ Q38 Z tz tz_value ks f n ka st_COMPACT_STRINGS st_fm h0 n0 v U'.heap L ∧ CHr Z own_EL U.vm U.heap U'.vm U'.heap ∧ ReturnedEndW U o U' L ({ frames := 4, cells := 2, slots := 28, locals := 64 } : Room).cells ({ frames := 4, cells := 2, slots := 28, locals := 64 } : Room).slots) := by
  refine MetFree.of_bodySF (plainFor_of_name pn_java_lang_String) hisR ?_
  intro p e s m args below meth c s₁ Bd hml0 hP hK
  obtain ⟨rfl, hZ, hh, CH0⟩ := hP
  have hx := Bd.exec
  have hby := Bd.bytes
  have hml : c.maxLocals = 5 := hml0
  have hown : (s.setVm s.vm).vm.findClass "java/lang/String" = some m.cls := findClass_of_methodNamed Bd.named
  have hnm := (name_of_methodNamed Bd.named Bd.method).1
  have X0 : Stand p l e ({ frames := 4, cells := 2, slots := 28, locals := 64 } : Room) (s.setVm s.vm) m #[(.ref tz), (.int (0 : Int32)), (.int (Int32.ofNat ka))] below meth c s₁ [] 0 0 := Stand.of_body Bd
  have e0 : s₁.heap = h0 := by rw [← hh, Bd.state]; rfl
  have N0 := Fr.nil n0
  have K0 : Keep h0 h0 [] := Keep.refl _ _
  have pre0 : ∀ t, SF p e below s₁ m 0 #[vr tz, vi (0 : Int32), vi (Int32.ofNat ka), un, un] [] t → Steps p.tables e below (s₁.setTop (entryFrame m #[(.ref tz), (.int (0 : Int32)), (.int (Int32.ofNat ka))] 5)) t := fun t k => castTop (ef38 m tz) k
  have hZa : Z.Warmed39 (s.setVm s.vm).vm := hZ
  have howna : (s.setVm s.vm).vm.findClass "java/lang/String" = some m.cls := hown
  have hS0 : s.Since s.vm h0.size := (State.WarmedH.refl s).since _
  have hk0 : h0.size ≤ h0.size := Nat.le_refl _
  have CR0 : CHr Z own_EL s.vm h0 s.vm h0 := CHr.refl CH0
  obtain ⟨cq82, kq82, q82a, q82b, q82c⟩ := isOf hZa e0 E_tz
  obtain ⟨_, _, ⟨T82, L82, k82, n82⟩, -, X82, ⟨Lc82, hQ82, l82, y82, z82⟩, st82⟩ := X0.virtualBack hx (y := (⟨"java/lang/String", "length", "()I"⟩ : MethodName)) (z := (⟨"java/lang/String", "length", "()I"⟩ : MethodName)) howna (mvT hZa (own_wd hw 59 rfl)) (mvT hZa (own_wd hw 60 rfl)) (notFace_of_selects (args := #[]) (mvT hZa (own_wd hw 62 rfl))) (mvT hZa (own_wd hw 62 rfl)) (mvT hZa (own_wd hw 61 rfl)) (by decide) (backOf (W := 0) (rm14 l Z a0 hw [] tz tz_value ks f n st_COMPACT_STRINGS h0 n0 Z0 O0 E_tz F_tz_value F_tz_coder V_tz_value S_COMPACT_STRINGS hcomp) hZa (own_wd hw 63 rfl) (own_wd hw 10 rfl) (by decide) (by decide)) q82a q82c (g := (mkF m 1 #[vr tz, vi (0 : Int32), vi (Int32.ofNat ka), un, un] [(.ref tz)])) rfl (by rw [hml]; rfl) (Steps.refl _) (argsL := []) (rest := []) (lenOf pd_5 rfl) rfl (by show 2 * 0 + _ ≤ _; exact Nat.le_of_eq rfl) (hb hby d38_1) (fun _ _ => ⟨rfl, e0, (by decide : 0 + 0 ≤ _), (by decide : 0 + 0 ≤ _)⟩)
  dsimp only [Pt.U, Pt.locs, Pt.cells, Pt.slots] at X82 l82 y82 z82 st82 hQ82
  subst y82 z82
  obtain ⟨rfl, N82q, eh82⟩ := hQ82
  have N82 : Fr n0 L82 := by rw [l82]; exact Fr.app N0 N82q
  have pp83 : ¬ ((Int32.ofNat n) < (Int32.ofNat ka)) := own_le (by omega) (by omega)
  have pp84 : ¬ ((Int32.ofNat ka) < (0 : Int32)) := own_nn (by omega)
  obtain ⟨_, _, ⟨T85, L85, k85, n85⟩, -, X85, ⟨Lc85, hQ85, l85, y85, z85⟩, st85⟩ := Jvm.LawKit.callS X82 hx (y := (⟨"java/lang/String", "checkBoundsBeginEnd", "(III)V"⟩ : MethodName)) howna (mvT hZa (own_wd hw 184 rfl)) (mvT hZa (own_wd hw 185 rfl)) (mvT hZa (own_wd hw 10 rfl)) (mvT hZa (own_wd hw 186 rfl)) (by decide) (backOf (W := 0) (rm39 l Z a0 hw [] (Int32.ofNat ka) (Int32.ofNat n) st_fm h0 n0 Z0 O0 pp83 pp84 S_fm hfm) hZa (own_wd hw 186 rfl) (own_wd hw 10 rfl) (by decide) (by decide)) (g := (mkF m 8 #[vr tz, vi (0 : Int32), vi (Int32.ofNat ka), vi (Int32.ofNat n), un] [(.int (Int32.ofNat n)), (.int (Int32.ofNat ka)), (.int (0 : Int32))])) rfl (by rw [hml]; rfl) (argsL := [(.int (0 : Int32)), (.int (Int32.ofNat ka)), (.int (Int32.ofNat n))]) (rest := []) (lenOf pd_10 rfl) rfl (by show 2 * 0 + _ ≤ _; exact Nat.le_of_eq rfl) (hb hby d38_8) (fun _ _ => ⟨rfl, eh82, (by decide : 0 + 0 ≤ _), (by decide : 0 + 0 ≤ _)⟩)
  dsimp only [Pt.U, Pt.locs, Pt.cells, Pt.slots] at X85 l85 y85 z85 st85 hQ85
  subst y85 z85
  obtain ⟨rfl, N85q, eh85⟩ := hQ85
  have N85 : Fr n0 L85 := by rw [l85]; exact Fr.app N82 N85q
  have pre86 := fun t (kt : SF p e below T85 m 17 #[vr tz, vi (0 : Int32), vi (Int32.ofNat ka), vi (Int32.ofNat n), un] [(.int (Int32.ofNat n)), (.int (Int32.ofNat ka))] t) => pre0 t (by
    refine XS.aloadN X0.here hx rfl (hb hby d38_0) rfl rfl ?_
    show SF p e below s₁ m 1 _ [(.ref tz)] _
    refine st82.trans ?_
    show SF p e below T82 m 4 #[vr tz, vi (0 : Int32), vi (Int32.ofNat ka), un, un] [(.int (Int32.ofNat n))] _
    refine XS.istoreN X82.here hx rfl (hb hby d38_4) rfl (l' := #[vr tz, vi (0 : Int32), vi (Int32.ofNat ka), vi (Int32.ofNat n), un]) rfl ?_
    refine XS.iloadN X82.here hx rfl (hb hby d38_5) rfl ?_
    refine XS.iloadN X82.here hx rfl (hb hby d38_6) rfl ?_
    refine XS.iloadN X82.here hx rfl (hb hby d38_7) rfl ?_
    show SF p e below T82 m 8 _ [(.int (Int32.ofNat n)), (.int (Int32.ofNat ka)), (.int (0 : Int32))] _
    refine st85 _ ?_
    show SF p e below T85 m 11 #[vr tz, vi (0 : Int32), vi (Int32.ofNat ka), vi (Int32.ofNat n), un] [] _
    refine XS.iloadN X85.here hx rfl (hb hby d38_11) rfl ?_
    refine XS.ifNo X85.here hx rfl (hb hby d38_12) rfl ((if0 _ _).trans (teq (by decide : (0 : Int32) = (0 : Int32))).2) ?_
    refine XS.iloadN X85.here hx rfl (hb hby d38_15) rfl ?_
    refine XS.iloadN X85.here hx rfl (hb hby d38_16) rfl ?_
    exact kt)
  by_cases hc17 : (Int32.ofNat ka) = (Int32.ofNat n)
  · skip
    have nf87 : (ka = n) := (own_eq (i := ka) (n := n) (by omega) (by omega)).mp hc17
    exact False.elim (by omega)
  · skip
    have nf88 : ¬ (ka = n) := fun zq => hc17 ((own_eq (i := ka) (n := n) (by omega) (by omega)).mpr zq)
    have rn89 : ((Int32.ofNat ka) - (0 : Int32)) = (Int32.ofNat ka) := Int32.sub_zero _
    obtain ⟨cq90, kq90, q90a, q90b, q90c⟩ := isOf hZa eh85 E_tz
    obtain ⟨_, _, ⟨T90, L90, k90, n90⟩, -, X90, ⟨Lc90, hQ90, l90, y90, z90⟩, st90⟩ := X85.virtualBack hx (y := (⟨"java/lang/String", "isLatin1", "()Z"⟩ : MethodName)) (z := (⟨"java/lang/String", "isLatin1", "()Z"⟩ : MethodName)) howna (mvT hZa (own_wd hw 54 rfl)) (mvT hZa (own_wd hw 55 rfl)) (notFace_of_selects (args := #[]) (mvT hZa (own_wd hw 57 rfl))) (mvT hZa (own_wd hw 57 rfl)) (mvT hZa (own_wd hw 56 rfl)) (by decide) (backOf (W := 0) (rm13 l Z a0 hw [] tz st_COMPACT_STRINGS h0 n0 Z0 O0 F_tz_coder S_COMPACT_STRINGS hcomp) hZa (own_wd hw 58 rfl) (own_wd hw 10 rfl) (by decide) (by decide)) q90a q90c (g := (mkF m 28 #[vr tz, vi (0 : Int32), vi (Int32.ofNat ka), vi (Int32.ofNat n), vi (Int32.ofNat ka)] [(.ref tz)])) rfl (by rw [hml]; rfl) (Steps.refl _) (argsL := []) (rest := []) (lenOf pd_4 rfl) rfl (by show 2 * 0 + _ ≤ _; exact Nat.le_of_eq rfl) (hb hby d38_28) (fun _ _ => ⟨rfl, eh85, (by decide : 0 + 0 ≤ _), (by decide : 0 + 0 ≤ _)⟩)
    dsimp only [Pt.U, Pt.locs, Pt.cells, Pt.slots] at X90 l90 y90 z90 st90 hQ90
    subst y90 z90
    obtain ⟨rfl, N90q, eh90⟩ := hQ90
    have N90 : Fr n0 L90 := by rw [l90]; exact Fr.app N85 N90q
    obtain ⟨T91, X91, e91, st91⟩ := getF X90 hx hZa howna (host := "") (Or.inl (own_wd hw 35 rfl)) Via.refl eh90 F_tz_value (g := (mkF m 35 #[vr tz, vi (0 : Int32), vi (Int32.ofNat ka), vi (Int32.ofNat n), vi (Int32.ofNat ka)] [(.ref tz)])) rfl rfl (hb hby d38_35)
    obtain ⟨_, _, ⟨T92, L92, k92, n92⟩, -, X92, hS92, hg92, ⟨Lc92, hQ92, l92, y92, z92, R92⟩, st92⟩ := callSS X91 hx (y := (⟨"java/lang/StringLatin1", "newString", "([BII)Ljava/lang/String;"⟩ : MethodName)) howna (mvT hZa (own_wd hw 192 rfl)) (mvT hZa (own_wd hw 95 rfl)) (mvT hZa (own_wd hw 71 rfl)) (mvT hZa (own_wd hw 96 rfl)) (by decide) (backOfSH (s := s) (vm0 := s.vm) (W := 0) (rm23 l Z a0 hw [] tz_value ks f n 0 ka h0 n0 Z0 O0 V_tz_value (by omega) (by omega) (by omega)) hZa (own_wd hw 96 rfl) (own_wd hw 71 rfl) (by decide) (by decide) (own_EW hw) CH0) (g := (mkF m 41 #[vr tz, vi (0 : Int32), vi (Int32.ofNat ka), vi (Int32.ofNat n), vi (Int32.ofNat ka)] [(.int (Int32.ofNat ka)), (.int (0 : Int32)), (.ref tz_value)])) rfl (by rw [hml]; rfl) (argsL := [(.ref tz_value), (.int (0 : Int32)), (.int (Int32.ofNat ka))]) (rest := []) (lenOf pd_11 rfl) rfl (by show 2 * 0 + _ ≤ _; exact Nat.le_of_eq rfl) (hb hby d38_41) (fun _ _ => ⟨rfl, e91, (by decide : 0 + 2 ≤ _), (by decide : 0 + 28 ≤ _)⟩)
    dsimp only [Pt.U, Pt.locs, Pt.cells, Pt.slots] at X92 l92 y92 z92 st92 hQ92 hS92 hg92 R92
    subst y92 z92
    obtain ⟨X92, hS92, hZ92, hown92⟩ := rebS hS0 hk0 X92 hS92 (by rw [← e91]; exact hg92) hZa howna
    obtain ⟨b_92, t_92, kk_92, rfl, N92q, KK92, Q92_0, Q92_1, Q92_2, Q92_3⟩ := hQ92
    have N92 : Fr n0 L92 := by rw [l92]; exact Fr.app N90 N92q
    have O92 : Old Z n0 T92.heap := O0.keep KK92 all0
    have Z92 : n0 ≤ T92.heap.size := Nat.le_trans Z0 KK92.1
    have K92 : Keep h0 T92.heap [] := K0.trans KK92 all0
    have CH92 : CHv Z own_EL T92.vm T92.heap := R92.1
    have CR92 : CHr Z own_EL s.vm h0 T92.vm T92.heap := CR0.trans R92
    obtain ⟨fs, hr, hrun, hended, hW, hsame⟩ := X92.leave (v := some (.ref b_92)) (fun h => by rw [Bd.returns] at h; cases h)
    have hend := hS92.ended hW (show _ ≤ T92.heap.size from (Nat.le_refl _)) hsame
    have hcr : CHr Z own_EL s.vm s.heap T92.vm T92.heap := by
      rw [hh]
      exact CR92.trans (CHv.at X92 hZ92 (own_EW hw) CH92)
    refine ⟨_, _, pre86 _ ?_, hrun, hended, _, _, rfl, ?_, hcr, ⟨_, rfl⟩, hend.1, hend.2.1, hend.2.2.mono (by decide) (by decide)⟩
    · show SF p e below T85 m 17 #[vr tz, vi (0 : Int32), vi (Int32.ofNat ka), vi (Int32.ofNat n), un] [(.int (Int32.ofNat n)), (.int (Int32.ofNat ka))] _
      refine XS.icmpYes X85.here hx rfl (pc0 := 17) (pc' := 22) rfl (hb hby d38_17) rfl (feq hc17).2 (by decide) (by decide) ?_
      refine XS.iloadN X85.here hx rfl (hb hby d38_22) rfl ?_
      show SF p e below T85 m 23 _ [(.int (Int32.ofNat ka))] _
      refine XS.iloadN X85.here hx rfl (hb hby d38_23) rfl ?_
      refine XS.isub X85.here hx rfl (hb hby d38_24) rfl ?_
      show SF p e below T85 m 25 _ [(.int ((Int32.ofNat ka) - (0 : Int32)))] _
      rw [rn89]
      refine XS.istore X85.here hx rfl (hb hby d38_25) rfl (l' := #[vr tz, vi (0 : Int32), vi (Int32.ofNat ka), vi (Int32.ofNat n), vi (Int32.ofNat ka)]) rfl ?_
      refine XS.aloadN X85.here hx rfl (hb hby d38_27) rfl rfl ?_
      show SF p e below T85 m 28 _ [(.ref tz)] _
      refine st90.trans ?_
      show SF p e below T90 m 31 #[vr tz, vi (0 : Int32), vi (Int32.ofNat ka), vi (Int32.ofNat n), vi (Int32.ofNat ka)] [(.int (1 : Int32))] _
      refine XS.ifNo X90.here hx rfl (hb hby d38_31) rfl ((if0 _ _).trans (feq (by decide : ¬ ((1 : Int32) = (0 : Int32)))).1) ?_
      refine XS.aloadN X90.here hx rfl (hb hby d38_34) rfl rfl ?_
      show SF p e below T90 m 35 _ [(.ref tz)] _
      refine st91 _ ?_
      show SF p e below T91 m 38 #[vr tz, vi (0 : Int32), vi (Int32.ofNat ka), vi (Int32.ofNat n), vi (Int32.ofNat ka)] [(.ref tz_value)] _
      refine XS.iloadN X91.here hx rfl (hb hby d38_38) rfl ?_
      refine XS.iload X91.here hx rfl (hb hby d38_39) rfl ?_
      show SF p e below T91 m 41 _ [(.int (Int32.ofNat ka)), (.int (0 : Int32)), (.ref tz_value)] _
      refine st92.trans ?_
      show SF p e below T92 m 44 #[vr tz, vi (0 : Int32), vi (Int32.ofNat ka), vi (Int32.ofNat n), vi (Int32.ofNat ka)] [(.ref b_92)] _
      refine XS.goto X92.here hx rfl (pc0 := 44) (pc' := 57) rfl (hb hby d38_44) (by decide) (by decide) ?_
      show SF p e below T92 m 57 _ [(.ref b_92)] _
      jvm_step X92.here [X92.here.top, hx, (hb hby d38_57), X92.method', Bd.returns, Value.isRef, FieldType.isReference]
      first | (intro acts; rw [hr _ acts rfl rfl rfl]) | rw [hr _ _ rfl rfl rfl]
      exact Steps.refl _
    · show Q38 Z tz tz_value ks f n ka st_COMPACT_STRINGS st_fm h0 n0 _ T92.heap _
      exact ⟨b_92, t_92, kk_92, rfl, N92, K92, Q92_0, Q92_1, Q92_2, (by have q := Q92_3; rw [own_sh0] at q; exact q)⟩
theorem d22_0 : decode jdk_43_method_36_code 0 = .ok (.aload_n 0, 1) := by decide +kernel
theorem d22_1 : decode jdk_43_method_36_code 1 = .ok (.arraylength, 1) := by decide +kernel
theorem d22_2 : decode jdk_43_method_36_code 2 = .ok (.istore_n 1, 1) := by decide +kernel
theorem d22_3 : decode jdk_43_method_36_code 3 = .ok (.iconst 0, 1) := by decide +kernel
theorem d22_4 : decode jdk_43_method_36_code 4 = .ok (.istore_n 2, 1) := by decide +kernel
theorem d22_5 : decode jdk_43_method_36_code 5 = .ok (.iload_n 2, 1) := by decide +kernel
theorem d22_6 : decode jdk_43_method_36_code 6 = .ok (.iload_n 1, 1) := by decide +kernel
theorem d22_7 : decode jdk_43_method_36_code 7 = .ok (.if_icmp .ge 21, 3) := by decide +kernel
theorem d22_10 : decode jdk_43_method_36_code 10 = .ok (.aload_n 0, 1) := by decide +kernel
theorem d22_11 : decode jdk_43_method_36_code 11 = .ok (.iload_n 2, 1) := by decide +kernel
theorem d22_12 : decode jdk_43_method_36_code 12 = .ok (.baload, 1) := by decide +kernel
theorem d22_13 : decode jdk_43_method_36_code 13 = .ok (.sipush 255, 3) := by decide +kernel
theorem d22_16 : decode jdk_43_method_36_code 16 = .ok (.iand, 1) := by decide +kernel
theorem d22_17 : decode jdk_43_method_36_code 17 = .ok (.bipush 32, 2) := by decide +kernel
theorem d22_19 : decode jdk_43_method_36_code 19 = .ok (.if_icmp .gt 9, 3) := by decide +kernel
theorem d22_28 : decode jdk_43_method_36_code 28 = .ok (.iload_n 2, 1) := by decide +kernel
theorem d22_29 : decode jdk_43_method_36_code 29 = .ok (.iload_n 1, 1) := by decide +kernel
theorem d22_30 : decode jdk_43_method_36_code 30 = .ok (.if_icmp .ge 23, 3) := by decide +kernel
theorem d22_33 : decode jdk_43_method_36_code 33 = .ok (.aload_n 0, 1) := by decide +kernel
theorem d22_34 : decode jdk_43_method_36_code 34 = .ok (.iload_n 1, 1) := by decide +kernel
theorem d22_35 : decode jdk_43_method_36_code 35 = .ok (.iconst 1, 1) := by decide +kernel
theorem d22_36 : decode jdk_43_method_36_code 36 = .ok (.isub, 1) := by decide +kernel
theorem d22_37 : decode jdk_43_method_36_code 37 = .ok (.baload, 1) := by decide +kernel
theorem d22_38 : decode jdk_43_method_36_code 38 = .ok (.sipush 255, 3) := by decide +kernel
theorem d22_41 : decode jdk_43_method_36_code 41 = .ok (.iand, 1) := by decide +kernel
theorem d22_42 : decode jdk_43_method_36_code 42 = .ok (.bipush 32, 2) := by decide +kernel
theorem d22_44 : decode jdk_43_method_36_code 44 = .ok (.if_icmp .gt 9, 3) := by decide +kernel
theorem d22_53 : decode jdk_43_method_36_code 53 = .ok (.iload_n 2, 1) := by decide +kernel
theorem d22_54 : decode jdk_43_method_36_code 54 = .ok (.ifCond .gt 9, 3) := by decide +kernel
theorem d22_57 : decode jdk_43_method_36_code 57 = .ok (.iload_n 1, 1) := by decide +kernel
theorem d22_58 : decode jdk_43_method_36_code 58 = .ok (.aload_n 0, 1) := by decide +kernel
theorem d22_59 : decode jdk_43_method_36_code 59 = .ok (.arraylength, 1) := by decide +kernel
theorem d22_60 : decode jdk_43_method_36_code 60 = .ok (.if_icmp .ge 14, 3) := by decide +kernel
theorem d22_74 : decode jdk_43_method_36_code 74 = .ok (.aconst_null, 1) := by decide +kernel
theorem d22_75 : decode jdk_43_method_36_code 75 = .ok (.areturn, 1) := by decide +kernel
theorem d22_47 : decode jdk_43_method_36_code 47 = .ok (.iinc 1 (-1), 3) := by decide +kernel
theorem d22_50 : decode jdk_43_method_36_code 50 = .ok (.goto (-22), 3) := by decide +kernel
theorem d22_22 : decode jdk_43_method_36_code 22 = .ok (.iinc 2 1, 3) := by decide +kernel
theorem d22_25 : decode jdk_43_method_36_code 25 = .ok (.goto (-20), 3) := by decide +kernel
theorem ef22_a (m : MethodId) (x1 : Addr) : entryFrame m #[(.ref x1)] 3 = mkF m 0 #[vr x1, un, un] [] := by first | (simp [entryFrame, mkF, argsToLocals, Value.category]; done) | rfl
def Q22_a (Z : State) (x1 : Addr) (ks : ClassId) (f : Nat → Int32) (n : Nat) (h0 : Heap) (n0 : Nat) (v : Option Value) (h : Heap) (L : List Loc) : Prop := v = some .null ∧ Fr n0 L ∧ h = h0
set_option maxRecDepth 65536 in
set_option maxHeartbeats 40000000 in
theorem rm22_a (l : Launch) (Z : State) (a0 : Array Value) (hw : ∀ d ∈ tables_1, d.before a0 Z = true) (ws : List Jvm.Cond) (x1 : Addr) (ks : ClassId) (f : Nat → Int32) (n : Nat) (h0 : Heap) (n0 : Nat) (Z0 : n0 ≤ h0.size) (O0 : Old Z n0 h0) (V_x1 : Arv Z h0 x1 ks .byte (Int32.ofNat n) (own_fv f n) (.int 0)) (hp : ∀ j, j < n → ¬ f j < 0 ∧ ¬ (255 : Int32) < f j) (hn : n ≤ 24) (hwh : own_whole f n) :
    MetFree l (⟨"java/lang/StringLatin1", "trim", "([B)Ljava/lang/String;"⟩ : MethodName) (head1 (Jvm.Cond.code (⟨"java/lang/StringLatin1", "trim", "([B)Ljava/lang/String;"⟩ : MethodName) jdk_43_method_36_code 3 (some (.object "java/lang/String")) :: ws) ({ frames := 0, cells := 0, slots := 0, locals := 0 } : Room)) (fun a U => a = #[(.ref x1)] ∧ Z.Warmed39 U.vm ∧ U.heap = h0) (fun _ _ _ _ _ => True) (fun _ U o U' => ∃ v L, o = .returned v ∧ Q22_a Z x1 ks f n h0 n0 v U'.heap L ∧ FrameEnd U o U' L ({ frames := 0, cells := 0, slots := 0, locals := 0 } : Room).cells ({ frames := 0, cells := 0, slots := 0, locals := 0 } : Room).slots) := by
  refine MetFree.of_bodySF (plainFor_of_name pn_java_lang_StringLatin1) hisR ?_
  intro p e s m args below meth c s₁ Bd hml0 hP hK
  obtain ⟨rfl, hZ, hh⟩ := hP
  have hx := Bd.exec
  have hby := Bd.bytes
  have hml : c.maxLocals = 3 := hml0
  have hown : s.vm.findClass "java/lang/StringLatin1" = some m.cls := findClass_of_methodNamed Bd.named
  have hnm := (name_of_methodNamed Bd.named Bd.method).1
  have X0 : Stand p l e ({ frames := 0, cells := 0, slots := 0, locals := 0 } : Room) s m #[(.ref x1)] below meth c s₁ [] 0 0 := Stand.of_body Bd
  have e0 : s₁.heap = h0 := by rw [← hh, Bd.state]; rfl
  have N0 := Fr.nil n0
  have K0 : Keep h0 h0 [] := Keep.refl _ _
  have pre0 : ∀ t, SF p e below s₁ m 0 #[vr x1, un, un] [] t → Steps p.tables e below (s₁.setTop (entryFrame m #[(.ref x1)] 3)) t := fun t k => castTop (ef22_a m x1) k
  obtain ⟨cl_a93, Ar_a93, -, S_a93, N_a93, -, -⟩ := id V_x1
  have pre94 := fun t (kt : SF p e below s₁ m 5 #[vr x1, vi (Int32.ofNat n), vi (0 : Int32)] [] t) => pre0 t (by
    refine XS.aloadN X0.here hx rfl (hb hby d22_0) rfl rfl ?_
    show SF p e below s₁ m 1 _ [(.ref x1)] _
    refine X0.arraylength hx (by rw [e0]; exact Ar_a93.1) (State.isArrayOf_alike hZ.alike Ar_a93.2.1) (g := (mkF m 1 #[vr x1, un, un] [(.ref x1)])) rfl rfl (hb hby d22_1) _ ?_
    rw [len_of S_a93 N_a93]
    refine XS.istoreN X0.here hx rfl (hb hby d22_2) rfl (l' := #[vr x1, vi (Int32.ofNat n), un]) rfl ?_
    refine XS.iconst X0.here hx rfl (hb hby d22_3) ?_
    refine XS.istoreN X0.here hx rfl (hb hby d22_4) rfl (l' := #[vr x1, vi (Int32.ofNat n), vi (0 : Int32)]) rfl ?_
    exact kt)
  refine own_ind (A := Nat) (fun i_95 => n - i_95) (fun i_95 T95 L95 h95 => (i_95 ≤ n) ∧ (∀ j, j < i_95 → ¬ (32 : Int32) < f j) ∧ Stand p l e ({ frames := 0, cells := 0, slots := 0, locals := 0 } : Room) s m #[(.ref x1)] below meth c T95 L95 0 0 ∧ T95.heap = h0 ∧ Fr n0 L95 ∧ ∀ t, SF p e below T95 m 5 #[vr x1, vi (Int32.ofNat n), vi (Int32.ofNat i_95)] [] t → Steps p.tables e below (s₁.setTop (entryFrame m #[(.ref x1)] 3)) t) ?_ 0 s₁ _ h0 ⟨(by omega), (fun j hj => absurd hj (by omega)), X0, e0, N0, pre94⟩
  rintro i_95 T95 L95 h95 ⟨hi_95, hl_95, X95, e95, N95, pre95⟩ ih95
  have pre96 := fun t (kt : SF p e below T95 m 7 #[vr x1, vi (Int32.ofNat n), vi (Int32.ofNat i_95)] [(.int (Int32.ofNat n)), (.int (Int32.ofNat i_95))] t) => pre95 t (by
    refine XS.iloadN X95.here hx rfl (hb hby d22_5) rfl ?_
    refine XS.iloadN X95.here hx rfl (hb hby d22_6) rfl ?_
    exact kt)
  by_cases hc7 : (Int32.ofNat i_95) < (Int32.ofNat n)
  · skip
    have nf97 : (i_95 < n) := (own_lt (i := i_95) (n := n) (by omega) (by omega)).mp hc7
    obtain ⟨cl_a98, Ar_a98, -, S_a98, N_a98, H_a98, -⟩ := id V_x1
    obtain ⟨hin_a98, hat_a98⟩ := own_rd (j := (Int32.ofNat i_95)) (i := i_95) S_a98 H_a98 rfl (by omega) (by omega)
    have rn99 : ((own_by (f i_95)) &&& (255 : Int32)) = (f i_95) := own_b255 (hp _ (by omega))
    have pre100 := fun t (kt : SF p e below T95 m 19 #[vr x1, vi (Int32.ofNat n), vi (Int32.ofNat i_95)] [(.int (32 : Int32)), (.int (f i_95))] t) => pre96 t (by
      refine XS.icmpNo X95.here hx rfl (hb hby d22_7) rfl (tlt hc7).2.1 ?_
      refine XS.aloadN X95.here hx rfl (hb hby d22_10) rfl rfl ?_
      refine XS.iloadN X95.here hx rfl (hb hby d22_11) rfl ?_
      show SF p e below T95 m 12 _ [(.int (Int32.ofNat i_95)), (.ref x1)] _
      refine X95.baloadBytes hx (j := (Int32.ofNat i_95)) (v := (.int (own_by (f i_95)))) (by rw [e95]; exact Ar_a98.1) (State.isArrayOf_alike hZ.alike Ar_a98.2.1) Ar_a98.2.2 hin_a98 hat_a98 (g := (mkF m 12 #[vr x1, vi (Int32.ofNat n), vi (Int32.ofNat i_95)] [(.int (Int32.ofNat i_95)), (.ref x1)])) rfl rfl (hb hby d22_12) _ ?_
      refine XS.sipush X95.here hx rfl (hb hby d22_13) ?_
      refine XS.iand X95.here hx rfl (hb hby d22_16) rfl ?_
      show SF p e below T95 m 17 _ [(.int ((own_by (f i_95)) &&& (255 : Int32)))] _
      rw [rn99]
      refine XS.bipush X95.here hx rfl (hb hby d22_17) ?_
      exact kt)
    by_cases hc19 : (32 : Int32) < (f i_95)
    · skip
      have pre101 := fun t (kt : SF p e below T95 m 28 #[vr x1, vi (Int32.ofNat n), vi (Int32.ofNat i_95)] [] t) => pre100 t (by
        refine XS.icmpYes X95.here hx rfl (pc0 := 19) (pc' := 28) rfl (hb hby d22_19) rfl (tlt hc19).2.2.1 (by decide) (by decide) ?_
        exact kt)
      refine own_ind (A := Nat) (fun q_102 => q_102) (fun q_102 T102 L102 h102 => (q_102 ≤ n) ∧ (i_95 ≤ q_102) ∧ (∀ j, q_102 ≤ j → j < n → ¬ (32 : Int32) < f j) ∧ Stand p l e ({ frames := 0, cells := 0, slots := 0, locals := 0 } : Room) s m #[(.ref x1)] below meth c T102 L102 0 0 ∧ T102.heap = h0 ∧ Fr n0 L102 ∧ ∀ t, SF p e below T102 m 28 #[vr x1, vi (Int32.ofNat q_102), vi (Int32.ofNat i_95)] [] t → Steps p.tables e below (s₁.setTop (entryFrame m #[(.ref x1)] 3)) t) ?_ n T95 _ h0 ⟨(by omega), (by omega), (fun j h1 h2 => absurd h2 (by omega)), X95, e95, N95, pre101⟩
      rintro q_102 T102 L102 h102 ⟨hq_102, hiq_102, hr_102, X102, e102, N102, pre102⟩ ih102
      have pre103 := fun t (kt : SF p e below T102 m 30 #[vr x1, vi (Int32.ofNat q_102), vi (Int32.ofNat i_95)] [(.int (Int32.ofNat q_102)), (.int (Int32.ofNat i_95))] t) => pre102 t (by
        refine XS.iloadN X102.here hx rfl (hb hby d22_28) rfl ?_
        refine XS.iloadN X102.here hx rfl (hb hby d22_29) rfl ?_
        exact kt)
      by_cases hc30 : (Int32.ofNat i_95) < (Int32.ofNat q_102)
      · skip
        have nf104 : (i_95 < q_102) := (own_lt (i := i_95) (n := q_102) (by omega) (by omega)).mp hc30
        have rn105 : ((Int32.ofNat q_102) - (1 : Int32)) = (Int32.ofNat (q_102 - 1)) := own_pred (by omega)
        obtain ⟨cl_a106, Ar_a106, -, S_a106, N_a106, H_a106, -⟩ := id V_x1
        obtain ⟨hin_a106, hat_a106⟩ := own_rd (j := (Int32.ofNat (q_102 - 1))) (i := (q_102 - 1)) S_a106 H_a106 rfl (by omega) (by omega)
        have rn107 : ((own_by (f (q_102 - 1))) &&& (255 : Int32)) = (f (q_102 - 1)) := own_b255 (hp _ (by omega))
        have pre108 := fun t (kt : SF p e below T102 m 44 #[vr x1, vi (Int32.ofNat q_102), vi (Int32.ofNat i_95)] [(.int (32 : Int32)), (.int (f (q_102 - 1)))] t) => pre103 t (by
          refine XS.icmpNo X102.here hx rfl (hb hby d22_30) rfl (tlt hc30).2.1 ?_
          refine XS.aloadN X102.here hx rfl (hb hby d22_33) rfl rfl ?_
          refine XS.iloadN X102.here hx rfl (hb hby d22_34) rfl ?_
          refine XS.iconst X102.here hx rfl (hb hby d22_35) ?_
          show SF p e below T102 m 36 _ [(.int (1 : Int32)), (.int (Int32.ofNat q_102)), (.ref x1)] _
          refine XS.isub X102.here hx rfl (hb hby d22_36) rfl ?_
          show SF p e below T102 m 37 _ [(.int ((Int32.ofNat q_102) - (1 : Int32))), (.ref x1)] _
          rw [rn105]
          show SF p e below T102 m 37 _ [(.int (Int32.ofNat (q_102 - 1))), (.ref x1)] _
          refine X102.baloadBytes hx (j := (Int32.ofNat (q_102 - 1))) (v := (.int (own_by (f (q_102 - 1))))) (by rw [e102]; exact Ar_a106.1) (State.isArrayOf_alike hZ.alike Ar_a106.2.1) Ar_a106.2.2 hin_a106 hat_a106 (g := (mkF m 37 #[vr x1, vi (Int32.ofNat q_102), vi (Int32.ofNat i_95)] [(.int (Int32.ofNat (q_102 - 1))), (.ref x1)])) rfl rfl (hb hby d22_37) _ ?_
          refine XS.sipush X102.here hx rfl (hb hby d22_38) ?_
          refine XS.iand X102.here hx rfl (hb hby d22_41) rfl ?_
          show SF p e below T102 m 42 _ [(.int ((own_by (f (q_102 - 1))) &&& (255 : Int32)))] _
          rw [rn107]
          refine XS.bipush X102.here hx rfl (hb hby d22_42) ?_
          exact kt)
        by_cases hc44 : (32 : Int32) < (f (q_102 - 1))
        · skip
          have tr109 : own_tr f n i_95 q_102 := ⟨by omega, by omega, hl_95, hr_102, Or.inl ⟨by omega, hc19, hc44⟩⟩
          have pre110 := fun t (kt : SF p e below T102 m 54 #[vr x1, vi (Int32.ofNat q_102), vi (Int32.ofNat i_95)] [(.int (Int32.ofNat i_95))] t) => pre108 t (by
            refine XS.icmpYes X102.here hx rfl (pc0 := 44) (pc' := 53) rfl (hb hby d22_44) rfl (tlt hc44).2.2.1 (by decide) (by decide) ?_
            refine XS.iloadN X102.here hx rfl (hb hby d22_53) rfl ?_
            exact kt)
          by_cases hc54 : (0 : Int32) < (Int32.ofNat i_95)
          · skip
            have nf111 : (0 < i_95) := (own_lt (i := 0) (n := i_95) (by omega) (by omega)).mp hc54
            exact False.elim (by have q := own_whole_tr hwh tr109; omega)
          · skip
            have nf112 : ¬ (0 < i_95) := fun zq => hc54 ((own_lt (i := 0) (n := i_95) (by omega) (by omega)).mpr zq)
            obtain ⟨cl_a113, Ar_a113, -, S_a113, N_a113, -, -⟩ := id V_x1
            have pre114 := fun t (kt : SF p e below T102 m 60 #[vr x1, vi (Int32.ofNat q_102), vi (Int32.ofNat i_95)] [(.int (Int32.ofNat n)), (.int (Int32.ofNat q_102))] t) => pre110 t (by
              refine XS.ifNo X102.here hx rfl (hb hby d22_54) rfl ((if0 _ _).trans (flt hc54).2.2.1) ?_
              refine XS.iloadN X102.here hx rfl (hb hby d22_57) rfl ?_
              refine XS.aloadN X102.here hx rfl (hb hby d22_58) rfl rfl ?_
              show SF p e below T102 m 59 _ [(.ref x1), (.int (Int32.ofNat q_102))] _
              refine X102.arraylength hx (by rw [e102]; exact Ar_a113.1) (State.isArrayOf_alike hZ.alike Ar_a113.2.1) (g := (mkF m 59 #[vr x1, vi (Int32.ofNat q_102), vi (Int32.ofNat i_95)] [(.ref x1), (.int (Int32.ofNat q_102))])) rfl rfl (hb hby d22_59) _ ?_
              rw [len_of S_a113 N_a113]
              exact kt)
            by_cases hc60 : (Int32.ofNat q_102) < (Int32.ofNat n)
            · skip
              have nf115 : (q_102 < n) := (own_lt (i := q_102) (n := n) (by omega) (by omega)).mp hc60
              exact False.elim (by have q := own_whole_tr hwh tr109; omega)
            · skip
              have nf116 : ¬ (q_102 < n) := fun zq => hc60 ((own_lt (i := q_102) (n := n) (by omega) (by omega)).mpr zq)
              obtain ⟨fs, hr, hrun, hended, hW, hsame⟩ := X102.leave (v := some .null) (fun h => by rw [Bd.returns] at h; cases h)
              refine ⟨_, _, pre114 _ ?_, hrun, hended, _, _, rfl, ?_, ⟨_, rfl⟩, hW, hsame.mono (by decide) (by decide)⟩
              · show SF p e below T102 m 60 #[vr x1, vi (Int32.ofNat q_102), vi (Int32.ofNat i_95)] [(.int (Int32.ofNat n)), (.int (Int32.ofNat q_102))] _
                refine XS.icmpYes X102.here hx rfl (pc0 := 60) (pc' := 74) rfl (hb hby d22_60) rfl (flt hc60).2.1 (by decide) (by decide) ?_
                refine XS.aconstNull X102.here hx rfl (hb hby d22_74) ?_
                show SF p e below T102 m 75 _ [.null] _
                jvm_step X102.here [X102.here.top, hx, (hb hby d22_75), X102.method', Bd.returns, Value.isRef, FieldType.isReference]
                first | (intro acts; rw [hr _ acts rfl rfl rfl]) | rw [hr _ _ rfl rfl rfl]
                exact Steps.refl _
              · show Q22_a Z x1 ks f n h0 n0 _ T102.heap _
                rw [e102]
                exact ⟨rfl, N102, rfl⟩
        · skip
          have pre117 := fun t (kt : SF p e below T102 m 28 #[vr x1, vi ((Int32.ofNat q_102) + (-1 : Int32)), vi (Int32.ofNat i_95)] [] t) => pre108 t (by
            refine XS.icmpNo X102.here hx rfl (hb hby d22_44) rfl (flt hc44).2.2.1 ?_
            refine XS.iinc X102.here hx rfl (hb hby d22_47) rfl (l' := #[vr x1, vi ((Int32.ofNat q_102) + (-1 : Int32)), vi (Int32.ofNat i_95)]) rfl ?_
            show SF p e below T102 m 50 _ [] _
            refine XS.goto X102.here hx rfl (pc0 := 50) (pc' := 28) rfl (hb hby d22_50) (by decide) (by decide) ?_
            exact kt)
          exact ih102 (q_102 - 1) T102 _ h0 (by omega) ⟨(by omega), (by omega), (own_allr hr_102 (by omega) hc44), X102, e102, N102, (fun t kt => pre117 t (by rw [own_predm (by omega)]; exact kt))⟩
      · skip
        have nf118 : ¬ (i_95 < q_102) := fun zq => hc30 ((own_lt (i := i_95) (n := q_102) (by omega) (by omega)).mpr zq)
        exact absurd hc19 (hr_102 i_95 (by omega) (by omega))
    · skip
      have pre120 := fun t (kt : SF p e below T95 m 5 #[vr x1, vi (Int32.ofNat n), vi ((Int32.ofNat i_95) + (1 : Int32))] [] t) => pre100 t (by
        refine XS.icmpNo X95.here hx rfl (hb hby d22_19) rfl (flt hc19).2.2.1 ?_
        refine XS.iinc X95.here hx rfl (hb hby d22_22) rfl (l' := #[vr x1, vi (Int32.ofNat n), vi ((Int32.ofNat i_95) + (1 : Int32))]) rfl ?_
        show SF p e below T95 m 25 _ [] _
        refine XS.goto X95.here hx rfl (pc0 := 25) (pc' := 5) rfl (hb hby d22_25) (by decide) (by decide) ?_
        exact kt)
      exact ih95 (i_95 + 1) T95 _ h0 (by omega) ⟨(by omega), (own_all hl_95 hc19), X95, e95, N95, (fun t kt => pre120 t (by rw [own_one]; exact kt))⟩
  · skip
    have nf121 : ¬ (i_95 < n) := fun zq => hc7 ((own_lt (i := i_95) (n := n) (by omega) (by omega)).mpr zq)
    have pre122 := fun t (kt : SF p e below T95 m 28 #[vr x1, vi (Int32.ofNat n), vi (Int32.ofNat i_95)] [] t) => pre96 t (by
      refine XS.icmpYes X95.here hx rfl (pc0 := 7) (pc' := 28) rfl (hb hby d22_7) rfl (flt hc7).2.1 (by decide) (by decide) ?_
      exact kt)
    refine own_ind (A := Nat) (fun q_123 => q_123) (fun q_123 T123 L123 h123 => (q_123 ≤ n) ∧ (i_95 ≤ q_123) ∧ (∀ j, q_123 ≤ j → j < n → ¬ (32 : Int32) < f j) ∧ Stand p l e ({ frames := 0, cells := 0, slots := 0, locals := 0 } : Room) s m #[(.ref x1)] below meth c T123 L123 0 0 ∧ T123.heap = h0 ∧ Fr n0 L123 ∧ ∀ t, SF p e below T123 m 28 #[vr x1, vi (Int32.ofNat q_123), vi (Int32.ofNat i_95)] [] t → Steps p.tables e below (s₁.setTop (entryFrame m #[(.ref x1)] 3)) t) ?_ n T95 _ h0 ⟨(by omega), (by omega), (fun j h1 h2 => absurd h2 (by omega)), X95, e95, N95, pre122⟩
    rintro q_123 T123 L123 h123 ⟨hq_123, hiq_123, hr_123, X123, e123, N123, pre123⟩ ih123
    have pre124 := fun t (kt : SF p e below T123 m 30 #[vr x1, vi (Int32.ofNat q_123), vi (Int32.ofNat i_95)] [(.int (Int32.ofNat q_123)), (.int (Int32.ofNat i_95))] t) => pre123 t (by
      refine XS.iloadN X123.here hx rfl (hb hby d22_28) rfl ?_
      refine XS.iloadN X123.here hx rfl (hb hby d22_29) rfl ?_
      exact kt)
    by_cases hc30 : (Int32.ofNat i_95) < (Int32.ofNat q_123)
    · skip
      have nf125 : (i_95 < q_123) := (own_lt (i := i_95) (n := q_123) (by omega) (by omega)).mp hc30
      have rn126 : ((Int32.ofNat q_123) - (1 : Int32)) = (Int32.ofNat (q_123 - 1)) := own_pred (by omega)
      obtain ⟨cl_a127, Ar_a127, -, S_a127, N_a127, H_a127, -⟩ := id V_x1
      obtain ⟨hin_a127, hat_a127⟩ := own_rd (j := (Int32.ofNat (q_123 - 1))) (i := (q_123 - 1)) S_a127 H_a127 rfl (by omega) (by omega)
      have rn128 : ((own_by (f (q_123 - 1))) &&& (255 : Int32)) = (f (q_123 - 1)) := own_b255 (hp _ (by omega))
      have pre129 := fun t (kt : SF p e below T123 m 44 #[vr x1, vi (Int32.ofNat q_123), vi (Int32.ofNat i_95)] [(.int (32 : Int32)), (.int (f (q_123 - 1)))] t) => pre124 t (by
        refine XS.icmpNo X123.here hx rfl (hb hby d22_30) rfl (tlt hc30).2.1 ?_
        refine XS.aloadN X123.here hx rfl (hb hby d22_33) rfl rfl ?_
        refine XS.iloadN X123.here hx rfl (hb hby d22_34) rfl ?_
        refine XS.iconst X123.here hx rfl (hb hby d22_35) ?_
        show SF p e below T123 m 36 _ [(.int (1 : Int32)), (.int (Int32.ofNat q_123)), (.ref x1)] _
        refine XS.isub X123.here hx rfl (hb hby d22_36) rfl ?_
        show SF p e below T123 m 37 _ [(.int ((Int32.ofNat q_123) - (1 : Int32))), (.ref x1)] _
        rw [rn126]
        show SF p e below T123 m 37 _ [(.int (Int32.ofNat (q_123 - 1))), (.ref x1)] _
        refine X123.baloadBytes hx (j := (Int32.ofNat (q_123 - 1))) (v := (.int (own_by (f (q_123 - 1))))) (by rw [e123]; exact Ar_a127.1) (State.isArrayOf_alike hZ.alike Ar_a127.2.1) Ar_a127.2.2 hin_a127 hat_a127 (g := (mkF m 37 #[vr x1, vi (Int32.ofNat q_123), vi (Int32.ofNat i_95)] [(.int (Int32.ofNat (q_123 - 1))), (.ref x1)])) rfl rfl (hb hby d22_37) _ ?_
        refine XS.sipush X123.here hx rfl (hb hby d22_38) ?_
        refine XS.iand X123.here hx rfl (hb hby d22_41) rfl ?_
        show SF p e below T123 m 42 _ [(.int ((own_by (f (q_123 - 1))) &&& (255 : Int32)))] _
        rw [rn128]
        refine XS.bipush X123.here hx rfl (hb hby d22_42) ?_
        exact kt)
      by_cases hc44 : (32 : Int32) < (f (q_123 - 1))
      · skip
        exact False.elim (by omega)
      · skip
        have pre131 := fun t (kt : SF p e below T123 m 28 #[vr x1, vi ((Int32.ofNat q_123) + (-1 : Int32)), vi (Int32.ofNat i_95)] [] t) => pre129 t (by
          refine XS.icmpNo X123.here hx rfl (hb hby d22_44) rfl (flt hc44).2.2.1 ?_
          refine XS.iinc X123.here hx rfl (hb hby d22_47) rfl (l' := #[vr x1, vi ((Int32.ofNat q_123) + (-1 : Int32)), vi (Int32.ofNat i_95)]) rfl ?_
          show SF p e below T123 m 50 _ [] _
          refine XS.goto X123.here hx rfl (pc0 := 50) (pc' := 28) rfl (hb hby d22_50) (by decide) (by decide) ?_
          exact kt)
        exact ih123 (q_123 - 1) T123 _ h0 (by omega) ⟨(by omega), (by omega), (own_allr hr_123 (by omega) hc44), X123, e123, N123, (fun t kt => pre131 t (by rw [own_predm (by omega)]; exact kt))⟩
    · skip
      have nf132 : ¬ (i_95 < q_123) := fun zq => hc30 ((own_lt (i := i_95) (n := q_123) (by omega) (by omega)).mpr zq)
      have tr133 : own_tr f n i_95 q_123 := ⟨by omega, by omega, hl_95, hr_123, Or.inr ⟨by omega, by omega⟩⟩
      have pre134 := fun t (kt : SF p e below T123 m 54 #[vr x1, vi (Int32.ofNat q_123), vi (Int32.ofNat i_95)] [(.int (Int32.ofNat i_95))] t) => pre124 t (by
        refine XS.icmpYes X123.here hx rfl (pc0 := 30) (pc' := 53) rfl (hb hby d22_30) rfl (flt hc30).2.1 (by decide) (by decide) ?_
        refine XS.iloadN X123.here hx rfl (hb hby d22_53) rfl ?_
        exact kt)
      by_cases hc54 : (0 : Int32) < (Int32.ofNat i_95)
      · skip
        have nf135 : (0 < i_95) := (own_lt (i := 0) (n := i_95) (by omega) (by omega)).mp hc54
        exact False.elim (by have q := own_whole_tr hwh tr133; omega)
      · skip
        have nf136 : ¬ (0 < i_95) := fun zq => hc54 ((own_lt (i := 0) (n := i_95) (by omega) (by omega)).mpr zq)
        obtain ⟨cl_a137, Ar_a137, -, S_a137, N_a137, -, -⟩ := id V_x1
        have pre138 := fun t (kt : SF p e below T123 m 60 #[vr x1, vi (Int32.ofNat q_123), vi (Int32.ofNat i_95)] [(.int (Int32.ofNat n)), (.int (Int32.ofNat q_123))] t) => pre134 t (by
          refine XS.ifNo X123.here hx rfl (hb hby d22_54) rfl ((if0 _ _).trans (flt hc54).2.2.1) ?_
          refine XS.iloadN X123.here hx rfl (hb hby d22_57) rfl ?_
          show SF p e below T123 m 58 _ [(.int (Int32.ofNat q_123))] _
          refine XS.aloadN X123.here hx rfl (hb hby d22_58) rfl rfl ?_
          show SF p e below T123 m 59 _ [(.ref x1), (.int (Int32.ofNat q_123))] _
          refine X123.arraylength hx (by rw [e123]; exact Ar_a137.1) (State.isArrayOf_alike hZ.alike Ar_a137.2.1) (g := (mkF m 59 #[vr x1, vi (Int32.ofNat q_123), vi (Int32.ofNat i_95)] [(.ref x1), (.int (Int32.ofNat q_123))])) rfl rfl (hb hby d22_59) _ ?_
          rw [len_of S_a137 N_a137]
          exact kt)
        by_cases hc60 : (Int32.ofNat q_123) < (Int32.ofNat n)
        · skip
          have nf139 : (q_123 < n) := (own_lt (i := q_123) (n := n) (by omega) (by omega)).mp hc60
          exact False.elim (by have q := own_whole_tr hwh tr133; omega)
        · skip
          have nf140 : ¬ (q_123 < n) := fun zq => hc60 ((own_lt (i := q_123) (n := n) (by omega) (by omega)).mpr zq)
          obtain ⟨fs, hr, hrun, hended, hW, hsame⟩ := X123.leave (v := some .null) (fun h => by rw [Bd.returns] at h; cases h)
          refine ⟨_, _, pre138 _ ?_, hrun, hended, _, _, rfl, ?_, ⟨_, rfl⟩, hW, hsame.mono (by decide) (by decide)⟩
          · show SF p e below T123 m 60 #[vr x1, vi (Int32.ofNat q_123), vi (Int32.ofNat i_95)] [(.int (Int32.ofNat n)), (.int (Int32.ofNat q_123))] _
            refine XS.icmpYes X123.here hx rfl (pc0 := 60) (pc' := 74) rfl (hb hby d22_60) rfl (flt hc60).2.1 (by decide) (by decide) ?_
            refine XS.aconstNull X123.here hx rfl (hb hby d22_74) ?_
            show SF p e below T123 m 75 _ [.null] _
            jvm_step X123.here [X123.here.top, hx, (hb hby d22_75), X123.method', Bd.returns, Value.isRef, FieldType.isReference]
            first | (intro acts; rw [hr _ acts rfl rfl rfl]) | rw [hr _ _ rfl rfl rfl]
            exact Steps.refl _
          · show Q22_a Z x1 ks f n h0 n0 _ T123.heap _
            rw [e123]
            exact ⟨rfl, N123, rfl⟩
theorem d22_63 : decode jdk_43_method_36_code 63 = .ok (.aload_n 0, 1) := by decide +kernel
theorem d22_64 : decode jdk_43_method_36_code 64 = .ok (.iload_n 2, 1) := by decide +kernel
theorem d22_65 : decode jdk_43_method_36_code 65 = .ok (.iload_n 1, 1) := by decide +kernel
theorem d22_66 : decode jdk_43_method_36_code 66 = .ok (.iload_n 2, 1) := by decide +kernel
theorem d22_67 : decode jdk_43_method_36_code 67 = .ok (.isub, 1) := by decide +kernel
theorem d22_68 : decode jdk_43_method_36_code 68 = .ok (.invokestatic 210, 3) := by decide +kernel
theorem d22_71 : decode jdk_43_method_36_code 71 = .ok (.goto 4, 3) := by decide +kernel
theorem ef22_b (m : MethodId) (x1 : Addr) : entryFrame m #[(.ref x1)] 3 = mkF m 0 #[vr x1, un, un] [] := by first | (simp [entryFrame, mkF, argsToLocals, Value.category]; done) | rfl
def Q22_b (Z : State) (x1 : Addr) (ks : ClassId) (f : Nat → Int32) (n : Nat) (h0 : Heap) (n0 : Nat) (v : Option Value) (h : Heap) (L : List Loc) : Prop := ∃ (b : Addr), ∃ (t : Addr), ∃ (kk : ClassId), ∃ (ua : Nat), ∃ (ub : Nat), v = some (.ref b) ∧ Fr n0 L ∧ Keep h0 h [] ∧ Exa Z h b "java/lang/String" ∧ Fld Z h b "java/lang/String" "value" "[B" (.ref t) ∧ Fld Z h b "java/lang/String" "coder" "B" (.int (0 : Int32)) ∧ Arv Z h t kk .byte (Int32.ofNat (ub - ua)) (own_fv (own_sh f ua) (ub - ua)) (.int 0) ∧ (own_tr f n ua ub)
set_option maxRecDepth 65536 in
set_option maxHeartbeats 40000000 in
theorem rm22_b (l : Launch) (Z : State) (a0 : Array Value) (hw : ∀ d ∈ tables_1, d.before a0 Z = true) (ws : List Jvm.Cond) (x1 : Addr) (ks : ClassId) (f : Nat → Int32) (n : Nat) (h0 : Heap) (n0 : Nat) (Z0 : n0 ≤ h0.size) (O0 : Old Z n0 h0) (V_x1 : Arv Z h0 x1 ks .byte (Int32.ofNat n) (own_fv f n) (.int 0)) (hp : ∀ j, j < n → ¬ f j < 0 ∧ ¬ (255 : Int32) < f j) (hn : n ≤ 24) (hwh : ¬ own_whole f n) :
    MetFree l (⟨"java/lang/StringLatin1", "trim", "([B)Ljava/lang/String;"⟩ : MethodName) (head1 (Jvm.Cond.code (⟨"java/lang/StringLatin1", "trim", "([B)Ljava/lang/String;"⟩ : MethodName) jdk_43_method_36_code 3 (some (.object "java/lang/String")) :: ws) ({ frames := 4, cells := 2, slots := 28, locals := 64 } : Room)) (fun a U => a = #[(.ref x1)] ∧ Z.Warmed39 U.vm ∧ U.heap = h0 ∧ CHv Z own_EL U.vm h0) (fun _ _ _ _ _ => True) (fun _ U o U' => ∃ v L, o = .returned v ∧ Q22_b Z x1 ks f n h0 n0 v U'.heap L ∧ CHr Z own_EL U.vm U.heap U'.vm U'.heap ∧ ReturnedEndW U o U' L ({ frames := 4, cells := 2, slots := 28, locals := 64 } : Room).cells ({ frames := 4, cells := 2, slots := 28, locals := 64 } : Room).slots) := by
  refine MetFree.of_bodySF (plainFor_of_name pn_java_lang_StringLatin1) hisR ?_
  intro p e s m args below meth c s₁ Bd hml0 hP hK
  obtain ⟨rfl, hZ, hh, CH0⟩ := hP
  have hx := Bd.exec
  have hby := Bd.bytes
  have hml : c.maxLocals = 3 := hml0
  have hown : (s.setVm s.vm).vm.findClass "java/lang/StringLatin1" = some m.cls := findClass_of_methodNamed Bd.named
  have hnm := (name_of_methodNamed Bd.named Bd.method).1
  have X0 : Stand p l e ({ frames := 4, cells := 2, slots := 28, locals := 64 } : Room) (s.setVm s.vm) m #[(.ref x1)] below meth c s₁ [] 0 0 := Stand.of_body Bd
  have e0 : s₁.heap = h0 := by rw [← hh, Bd.state]; rfl
  have N0 := Fr.nil n0
  have K0 : Keep h0 h0 [] := Keep.refl _ _
  have pre0 : ∀ t, SF p e below s₁ m 0 #[vr x1, un, un] [] t → Steps p.tables e below (s₁.setTop (entryFrame m #[(.ref x1)] 3)) t := fun t k => castTop (ef22_b m x1) k
  have hZa : Z.Warmed39 (s.setVm s.vm).vm := hZ
  have howna : (s.setVm s.vm).vm.findClass "java/lang/StringLatin1" = some m.cls := hown
  have hS0 : s.Since s.vm h0.size := (State.WarmedH.refl s).since _
  have hk0 : h0.size ≤ h0.size := Nat.le_refl _
  have CR0 : CHr Z own_EL s.vm h0 s.vm h0 := CHr.refl CH0
  obtain ⟨cl_a141, Ar_a141, -, S_a141, N_a141, -, -⟩ := id V_x1
  have pre142 := fun t (kt : SF p e below s₁ m 5 #[vr x1, vi (Int32.ofNat n), vi (0 : Int32)] [] t) => pre0 t (by
    refine XS.aloadN X0.here hx rfl (hb hby d22_0) rfl rfl ?_
    show SF p e below s₁ m 1 _ [(.ref x1)] _
    refine X0.arraylength hx (by rw [e0]; exact Ar_a141.1) (State.isArrayOf_alike hZa.alike Ar_a141.2.1) (g := (mkF m 1 #[vr x1, un, un] [(.ref x1)])) rfl rfl (hb hby d22_1) _ ?_
    rw [len_of S_a141 N_a141]
    refine XS.istoreN X0.here hx rfl (hb hby d22_2) rfl (l' := #[vr x1, vi (Int32.ofNat n), un]) rfl ?_
    refine XS.iconst X0.here hx rfl (hb hby d22_3) ?_
    refine XS.istoreN X0.here hx rfl (hb hby d22_4) rfl (l' := #[vr x1, vi (Int32.ofNat n), vi (0 : Int32)]) rfl ?_
    exact kt)
  refine own_ind (A := Nat) (fun i_143 => n - i_143) (fun i_143 T143 L143 h143 => (i_143 ≤ n) ∧ (∀ j, j < i_143 → ¬ (32 : Int32) < f j) ∧ Stand p l e ({ frames := 4, cells := 2, slots := 28, locals := 64 } : Room) (s.setVm s.vm) m #[(.ref x1)] below meth c T143 L143 0 0 ∧ T143.heap = h0 ∧ Fr n0 L143 ∧ ∀ t, SF p e below T143 m 5 #[vr x1, vi (Int32.ofNat n), vi (Int32.ofNat i_143)] [] t → Steps p.tables e below (s₁.setTop (entryFrame m #[(.ref x1)] 3)) t) ?_ 0 s₁ _ h0 ⟨(by omega), (fun j hj => absurd hj (by omega)), X0, e0, N0, pre142⟩
  rintro i_143 T143 L143 h143 ⟨hi_143, hl_143, X143, e143, N143, pre143⟩ ih143
  have pre144 := fun t (kt : SF p e below T143 m 7 #[vr x1, vi (Int32.ofNat n), vi (Int32.ofNat i_143)] [(.int (Int32.ofNat n)), (.int (Int32.ofNat i_143))] t) => pre143 t (by
    refine XS.iloadN X143.here hx rfl (hb hby d22_5) rfl ?_
    refine XS.iloadN X143.here hx rfl (hb hby d22_6) rfl ?_
    exact kt)
  by_cases hc7 : (Int32.ofNat i_143) < (Int32.ofNat n)
  · skip
    have nf145 : (i_143 < n) := (own_lt (i := i_143) (n := n) (by omega) (by omega)).mp hc7
    obtain ⟨cl_a146, Ar_a146, -, S_a146, N_a146, H_a146, -⟩ := id V_x1
    obtain ⟨hin_a146, hat_a146⟩ := own_rd (j := (Int32.ofNat i_143)) (i := i_143) S_a146 H_a146 rfl (by omega) (by omega)
    have rn147 : ((own_by (f i_143)) &&& (255 : Int32)) = (f i_143) := own_b255 (hp _ (by omega))
    have pre148 := fun t (kt : SF p e below T143 m 19 #[vr x1, vi (Int32.ofNat n), vi (Int32.ofNat i_143)] [(.int (32 : Int32)), (.int (f i_143))] t) => pre144 t (by
      refine XS.icmpNo X143.here hx rfl (hb hby d22_7) rfl (tlt hc7).2.1 ?_
      refine XS.aloadN X143.here hx rfl (hb hby d22_10) rfl rfl ?_
      refine XS.iloadN X143.here hx rfl (hb hby d22_11) rfl ?_
      show SF p e below T143 m 12 _ [(.int (Int32.ofNat i_143)), (.ref x1)] _
      refine X143.baloadBytes hx (j := (Int32.ofNat i_143)) (v := (.int (own_by (f i_143)))) (by rw [e143]; exact Ar_a146.1) (State.isArrayOf_alike hZa.alike Ar_a146.2.1) Ar_a146.2.2 hin_a146 hat_a146 (g := (mkF m 12 #[vr x1, vi (Int32.ofNat n), vi (Int32.ofNat i_143)] [(.int (Int32.ofNat i_143)), (.ref x1)])) rfl rfl (hb hby d22_12) _ ?_
      refine XS.sipush X143.here hx rfl (hb hby d22_13) ?_
      refine XS.iand X143.here hx rfl (hb hby d22_16) rfl ?_
      show SF p e below T143 m 17 _ [(.int ((own_by (f i_143)) &&& (255 : Int32)))] _
      rw [rn147]
      refine XS.bipush X143.here hx rfl (hb hby d22_17) ?_
      exact kt)
    by_cases hc19 : (32 : Int32) < (f i_143)
    · skip
      have pre149 := fun t (kt : SF p e below T143 m 28 #[vr x1, vi (Int32.ofNat n), vi (Int32.ofNat i_143)] [] t) => pre148 t (by
        refine XS.icmpYes X143.here hx rfl (pc0 := 19) (pc' := 28) rfl (hb hby d22_19) rfl (tlt hc19).2.2.1 (by decide) (by decide) ?_
        exact kt)
      refine own_ind (A := Nat) (fun q_150 => q_150) (fun q_150 T150 L150 h150 => (q_150 ≤ n) ∧ (i_143 ≤ q_150) ∧ (∀ j, q_150 ≤ j → j < n → ¬ (32 : Int32) < f j) ∧ Stand p l e ({ frames := 4, cells := 2, slots := 28, locals := 64 } : Room) (s.setVm s.vm) m #[(.ref x1)] below meth c T150 L150 0 0 ∧ T150.heap = h0 ∧ Fr n0 L150 ∧ ∀ t, SF p e below T150 m 28 #[vr x1, vi (Int32.ofNat q_150), vi (Int32.ofNat i_143)] [] t → Steps p.tables e below (s₁.setTop (entryFrame m #[(.ref x1)] 3)) t) ?_ n T143 _ h0 ⟨(by omega), (by omega), (fun j h1 h2 => absurd h2 (by omega)), X143, e143, N143, pre149⟩
      rintro q_150 T150 L150 h150 ⟨hq_150, hiq_150, hr_150, X150, e150, N150, pre150⟩ ih150
      have pre151 := fun t (kt : SF p e below T150 m 30 #[vr x1, vi (Int32.ofNat q_150), vi (Int32.ofNat i_143)] [(.int (Int32.ofNat q_150)), (.int (Int32.ofNat i_143))] t) => pre150 t (by
        refine XS.iloadN X150.here hx rfl (hb hby d22_28) rfl ?_
        refine XS.iloadN X150.here hx rfl (hb hby d22_29) rfl ?_
        exact kt)
      by_cases hc30 : (Int32.ofNat i_143) < (Int32.ofNat q_150)
      · skip
        have nf152 : (i_143 < q_150) := (own_lt (i := i_143) (n := q_150) (by omega) (by omega)).mp hc30
        have rn153 : ((Int32.ofNat q_150) - (1 : Int32)) = (Int32.ofNat (q_150 - 1)) := own_pred (by omega)
        obtain ⟨cl_a154, Ar_a154, -, S_a154, N_a154, H_a154, -⟩ := id V_x1
        obtain ⟨hin_a154, hat_a154⟩ := own_rd (j := (Int32.ofNat (q_150 - 1))) (i := (q_150 - 1)) S_a154 H_a154 rfl (by omega) (by omega)
        have rn155 : ((own_by (f (q_150 - 1))) &&& (255 : Int32)) = (f (q_150 - 1)) := own_b255 (hp _ (by omega))
        have pre156 := fun t (kt : SF p e below T150 m 44 #[vr x1, vi (Int32.ofNat q_150), vi (Int32.ofNat i_143)] [(.int (32 : Int32)), (.int (f (q_150 - 1)))] t) => pre151 t (by
          refine XS.icmpNo X150.here hx rfl (hb hby d22_30) rfl (tlt hc30).2.1 ?_
          refine XS.aloadN X150.here hx rfl (hb hby d22_33) rfl rfl ?_
          refine XS.iloadN X150.here hx rfl (hb hby d22_34) rfl ?_
          refine XS.iconst X150.here hx rfl (hb hby d22_35) ?_
          show SF p e below T150 m 36 _ [(.int (1 : Int32)), (.int (Int32.ofNat q_150)), (.ref x1)] _
          refine XS.isub X150.here hx rfl (hb hby d22_36) rfl ?_
          show SF p e below T150 m 37 _ [(.int ((Int32.ofNat q_150) - (1 : Int32))), (.ref x1)] _
          rw [rn153]
          show SF p e below T150 m 37 _ [(.int (Int32.ofNat (q_150 - 1))), (.ref x1)] _
          refine X150.baloadBytes hx (j := (Int32.ofNat (q_150 - 1))) (v := (.int (own_by (f (q_150 - 1))))) (by rw [e150]; exact Ar_a154.1) (State.isArrayOf_alike hZa.alike Ar_a154.2.1) Ar_a154.2.2 hin_a154 hat_a154 (g := (mkF m 37 #[vr x1, vi (Int32.ofNat q_150), vi (Int32.ofNat i_143)] [(.int (Int32.ofNat (q_150 - 1))), (.ref x1)])) rfl rfl (hb hby d22_37) _ ?_
          refine XS.sipush X150.here hx rfl (hb hby d22_38) ?_
          refine XS.iand X150.here hx rfl (hb hby d22_41) rfl ?_
          show SF p e below T150 m 42 _ [(.int ((own_by (f (q_150 - 1))) &&& (255 : Int32)))] _
          rw [rn155]
          refine XS.bipush X150.here hx rfl (hb hby d22_42) ?_
          exact kt)
        by_cases hc44 : (32 : Int32) < (f (q_150 - 1))
        · skip
          have tr157 : own_tr f n i_143 q_150 := ⟨by omega, by omega, hl_143, hr_150, Or.inl ⟨by omega, hc19, hc44⟩⟩
          have pre158 := fun t (kt : SF p e below T150 m 54 #[vr x1, vi (Int32.ofNat q_150), vi (Int32.ofNat i_143)] [(.int (Int32.ofNat i_143))] t) => pre156 t (by
            refine XS.icmpYes X150.here hx rfl (pc0 := 44) (pc' := 53) rfl (hb hby d22_44) rfl (tlt hc44).2.2.1 (by decide) (by decide) ?_
            refine XS.iloadN X150.here hx rfl (hb hby d22_53) rfl ?_
            exact kt)
          by_cases hc54 : (0 : Int32) < (Int32.ofNat i_143)
          · skip
            have nf159 : (0 < i_143) := (own_lt (i := 0) (n := i_143) (by omega) (by omega)).mp hc54
            have rn160 : ((Int32.ofNat q_150) - (Int32.ofNat i_143)) = (Int32.ofNat (q_150 - i_143)) := own_sub (by omega)
            obtain ⟨_, _, ⟨T161, L161, k161, n161⟩, -, X161, hS161, hg161, ⟨Lc161, hQ161, l161, y161, z161, R161⟩, st161⟩ := callSS X150 hx (y := (⟨"java/lang/StringLatin1", "newString", "([BII)Ljava/lang/String;"⟩ : MethodName)) howna (mvT hZa (own_wd hw 94 rfl)) (mvT hZa (own_wd hw 95 rfl)) (mvT hZa (own_wd hw 71 rfl)) (mvT hZa (own_wd hw 96 rfl)) (by decide) (backOfSH (s := s) (vm0 := s.vm) (W := 0) (rm23 l Z a0 hw [] x1 ks f n i_143 (q_150 - i_143) h0 n0 Z0 O0 V_x1 (by omega) (by omega) (own_strict hwh tr157)) hZa (own_wd hw 96 rfl) (own_wd hw 71 rfl) (by decide) (by decide) (own_EW hw) CH0) (g := (mkF m 68 #[vr x1, vi (Int32.ofNat q_150), vi (Int32.ofNat i_143)] [(.int (Int32.ofNat (q_150 - i_143))), (.int (Int32.ofNat i_143)), (.ref x1)])) rfl (by rw [hml]; rfl) (argsL := [(.ref x1), (.int (Int32.ofNat i_143)), (.int (Int32.ofNat (q_150 - i_143)))]) (rest := []) (lenOf pd_11 rfl) rfl (by show 2 * 0 + _ ≤ _; exact Nat.le_of_eq rfl) (hb hby d22_68) (fun _ _ => ⟨rfl, e150, (by decide : 0 + 2 ≤ _), (by decide : 0 + 28 ≤ _)⟩)
            dsimp only [Pt.U, Pt.locs, Pt.cells, Pt.slots] at X161 l161 y161 z161 st161 hQ161 hS161 hg161 R161
            subst y161 z161
            obtain ⟨X161, hS161, hZ161, hown161⟩ := rebS hS0 hk0 X161 hS161 (by rw [← e150]; exact hg161) hZa howna
            obtain ⟨b_161, t_161, kk_161, rfl, N161q, KK161, Q161_0, Q161_1, Q161_2, Q161_3⟩ := hQ161
            have N161 : Fr n0 L161 := by rw [l161]; exact Fr.app N150 N161q
            have O161 : Old Z n0 T161.heap := O0.keep KK161 all0
            have Z161 : n0 ≤ T161.heap.size := Nat.le_trans Z0 KK161.1
            have K161 : Keep h0 T161.heap [] := K0.trans KK161 all0
            have CH161 : CHv Z own_EL T161.vm T161.heap := R161.1
            have CR161 : CHr Z own_EL s.vm h0 T161.vm T161.heap := CR0.trans R161
            obtain ⟨fs, hr, hrun, hended, hW, hsame⟩ := X161.leave (v := some (.ref b_161)) (fun h => by rw [Bd.returns] at h; cases h)
            have hend := hS161.ended hW (show _ ≤ T161.heap.size from (Nat.le_refl _)) hsame
            have hcr : CHr Z own_EL s.vm s.heap T161.vm T161.heap := by
              rw [hh]
              exact CR161.trans (CHv.at X161 hZ161 (own_EW hw) CH161)
            refine ⟨_, _, pre158 _ ?_, hrun, hended, _, _, rfl, ?_, hcr, ⟨_, rfl⟩, hend.1, hend.2.1, hend.2.2.mono (by decide) (by decide)⟩
            · show SF p e below T150 m 54 #[vr x1, vi (Int32.ofNat q_150), vi (Int32.ofNat i_143)] [(.int (Int32.ofNat i_143))] _
              refine XS.ifYes X150.here hx rfl (pc0 := 54) (pc' := 63) rfl (hb hby d22_54) rfl ((if0 _ _).trans (tlt hc54).2.2.1) (by decide) (by decide) ?_
              refine XS.aloadN X150.here hx rfl (hb hby d22_63) rfl rfl ?_
              refine XS.iloadN X150.here hx rfl (hb hby d22_64) rfl ?_
              refine XS.iloadN X150.here hx rfl (hb hby d22_65) rfl ?_
              refine XS.iloadN X150.here hx rfl (hb hby d22_66) rfl ?_
              refine XS.isub X150.here hx rfl (hb hby d22_67) rfl ?_
              show SF p e below T150 m 68 _ [(.int ((Int32.ofNat q_150) - (Int32.ofNat i_143))), (.int (Int32.ofNat i_143)), (.ref x1)] _
              rw [rn160]
              show SF p e below T150 m 68 _ [(.int (Int32.ofNat (q_150 - i_143))), (.int (Int32.ofNat i_143)), (.ref x1)] _
              refine st161.trans ?_
              show SF p e below T161 m 71 #[vr x1, vi (Int32.ofNat q_150), vi (Int32.ofNat i_143)] [(.ref b_161)] _
              refine XS.goto X161.here hx rfl (pc0 := 71) (pc' := 75) rfl (hb hby d22_71) (by decide) (by decide) ?_
              show SF p e below T161 m 75 _ [(.ref b_161)] _
              jvm_step X161.here [X161.here.top, hx, (hb hby d22_75), X161.method', Bd.returns, Value.isRef, FieldType.isReference]
              first | (intro acts; rw [hr _ acts rfl rfl rfl]) | rw [hr _ _ rfl rfl rfl]
              exact Steps.refl _
            · show Q22_b Z x1 ks f n h0 n0 _ T161.heap _
              exact ⟨b_161, t_161, kk_161, i_143, q_150, rfl, N161, K161, Q161_0, Q161_1, Q161_2, Q161_3, tr157⟩
          · skip
            have nf162 : ¬ (0 < i_143) := fun zq => hc54 ((own_lt (i := 0) (n := i_143) (by omega) (by omega)).mpr zq)
            obtain ⟨cl_a163, Ar_a163, -, S_a163, N_a163, -, -⟩ := id V_x1
            have pre164 := fun t (kt : SF p e below T150 m 60 #[vr x1, vi (Int32.ofNat q_150), vi (Int32.ofNat i_143)] [(.int (Int32.ofNat n)), (.int (Int32.ofNat q_150))] t) => pre158 t (by
              refine XS.ifNo X150.here hx rfl (hb hby d22_54) rfl ((if0 _ _).trans (flt hc54).2.2.1) ?_
              refine XS.iloadN X150.here hx rfl (hb hby d22_57) rfl ?_
              refine XS.aloadN X150.here hx rfl (hb hby d22_58) rfl rfl ?_
              show SF p e below T150 m 59 _ [(.ref x1), (.int (Int32.ofNat q_150))] _
              refine X150.arraylength hx (by rw [e150]; exact Ar_a163.1) (State.isArrayOf_alike hZa.alike Ar_a163.2.1) (g := (mkF m 59 #[vr x1, vi (Int32.ofNat q_150), vi (Int32.ofNat i_143)] [(.ref x1), (.int (Int32.ofNat q_150))])) rfl rfl (hb hby d22_59) _ ?_
              rw [len_of S_a163 N_a163]
              exact kt)
            by_cases hc60 : (Int32.ofNat q_150) < (Int32.ofNat n)
            · skip
              have nf165 : (q_150 < n) := (own_lt (i := q_150) (n := n) (by omega) (by omega)).mp hc60
              have rn166 : ((Int32.ofNat q_150) - (Int32.ofNat i_143)) = (Int32.ofNat (q_150 - i_143)) := own_sub (by omega)
              obtain ⟨_, _, ⟨T167, L167, k167, n167⟩, -, X167, hS167, hg167, ⟨Lc167, hQ167, l167, y167, z167, R167⟩, st167⟩ := callSS X150 hx (y := (⟨"java/lang/StringLatin1", "newString", "([BII)Ljava/lang/String;"⟩ : MethodName)) howna (mvT hZa (own_wd hw 94 rfl)) (mvT hZa (own_wd hw 95 rfl)) (mvT hZa (own_wd hw 71 rfl)) (mvT hZa (own_wd hw 96 rfl)) (by decide) (backOfSH (s := s) (vm0 := s.vm) (W := 0) (rm23 l Z a0 hw [] x1 ks f n i_143 (q_150 - i_143) h0 n0 Z0 O0 V_x1 (by omega) (by omega) (own_strict hwh tr157)) hZa (own_wd hw 96 rfl) (own_wd hw 71 rfl) (by decide) (by decide) (own_EW hw) CH0) (g := (mkF m 68 #[vr x1, vi (Int32.ofNat q_150), vi (Int32.ofNat i_143)] [(.int (Int32.ofNat (q_150 - i_143))), (.int (Int32.ofNat i_143)), (.ref x1)])) rfl (by rw [hml]; rfl) (argsL := [(.ref x1), (.int (Int32.ofNat i_143)), (.int (Int32.ofNat (q_150 - i_143)))]) (rest := []) (lenOf pd_11 rfl) rfl (by show 2 * 0 + _ ≤ _; exact Nat.le_of_eq rfl) (hb hby d22_68) (fun _ _ => ⟨rfl, e150, (by decide : 0 + 2 ≤ _), (by decide : 0 + 28 ≤ _)⟩)
              dsimp only [Pt.U, Pt.locs, Pt.cells, Pt.slots] at X167 l167 y167 z167 st167 hQ167 hS167 hg167 R167
              subst y167 z167
              obtain ⟨X167, hS167, hZ167, hown167⟩ := rebS hS0 hk0 X167 hS167 (by rw [← e150]; exact hg167) hZa howna
              obtain ⟨b_167, t_167, kk_167, rfl, N167q, KK167, Q167_0, Q167_1, Q167_2, Q167_3⟩ := hQ167
              have N167 : Fr n0 L167 := by rw [l167]; exact Fr.app N150 N167q
              have O167 : Old Z n0 T167.heap := O0.keep KK167 all0
              have Z167 : n0 ≤ T167.heap.size := Nat.le_trans Z0 KK167.1
              have K167 : Keep h0 T167.heap [] := K0.trans KK167 all0
              have CH167 : CHv Z own_EL T167.vm T167.heap := R167.1
              have CR167 : CHr Z own_EL s.vm h0 T167.vm T167.heap := CR0.trans R167
              obtain ⟨fs, hr, hrun, hended, hW, hsame⟩ := X167.leave (v := some (.ref b_167)) (fun h => by rw [Bd.returns] at h; cases h)
              have hend := hS167.ended hW (show _ ≤ T167.heap.size from (Nat.le_refl _)) hsame
              have hcr : CHr Z own_EL s.vm s.heap T167.vm T167.heap := by
                rw [hh]
                exact CR167.trans (CHv.at X167 hZ167 (own_EW hw) CH167)
              refine ⟨_, _, pre164 _ ?_, hrun, hended, _, _, rfl, ?_, hcr, ⟨_, rfl⟩, hend.1, hend.2.1, hend.2.2.mono (by decide) (by decide)⟩
              · show SF p e below T150 m 60 #[vr x1, vi (Int32.ofNat q_150), vi (Int32.ofNat i_143)] [(.int (Int32.ofNat n)), (.int (Int32.ofNat q_150))] _
                refine XS.icmpNo X150.here hx rfl (hb hby d22_60) rfl (tlt hc60).2.1 ?_
                refine XS.aloadN X150.here hx rfl (hb hby d22_63) rfl rfl ?_
                refine XS.iloadN X150.here hx rfl (hb hby d22_64) rfl ?_
                refine XS.iloadN X150.here hx rfl (hb hby d22_65) rfl ?_
                refine XS.iloadN X150.here hx rfl (hb hby d22_66) rfl ?_
                show SF p e below T150 m 67 _ [(.int (Int32.ofNat i_143)), (.int (Int32.ofNat q_150)), (.int (Int32.ofNat i_143)), (.ref x1)] _
                refine XS.isub X150.here hx rfl (hb hby d22_67) rfl ?_
                show SF p e below T150 m 68 _ [(.int ((Int32.ofNat q_150) - (Int32.ofNat i_143))), (.int (Int32.ofNat i_143)), (.ref x1)] _
                rw [rn166]
                show SF p e below T150 m 68 _ [(.int (Int32.ofNat (q_150 - i_143))), (.int (Int32.ofNat i_143)), (.ref x1)] _
                refine st167.trans ?_
                show SF p e below T167 m 71 #[vr x1, vi (Int32.ofNat q_150), vi (Int32.ofNat i_143)] [(.ref b_167)] _
                refine XS.goto X167.here hx rfl (pc0 := 71) (pc' := 75) rfl (hb hby d22_71) (by decide) (by decide) ?_
                show SF p e below T167 m 75 _ [(.ref b_167)] _
                jvm_step X167.here [X167.here.top, hx, (hb hby d22_75), X167.method', Bd.returns, Value.isRef, FieldType.isReference]
                first | (intro acts; rw [hr _ acts rfl rfl rfl]) | rw [hr _ _ rfl rfl rfl]
                exact Steps.refl _
              · show Q22_b Z x1 ks f n h0 n0 _ T167.heap _
                exact ⟨b_167, t_167, kk_167, i_143, q_150, rfl, N167, K167, Q167_0, Q167_1, Q167_2, Q167_3, tr157⟩
            · skip
              have nf168 : ¬ (q_150 < n) := fun zq => hc60 ((own_lt (i := q_150) (n := n) (by omega) (by omega)).mpr zq)
              exact False.elim (hwh (own_tr_whole (by have q := tr157; rw [show i_143 = 0 by omega, show q_150 = n by omega] at q; exact q)))
        · skip
          have pre169 := fun t (kt : SF p e below T150 m 28 #[vr x1, vi ((Int32.ofNat q_150) + (-1 : Int32)), vi (Int32.ofNat i_143)] [] t) => pre156 t (by
            refine XS.icmpNo X150.here hx rfl (hb hby d22_44) rfl (flt hc44).2.2.1 ?_
            refine XS.iinc X150.here hx rfl (hb hby d22_47) rfl (l' := #[vr x1, vi ((Int32.ofNat q_150) + (-1 : Int32)), vi (Int32.ofNat i_143)]) rfl ?_
            show SF p e below T150 m 50 _ [] _
            refine XS.goto X150.here hx rfl (pc0 := 50) (pc' := 28) rfl (hb hby d22_50) (by decide) (by decide) ?_
            exact kt)
          exact ih150 (q_150 - 1) T150 _ h0 (by omega) ⟨(by omega), (by omega), (own_allr hr_150 (by omega) hc44), X150, e150, N150, (fun t kt => pre169 t (by rw [own_predm (by omega)]; exact kt))⟩
      · skip
        have nf170 : ¬ (i_143 < q_150) := fun zq => hc30 ((own_lt (i := i_143) (n := q_150) (by omega) (by omega)).mpr zq)
        exact absurd hc19 (hr_150 i_143 (by omega) (by omega))
    · skip
      have pre172 := fun t (kt : SF p e below T143 m 5 #[vr x1, vi (Int32.ofNat n), vi ((Int32.ofNat i_143) + (1 : Int32))] [] t) => pre148 t (by
        refine XS.icmpNo X143.here hx rfl (hb hby d22_19) rfl (flt hc19).2.2.1 ?_
        refine XS.iinc X143.here hx rfl (hb hby d22_22) rfl (l' := #[vr x1, vi (Int32.ofNat n), vi ((Int32.ofNat i_143) + (1 : Int32))]) rfl ?_
        show SF p e below T143 m 25 _ [] _
        refine XS.goto X143.here hx rfl (pc0 := 25) (pc' := 5) rfl (hb hby d22_25) (by decide) (by decide) ?_
        exact kt)
      exact ih143 (i_143 + 1) T143 _ h0 (by omega) ⟨(by omega), (own_all hl_143 hc19), X143, e143, N143, (fun t kt => pre172 t (by rw [own_one]; exact kt))⟩
  · skip
    have nf173 : ¬ (i_143 < n) := fun zq => hc7 ((own_lt (i := i_143) (n := n) (by omega) (by omega)).mpr zq)
    have pre174 := fun t (kt : SF p e below T143 m 28 #[vr x1, vi (Int32.ofNat n), vi (Int32.ofNat i_143)] [] t) => pre144 t (by
      refine XS.icmpYes X143.here hx rfl (pc0 := 7) (pc' := 28) rfl (hb hby d22_7) rfl (flt hc7).2.1 (by decide) (by decide) ?_
      exact kt)
    refine own_ind (A := Nat) (fun q_175 => q_175) (fun q_175 T175 L175 h175 => (q_175 ≤ n) ∧ (i_143 ≤ q_175) ∧ (∀ j, q_175 ≤ j → j < n → ¬ (32 : Int32) < f j) ∧ Stand p l e ({ frames := 4, cells := 2, slots := 28, locals := 64 } : Room) (s.setVm s.vm) m #[(.ref x1)] below meth c T175 L175 0 0 ∧ T175.heap = h0 ∧ Fr n0 L175 ∧ ∀ t, SF p e below T175 m 28 #[vr x1, vi (Int32.ofNat q_175), vi (Int32.ofNat i_143)] [] t → Steps p.tables e below (s₁.setTop (entryFrame m #[(.ref x1)] 3)) t) ?_ n T143 _ h0 ⟨(by omega), (by omega), (fun j h1 h2 => absurd h2 (by omega)), X143, e143, N143, pre174⟩
    rintro q_175 T175 L175 h175 ⟨hq_175, hiq_175, hr_175, X175, e175, N175, pre175⟩ ih175
    have pre176 := fun t (kt : SF p e below T175 m 30 #[vr x1, vi (Int32.ofNat q_175), vi (Int32.ofNat i_143)] [(.int (Int32.ofNat q_175)), (.int (Int32.ofNat i_143))] t) => pre175 t (by
      refine XS.iloadN X175.here hx rfl (hb hby d22_28) rfl ?_
      refine XS.iloadN X175.here hx rfl (hb hby d22_29) rfl ?_
      exact kt)
    by_cases hc30 : (Int32.ofNat i_143) < (Int32.ofNat q_175)
    · skip
      have nf177 : (i_143 < q_175) := (own_lt (i := i_143) (n := q_175) (by omega) (by omega)).mp hc30
      have rn178 : ((Int32.ofNat q_175) - (1 : Int32)) = (Int32.ofNat (q_175 - 1)) := own_pred (by omega)
      obtain ⟨cl_a179, Ar_a179, -, S_a179, N_a179, H_a179, -⟩ := id V_x1
      obtain ⟨hin_a179, hat_a179⟩ := own_rd (j := (Int32.ofNat (q_175 - 1))) (i := (q_175 - 1)) S_a179 H_a179 rfl (by omega) (by omega)
      have rn180 : ((own_by (f (q_175 - 1))) &&& (255 : Int32)) = (f (q_175 - 1)) := own_b255 (hp _ (by omega))
      have pre181 := fun t (kt : SF p e below T175 m 44 #[vr x1, vi (Int32.ofNat q_175), vi (Int32.ofNat i_143)] [(.int (32 : Int32)), (.int (f (q_175 - 1)))] t) => pre176 t (by
        refine XS.icmpNo X175.here hx rfl (hb hby d22_30) rfl (tlt hc30).2.1 ?_
        refine XS.aloadN X175.here hx rfl (hb hby d22_33) rfl rfl ?_
        refine XS.iloadN X175.here hx rfl (hb hby d22_34) rfl ?_
        refine XS.iconst X175.here hx rfl (hb hby d22_35) ?_
        show SF p e below T175 m 36 _ [(.int (1 : Int32)), (.int (Int32.ofNat q_175)), (.ref x1)] _
        refine XS.isub X175.here hx rfl (hb hby d22_36) rfl ?_
        show SF p e below T175 m 37 _ [(.int ((Int32.ofNat q_175) - (1 : Int32))), (.ref x1)] _
        rw [rn178]
        show SF p e below T175 m 37 _ [(.int (Int32.ofNat (q_175 - 1))), (.ref x1)] _
        refine X175.baloadBytes hx (j := (Int32.ofNat (q_175 - 1))) (v := (.int (own_by (f (q_175 - 1))))) (by rw [e175]; exact Ar_a179.1) (State.isArrayOf_alike hZa.alike Ar_a179.2.1) Ar_a179.2.2 hin_a179 hat_a179 (g := (mkF m 37 #[vr x1, vi (Int32.ofNat q_175), vi (Int32.ofNat i_143)] [(.int (Int32.ofNat (q_175 - 1))), (.ref x1)])) rfl rfl (hb hby d22_37) _ ?_
        refine XS.sipush X175.here hx rfl (hb hby d22_38) ?_
        refine XS.iand X175.here hx rfl (hb hby d22_41) rfl ?_
        show SF p e below T175 m 42 _ [(.int ((own_by (f (q_175 - 1))) &&& (255 : Int32)))] _
        rw [rn180]
        refine XS.bipush X175.here hx rfl (hb hby d22_42) ?_
        exact kt)
      by_cases hc44 : (32 : Int32) < (f (q_175 - 1))
      · skip
        exact False.elim (by omega)
      · skip
        have pre183 := fun t (kt : SF p e below T175 m 28 #[vr x1, vi ((Int32.ofNat q_175) + (-1 : Int32)), vi (Int32.ofNat i_143)] [] t) => pre181 t (by
          refine XS.icmpNo X175.here hx rfl (hb hby d22_44) rfl (flt hc44).2.2.1 ?_
          refine XS.iinc X175.here hx rfl (hb hby d22_47) rfl (l' := #[vr x1, vi ((Int32.ofNat q_175) + (-1 : Int32)), vi (Int32.ofNat i_143)]) rfl ?_
          show SF p e below T175 m 50 _ [] _
          refine XS.goto X175.here hx rfl (pc0 := 50) (pc' := 28) rfl (hb hby d22_50) (by decide) (by decide) ?_
          exact kt)
        exact ih175 (q_175 - 1) T175 _ h0 (by omega) ⟨(by omega), (by omega), (own_allr hr_175 (by omega) hc44), X175, e175, N175, (fun t kt => pre183 t (by rw [own_predm (by omega)]; exact kt))⟩
    · skip
      have nf184 : ¬ (i_143 < q_175) := fun zq => hc30 ((own_lt (i := i_143) (n := q_175) (by omega) (by omega)).mpr zq)
      have tr185 : own_tr f n i_143 q_175 := ⟨by omega, by omega, hl_143, hr_175, Or.inr ⟨by omega, by omega⟩⟩
      have pre186 := fun t (kt : SF p e below T175 m 54 #[vr x1, vi (Int32.ofNat q_175), vi (Int32.ofNat i_143)] [(.int (Int32.ofNat i_143))] t) => pre176 t (by
        refine XS.icmpYes X175.here hx rfl (pc0 := 30) (pc' := 53) rfl (hb hby d22_30) rfl (flt hc30).2.1 (by decide) (by decide) ?_
        refine XS.iloadN X175.here hx rfl (hb hby d22_53) rfl ?_
        exact kt)
      by_cases hc54 : (0 : Int32) < (Int32.ofNat i_143)
      · skip
        have nf187 : (0 < i_143) := (own_lt (i := 0) (n := i_143) (by omega) (by omega)).mp hc54
        have rn188 : ((Int32.ofNat q_175) - (Int32.ofNat i_143)) = (Int32.ofNat (q_175 - i_143)) := own_sub (by omega)
        obtain ⟨_, _, ⟨T189, L189, k189, n189⟩, -, X189, hS189, hg189, ⟨Lc189, hQ189, l189, y189, z189, R189⟩, st189⟩ := callSS X175 hx (y := (⟨"java/lang/StringLatin1", "newString", "([BII)Ljava/lang/String;"⟩ : MethodName)) howna (mvT hZa (own_wd hw 94 rfl)) (mvT hZa (own_wd hw 95 rfl)) (mvT hZa (own_wd hw 71 rfl)) (mvT hZa (own_wd hw 96 rfl)) (by decide) (backOfSH (s := s) (vm0 := s.vm) (W := 0) (rm23 l Z a0 hw [] x1 ks f n i_143 (q_175 - i_143) h0 n0 Z0 O0 V_x1 (by omega) (by omega) (own_strict hwh tr185)) hZa (own_wd hw 96 rfl) (own_wd hw 71 rfl) (by decide) (by decide) (own_EW hw) CH0) (g := (mkF m 68 #[vr x1, vi (Int32.ofNat q_175), vi (Int32.ofNat i_143)] [(.int (Int32.ofNat (q_175 - i_143))), (.int (Int32.ofNat i_143)), (.ref x1)])) rfl (by rw [hml]; rfl) (argsL := [(.ref x1), (.int (Int32.ofNat i_143)), (.int (Int32.ofNat (q_175 - i_143)))]) (rest := []) (lenOf pd_11 rfl) rfl (by show 2 * 0 + _ ≤ _; exact Nat.le_of_eq rfl) (hb hby d22_68) (fun _ _ => ⟨rfl, e175, (by decide : 0 + 2 ≤ _), (by decide : 0 + 28 ≤ _)⟩)
        dsimp only [Pt.U, Pt.locs, Pt.cells, Pt.slots] at X189 l189 y189 z189 st189 hQ189 hS189 hg189 R189
        subst y189 z189
        obtain ⟨X189, hS189, hZ189, hown189⟩ := rebS hS0 hk0 X189 hS189 (by rw [← e175]; exact hg189) hZa howna
        obtain ⟨b_189, t_189, kk_189, rfl, N189q, KK189, Q189_0, Q189_1, Q189_2, Q189_3⟩ := hQ189
        have N189 : Fr n0 L189 := by rw [l189]; exact Fr.app N175 N189q
        have O189 : Old Z n0 T189.heap := O0.keep KK189 all0
        have Z189 : n0 ≤ T189.heap.size := Nat.le_trans Z0 KK189.1
        have K189 : Keep h0 T189.heap [] := K0.trans KK189 all0
        have CH189 : CHv Z own_EL T189.vm T189.heap := R189.1
        have CR189 : CHr Z own_EL s.vm h0 T189.vm T189.heap := CR0.trans R189
        obtain ⟨fs, hr, hrun, hended, hW, hsame⟩ := X189.leave (v := some (.ref b_189)) (fun h => by rw [Bd.returns] at h; cases h)
        have hend := hS189.ended hW (show _ ≤ T189.heap.size from (Nat.le_refl _)) hsame
        have hcr : CHr Z own_EL s.vm s.heap T189.vm T189.heap := by
          rw [hh]
          exact CR189.trans (CHv.at X189 hZ189 (own_EW hw) CH189)
        refine ⟨_, _, pre186 _ ?_, hrun, hended, _, _, rfl, ?_, hcr, ⟨_, rfl⟩, hend.1, hend.2.1, hend.2.2.mono (by decide) (by decide)⟩
        · show SF p e below T175 m 54 #[vr x1, vi (Int32.ofNat q_175), vi (Int32.ofNat i_143)] [(.int (Int32.ofNat i_143))] _
          refine XS.ifYes X175.here hx rfl (pc0 := 54) (pc' := 63) rfl (hb hby d22_54) rfl ((if0 _ _).trans (tlt hc54).2.2.1) (by decide) (by decide) ?_
          refine XS.aloadN X175.here hx rfl (hb hby d22_63) rfl rfl ?_
          show SF p e below T175 m 64 _ [(.ref x1)] _
          refine XS.iloadN X175.here hx rfl (hb hby d22_64) rfl ?_
          refine XS.iloadN X175.here hx rfl (hb hby d22_65) rfl ?_
          refine XS.iloadN X175.here hx rfl (hb hby d22_66) rfl ?_
          refine XS.isub X175.here hx rfl (hb hby d22_67) rfl ?_
          show SF p e below T175 m 68 _ [(.int ((Int32.ofNat q_175) - (Int32.ofNat i_143))), (.int (Int32.ofNat i_143)), (.ref x1)] _
          rw [rn188]
          show SF p e below T175 m 68 _ [(.int (Int32.ofNat (q_175 - i_143))), (.int (Int32.ofNat i_143)), (.ref x1)] _
          refine st189.trans ?_
          show SF p e below T189 m 71 #[vr x1, vi (Int32.ofNat q_175), vi (Int32.ofNat i_143)] [(.ref b_189)] _
          refine XS.goto X189.here hx rfl (pc0 := 71) (pc' := 75) rfl (hb hby d22_71) (by decide) (by decide) ?_
          show SF p e below T189 m 75 _ [(.ref b_189)] _
          jvm_step X189.here [X189.here.top, hx, (hb hby d22_75), X189.method', Bd.returns, Value.isRef, FieldType.isReference]
          first | (intro acts; rw [hr _ acts rfl rfl rfl]) | rw [hr _ _ rfl rfl rfl]
          exact Steps.refl _
        · show Q22_b Z x1 ks f n h0 n0 _ T189.heap _
          exact ⟨b_189, t_189, kk_189, i_143, q_175, rfl, N189, K189, Q189_0, Q189_1, Q189_2, Q189_3, tr185⟩
      · skip
        have nf190 : ¬ (0 < i_143) := fun zq => hc54 ((own_lt (i := 0) (n := i_143) (by omega) (by omega)).mpr zq)
        obtain ⟨cl_a191, Ar_a191, -, S_a191, N_a191, -, -⟩ := id V_x1
        have pre192 := fun t (kt : SF p e below T175 m 60 #[vr x1, vi (Int32.ofNat q_175), vi (Int32.ofNat i_143)] [(.int (Int32.ofNat n)), (.int (Int32.ofNat q_175))] t) => pre186 t (by
          refine XS.ifNo X175.here hx rfl (hb hby d22_54) rfl ((if0 _ _).trans (flt hc54).2.2.1) ?_
          refine XS.iloadN X175.here hx rfl (hb hby d22_57) rfl ?_
          show SF p e below T175 m 58 _ [(.int (Int32.ofNat q_175))] _
          refine XS.aloadN X175.here hx rfl (hb hby d22_58) rfl rfl ?_
          show SF p e below T175 m 59 _ [(.ref x1), (.int (Int32.ofNat q_175))] _
          refine X175.arraylength hx (by rw [e175]; exact Ar_a191.1) (State.isArrayOf_alike hZa.alike Ar_a191.2.1) (g := (mkF m 59 #[vr x1, vi (Int32.ofNat q_175), vi (Int32.ofNat i_143)] [(.ref x1), (.int (Int32.ofNat q_175))])) rfl rfl (hb hby d22_59) _ ?_
          rw [len_of S_a191 N_a191]
          exact kt)
        by_cases hc60 : (Int32.ofNat q_175) < (Int32.ofNat n)
        · skip
          have nf193 : (q_175 < n) := (own_lt (i := q_175) (n := n) (by omega) (by omega)).mp hc60
          have rn194 : ((Int32.ofNat q_175) - (Int32.ofNat i_143)) = (Int32.ofNat (q_175 - i_143)) := own_sub (by omega)
          obtain ⟨_, _, ⟨T195, L195, k195, n195⟩, -, X195, hS195, hg195, ⟨Lc195, hQ195, l195, y195, z195, R195⟩, st195⟩ := callSS X175 hx (y := (⟨"java/lang/StringLatin1", "newString", "([BII)Ljava/lang/String;"⟩ : MethodName)) howna (mvT hZa (own_wd hw 94 rfl)) (mvT hZa (own_wd hw 95 rfl)) (mvT hZa (own_wd hw 71 rfl)) (mvT hZa (own_wd hw 96 rfl)) (by decide) (backOfSH (s := s) (vm0 := s.vm) (W := 0) (rm23 l Z a0 hw [] x1 ks f n i_143 (q_175 - i_143) h0 n0 Z0 O0 V_x1 (by omega) (by omega) (own_strict hwh tr185)) hZa (own_wd hw 96 rfl) (own_wd hw 71 rfl) (by decide) (by decide) (own_EW hw) CH0) (g := (mkF m 68 #[vr x1, vi (Int32.ofNat q_175), vi (Int32.ofNat i_143)] [(.int (Int32.ofNat (q_175 - i_143))), (.int (Int32.ofNat i_143)), (.ref x1)])) rfl (by rw [hml]; rfl) (argsL := [(.ref x1), (.int (Int32.ofNat i_143)), (.int (Int32.ofNat (q_175 - i_143)))]) (rest := []) (lenOf pd_11 rfl) rfl (by show 2 * 0 + _ ≤ _; exact Nat.le_of_eq rfl) (hb hby d22_68) (fun _ _ => ⟨rfl, e175, (by decide : 0 + 2 ≤ _), (by decide : 0 + 28 ≤ _)⟩)
          dsimp only [Pt.U, Pt.locs, Pt.cells, Pt.slots] at X195 l195 y195 z195 st195 hQ195 hS195 hg195 R195
          subst y195 z195
          obtain ⟨X195, hS195, hZ195, hown195⟩ := rebS hS0 hk0 X195 hS195 (by rw [← e175]; exact hg195) hZa howna
          obtain ⟨b_195, t_195, kk_195, rfl, N195q, KK195, Q195_0, Q195_1, Q195_2, Q195_3⟩ := hQ195
          have N195 : Fr n0 L195 := by rw [l195]; exact Fr.app N175 N195q
          have O195 : Old Z n0 T195.heap := O0.keep KK195 all0
          have Z195 : n0 ≤ T195.heap.size := Nat.le_trans Z0 KK195.1
          have K195 : Keep h0 T195.heap [] := K0.trans KK195 all0
          have CH195 : CHv Z own_EL T195.vm T195.heap := R195.1
          have CR195 : CHr Z own_EL s.vm h0 T195.vm T195.heap := CR0.trans R195
          obtain ⟨fs, hr, hrun, hended, hW, hsame⟩ := X195.leave (v := some (.ref b_195)) (fun h => by rw [Bd.returns] at h; cases h)
          have hend := hS195.ended hW (show _ ≤ T195.heap.size from (Nat.le_refl _)) hsame
          have hcr : CHr Z own_EL s.vm s.heap T195.vm T195.heap := by
            rw [hh]
            exact CR195.trans (CHv.at X195 hZ195 (own_EW hw) CH195)
          refine ⟨_, _, pre192 _ ?_, hrun, hended, _, _, rfl, ?_, hcr, ⟨_, rfl⟩, hend.1, hend.2.1, hend.2.2.mono (by decide) (by decide)⟩
          · show SF p e below T175 m 60 #[vr x1, vi (Int32.ofNat q_175), vi (Int32.ofNat i_143)] [(.int (Int32.ofNat n)), (.int (Int32.ofNat q_175))] _
            refine XS.icmpNo X175.here hx rfl (hb hby d22_60) rfl (tlt hc60).2.1 ?_
            refine XS.aloadN X175.here hx rfl (hb hby d22_63) rfl rfl ?_
            refine XS.iloadN X175.here hx rfl (hb hby d22_64) rfl ?_
            refine XS.iloadN X175.here hx rfl (hb hby d22_65) rfl ?_
            refine XS.iloadN X175.here hx rfl (hb hby d22_66) rfl ?_
            show SF p e below T175 m 67 _ [(.int (Int32.ofNat i_143)), (.int (Int32.ofNat q_175)), (.int (Int32.ofNat i_143)), (.ref x1)] _
            refine XS.isub X175.here hx rfl (hb hby d22_67) rfl ?_
            show SF p e below T175 m 68 _ [(.int ((Int32.ofNat q_175) - (Int32.ofNat i_143))), (.int (Int32.ofNat i_143)), (.ref x1)] _
            rw [rn194]
            show SF p e below T175 m 68 _ [(.int (Int32.ofNat (q_175 - i_143))), (.int (Int32.ofNat i_143)), (.ref x1)] _
            refine st195.trans ?_
            show SF p e below T195 m 71 #[vr x1, vi (Int32.ofNat q_175), vi (Int32.ofNat i_143)] [(.ref b_195)] _
            refine XS.goto X195.here hx rfl (pc0 := 71) (pc' := 75) rfl (hb hby d22_71) (by decide) (by decide) ?_
            show SF p e below T195 m 75 _ [(.ref b_195)] _
            jvm_step X195.here [X195.here.top, hx, (hb hby d22_75), X195.method', Bd.returns, Value.isRef, FieldType.isReference]
            first | (intro acts; rw [hr _ acts rfl rfl rfl]) | rw [hr _ _ rfl rfl rfl]
            exact Steps.refl _
          · show Q22_b Z x1 ks f n h0 n0 _ T195.heap _
            exact ⟨b_195, t_195, kk_195, i_143, q_175, rfl, N195, K195, Q195_0, Q195_1, Q195_2, Q195_3, tr185⟩
        · skip
          have nf196 : ¬ (q_175 < n) := fun zq => hc60 ((own_lt (i := q_175) (n := n) (by omega) (by omega)).mpr zq)
          exact False.elim (hwh (own_tr_whole (by have q := tr185; rw [show i_143 = 0 by omega, show q_175 = n by omega] at q; exact q)))
theorem d21_0 : decode jdk_42_method_113_code 0 = .ok (.aload_n 0, 1) := by decide +kernel
theorem d21_1 : decode jdk_42_method_113_code 1 = .ok (.invokevirtual 492, 3) := by decide +kernel
theorem d21_4 : decode jdk_42_method_113_code 4 = .ok (.ifCond .eq 13, 3) := by decide +kernel
theorem d21_7 : decode jdk_42_method_113_code 7 = .ok (.aload_n 0, 1) := by decide +kernel
theorem d21_8 : decode jdk_42_method_113_code 8 = .ok (.getfield 9, 3) := by decide +kernel
theorem pd_12 : parseMethodDescriptor "([B)Ljava/lang/String;" = some ⟨[(.array .byte)], some (.object "java/lang/String")⟩ := by decide +kernel
theorem d21_11 : decode jdk_42_method_113_code 11 = .ok (.invokestatic 859, 3) := by decide +kernel
theorem d21_14 : decode jdk_42_method_113_code 14 = .ok (.goto 10, 3) := by decide +kernel
theorem d21_24 : decode jdk_42_method_113_code 24 = .ok (.astore_n 1, 1) := by decide +kernel
theorem d21_25 : decode jdk_42_method_113_code 25 = .ok (.aload_n 1, 1) := by decide +kernel
theorem d21_26 : decode jdk_42_method_113_code 26 = .ok (.ifnonnull 7, 3) := by decide +kernel
theorem d21_29 : decode jdk_42_method_113_code 29 = .ok (.aload_n 0, 1) := by decide +kernel
theorem d21_30 : decode jdk_42_method_113_code 30 = .ok (.goto 4, 3) := by decide +kernel
theorem d21_34 : decode jdk_42_method_113_code 34 = .ok (.areturn, 1) := by decide +kernel
theorem d21_33 : decode jdk_42_method_113_code 33 = .ok (.aload_n 1, 1) := by decide +kernel
theorem ef21 (m : MethodId) (tz : Addr) : entryFrame m #[(.ref tz)] 2 = mkF m 0 #[vr tz, un] [] := by first | (simp [entryFrame, mkF, argsToLocals, Value.category]; done) | rfl
def Q21 (Z : State) (tz : Addr) (tz_value : Addr) (ks : ClassId) (f : Nat → Int32) (n : Nat) (st_COMPACT_STRINGS : Int32) (h0 : Heap) (n0 : Nat) (v : Option Value) (h : Heap) (L : List Loc) : Prop := ∃ (b : Addr), ∃ (t : Addr), ∃ (kk : ClassId), ∃ (ua : Nat), ∃ (ub : Nat), v = some (.ref b) ∧ Fr n0 L ∧ Keep h0 h [] ∧ Exa Z h b "java/lang/String" ∧ Fld Z h b "java/lang/String" "value" "[B" (.ref t) ∧ Fld Z h b "java/lang/String" "coder" "B" (.int (0 : Int32)) ∧ Arv Z h t kk .byte (Int32.ofNat (ub - ua)) (own_fv (own_sh f ua) (ub - ua)) (.int 0) ∧ (own_tr f n ua ub)
set_option maxRecDepth 65536 in
set_option maxHeartbeats 40000000 in
theorem rm21 (l : Launch) (Z : State) (a0 : Array Value) (hw : ∀ d ∈ tables_1, d.before a0 Z = true) (ws : List Jvm.Cond) (tz : Addr) (tz_value : Addr) (ks : ClassId) (f : Nat → Int32) (n : Nat) (st_COMPACT_STRINGS : Int32) (h0 : Heap) (n0 : Nat) (Z0 : n0 ≤ h0.size) (O0 : Old Z n0 h0) (E_tz : Exa Z h0 tz "java/lang/String") (F_tz_value : Fld Z h0 tz "java/lang/String" "value" "[B" (.ref tz_value)) (F_tz_coder : Fld Z h0 tz "java/lang/String" "coder" "B" (.int (0 : Int32))) (V_tz_value : Arv Z h0 tz_value ks .byte (Int32.ofNat n) (own_fv f n) (.int 0)) (hp : ∀ j, j < n → ¬ f j < 0 ∧ ¬ (255 : Int32) < f j) (hn : n ≤ 24) (S_COMPACT_STRINGS : Sta Z Z.heap "java/lang/String" "COMPACT_STRINGS" "Z" (.int st_COMPACT_STRINGS)) (hcomp : ¬ (st_COMPACT_STRINGS = (0 : Int32))) :
    MetFree l (⟨"java/lang/String", "trim", "()Ljava/lang/String;"⟩ : MethodName) (head1 (Jvm.Cond.code (⟨"java/lang/String", "trim", "()Ljava/lang/String;"⟩ : MethodName) jdk_42_method_113_code 2 (some (.object "java/lang/String")) :: ws) ({ frames := 5, cells := 2, slots := 28, locals := 78 } : Room)) (fun a U => a = #[(.ref tz)] ∧ Z.Warmed39 U.vm ∧ U.heap = h0 ∧ CHv Z own_EL U.vm h0) (fun _ _ _ _ _ => True) (fun _ U o U' => ∃ v L, o = .returned v ∧ Q21 Z tz tz_value ks f n st_COMPACT_STRINGS h0 n0 v U'.heap L ∧ CHr Z own_EL U.vm U.heap U'.vm U'.heap ∧ ReturnedEndW U o U' L ({ frames := 5, cells := 2, slots := 28, locals := 78 } : Room).cells ({ frames := 5, cells := 2, slots := 28, locals := 78 } : Room).slots) := by
  refine MetFree.of_bodySF (plainFor_of_name pn_java_lang_String) hisR ?_
  intro p e s m args below meth c s₁ Bd hml0 hP hK
  obtain ⟨rfl, hZ, hh, CH0⟩ := hP
  have hx := Bd.exec
  have hby := Bd.bytes
  have hml : c.maxLocals = 2 := hml0
  have hown : (s.setVm s.vm).vm.findClass "java/lang/String" = some m.cls := findClass_of_methodNamed Bd.named
  have hnm := (name_of_methodNamed Bd.named Bd.method).1
  have X0 : Stand p l e ({ frames := 5, cells := 2, slots := 28, locals := 78 } : Room) (s.setVm s.vm) m #[(.ref tz)] below meth c s₁ [] 0 0 := Stand.of_body Bd
  have e0 : s₁.heap = h0 := by rw [← hh, Bd.state]; rfl
  have N0 := Fr.nil n0
  have K0 : Keep h0 h0 [] := Keep.refl _ _
  have pre0 : ∀ t, SF p e below s₁ m 0 #[vr tz, un] [] t → Steps p.tables e below (s₁.setTop (entryFrame m #[(.ref tz)] 2)) t := fun t k => castTop (ef21 m tz) k
  have hZa : Z.Warmed39 (s.setVm s.vm).vm := hZ
  have howna : (s.setVm s.vm).vm.findClass "java/lang/String" = some m.cls := hown
  have hS0 : s.Since s.vm h0.size := (State.WarmedH.refl s).since _
  have hk0 : h0.size ≤ h0.size := Nat.le_refl _
  have CR0 : CHr Z own_EL s.vm h0 s.vm h0 := CHr.refl CH0
  rcases Classical.em (own_whole f n) with hwh | hwh
  · skip
    obtain ⟨cq197, kq197, q197a, q197b, q197c⟩ := isOf hZa e0 E_tz
    obtain ⟨_, _, ⟨T197, L197, k197, n197⟩, -, X197, ⟨Lc197, hQ197, l197, y197, z197⟩, st197⟩ := X0.virtualBack hx (y := (⟨"java/lang/String", "isLatin1", "()Z"⟩ : MethodName)) (z := (⟨"java/lang/String", "isLatin1", "()Z"⟩ : MethodName)) howna (mvT hZa (own_wd hw 54 rfl)) (mvT hZa (own_wd hw 55 rfl)) (notFace_of_selects (args := #[]) (mvT hZa (own_wd hw 57 rfl))) (mvT hZa (own_wd hw 57 rfl)) (mvT hZa (own_wd hw 56 rfl)) (by decide) (backOf (W := 0) (rm13 l Z a0 hw [] tz st_COMPACT_STRINGS h0 n0 Z0 O0 F_tz_coder S_COMPACT_STRINGS hcomp) hZa (own_wd hw 58 rfl) (own_wd hw 10 rfl) (by decide) (by decide)) q197a q197c (g := (mkF m 1 #[vr tz, un] [(.ref tz)])) rfl (by rw [hml]; rfl) (Steps.refl _) (argsL := []) (rest := []) (lenOf pd_4 rfl) rfl (by show 2 * 0 + _ ≤ _; exact Nat.le_of_eq rfl) (hb hby d21_1) (fun _ _ => ⟨rfl, e0, (by decide : 0 + 0 ≤ _), (by decide : 0 + 0 ≤ _)⟩)
    dsimp only [Pt.U, Pt.locs, Pt.cells, Pt.slots] at X197 l197 y197 z197 st197 hQ197
    subst y197 z197
    obtain ⟨rfl, N197q, eh197⟩ := hQ197
    have N197 : Fr n0 L197 := by rw [l197]; exact Fr.app N0 N197q
    obtain ⟨T198, X198, e198, st198⟩ := getF X197 hx hZa howna (host := "") (Or.inl (own_wd hw 35 rfl)) Via.refl eh197 F_tz_value (g := (mkF m 8 #[vr tz, un] [(.ref tz)])) rfl rfl (hb hby d21_8)
    have pp199 : own_whole f n := hwh
    obtain ⟨_, _, ⟨T200, L200, k200, n200⟩, -, X200, ⟨Lc200, hQ200, l200, y200, z200⟩, st200⟩ := Jvm.LawKit.callS X198 hx (y := (⟨"java/lang/StringLatin1", "trim", "([B)Ljava/lang/String;"⟩ : MethodName)) howna (mvT hZa (own_wd hw 91 rfl)) (mvT hZa (own_wd hw 92 rfl)) (mvT hZa (own_wd hw 71 rfl)) (mvT hZa (own_wd hw 93 rfl)) (by decide) (backOf (W := 0) (rm22_a l Z a0 hw [] tz_value ks f n h0 n0 Z0 O0 V_tz_value hp (by omega) pp199) hZa (own_wd hw 93 rfl) (own_wd hw 71 rfl) (by decide) (by decide)) (g := (mkF m 11 #[vr tz, un] [(.ref tz_value)])) rfl (by rw [hml]; rfl) (argsL := [(.ref tz_value)]) (rest := []) (lenOf pd_12 rfl) rfl (by show 2 * 0 + _ ≤ _; exact Nat.le_of_eq rfl) (hb hby d21_11) (fun _ _ => ⟨rfl, e198, (by decide : 0 + 0 ≤ _), (by decide : 0 + 0 ≤ _)⟩)
    dsimp only [Pt.U, Pt.locs, Pt.cells, Pt.slots] at X200 l200 y200 z200 st200 hQ200
    subst y200 z200
    obtain ⟨rfl, N200q, eh200⟩ := hQ200
    have N200 : Fr n0 L200 := by rw [l200]; exact Fr.app N197 N200q
    obtain ⟨fs, hr, hrun, hended, hW, hsame⟩ := X200.leave (v := some (.ref tz)) (fun h => by rw [Bd.returns] at h; cases h)
    have hend := hS0.ended hW (show _ ≤ T200.heap.size from by rw [eh200]; exact hk0) hsame
    have hcr : CHr Z own_EL s.vm s.heap T200.vm T200.heap := by
      rw [hh, eh200]
      exact CR0.trans (CHv.at X200 hZa (own_EW hw) CH0)
    refine ⟨_, _, pre0 _ ?_, hrun, hended, _, _, rfl, ?_, hcr, ⟨_, rfl⟩, hend.1, hend.2.1, hend.2.2.mono (by decide) (by decide)⟩
    · show SF p e below s₁ m 0 #[vr tz, un] [] _
      refine XS.aloadN X0.here hx rfl (hb hby d21_0) rfl rfl ?_
      show SF p e below s₁ m 1 #[vr tz, un] [(.ref tz)] _
      refine st197.trans ?_
      show SF p e below T197 m 4 #[vr tz, un] [(.int (1 : Int32))] _
      refine XS.ifNo X197.here hx rfl (hb hby d21_4) rfl ((if0 _ _).trans (feq (by decide : ¬ ((1 : Int32) = (0 : Int32)))).1) ?_
      refine XS.aloadN X197.here hx rfl (hb hby d21_7) rfl rfl ?_
      show SF p e below T197 m 8 _ [(.ref tz)] _
      refine st198 _ ?_
      show SF p e below T198 m 11 #[vr tz, un] [(.ref tz_value)] _
      refine st200 _ ?_
      show SF p e below T200 m 14 #[vr tz, un] [.null] _
      refine XS.goto X200.here hx rfl (pc0 := 14) (pc' := 24) rfl (hb hby d21_14) (by decide) (by decide) ?_
      refine XS.astoreN X200.here hx rfl (hb hby d21_24) rfl rfl (l' := #[vr tz, .val .null]) rfl ?_
      refine XS.aloadN X200.here hx rfl (hb hby d21_25) rfl rfl ?_
      show SF p e below T200 m 26 _ [.null] _
      refine XS.ifnonnullNo X200.here hx rfl (hb hby d21_26) rfl ?_
      refine XS.aloadN X200.here hx rfl (hb hby d21_29) rfl rfl ?_
      refine XS.goto X200.here hx rfl (pc0 := 30) (pc' := 34) rfl (hb hby d21_30) (by decide) (by decide) ?_
      show SF p e below T200 m 34 _ [(.ref tz)] _
      jvm_step X200.here [X200.here.top, hx, (hb hby d21_34), X200.method', Bd.returns, Value.isRef, FieldType.isReference]
      first | (intro acts; rw [hr _ acts rfl rfl rfl]) | rw [hr _ _ rfl rfl rfl]
      exact Steps.refl _
    · show Q21 Z tz tz_value ks f n st_COMPACT_STRINGS h0 n0 _ T200.heap _
      rw [eh200]
      exact ⟨tz, tz_value, ks, 0, n, rfl, N200, K0, E_tz, F_tz_value, F_tz_coder, (by rw [own_sh0]; exact V_tz_value), (own_tr_of hwh)⟩
  · skip
    obtain ⟨cq201, kq201, q201a, q201b, q201c⟩ := isOf hZa e0 E_tz
    obtain ⟨_, _, ⟨T201, L201, k201, n201⟩, -, X201, ⟨Lc201, hQ201, l201, y201, z201⟩, st201⟩ := X0.virtualBack hx (y := (⟨"java/lang/String", "isLatin1", "()Z"⟩ : MethodName)) (z := (⟨"java/lang/String", "isLatin1", "()Z"⟩ : MethodName)) howna (mvT hZa (own_wd hw 54 rfl)) (mvT hZa (own_wd hw 55 rfl)) (notFace_of_selects (args := #[]) (mvT hZa (own_wd hw 57 rfl))) (mvT hZa (own_wd hw 57 rfl)) (mvT hZa (own_wd hw 56 rfl)) (by decide) (backOf (W := 0) (rm13 l Z a0 hw [] tz st_COMPACT_STRINGS h0 n0 Z0 O0 F_tz_coder S_COMPACT_STRINGS hcomp) hZa (own_wd hw 58 rfl) (own_wd hw 10 rfl) (by decide) (by decide)) q201a q201c (g := (mkF m 1 #[vr tz, un] [(.ref tz)])) rfl (by rw [hml]; rfl) (Steps.refl _) (argsL := []) (rest := []) (lenOf pd_4 rfl) rfl (by show 2 * 0 + _ ≤ _; exact Nat.le_of_eq rfl) (hb hby d21_1) (fun _ _ => ⟨rfl, e0, (by decide : 0 + 0 ≤ _), (by decide : 0 + 0 ≤ _)⟩)
    dsimp only [Pt.U, Pt.locs, Pt.cells, Pt.slots] at X201 l201 y201 z201 st201 hQ201
    subst y201 z201
    obtain ⟨rfl, N201q, eh201⟩ := hQ201
    have N201 : Fr n0 L201 := by rw [l201]; exact Fr.app N0 N201q
    obtain ⟨T202, X202, e202, st202⟩ := getF X201 hx hZa howna (host := "") (Or.inl (own_wd hw 35 rfl)) Via.refl eh201 F_tz_value (g := (mkF m 8 #[vr tz, un] [(.ref tz)])) rfl rfl (hb hby d21_8)
    have pp203 : ¬ own_whole f n := hwh
    obtain ⟨_, _, ⟨T204, L204, k204, n204⟩, -, X204, hS204, hg204, ⟨Lc204, hQ204, l204, y204, z204, R204⟩, st204⟩ := callSS X202 hx (y := (⟨"java/lang/StringLatin1", "trim", "([B)Ljava/lang/String;"⟩ : MethodName)) howna (mvT hZa (own_wd hw 91 rfl)) (mvT hZa (own_wd hw 92 rfl)) (mvT hZa (own_wd hw 71 rfl)) (mvT hZa (own_wd hw 93 rfl)) (by decide) (backOfSH (s := s) (vm0 := s.vm) (W := 0) (rm22_b l Z a0 hw [] tz_value ks f n h0 n0 Z0 O0 V_tz_value hp (by omega) pp203) hZa (own_wd hw 93 rfl) (own_wd hw 71 rfl) (by decide) (by decide) (own_EW hw) CH0) (g := (mkF m 11 #[vr tz, un] [(.ref tz_value)])) rfl (by rw [hml]; rfl) (argsL := [(.ref tz_value)]) (rest := []) (lenOf pd_12 rfl) rfl (by show 2 * 0 + _ ≤ _; exact Nat.le_of_eq rfl) (hb hby d21_11) (fun _ _ => ⟨rfl, e202, (by decide : 0 + 2 ≤ _), (by decide : 0 + 28 ≤ _)⟩)
    dsimp only [Pt.U, Pt.locs, Pt.cells, Pt.slots] at X204 l204 y204 z204 st204 hQ204 hS204 hg204 R204
    subst y204 z204
    obtain ⟨X204, hS204, hZ204, hown204⟩ := rebS hS0 hk0 X204 hS204 (by rw [← e202]; exact hg204) hZa howna
    obtain ⟨b_204, t_204, kk_204, ua_204, ub_204, rfl, N204q, KK204, Q204_0, Q204_1, Q204_2, Q204_3, Q204_4⟩ := hQ204
    have N204 : Fr n0 L204 := by rw [l204]; exact Fr.app N201 N204q
    have O204 : Old Z n0 T204.heap := O0.keep KK204 all0
    have Z204 : n0 ≤ T204.heap.size := Nat.le_trans Z0 KK204.1
    have K204 : Keep h0 T204.heap [] := K0.trans KK204 all0
    have CH204 : CHv Z own_EL T204.vm T204.heap := R204.1
    have CR204 : CHr Z own_EL s.vm h0 T204.vm T204.heap := CR0.trans R204
    obtain ⟨fs, hr, hrun, hended, hW, hsame⟩ := X204.leave (v := some (.ref b_204)) (fun h => by rw [Bd.returns] at h; cases h)
    have hend := hS204.ended hW (show _ ≤ T204.heap.size from (Nat.le_refl _)) hsame
    have hcr : CHr Z own_EL s.vm s.heap T204.vm T204.heap := by
      rw [hh]
      exact CR204.trans (CHv.at X204 hZ204 (own_EW hw) CH204)
    refine ⟨_, _, pre0 _ ?_, hrun, hended, _, _, rfl, ?_, hcr, ⟨_, rfl⟩, hend.1, hend.2.1, hend.2.2.mono (by decide) (by decide)⟩
    · show SF p e below s₁ m 0 #[vr tz, un] [] _
      refine XS.aloadN X0.here hx rfl (hb hby d21_0) rfl rfl ?_
      show SF p e below s₁ m 1 #[vr tz, un] [(.ref tz)] _
      refine st201.trans ?_
      show SF p e below T201 m 4 #[vr tz, un] [(.int (1 : Int32))] _
      refine XS.ifNo X201.here hx rfl (hb hby d21_4) rfl ((if0 _ _).trans (feq (by decide : ¬ ((1 : Int32) = (0 : Int32)))).1) ?_
      refine XS.aloadN X201.here hx rfl (hb hby d21_7) rfl rfl ?_
      show SF p e below T201 m 8 _ [(.ref tz)] _
      refine st202 _ ?_
      show SF p e below T202 m 11 #[vr tz, un] [(.ref tz_value)] _
      refine st204.trans ?_
      show SF p e below T204 m 14 #[vr tz, un] [(.ref b_204)] _
      refine XS.goto X204.here hx rfl (pc0 := 14) (pc' := 24) rfl (hb hby d21_14) (by decide) (by decide) ?_
      refine XS.astoreN X204.here hx rfl (hb hby d21_24) rfl rfl (l' := #[vr tz, vr b_204]) rfl ?_
      refine XS.aloadN X204.here hx rfl (hb hby d21_25) rfl rfl ?_
      show SF p e below T204 m 26 _ [(.ref b_204)] _
      refine XS.ifnonnullYes X204.here hx rfl (pc0 := 26) (pc' := 33) rfl (hb hby d21_26) rfl (by decide) (by decide) ?_
      refine XS.aloadN X204.here hx rfl (hb hby d21_33) rfl rfl ?_
      show SF p e below T204 m 34 _ [(.ref b_204)] _
      jvm_step X204.here [X204.here.top, hx, (hb hby d21_34), X204.method', Bd.returns, Value.isRef, FieldType.isReference]
      first | (intro acts; rw [hr _ acts rfl rfl rfl]) | rw [hr _ _ rfl rfl rfl]
      exact Steps.refl _
    · show Q21 Z tz tz_value ks f n st_COMPACT_STRINGS h0 n0 _ T204.heap _
      exact ⟨b_204, t_204, kk_204, ua_204, ub_204, rfl, N204, K204, Q204_0, Q204_1, Q204_2, Q204_3, (by assumption)⟩
theorem d30_0 : decode jdk_116_method_20_code 0 = .ok (.iload_n 1, 1) := by decide +kernel
theorem d30_1 : decode jdk_116_method_20_code 1 = .ok (.bipush 65, 2) := by decide +kernel
theorem d30_3 : decode jdk_116_method_20_code 3 = .ok (.if_icmp .ge 5, 3) := by decide +kernel
theorem d30_6 : decode jdk_116_method_20_code 6 = .ok (.iload_n 1, 1) := by decide +kernel
theorem d30_7 : decode jdk_116_method_20_code 7 = .ok (.ireturn, 1) := by decide +kernel
theorem d30_8 : decode jdk_116_method_20_code 8 = .ok (.iload_n 1, 1) := by decide +kernel
theorem d30_9 : decode jdk_116_method_20_code 9 = .ok (.bipush 32, 2) := by decide +kernel
theorem d30_11 : decode jdk_116_method_20_code 11 = .ok (.ior, 1) := by decide +kernel
theorem d30_12 : decode jdk_116_method_20_code 12 = .ok (.istore_n 2, 1) := by decide +kernel
theorem d30_13 : decode jdk_116_method_20_code 13 = .ok (.iload_n 2, 1) := by decide +kernel
theorem d30_14 : decode jdk_116_method_20_code 14 = .ok (.bipush 122, 2) := by decide +kernel
theorem d30_16 : decode jdk_116_method_20_code 16 = .ok (.if_icmp .le 24, 3) := by decide +kernel
theorem d30_19 : decode jdk_116_method_20_code 19 = .ok (.iload_n 2, 1) := by decide +kernel
theorem d30_20 : decode jdk_116_method_20_code 20 = .ok (.sipush 224, 3) := by decide +kernel
theorem d30_23 : decode jdk_116_method_20_code 23 = .ok (.if_icmp .lt 19, 3) := by decide +kernel
theorem d30_42 : decode jdk_116_method_20_code 42 = .ok (.iload_n 1, 1) := by decide +kernel
theorem d30_43 : decode jdk_116_method_20_code 43 = .ok (.ireturn, 1) := by decide +kernel
theorem d30_26 : decode jdk_116_method_20_code 26 = .ok (.iload_n 2, 1) := by decide +kernel
theorem d30_27 : decode jdk_116_method_20_code 27 = .ok (.sipush 254, 3) := by decide +kernel
theorem d30_30 : decode jdk_116_method_20_code 30 = .ok (.if_icmp .gt 12, 3) := by decide +kernel
theorem d30_33 : decode jdk_116_method_20_code 33 = .ok (.iload_n 2, 1) := by decide +kernel
theorem d30_34 : decode jdk_116_method_20_code 34 = .ok (.sipush 247, 3) := by decide +kernel
theorem d30_37 : decode jdk_116_method_20_code 37 = .ok (.if_icmp .eq 5, 3) := by decide +kernel
theorem d30_40 : decode jdk_116_method_20_code 40 = .ok (.iload_n 2, 1) := by decide +kernel
theorem d30_41 : decode jdk_116_method_20_code 41 = .ok (.ireturn, 1) := by decide +kernel
theorem pn_java_lang_CharacterDataLatin1 : plainName "java/lang/CharacterDataLatin1" = true := by first | (simp [plainName, overriddenIn]; done) | decide +kernel
theorem ef30 (m : MethodId) (tz : Addr) (x1 : Int32) : entryFrame m #[(.ref tz), (.int x1)] 3 = mkF m 0 #[vr tz, vi x1, un] [] := by first | (simp [entryFrame, mkF, argsToLocals, Value.category]; done) | rfl
def Q30 (Z : State) (tz : Addr) (x1 : Int32) (h0 : Heap) (n0 : Nat) (v : Option Value) (h : Heap) (L : List Loc) : Prop := v = some (.int (own_low x1)) ∧ Fr n0 L ∧ h = h0
set_option maxRecDepth 65536 in
set_option maxHeartbeats 40000000 in
theorem rm30 (l : Launch) (Z : State) (a0 : Array Value) (hw : ∀ d ∈ tables_1, d.before a0 Z = true) (ws : List Jvm.Cond) (tz : Addr) (x1 : Int32) (h0 : Heap) (n0 : Nat) (Z0 : n0 ≤ h0.size) (O0 : Old Z n0 h0) :
    MetFree l (⟨"java/lang/CharacterDataLatin1", "toLowerCase", "(I)I"⟩ : MethodName) (head1 (Jvm.Cond.code (⟨"java/lang/CharacterDataLatin1", "toLowerCase", "(I)I"⟩ : MethodName) jdk_116_method_20_code 3 (some .int) :: ws) ({ frames := 0, cells := 0, slots := 0, locals := 0 } : Room)) (fun a U => a = #[(.ref tz), (.int x1)] ∧ Z.Warmed39 U.vm ∧ U.heap = h0) (fun _ _ _ _ _ => True) (fun _ U o U' => ∃ v L, o = .returned v ∧ Q30 Z tz x1 h0 n0 v U'.heap L ∧ FrameEnd U o U' L ({ frames := 0, cells := 0, slots := 0, locals := 0 } : Room).cells ({ frames := 0, cells := 0, slots := 0, locals := 0 } : Room).slots) := by
  refine MetFree.of_bodySF (plainFor_of_name pn_java_lang_CharacterDataLatin1) hisR ?_
  intro p e s m args below meth c s₁ Bd hml0 hP hK
  obtain ⟨rfl, hZ, hh⟩ := hP
  have hx := Bd.exec
  have hby := Bd.bytes
  have hml : c.maxLocals = 3 := hml0
  have hown : s.vm.findClass "java/lang/CharacterDataLatin1" = some m.cls := findClass_of_methodNamed Bd.named
  have hnm := (name_of_methodNamed Bd.named Bd.method).1
  have X0 : Stand p l e ({ frames := 0, cells := 0, slots := 0, locals := 0 } : Room) s m #[(.ref tz), (.int x1)] below meth c s₁ [] 0 0 := Stand.of_body Bd
  have e0 : s₁.heap = h0 := by rw [← hh, Bd.state]; rfl
  have N0 := Fr.nil n0
  have K0 : Keep h0 h0 [] := Keep.refl _ _
  have pre0 : ∀ t, SF p e below s₁ m 0 #[vr tz, vi x1, un] [] t → Steps p.tables e below (s₁.setTop (entryFrame m #[(.ref tz), (.int x1)] 3)) t := fun t k => castTop (ef30 m tz x1) k
  have pre205 := fun t (kt : SF p e below s₁ m 3 #[vr tz, vi x1, un] [(.int (65 : Int32)), (.int x1)] t) => pre0 t (by
    refine XS.iloadN X0.here hx rfl (hb hby d30_0) rfl ?_
    refine XS.bipush X0.here hx rfl (hb hby d30_1) ?_
    exact kt)
  by_cases hc3 : x1 < (65 : Int32)
  · skip
    obtain ⟨fs, hr, hrun, hended, hW, hsame⟩ := X0.leave (v := some (.int x1)) (fun h => by rw [Bd.returns] at h; cases h)
    refine ⟨_, _, pre205 _ ?_, hrun, hended, _, _, rfl, ?_, ⟨_, rfl⟩, hW, hsame.mono (by decide) (by decide)⟩
    · show SF p e below s₁ m 3 #[vr tz, vi x1, un] [(.int (65 : Int32)), (.int x1)] _
      refine XS.icmpNo X0.here hx rfl (hb hby d30_3) rfl (tlt hc3).2.1 ?_
      refine XS.iloadN X0.here hx rfl (hb hby d30_6) rfl ?_
      show SF p e below s₁ m 7 _ [(.int x1)] _
      exact retI X0 hx Bd.returns (hb hby d30_7) hr
    · show Q30 Z tz x1 h0 n0 _ s₁.heap _
      rw [e0]
      exact ⟨(by unfold own_low; repeat first | rw [if_pos (by assumption)] | rw [if_neg (by assumption)]), N0, rfl⟩
  · skip
    have pre206 := fun t (kt : SF p e below s₁ m 16 #[vr tz, vi x1, vi (x1 ||| (32 : Int32))] [(.int (122 : Int32)), (.int (x1 ||| (32 : Int32)))] t) => pre205 t (by
      refine XS.icmpYes X0.here hx rfl (pc0 := 3) (pc' := 8) rfl (hb hby d30_3) rfl (flt hc3).2.1 (by decide) (by decide) ?_
      refine XS.iloadN X0.here hx rfl (hb hby d30_8) rfl ?_
      refine XS.bipush X0.here hx rfl (hb hby d30_9) ?_
      show SF p e below s₁ m 11 _ [(.int (32 : Int32)), (.int x1)] _
      refine XS.ior X0.here hx rfl (hb hby d30_11) rfl ?_
      refine XS.istoreN X0.here hx rfl (hb hby d30_12) rfl (l' := #[vr tz, vi x1, vi (x1 ||| (32 : Int32))]) rfl ?_
      refine XS.iloadN X0.here hx rfl (hb hby d30_13) rfl ?_
      refine XS.bipush X0.here hx rfl (hb hby d30_14) ?_
      exact kt)
    by_cases hc16 : (122 : Int32) < (x1 ||| (32 : Int32))
    · skip
      have pre207 := fun t (kt : SF p e below s₁ m 23 #[vr tz, vi x1, vi (x1 ||| (32 : Int32))] [(.int (224 : Int32)), (.int (x1 ||| (32 : Int32)))] t) => pre206 t (by
        refine XS.icmpNo X0.here hx rfl (hb hby d30_16) rfl (tlt hc16).2.2.2 ?_
        refine XS.iloadN X0.here hx rfl (hb hby d30_19) rfl ?_
        show SF p e below s₁ m 20 _ [(.int (x1 ||| (32 : Int32)))] _
        refine XS.sipush X0.here hx rfl (hb hby d30_20) ?_
        exact kt)
      by_cases hc23 : (x1 ||| (32 : Int32)) < (224 : Int32)
      · skip
        obtain ⟨fs, hr, hrun, hended, hW, hsame⟩ := X0.leave (v := some (.int x1)) (fun h => by rw [Bd.returns] at h; cases h)
        refine ⟨_, _, pre207 _ ?_, hrun, hended, _, _, rfl, ?_, ⟨_, rfl⟩, hW, hsame.mono (by decide) (by decide)⟩
        · show SF p e below s₁ m 23 #[vr tz, vi x1, vi (x1 ||| (32 : Int32))] [(.int (224 : Int32)), (.int (x1 ||| (32 : Int32)))] _
          refine XS.icmpYes X0.here hx rfl (pc0 := 23) (pc' := 42) rfl (hb hby d30_23) rfl (tlt hc23).1 (by decide) (by decide) ?_
          refine XS.iloadN X0.here hx rfl (hb hby d30_42) rfl ?_
          show SF p e below s₁ m 43 _ [(.int x1)] _
          exact retI X0 hx Bd.returns (hb hby d30_43) hr
        · show Q30 Z tz x1 h0 n0 _ s₁.heap _
          rw [e0]
          exact ⟨(by unfold own_low; repeat first | rw [if_pos (by assumption)] | rw [if_neg (by assumption)]), N0, rfl⟩
      · skip
        have pre208 := fun t (kt : SF p e below s₁ m 30 #[vr tz, vi x1, vi (x1 ||| (32 : Int32))] [(.int (254 : Int32)), (.int (x1 ||| (32 : Int32)))] t) => pre207 t (by
          refine XS.icmpNo X0.here hx rfl (hb hby d30_23) rfl (flt hc23).1 ?_
          refine XS.iloadN X0.here hx rfl (hb hby d30_26) rfl ?_
          refine XS.sipush X0.here hx rfl (hb hby d30_27) ?_
          exact kt)
        by_cases hc30 : (254 : Int32) < (x1 ||| (32 : Int32))
        · skip
          obtain ⟨fs, hr, hrun, hended, hW, hsame⟩ := X0.leave (v := some (.int x1)) (fun h => by rw [Bd.returns] at h; cases h)
          refine ⟨_, _, pre208 _ ?_, hrun, hended, _, _, rfl, ?_, ⟨_, rfl⟩, hW, hsame.mono (by decide) (by decide)⟩
          · show SF p e below s₁ m 30 #[vr tz, vi x1, vi (x1 ||| (32 : Int32))] [(.int (254 : Int32)), (.int (x1 ||| (32 : Int32)))] _
            refine XS.icmpYes X0.here hx rfl (pc0 := 30) (pc' := 42) rfl (hb hby d30_30) rfl (tlt hc30).2.2.1 (by decide) (by decide) ?_
            refine XS.iloadN X0.here hx rfl (hb hby d30_42) rfl ?_
            show SF p e below s₁ m 43 _ [(.int x1)] _
            exact retI X0 hx Bd.returns (hb hby d30_43) hr
          · show Q30 Z tz x1 h0 n0 _ s₁.heap _
            rw [e0]
            exact ⟨(by unfold own_low; repeat first | rw [if_pos (by assumption)] | rw [if_neg (by assumption)]), N0, rfl⟩
        · skip
          have pre209 := fun t (kt : SF p e below s₁ m 37 #[vr tz, vi x1, vi (x1 ||| (32 : Int32))] [(.int (247 : Int32)), (.int (x1 ||| (32 : Int32)))] t) => pre208 t (by
            refine XS.icmpNo X0.here hx rfl (hb hby d30_30) rfl (flt hc30).2.2.1 ?_
            refine XS.iloadN X0.here hx rfl (hb hby d30_33) rfl ?_
            show SF p e below s₁ m 34 _ [(.int (x1 ||| (32 : Int32)))] _
            refine XS.sipush X0.here hx rfl (hb hby d30_34) ?_
            exact kt)
          by_cases hc37 : (x1 ||| (32 : Int32)) = (247 : Int32)
          · skip
            obtain ⟨fs, hr, hrun, hended, hW, hsame⟩ := X0.leave (v := some (.int x1)) (fun h => by rw [Bd.returns] at h; cases h)
            refine ⟨_, _, pre209 _ ?_, hrun, hended, _, _, rfl, ?_, ⟨_, rfl⟩, hW, hsame.mono (by decide) (by decide)⟩
            · show SF p e below s₁ m 37 #[vr tz, vi x1, vi (x1 ||| (32 : Int32))] [(.int (247 : Int32)), (.int (x1 ||| (32 : Int32)))] _
              refine XS.icmpYes X0.here hx rfl (pc0 := 37) (pc' := 42) rfl (hb hby d30_37) rfl (teq hc37).1 (by decide) (by decide) ?_
              refine XS.iloadN X0.here hx rfl (hb hby d30_42) rfl ?_
              show SF p e below s₁ m 43 _ [(.int x1)] _
              exact retI X0 hx Bd.returns (hb hby d30_43) hr
            · show Q30 Z tz x1 h0 n0 _ s₁.heap _
              rw [e0]
              exact ⟨(by unfold own_low; repeat first | rw [if_pos (by assumption)] | rw [if_neg (by assumption)]), N0, rfl⟩
          · skip
            obtain ⟨fs, hr, hrun, hended, hW, hsame⟩ := X0.leave (v := some (.int (x1 ||| (32 : Int32)))) (fun h => by rw [Bd.returns] at h; cases h)
            refine ⟨_, _, pre209 _ ?_, hrun, hended, _, _, rfl, ?_, ⟨_, rfl⟩, hW, hsame.mono (by decide) (by decide)⟩
            · show SF p e below s₁ m 37 #[vr tz, vi x1, vi (x1 ||| (32 : Int32))] [(.int (247 : Int32)), (.int (x1 ||| (32 : Int32)))] _
              refine XS.icmpNo X0.here hx rfl (hb hby d30_37) rfl (feq hc37).1 ?_
              refine XS.iloadN X0.here hx rfl (hb hby d30_40) rfl ?_
              show SF p e below s₁ m 41 _ [(.int (x1 ||| (32 : Int32)))] _
              exact retI X0 hx Bd.returns (hb hby d30_41) hr
            · show Q30 Z tz x1 h0 n0 _ s₁.heap _
              rw [e0]
              exact ⟨(by unfold own_low; repeat first | rw [if_pos (by assumption)] | rw [if_neg (by assumption)]), N0, rfl⟩
    · skip
      obtain ⟨fs, hr, hrun, hended, hW, hsame⟩ := X0.leave (v := some (.int (x1 ||| (32 : Int32)))) (fun h => by rw [Bd.returns] at h; cases h)
      refine ⟨_, _, pre206 _ ?_, hrun, hended, _, _, rfl, ?_, ⟨_, rfl⟩, hW, hsame.mono (by decide) (by decide)⟩
      · show SF p e below s₁ m 16 #[vr tz, vi x1, vi (x1 ||| (32 : Int32))] [(.int (122 : Int32)), (.int (x1 ||| (32 : Int32)))] _
        refine XS.icmpYes X0.here hx rfl (pc0 := 16) (pc' := 40) rfl (hb hby d30_16) rfl (flt hc16).2.2.2 (by decide) (by decide) ?_
        refine XS.iloadN X0.here hx rfl (hb hby d30_40) rfl ?_
        show SF p e below s₁ m 41 _ [(.int (x1 ||| (32 : Int32)))] _
        exact retI X0 hx Bd.returns (hb hby d30_41) hr
      · show Q30 Z tz x1 h0 n0 _ s₁.heap _
        rw [e0]
        exact ⟨(by unfold own_low; repeat first | rw [if_pos (by assumption)] | rw [if_neg (by assumption)]), N0, rfl⟩
theorem d37_0 : decode jdk_3003_method_5_code 0 = .ok (.aload_n 0, 1) := by decide +kernel
theorem d37_1 : decode jdk_3003_method_5_code 1 = .ok (.getfield 19, 3) := by decide +kernel
theorem d37_4 : decode jdk_3003_method_5_code 4 = .ok (.areturn, 1) := by decide +kernel
theorem pn_sun_util_locale_BaseLocale : plainName "sun/util/locale/BaseLocale" = true := by first | (simp [plainName, overriddenIn]; done) | decide +kernel
theorem ef37 (m : MethodId) (tz : Addr) : entryFrame m #[(.ref tz)] 1 = mkF m 0 #[vr tz] [] := by first | (simp [entryFrame, mkF, argsToLocals, Value.category]; done) | rfl
def Q37 (Z : State) (tz : Addr) (tz_language : Addr) (h0 : Heap) (n0 : Nat) (v : Option Value) (h : Heap) (L : List Loc) : Prop := v = some (.ref tz_language) ∧ Fr n0 L ∧ h = h0
set_option maxRecDepth 65536 in
set_option maxHeartbeats 40000000 in
theorem rm37 (l : Launch) (Z : State) (a0 : Array Value) (hw : ∀ d ∈ tables_1, d.before a0 Z = true) (ws : List Jvm.Cond) (tz : Addr) (tz_language : Addr) (h0 : Heap) (n0 : Nat) (Z0 : n0 ≤ h0.size) (O0 : Old Z n0 h0) (F_tz_language : Fld Z h0 tz "sun/util/locale/BaseLocale" "language" "Ljava/lang/String;" (.ref tz_language)) :
    MetFree l (⟨"sun/util/locale/BaseLocale", "getLanguage", "()Ljava/lang/String;"⟩ : MethodName) (head1 (Jvm.Cond.code (⟨"sun/util/locale/BaseLocale", "getLanguage", "()Ljava/lang/String;"⟩ : MethodName) jdk_3003_method_5_code 1 (some (.object "java/lang/String")) :: ws) ({ frames := 0, cells := 0, slots := 0, locals := 0 } : Room)) (fun a U => a = #[(.ref tz)] ∧ Z.Warmed39 U.vm ∧ U.heap = h0) (fun _ _ _ _ _ => True) (fun _ U o U' => ∃ v L, o = .returned v ∧ Q37 Z tz tz_language h0 n0 v U'.heap L ∧ FrameEnd U o U' L ({ frames := 0, cells := 0, slots := 0, locals := 0 } : Room).cells ({ frames := 0, cells := 0, slots := 0, locals := 0 } : Room).slots) := by
  refine MetFree.of_bodySF (plainFor_of_name pn_sun_util_locale_BaseLocale) hisR ?_
  intro p e s m args below meth c s₁ Bd hml0 hP hK
  obtain ⟨rfl, hZ, hh⟩ := hP
  have hx := Bd.exec
  have hby := Bd.bytes
  have hml : c.maxLocals = 1 := hml0
  have hown : s.vm.findClass "sun/util/locale/BaseLocale" = some m.cls := findClass_of_methodNamed Bd.named
  have hnm := (name_of_methodNamed Bd.named Bd.method).1
  have X0 : Stand p l e ({ frames := 0, cells := 0, slots := 0, locals := 0 } : Room) s m #[(.ref tz)] below meth c s₁ [] 0 0 := Stand.of_body Bd
  have e0 : s₁.heap = h0 := by rw [← hh, Bd.state]; rfl
  have N0 := Fr.nil n0
  have K0 : Keep h0 h0 [] := Keep.refl _ _
  have pre0 : ∀ t, SF p e below s₁ m 0 #[vr tz] [] t → Steps p.tables e below (s₁.setTop (entryFrame m #[(.ref tz)] 1)) t := fun t k => castTop (ef37 m tz) k
  obtain ⟨T210, X210, e210, st210⟩ := getF X0 hx hZ hown (host := "") (Or.inl (own_wd hw 173 rfl)) Via.refl e0 F_tz_language (g := (mkF m 1 #[vr tz] [(.ref tz)])) rfl rfl (hb hby d37_1)
  obtain ⟨fs, hr, hrun, hended, hW, hsame⟩ := X210.leave (v := some (.ref tz_language)) (fun h => by rw [Bd.returns] at h; cases h)
  refine ⟨_, _, pre0 _ ?_, hrun, hended, _, _, rfl, ?_, ⟨_, rfl⟩, hW, hsame.mono (by decide) (by decide)⟩
  · show SF p e below s₁ m 0 #[vr tz] [] _
    refine XS.aloadN X0.here hx rfl (hb hby d37_0) rfl rfl ?_
    show SF p e below s₁ m 1 #[vr tz] [(.ref tz)] _
    refine st210 _ ?_
    show SF p e below T210 m 4 #[vr tz] [(.ref tz_language)] _
    jvm_step X210.here [X210.here.top, hx, (hb hby d37_4), X210.method', Bd.returns, Value.isRef, FieldType.isReference]
    first | (intro acts; rw [hr _ acts rfl rfl rfl]) | rw [hr _ _ rfl rfl rfl]
    exact Steps.refl _
  · show Q37 Z tz tz_language h0 n0 _ T210.heap _
    rw [e210]
    exact ⟨rfl, N0, rfl⟩
theorem d36_0 : decode jdk_2628_method_27_code 0 = .ok (.aload_n 0, 1) := by decide +kernel
theorem d36_1 : decode jdk_2628_method_27_code 1 = .ok (.getfield 28, 3) := by decide +kernel
theorem pd_13 : parseMethodDescriptor "()Ljava/lang/String;" = some ⟨[], some (.object "java/lang/String")⟩ := by decide +kernel
theorem d36_4 : decode jdk_2628_method_27_code 4 = .ok (.invokevirtual 293, 3) := by decide +kernel
theorem d36_7 : decode jdk_2628_method_27_code 7 = .ok (.areturn, 1) := by decide +kernel
theorem pn_java_util_Locale : plainName "java/util/Locale" = true := by first | (simp [plainName, overriddenIn]; done) | decide +kernel
theorem ef36 (m : MethodId) (tz : Addr) : entryFrame m #[(.ref tz)] 1 = mkF m 0 #[vr tz] [] := by first | (simp [entryFrame, mkF, argsToLocals, Value.category]; done) | rfl
def Q36 (Z : State) (tz : Addr) (tz_baseLocale : Addr) (tz_baseLocale_language : Addr) (h0 : Heap) (n0 : Nat) (v : Option Value) (h : Heap) (L : List Loc) : Prop := v = some (.ref tz_baseLocale_language) ∧ Fr n0 L ∧ h = h0
set_option maxRecDepth 65536 in
set_option maxHeartbeats 40000000 in
theorem rm36 (l : Launch) (Z : State) (a0 : Array Value) (hw : ∀ d ∈ tables_1, d.before a0 Z = true) (ws : List Jvm.Cond) (tz : Addr) (tz_baseLocale : Addr) (tz_baseLocale_language : Addr) (h0 : Heap) (n0 : Nat) (Z0 : n0 ≤ h0.size) (O0 : Old Z n0 h0) (F_tz_baseLocale : Fld Z h0 tz "java/util/Locale" "baseLocale" "Lsun/util/locale/BaseLocale;" (.ref tz_baseLocale)) (F_tz_baseLocale_language : Fld Z h0 tz_baseLocale "sun/util/locale/BaseLocale" "language" "Ljava/lang/String;" (.ref tz_baseLocale_language)) (E_tz_baseLocale : Exa Z h0 tz_baseLocale "sun/util/locale/BaseLocale") :
    MetFree l (⟨"java/util/Locale", "getLanguage", "()Ljava/lang/String;"⟩ : MethodName) (head1 (Jvm.Cond.code (⟨"java/util/Locale", "getLanguage", "()Ljava/lang/String;"⟩ : MethodName) jdk_2628_method_27_code 1 (some (.object "java/lang/String")) :: ws) ({ frames := 1, cells := 0, slots := 0, locals := 12 } : Room)) (fun a U => a = #[(.ref tz)] ∧ Z.Warmed39 U.vm ∧ U.heap = h0) (fun _ _ _ _ _ => True) (fun _ U o U' => ∃ v L, o = .returned v ∧ Q36 Z tz tz_baseLocale tz_baseLocale_language h0 n0 v U'.heap L ∧ FrameEnd U o U' L ({ frames := 1, cells := 0, slots := 0, locals := 12 } : Room).cells ({ frames := 1, cells := 0, slots := 0, locals := 12 } : Room).slots) := by
  refine MetFree.of_bodySF (plainFor_of_name pn_java_util_Locale) hisR ?_
  intro p e s m args below meth c s₁ Bd hml0 hP hK
  obtain ⟨rfl, hZ, hh⟩ := hP
  have hx := Bd.exec
  have hby := Bd.bytes
  have hml : c.maxLocals = 1 := hml0
  have hown : s.vm.findClass "java/util/Locale" = some m.cls := findClass_of_methodNamed Bd.named
  have hnm := (name_of_methodNamed Bd.named Bd.method).1
  have X0 : Stand p l e ({ frames := 1, cells := 0, slots := 0, locals := 12 } : Room) s m #[(.ref tz)] below meth c s₁ [] 0 0 := Stand.of_body Bd
  have e0 : s₁.heap = h0 := by rw [← hh, Bd.state]; rfl
  have N0 := Fr.nil n0
  have K0 : Keep h0 h0 [] := Keep.refl _ _
  have pre0 : ∀ t, SF p e below s₁ m 0 #[vr tz] [] t → Steps p.tables e below (s₁.setTop (entryFrame m #[(.ref tz)] 1)) t := fun t k => castTop (ef36 m tz) k
  obtain ⟨T211, X211, e211, st211⟩ := getF X0 hx hZ hown (host := "") (Or.inl (own_wd hw 165 rfl)) Via.refl e0 F_tz_baseLocale (g := (mkF m 1 #[vr tz] [(.ref tz)])) rfl rfl (hb hby d36_1)
  obtain ⟨cq212, kq212, q212a, q212b, q212c⟩ := isOf hZ e211 E_tz_baseLocale
  obtain ⟨_, _, ⟨T212, L212, k212, n212⟩, -, X212, ⟨Lc212, hQ212, l212, y212, z212⟩, st212⟩ := X211.virtualBack hx (y := (⟨"sun/util/locale/BaseLocale", "getLanguage", "()Ljava/lang/String;"⟩ : MethodName)) (z := (⟨"sun/util/locale/BaseLocale", "getLanguage", "()Ljava/lang/String;"⟩ : MethodName)) hown (mvT hZ (own_wd hw 167 rfl)) (mvT hZ (own_wd hw 168 rfl)) (notFace_of_selects (args := #[]) (mvT hZ (own_wd hw 170 rfl))) (mvT hZ (own_wd hw 170 rfl)) (mvT hZ (own_wd hw 169 rfl)) (by decide) (backOf (W := 0) (rm37 l Z a0 hw [] tz_baseLocale tz_baseLocale_language h0 n0 Z0 O0 F_tz_baseLocale_language) hZ (own_wd hw 172 rfl) (own_wd hw 171 rfl) (by decide) (by decide)) q212a q212c (g := (mkF m 4 #[vr tz] [(.ref tz_baseLocale)])) rfl (by rw [hml]; rfl) (Steps.refl _) (argsL := []) (rest := []) (lenOf pd_13 rfl) rfl (by show 2 * 0 + _ ≤ _; exact Nat.le_of_eq rfl) (hb hby d36_4) (fun _ _ => ⟨rfl, e211, (by decide : 0 + 0 ≤ _), (by decide : 0 + 0 ≤ _)⟩)
  dsimp only [Pt.U, Pt.locs, Pt.cells, Pt.slots] at X212 l212 y212 z212 st212 hQ212
  subst y212 z212
  obtain ⟨rfl, N212q, eh212⟩ := hQ212
  have N212 : Fr n0 L212 := by rw [l212]; exact Fr.app N0 N212q
  obtain ⟨fs, hr, hrun, hended, hW, hsame⟩ := X212.leave (v := some (.ref tz_baseLocale_language)) (fun h => by rw [Bd.returns] at h; cases h)
  refine ⟨_, _, pre0 _ ?_, hrun, hended, _, _, rfl, ?_, ⟨_, rfl⟩, hW, hsame.mono (by decide) (by decide)⟩
  · show SF p e below s₁ m 0 #[vr tz] [] _
    refine XS.aloadN X0.here hx rfl (hb hby d36_0) rfl rfl ?_
    show SF p e below s₁ m 1 _ [(.ref tz)] _
    refine st211 _ ?_
    show SF p e below T211 m 4 #[vr tz] [(.ref tz_baseLocale)] _
    refine st212.trans ?_
    show SF p e below T212 m 7 #[vr tz] [(.ref tz_baseLocale_language)] _
    jvm_step X212.here [X212.here.top, hx, (hb hby d36_7), X212.method', Bd.returns, Value.isRef, FieldType.isReference]
    first | (intro acts; rw [hr _ acts rfl rfl rfl]) | rw [hr _ _ rfl rfl rfl]
    exact Steps.refl _
  · show Q36 Z tz tz_baseLocale tz_baseLocale_language h0 n0 _ T212.heap _
    rw [eh212]
    exact ⟨rfl, N212, rfl⟩
theorem d29_0 : decode jdk_43_method_32_code 0 = .ok (.aload_n 2, 1) := by decide +kernel
theorem d29_1 : decode jdk_43_method_32_code 1 = .ok (.ifnonnull 11, 3) := by decide +kernel
theorem d29_12 : decode jdk_43_method_32_code 12 = .ok (.aload_n 1, 1) := by decide +kernel
theorem d29_13 : decode jdk_43_method_32_code 13 = .ok (.arraylength, 1) := by decide +kernel
theorem d29_14 : decode jdk_43_method_32_code 14 = .ok (.istore 4, 2) := by decide +kernel
theorem d29_16 : decode jdk_43_method_32_code 16 = .ok (.iconst 0, 1) := by decide +kernel
theorem d29_17 : decode jdk_43_method_32_code 17 = .ok (.istore_n 3, 1) := by decide +kernel
theorem d29_18 : decode jdk_43_method_32_code 18 = .ok (.iload_n 3, 1) := by decide +kernel
theorem d29_19 : decode jdk_43_method_32_code 19 = .ok (.iload 4, 2) := by decide +kernel
theorem d29_21 : decode jdk_43_method_32_code 21 = .ok (.if_icmp .ge 34, 3) := by decide +kernel
theorem d29_24 : decode jdk_43_method_32_code 24 = .ok (.aload_n 1, 1) := by decide +kernel
theorem d29_25 : decode jdk_43_method_32_code 25 = .ok (.iload_n 3, 1) := by decide +kernel
theorem d29_26 : decode jdk_43_method_32_code 26 = .ok (.baload, 1) := by decide +kernel
theorem d29_27 : decode jdk_43_method_32_code 27 = .ok (.sipush 255, 3) := by decide +kernel
theorem d29_30 : decode jdk_43_method_32_code 30 = .ok (.iand, 1) := by decide +kernel
theorem d29_31 : decode jdk_43_method_32_code 31 = .ok (.istore 5, 2) := by decide +kernel
theorem d29_33 : decode jdk_43_method_32_code 33 = .ok (.iload 5, 2) := by decide +kernel
theorem d29_35 : decode jdk_43_method_32_code 35 = .ok (.getstatic 66, 3) := by decide +kernel
theorem d29_38 : decode jdk_43_method_32_code 38 = .ok (.iload 5, 2) := by decide +kernel
theorem pd_14 : parseMethodDescriptor "(I)I" = some ⟨[.int], some .int⟩ := by decide +kernel
theorem d29_40 : decode jdk_43_method_32_code 40 = .ok (.invokevirtual 160, 3) := by decide +kernel
theorem d29_43 : decode jdk_43_method_32_code 43 = .ok (.if_icmp .eq 6, 3) := by decide +kernel
theorem d29_49 : decode jdk_43_method_32_code 49 = .ok (.iinc 3 1, 3) := by decide +kernel
theorem d29_52 : decode jdk_43_method_32_code 52 = .ok (.goto (-34), 3) := by decide +kernel
theorem d29_46 : decode jdk_43_method_32_code 46 = .ok (.goto 9, 3) := by decide +kernel
theorem d29_55 : decode jdk_43_method_32_code 55 = .ok (.iload_n 3, 1) := by decide +kernel
theorem d29_56 : decode jdk_43_method_32_code 56 = .ok (.iload 4, 2) := by decide +kernel
theorem d29_58 : decode jdk_43_method_32_code 58 = .ok (.if_icmp .ne 5, 3) := by decide +kernel
theorem d29_63 : decode jdk_43_method_32_code 63 = .ok (.aload_n 2, 1) := by decide +kernel
theorem d29_64 : decode jdk_43_method_32_code 64 = .ok (.invokevirtual 162, 3) := by decide +kernel
theorem d29_67 : decode jdk_43_method_32_code 67 = .ok (.astore 5, 2) := by decide +kernel
theorem d29_69 : decode jdk_43_method_32_code 69 = .ok (.aload 5, 2) := by decide +kernel
theorem d29_71 : decode jdk_43_method_32_code 71 = .ok (.ldc 168, 2) := by decide +kernel
theorem d29_73 : decode jdk_43_method_32_code 73 = .ok (.if_acmp .eq 17, 3) := by decide +kernel
theorem d29_76 : decode jdk_43_method_32_code 76 = .ok (.aload 5, 2) := by decide +kernel
theorem d29_78 : decode jdk_43_method_32_code 78 = .ok (.ldc 170, 2) := by decide +kernel
theorem d29_80 : decode jdk_43_method_32_code 80 = .ok (.if_acmp .eq 10, 3) := by decide +kernel
theorem d29_83 : decode jdk_43_method_32_code 83 = .ok (.aload 5, 2) := by decide +kernel
theorem d29_85 : decode jdk_43_method_32_code 85 = .ok (.ldc 172, 2) := by decide +kernel
theorem d29_87 : decode jdk_43_method_32_code 87 = .ok (.if_acmp .ne 12, 3) := by decide +kernel
theorem d29_99 : decode jdk_43_method_32_code 99 = .ok (.iload 4, 2) := by decide +kernel
theorem d29_101 : decode jdk_43_method_32_code 101 = .ok (.newarray .byte, 2) := by decide +kernel
theorem d29_103 : decode jdk_43_method_32_code 103 = .ok (.astore 6, 2) := by decide +kernel
theorem d29_105 : decode jdk_43_method_32_code 105 = .ok (.aload_n 1, 1) := by decide +kernel
theorem d29_106 : decode jdk_43_method_32_code 106 = .ok (.iconst 0, 1) := by decide +kernel
theorem d29_107 : decode jdk_43_method_32_code 107 = .ok (.aload 6, 2) := by decide +kernel
theorem d29_109 : decode jdk_43_method_32_code 109 = .ok (.iconst 0, 1) := by decide +kernel
theorem d29_110 : decode jdk_43_method_32_code 110 = .ok (.iload_n 3, 1) := by decide +kernel
theorem d29_111 : decode jdk_43_method_32_code 111 = .ok (.invokestatic 28, 3) := by decide +kernel
theorem d29_114 : decode jdk_43_method_32_code 114 = .ok (.iload_n 3, 1) := by decide +kernel
theorem d29_115 : decode jdk_43_method_32_code 115 = .ok (.istore 7, 2) := by decide +kernel
theorem d29_117 : decode jdk_43_method_32_code 117 = .ok (.iload 7, 2) := by decide +kernel
theorem d29_119 : decode jdk_43_method_32_code 119 = .ok (.iload 4, 2) := by decide +kernel
theorem d29_121 : decode jdk_43_method_32_code 121 = .ok (.if_icmp .ge 54, 3) := by decide +kernel
theorem d29_124 : decode jdk_43_method_32_code 124 = .ok (.aload_n 1, 1) := by decide +kernel
theorem d29_125 : decode jdk_43_method_32_code 125 = .ok (.iload 7, 2) := by decide +kernel
theorem d29_127 : decode jdk_43_method_32_code 127 = .ok (.baload, 1) := by decide +kernel
theorem d29_128 : decode jdk_43_method_32_code 128 = .ok (.sipush 255, 3) := by decide +kernel
theorem d29_131 : decode jdk_43_method_32_code 131 = .ok (.iand, 1) := by decide +kernel
theorem d29_132 : decode jdk_43_method_32_code 132 = .ok (.istore 8, 2) := by decide +kernel
theorem d29_134 : decode jdk_43_method_32_code 134 = .ok (.getstatic 66, 3) := by decide +kernel
theorem d29_137 : decode jdk_43_method_32_code 137 = .ok (.iload 8, 2) := by decide +kernel
theorem d29_139 : decode jdk_43_method_32_code 139 = .ok (.invokevirtual 160, 3) := by decide +kernel
theorem d29_142 : decode jdk_43_method_32_code 142 = .ok (.istore 8, 2) := by decide +kernel
theorem d29_144 : decode jdk_43_method_32_code 144 = .ok (.iload 8, 2) := by decide +kernel
theorem d29_146 : decode jdk_43_method_32_code 146 = .ok (.invokestatic 88, 3) := by decide +kernel
theorem d29_149 : decode jdk_43_method_32_code 149 = .ok (.ifCond .ne 12, 3) := by decide +kernel
theorem d29_161 : decode jdk_43_method_32_code 161 = .ok (.aload 6, 2) := by decide +kernel
theorem d29_163 : decode jdk_43_method_32_code 163 = .ok (.iload 7, 2) := by decide +kernel
theorem d29_165 : decode jdk_43_method_32_code 165 = .ok (.iload 8, 2) := by decide +kernel
theorem d29_167 : decode jdk_43_method_32_code 167 = .ok (.i2b, 1) := by decide +kernel
theorem d29_168 : decode jdk_43_method_32_code 168 = .ok (.bastore, 1) := by decide +kernel
theorem d29_169 : decode jdk_43_method_32_code 169 = .ok (.iinc 7 1, 3) := by decide +kernel
theorem d29_172 : decode jdk_43_method_32_code 172 = .ok (.goto (-55), 3) := by decide +kernel
theorem d29_175 : decode jdk_43_method_32_code 175 = .ok (.new 1, 3) := by decide +kernel
theorem d29_178 : decode jdk_43_method_32_code 178 = .ok (.dup, 1) := by decide +kernel
theorem d29_179 : decode jdk_43_method_32_code 179 = .ok (.aload 6, 2) := by decide +kernel
theorem d29_181 : decode jdk_43_method_32_code 181 = .ok (.iconst 0, 1) := by decide +kernel
theorem d29_182 : decode jdk_43_method_32_code 182 = .ok (.invokespecial 112, 3) := by decide +kernel
theorem d29_185 : decode jdk_43_method_32_code 185 = .ok (.areturn, 1) := by decide +kernel
theorem d29_61 : decode jdk_43_method_32_code 61 = .ok (.aload_n 0, 1) := by decide +kernel
theorem d29_62 : decode jdk_43_method_32_code 62 = .ok (.areturn, 1) := by decide +kernel
theorem ef29 (m : MethodId) (x1 : Addr) (x1_value : Addr) (x3 : Addr) : entryFrame m #[(.ref x1), (.ref x1_value), (.ref x3)] 9 = mkF m 0 #[vr x1, vr x1_value, vr x3, un, un, un, un, un, un] [] := by first | (simp [entryFrame, mkF, argsToLocals, Value.category]; done) | rfl
def Q29 (Z : State) (x1 : Addr) (x3 : Addr) (x1_value : Addr) (ks : ClassId) (f : Nat → Int32) (n : Nat) (lb : Addr) (lg : Addr) (lv : Addr) (kl : ClassId) (st_instance : Addr) (h0 : Heap) (n0 : Nat) (v : Option Value) (h : Heap) (L : List Loc) : Prop := ∃ (b : Addr), ∃ (t : Addr), ∃ (kk : ClassId), v = some (.ref b) ∧ Fr n0 L ∧ Keep h0 h [] ∧ Exa Z h b "java/lang/String" ∧ Fld Z h b "java/lang/String" "value" "[B" (.ref t) ∧ Fld Z h b "java/lang/String" "coder" "B" (.int (0 : Int32)) ∧ Arv Z h t kk .byte (Int32.ofNat n) (own_fv (own_lw f) n) (.int 0)
set_option maxRecDepth 65536 in
set_option maxHeartbeats 40000000 in
theorem rm29 (l : Launch) (Z : State) (a0 : Array Value) (hw : ∀ d ∈ tables_1, d.before a0 Z = true) (ws : List Jvm.Cond) (x1 : Addr) (x3 : Addr) (x1_value : Addr) (ks : ClassId) (f : Nat → Int32) (n : Nat) (lb : Addr) (lg : Addr) (lv : Addr) (kl : ClassId) (st_instance : Addr) (h0 : Heap) (n0 : Nat) (Z0 : n0 ≤ h0.size) (O0 : Old Z n0 h0) (E_x1 : Exa Z h0 x1 "java/lang/String") (F_x1_value : Fld Z h0 x1 "java/lang/String" "value" "[B" (.ref x1_value)) (F_x1_coder : Fld Z h0 x1 "java/lang/String" "coder" "B" (.int (0 : Int32))) (V_x1_value : Arv Z h0 x1_value ks .byte (Int32.ofNat n) (own_fv f n) (.int 0)) (hp : ∀ j, j < n → ¬ f j < 0 ∧ ¬ (255 : Int32) < f j) (hn : n ≤ 24) (E_x3 : Exa Z h0 x3 "java/util/Locale") (F_x3_baseLocale : Fld Z h0 x3 "java/util/Locale" "baseLocale" "Lsun/util/locale/BaseLocale;" (.ref lb)) (E_lb : Exa Z h0 lb "sun/util/locale/BaseLocale") (F_lb_language : Fld Z h0 lb "sun/util/locale/BaseLocale" "language" "Ljava/lang/String;" (.ref lg)) (F_lg_value : Fld Z h0 lg "java/lang/String" "value" "[B" (.ref lv)) (V_lv : Arv Z h0 lv kl .byte (0 : Int32) [] (.int 0)) (S_instance : Sta Z Z.heap "java/lang/CharacterDataLatin1" "instance" "Ljava/lang/CharacterDataLatin1;" (.ref st_instance)) (E_st_instance : Exa Z h0 st_instance "java/lang/CharacterDataLatin1") :
    MetFree l (⟨"java/lang/StringLatin1", "toLowerCase", "(Ljava/lang/String;[BLjava/util/Locale;)Ljava/lang/String;"⟩ : MethodName) (head1 (Jvm.Cond.code (⟨"java/lang/StringLatin1", "toLowerCase", "(Ljava/lang/String;[BLjava/util/Locale;)Ljava/lang/String;"⟩ : MethodName) jdk_43_method_32_code 9 (some (.object "java/lang/String")) :: ws) ({ frames := 2, cells := 8, slots := 64, locals := 27 } : Room)) (fun a U => a = #[(.ref x1), (.ref x1_value), (.ref x3)] ∧ Z.Warmed39 U.vm ∧ U.heap = h0 ∧ CHv Z own_EL U.vm h0) (fun _ _ _ _ _ => True) (fun _ U o U' => ∃ v L, o = .returned v ∧ Q29 Z x1 x3 x1_value ks f n lb lg lv kl st_instance h0 n0 v U'.heap L ∧ CHr Z own_EL U.vm U.heap U'.vm U'.heap ∧ ReturnedEndW U o U' L ({ frames := 2, cells := 8, slots := 64, locals := 27 } : Room).cells ({ frames := 2, cells := 8, slots := 64, locals := 27 } : Room).slots) := by
  refine MetFree.of_bodySF (plainFor_of_name pn_java_lang_StringLatin1) hisR ?_
  intro p e s m args below meth c s₁ Bd hml0 hP hK
  obtain ⟨rfl, hZ, hh, CH0⟩ := hP
  have hx := Bd.exec
  have hby := Bd.bytes
  have hml : c.maxLocals = 9 := hml0
  have hown : (s.setVm s.vm).vm.findClass "java/lang/StringLatin1" = some m.cls := findClass_of_methodNamed Bd.named
  have hnm := (name_of_methodNamed Bd.named Bd.method).1
  have X0 : Stand p l e ({ frames := 2, cells := 8, slots := 64, locals := 27 } : Room) (s.setVm s.vm) m #[(.ref x1), (.ref x1_value), (.ref x3)] below meth c s₁ [] 0 0 := Stand.of_body Bd
  have e0 : s₁.heap = h0 := by rw [← hh, Bd.state]; rfl
  have N0 := Fr.nil n0
  have K0 : Keep h0 h0 [] := Keep.refl _ _
  have pre0 : ∀ t, SF p e below s₁ m 0 #[vr x1, vr x1_value, vr x3, un, un, un, un, un, un] [] t → Steps p.tables e below (s₁.setTop (entryFrame m #[(.ref x1), (.ref x1_value), (.ref x3)] 9)) t := fun t k => castTop (ef29 m x1 x1_value x3) k
  have hZa : Z.Warmed39 (s.setVm s.vm).vm := hZ
  have howna : (s.setVm s.vm).vm.findClass "java/lang/StringLatin1" = some m.cls := hown
  have hS0 : s.Since s.vm h0.size := (State.WarmedH.refl s).since _
  have hk0 : h0.size ≤ h0.size := Nat.le_refl _
  have CR0 : CHr Z own_EL s.vm h0 s.vm h0 := CHr.refl CH0
  obtain ⟨cl_a213, Ar_a213, -, S_a213, N_a213, -, -⟩ := id V_x1_value
  have pre214 := fun t (kt : SF p e below s₁ m 18 #[vr x1, vr x1_value, vr x3, vi (0 : Int32), vi (Int32.ofNat n), un, un, un, un] [] t) => pre0 t (by
    refine XS.aloadN X0.here hx rfl (hb hby d29_0) rfl rfl ?_
    show SF p e below s₁ m 1 _ [(.ref x3)] _
    refine XS.ifnonnullYes X0.here hx rfl (pc0 := 1) (pc' := 12) rfl (hb hby d29_1) rfl (by decide) (by decide) ?_
    refine XS.aloadN X0.here hx rfl (hb hby d29_12) rfl rfl ?_
    show SF p e below s₁ m 13 _ [(.ref x1_value)] _
    refine X0.arraylength hx (by rw [e0]; exact Ar_a213.1) (State.isArrayOf_alike hZa.alike Ar_a213.2.1) (g := (mkF m 13 #[vr x1, vr x1_value, vr x3, un, un, un, un, un, un] [(.ref x1_value)])) rfl rfl (hb hby d29_13) _ ?_
    rw [len_of S_a213 N_a213]
    refine XS.istore X0.here hx rfl (hb hby d29_14) rfl (l' := #[vr x1, vr x1_value, vr x3, un, vi (Int32.ofNat n), un, un, un, un]) rfl ?_
    refine XS.iconst X0.here hx rfl (hb hby d29_16) ?_
    refine XS.istoreN X0.here hx rfl (hb hby d29_17) rfl (l' := #[vr x1, vr x1_value, vr x3, vi (0 : Int32), vi (Int32.ofNat n), un, un, un, un]) rfl ?_
    exact kt)
  refine own_ind (A := Nat × Slot) (fun (i_215, s5_215) => n - i_215) (fun (i_215, s5_215) T215 L215 h215 => (i_215 ≤ n) ∧ (∀ j, j < i_215 → own_low (f j) = f j) ∧ (s5_215 = .unset ∨ ∃ z : Int32, s5_215 = vi z) ∧ Stand p l e ({ frames := 2, cells := 8, slots := 64, locals := 27 } : Room) (s.setVm s.vm) m #[(.ref x1), (.ref x1_value), (.ref x3)] below meth c T215 L215 0 0 ∧ T215.heap = h0 ∧ Fr n0 L215 ∧ ∀ t, SF p e below T215 m 18 #[vr x1, vr x1_value, vr x3, vi (Int32.ofNat i_215), vi (Int32.ofNat n), s5_215, un, un, un] [] t → Steps p.tables e below (s₁.setTop (entryFrame m #[(.ref x1), (.ref x1_value), (.ref x3)] 9)) t) ?_ (0, .unset) s₁ _ h0 ⟨(by omega), (fun j hj => absurd hj (by omega)), (Or.inl rfl), X0, e0, N0, pre214⟩
  rintro ⟨i_215, s5_215⟩ T215 L215 h215 ⟨hi_215, hl_215, hs5_215, X215, e215, N215, pre215⟩ ih215
  have pre216 := fun t (kt : SF p e below T215 m 21 #[vr x1, vr x1_value, vr x3, vi (Int32.ofNat i_215), vi (Int32.ofNat n), s5_215, un, un, un] [(.int (Int32.ofNat n)), (.int (Int32.ofNat i_215))] t) => pre215 t (by
    refine XS.iloadN X215.here hx rfl (hb hby d29_18) rfl ?_
    refine XS.iload X215.here hx rfl (hb hby d29_19) rfl ?_
    exact kt)
  by_cases hc21 : (Int32.ofNat i_215) < (Int32.ofNat n)
  · skip
    have nf217 : (i_215 < n) := (own_lt (i := i_215) (n := n) (by omega) (by omega)).mp hc21
    obtain ⟨cl_a218, Ar_a218, -, S_a218, N_a218, H_a218, -⟩ := id V_x1_value
    obtain ⟨hin_a218, hat_a218⟩ := own_rd (j := (Int32.ofNat i_215)) (i := i_215) S_a218 H_a218 rfl (by omega) (by omega)
    have rn219 : ((own_by (f i_215)) &&& (255 : Int32)) = (f i_215) := own_b255 (hp _ (by omega))
    obtain ⟨T220, X220, e220, st220⟩ := getS2 X215 hx hZa howna (host := "") (Or.inl (own_wd hw 126 rfl)) Via.refl e215 (S_instance.ext O0.2) (g := (mkF m 35 #[vr x1, vr x1_value, vr x3, vi (Int32.ofNat i_215), vi (Int32.ofNat n), vi (f i_215), un, un, un] [(.int (f i_215))])) rfl (hb hby d29_35)
    obtain ⟨cq221, kq221, q221a, q221b, q221c⟩ := isOf hZa e220 E_st_instance
    obtain ⟨_, _, ⟨T221, L221, k221, n221⟩, -, X221, ⟨Lc221, hQ221, l221, y221, z221⟩, st221⟩ := X220.virtualBack hx (y := (⟨"java/lang/CharacterDataLatin1", "toLowerCase", "(I)I"⟩ : MethodName)) (z := (⟨"java/lang/CharacterDataLatin1", "toLowerCase", "(I)I"⟩ : MethodName)) howna (mvT hZa (own_wd hw 128 rfl)) (mvT hZa (own_wd hw 129 rfl)) (notFace_of_selects (args := #[]) (mvT hZa (own_wd hw 131 rfl))) (mvT hZa (own_wd hw 131 rfl)) (mvT hZa (own_wd hw 130 rfl)) (by decide) (backOf (W := 1) (rm30 l Z a0 hw [] st_instance (f i_215) h0 n0 Z0 O0) hZa (own_wd hw 132 rfl) (own_wd hw 127 rfl) (by decide) (by decide)) q221a q221c (g := (mkF m 40 #[vr x1, vr x1_value, vr x3, vi (Int32.ofNat i_215), vi (Int32.ofNat n), vi (f i_215), un, un, un] [(.int (f i_215)), (.ref st_instance), (.int (f i_215))])) rfl (by rw [hml]; rfl) (Steps.refl _) (argsL := [(.int (f i_215))]) (rest := [(.int (f i_215))]) (lenOf pd_14 rfl) rfl (by show 2 * 0 + _ ≤ _; exact Nat.le_of_eq rfl) (hb hby d29_40) (fun _ _ => ⟨rfl, e220, (by decide : 0 + 0 ≤ _), (by decide : 0 + 0 ≤ _)⟩)
    dsimp only [Pt.U, Pt.locs, Pt.cells, Pt.slots] at X221 l221 y221 z221 st221 hQ221
    subst y221 z221
    obtain ⟨rfl, N221q, eh221⟩ := hQ221
    have N221 : Fr n0 L221 := by rw [l221]; exact Fr.app N215 N221q
    have pre222 := fun t (kt : SF p e below T221 m 43 #[vr x1, vr x1_value, vr x3, vi (Int32.ofNat i_215), vi (Int32.ofNat n), vi (f i_215), un, un, un] [(.int (own_low (f i_215))), (.int (f i_215))] t) => pre216 t (by
      refine XS.icmpNo X215.here hx rfl (hb hby d29_21) rfl (tlt hc21).2.1 ?_
      refine XS.aloadN X215.here hx rfl (hb hby d29_24) rfl rfl ?_
      refine XS.iloadN X215.here hx rfl (hb hby d29_25) rfl ?_
      show SF p e below T215 m 26 _ [(.int (Int32.ofNat i_215)), (.ref x1_value)] _
      refine X215.baloadBytes hx (j := (Int32.ofNat i_215)) (v := (.int (own_by (f i_215)))) (by rw [e215]; exact Ar_a218.1) (State.isArrayOf_alike hZa.alike Ar_a218.2.1) Ar_a218.2.2 hin_a218 hat_a218 (g := (mkF m 26 #[vr x1, vr x1_value, vr x3, vi (Int32.ofNat i_215), vi (Int32.ofNat n), s5_215, un, un, un] [(.int (Int32.ofNat i_215)), (.ref x1_value)])) rfl rfl (hb hby d29_26) _ ?_
      refine XS.sipush X215.here hx rfl (hb hby d29_27) ?_
      refine XS.iand X215.here hx rfl (hb hby d29_30) rfl ?_
      show SF p e below T215 m 31 _ [(.int ((own_by (f i_215)) &&& (255 : Int32)))] _
      rw [rn219]
      refine XS.istore X215.here hx rfl (hb hby d29_31) rfl (l' := #[vr x1, vr x1_value, vr x3, vi (Int32.ofNat i_215), vi (Int32.ofNat n), vi (f i_215), un, un, un]) (by rcases hs5_215 with q | ⟨z, q⟩ <;> rw [q] <;> rfl) ?_
      refine XS.iload X215.here hx rfl (hb hby d29_33) rfl ?_
      show SF p e below T215 m 35 _ [(.int (f i_215))] _
      refine st220 _ ?_
      show SF p e below T220 m 38 #[vr x1, vr x1_value, vr x3, vi (Int32.ofNat i_215), vi (Int32.ofNat n), vi (f i_215), un, un, un] [(.ref st_instance), (.int (f i_215))] _
      refine XS.iload X220.here hx rfl (hb hby d29_38) rfl ?_
      show SF p e below T220 m 40 _ [(.int (f i_215)), (.ref st_instance), (.int (f i_215))] _
      refine st221.trans ?_
      exact kt)
    by_cases hc43 : (f i_215) = (own_low (f i_215))
    · skip
      have pre223 := fun t (kt : SF p e below T221 m 18 #[vr x1, vr x1_value, vr x3, vi ((Int32.ofNat i_215) + (1 : Int32)), vi (Int32.ofNat n), vi (f i_215), un, un, un] [] t) => pre222 t (by
        refine XS.icmpYes X221.here hx rfl (pc0 := 43) (pc' := 49) rfl (hb hby d29_43) rfl (teq hc43).1 (by decide) (by decide) ?_
        refine XS.iinc X221.here hx rfl (hb hby d29_49) rfl (l' := #[vr x1, vr x1_value, vr x3, vi ((Int32.ofNat i_215) + (1 : Int32)), vi (Int32.ofNat n), vi (f i_215), un, un, un]) rfl ?_
        refine XS.goto X221.here hx rfl (pc0 := 52) (pc' := 18) rfl (hb hby d29_52) (by decide) (by decide) ?_
        exact kt)
      exact ih215 ((i_215 + 1), (.val (.int (f i_215)))) T221 _ h0 (by show _ - _ < _ - _; omega) ⟨(by omega), (own_all hl_215 (Eq.symm hc43)), (Or.inr ⟨_, rfl⟩), X221, eh221, N221, (fun t kt => pre223 t (by rw [own_one]; exact kt))⟩
    · skip
      have pre224 := fun t (kt : SF p e below T221 m 58 #[vr x1, vr x1_value, vr x3, vi (Int32.ofNat i_215), vi (Int32.ofNat n), vi (f i_215), un, un, un] [(.int (Int32.ofNat n)), (.int (Int32.ofNat i_215))] t) => pre222 t (by
        refine XS.icmpNo X221.here hx rfl (hb hby d29_43) rfl (feq hc43).1 ?_
        refine XS.goto X221.here hx rfl (pc0 := 46) (pc' := 55) rfl (hb hby d29_46) (by decide) (by decide) ?_
        refine XS.iloadN X221.here hx rfl (hb hby d29_55) rfl ?_
        refine XS.iload X221.here hx rfl (hb hby d29_56) rfl ?_
        exact kt)
      by_cases hc58 : (Int32.ofNat i_215) = (Int32.ofNat n)
      · skip
        have nf225 : (i_215 = n) := (own_eq (i := i_215) (n := n) (by omega) (by omega)).mp hc58
        exact False.elim (by omega)
      · skip
        have nf226 : ¬ (i_215 = n) := fun zq => hc58 ((own_eq (i := i_215) (n := n) (by omega) (by omega)).mpr zq)
        obtain ⟨cq227, kq227, q227a, q227b, q227c⟩ := isOf hZa eh221 E_x3
        obtain ⟨_, _, ⟨T227, L227, k227, n227⟩, -, X227, ⟨Lc227, hQ227, l227, y227, z227⟩, st227⟩ := X221.virtualBack hx (y := (⟨"java/util/Locale", "getLanguage", "()Ljava/lang/String;"⟩ : MethodName)) (z := (⟨"java/util/Locale", "getLanguage", "()Ljava/lang/String;"⟩ : MethodName)) howna (mvT hZa (own_wd hw 160 rfl)) (mvT hZa (own_wd hw 161 rfl)) (notFace_of_selects (args := #[]) (mvT hZa (own_wd hw 163 rfl))) (mvT hZa (own_wd hw 163 rfl)) (mvT hZa (own_wd hw 162 rfl)) (by decide) (backOf (W := 0) (rm36 l Z a0 hw [] x3 lb lg h0 n0 Z0 O0 F_x3_baseLocale F_lb_language E_lb) hZa (own_wd hw 164 rfl) (own_wd hw 117 rfl) (by decide) (by decide)) q227a q227c (g := (mkF m 64 #[vr x1, vr x1_value, vr x3, vi (Int32.ofNat i_215), vi (Int32.ofNat n), vi (f i_215), un, un, un] [(.ref x3)])) rfl (by rw [hml]; rfl) (Steps.refl _) (argsL := []) (rest := []) (lenOf pd_13 rfl) rfl (by show 2 * 0 + _ ≤ _; exact Nat.le_of_eq rfl) (hb hby d29_64) (fun _ _ => ⟨rfl, eh221, (by decide : 0 + 0 ≤ _), (by decide : 0 + 0 ≤ _)⟩)
        dsimp only [Pt.U, Pt.locs, Pt.cells, Pt.slots] at X227 l227 y227 z227 st227 hQ227
        subst y227 z227
        obtain ⟨rfl, N227q, eh227⟩ := hQ227
        have N227 : Fr n0 L227 := by rw [l227]; exact Fr.app N221 N227q
        obtain ⟨b228, T228, h228, k228, t228, kb228, X228, e228, E228, hS228, hk228, hZ228, hown228, Ex228, Co228, Va228, Ar228, lta228, ltb228, R228, Lt228, sep228, st228⟩ := ldcCH (s := s) (vm0 := s.vm) X227 hx hZa howna (own_wd hw 175 rfl) (own_wS hw) eh227 hS0 hk0 (own_EW hw) (List.mem_of_getElem? (i := 3) rfl) CH0 (vs := [(.int (116 : Int32)), (.int (114 : Int32))]) (z := (2 : Int32)) ⟨by decide +kernel, by decide +kernel⟩ (by decide) (by decide) (g := (mkF m 71 #[vr x1, vr x1_value, vr x3, vi (Int32.ofNat i_215), vi (Int32.ofNat n), vr lg, un, un, un] [(.ref lg)])) rfl (hb hby d29_71) (n := 8) (by decide +kernel) (by decide) (by decide) (by decide)
        have O228 : Old Z n0 h228 := O0.ext E228
        have Z228 : n0 ≤ h228.size := Nat.le_trans Z0 E228.1
        have K228 : Keep h0 h228 [] := K0.ext E228
        have CH228 : CHv Z own_EL T228.vm h228 := R228.1
        have CR228 : CHr Z own_EL s.vm h0 T228.vm h228 := CR0.trans R228
        have F229 : Fld Z h228 lg "java/lang/String" "value" "[B" (.ref lv) := (F_lg_value.ext E228)
        have V230 : Arv Z h228 lv kl .byte (0 : Int32) [] (.int 0) := (V_lv.ext E228)
        obtain ⟨b231, T231, h231, k231, t231, kb231, X231, e231, E231, hS231, hk231, hZ231, hown231, Ex231, Co231, Va231, Ar231, lta231, ltb231, R231, Lt231, sep231, st231⟩ := ldcCH (s := s) (vm0 := T228.vm) X228 hx hZ228 hown228 (own_wd hw 176 rfl) (own_wS hw) e228 hS228 hk228 (own_EW hw) (List.mem_of_getElem? (i := 4) rfl) CH228 (vs := [(.int (97 : Int32)), (.int (122 : Int32))]) (z := (2 : Int32)) ⟨by decide +kernel, by decide +kernel⟩ (by decide) (by decide) (g := (mkF m 78 #[vr x1, vr x1_value, vr x3, vi (Int32.ofNat i_215), vi (Int32.ofNat n), vr lg, un, un, un] [(.ref lg)])) rfl (hb hby d29_78) (n := 8) (by decide +kernel) (by decide) (by decide) (by decide)
        have O231 : Old Z n0 h231 := O228.ext E231
        have Z231 : n0 ≤ h231.size := Nat.le_trans Z228 E231.1
        have K231 : Keep h0 h231 [] := K228.ext E231
        have CH231 : CHv Z own_EL T231.vm h231 := R231.1
        have CR231 : CHr Z own_EL s.vm h0 T231.vm h231 := CR228.trans R231
        have F232 : Fld Z h231 lg "java/lang/String" "value" "[B" (.ref lv) := (F229.ext E231)
        have V233 : Arv Z h231 lv kl .byte (0 : Int32) [] (.int 0) := (V230.ext E231)
        obtain ⟨b234, T234, h234, k234, t234, kb234, X234, e234, E234, hS234, hk234, hZ234, hown234, Ex234, Co234, Va234, Ar234, lta234, ltb234, R234, Lt234, sep234, st234⟩ := ldcCH (s := s) (vm0 := T231.vm) X231 hx hZ231 hown231 (own_wd hw 177 rfl) (own_wS hw) e231 hS231 hk231 (own_EW hw) (List.mem_of_getElem? (i := 5) rfl) CH231 (vs := [(.int (108 : Int32)), (.int (116 : Int32))]) (z := (2 : Int32)) ⟨by decide +kernel, by decide +kernel⟩ (by decide) (by decide) (g := (mkF m 85 #[vr x1, vr x1_value, vr x3, vi (Int32.ofNat i_215), vi (Int32.ofNat n), vr lg, un, un, un] [(.ref lg)])) rfl (hb hby d29_85) (n := 8) (by decide +kernel) (by decide) (by decide) (by decide)
        have O234 : Old Z n0 h234 := O231.ext E234
        have Z234 : n0 ≤ h234.size := Nat.le_trans Z231 E234.1
        have K234 : Keep h0 h234 [] := K231.ext E234
        have CH234 : CHv Z own_EL T234.vm h234 := R234.1
        have CR234 : CHr Z own_EL s.vm h0 T234.vm h234 := CR231.trans R234
        have F235 : Fld Z h234 lg "java/lang/String" "value" "[B" (.ref lv) := (F232.ext E234)
        have V236 : Arv Z h234 lv kl .byte (0 : Int32) [] (.int 0) := (V233.ext E234)
        obtain ⟨T237, h237, k237, X237, e237, E237, A237, st237⟩ := newP X234 hx hZ234 (own_wd hw 26 rfl) e234 (g := (mkF m 101 #[vr x1, vr x1_value, vr x3, vi (Int32.ofNat i_215), vi (Int32.ofNat n), vr lg, un, un, un] [(.int (Int32.ofNat n))])) rfl (hb hby d29_101) rfl (own_nn (by omega)) (cap := 24) (by rw [own_nat (by omega)]; omega) (by decide) (by decide) (by decide)
        obtain ⟨b237, g237⟩ : ∃ z, z = h234.size := ⟨_, rfl⟩
        rw [← g237] at A237 st237
        have O237 : Old Z n0 h237 := O234.ext E237
        have Z237 : n0 ≤ h237.size := Nat.le_trans Z234 E237.1
        have K237 : Keep h0 h237 [] := K234.ext E237
        have CH237 : CHv Z own_EL T234.vm h237 := CHv.ext E237 CH234
        have CR237 : CHr Z own_EL s.vm h0 T234.vm h237 := CR234.trans (CHr.ext E237 CH234)
        have g_b237 : n0 ≤ b237 := Nat.le_trans Z234 (Nat.le_of_eq g237.symm)
        have sz_b237 : h0.size ≤ b237 := Nat.le_trans K234.1 (Nat.le_of_eq g237.symm)
        have V237 : Arv Z h237 b237 k237 .byte (Int32.ofNat n) (own_fv own_zf n) (.int (0 : Int32)) := (Arv.new A237 (own_nn (by omega))).pad (own_fv0 _)
        have V238 : Arv Z h237 x1_value ks .byte (Int32.ofNat n) (own_fv f n) (.int 0) := ((((V_x1_value.ext E228).ext E231).ext E234).ext E237)
        obtain ⟨T239, h239, L239, X239, e239, N239, KK239, A239, st239⟩ := own_cp X237 hx hZ234 hown234 (own_wd hw 178 rfl) (own_wd hw 112 rfl) (own_wd hw 110 rfl) (own_wd hw 111 rfl) e237 (sp := 0) (dp := 0) (nn := i_215) (H := (own_mxf f i_215)) V238 V237 (by omega) (by omega) (by omega) (by omega) (by omega) (own_cplow hl_215) N227 g_b237 (g := (mkF m 111 #[vr x1, vr x1_value, vr x3, vi (Int32.ofNat i_215), vi (Int32.ofNat n), vr lg, vr b237, un, un] [(.int (Int32.ofNat i_215)), (.int (0 : Int32)), (.ref b237), (.int (0 : Int32)), (.ref x1_value)])) rfl (by rw [hml]; rfl) rfl (hb hby d29_111) (by decide) (W := 0) (by show 2 * 0 + _ ≤ _; exact Nat.le_of_eq rfl) (by decide)
        have sf240 : Safe Z own_EL T234.vm h237 b237 := (Safe.ext E237 CH234 (Safe.new (Nat.le_of_eq g237.symm)))
        have O239 : Old Z n0 h239 := O237.keep KK239 (allS g_b237 all0)
        have Z239 : n0 ≤ h239.size := Nat.le_trans Z237 KK239.1
        have K239 : Keep h0 h239 [] := K237.trans KK239 (allS (Or.inr sz_b237) all0)
        have CH239 : CHv Z own_EL T234.vm h239 := CHv.keep KK239 (sfS sf240 sf0) CH237
        have CR239 : CHr Z own_EL s.vm h0 T234.vm h239 := CR237.trans (CHr.keep KK239 (sfS sf240 sf0) CH237)
        have pre241 := fun t (kt : SF p e below T239 m 117 #[vr x1, vr x1_value, vr x3, vi (Int32.ofNat i_215), vi (Int32.ofNat n), vr lg, vr b237, vi (Int32.ofNat i_215), un] [] t) => pre224 t (by
          refine XS.icmpYes X221.here hx rfl (pc0 := 58) (pc' := 63) rfl (hb hby d29_58) rfl (feq hc58).2 (by decide) (by decide) ?_
          refine XS.aloadN X221.here hx rfl (hb hby d29_63) rfl rfl ?_
          show SF p e below T221 m 64 _ [(.ref x3)] _
          refine st227.trans ?_
          show SF p e below T227 m 67 #[vr x1, vr x1_value, vr x3, vi (Int32.ofNat i_215), vi (Int32.ofNat n), vi (f i_215), un, un, un] [(.ref lg)] _
          refine XS.astore X227.here hx rfl (hb hby d29_67) rfl rfl (l' := #[vr x1, vr x1_value, vr x3, vi (Int32.ofNat i_215), vi (Int32.ofNat n), vr lg, un, un, un]) rfl ?_
          refine XS.aload X227.here hx rfl (hb hby d29_69) rfl rfl ?_
          show SF p e below T227 m 71 _ [(.ref lg)] _
          refine st228 _ ?_
          show SF p e below T228 m 73 #[vr x1, vr x1_value, vr x3, vi (Int32.ofNat i_215), vi (Int32.ofNat n), vr lg, un, un, un] [(.ref b228), (.ref lg)] _
          refine Jvm.RoadKit.acmp (g := (mkF m 73 #[vr x1, vr x1_value, vr x3, vi (Int32.ofNat i_215), vi (Int32.ofNat n), vr lg, un, un, un] [(.ref b228), (.ref lg)])) X228 hx rfl rfl rfl (pc0 := 73) (pc' := 76) (same := false) rfl (hb hby d29_73) rfl (decide_eq_false fun q => (Fld.ne F229 Va228 (fun q => own_arvne V230 Ar228 (by decide) (Value.ref.inj q))) (Value.ref.inj q)) (by decide) (by decide) ?_
          refine XS.aload X228.here hx rfl (hb hby d29_76) rfl rfl ?_
          show SF p e below T228 m 78 _ [(.ref lg)] _
          refine st231 _ ?_
          show SF p e below T231 m 80 #[vr x1, vr x1_value, vr x3, vi (Int32.ofNat i_215), vi (Int32.ofNat n), vr lg, un, un, un] [(.ref b231), (.ref lg)] _
          refine Jvm.RoadKit.acmp (g := (mkF m 80 #[vr x1, vr x1_value, vr x3, vi (Int32.ofNat i_215), vi (Int32.ofNat n), vr lg, un, un, un] [(.ref b231), (.ref lg)])) X231 hx rfl rfl rfl (pc0 := 80) (pc' := 83) (same := false) rfl (hb hby d29_80) rfl (decide_eq_false fun q => (Fld.ne F232 Va231 (fun q => own_arvne V233 Ar231 (by decide) (Value.ref.inj q))) (Value.ref.inj q)) (by decide) (by decide) ?_
          refine XS.aload X231.here hx rfl (hb hby d29_83) rfl rfl ?_
          show SF p e below T231 m 85 _ [(.ref lg)] _
          refine st234 _ ?_
          show SF p e below T234 m 87 #[vr x1, vr x1_value, vr x3, vi (Int32.ofNat i_215), vi (Int32.ofNat n), vr lg, un, un, un] [(.ref b234), (.ref lg)] _
          refine Jvm.RoadKit.acmp (g := (mkF m 87 #[vr x1, vr x1_value, vr x3, vi (Int32.ofNat i_215), vi (Int32.ofNat n), vr lg, un, un, un] [(.ref b234), (.ref lg)])) X234 hx rfl rfl rfl (pc0 := 87) (pc' := 99) (same := false) rfl (hb hby d29_87) rfl (decide_eq_false fun q => (Fld.ne F235 Va234 (fun q => own_arvne V236 Ar234 (by decide) (Value.ref.inj q))) (Value.ref.inj q)) (by decide) (by decide) ?_
          refine XS.iload X234.here hx rfl (hb hby d29_99) rfl ?_
          show SF p e below T234 m 101 _ [(.int (Int32.ofNat n))] _
          refine st237 _ ?_
          show SF p e below T237 m 103 #[vr x1, vr x1_value, vr x3, vi (Int32.ofNat i_215), vi (Int32.ofNat n), vr lg, un, un, un] [(.ref b237)] _
          refine XS.astore X237.here hx rfl (hb hby d29_103) rfl rfl (l' := #[vr x1, vr x1_value, vr x3, vi (Int32.ofNat i_215), vi (Int32.ofNat n), vr lg, vr b237, un, un]) rfl ?_
          refine XS.aloadN X237.here hx rfl (hb hby d29_105) rfl rfl ?_
          refine XS.iconst X237.here hx rfl (hb hby d29_106) ?_
          refine XS.aload X237.here hx rfl (hb hby d29_107) rfl rfl ?_
          refine XS.iconst X237.here hx rfl (hb hby d29_109) ?_
          refine XS.iloadN X237.here hx rfl (hb hby d29_110) rfl ?_
          show SF p e below T237 m 111 _ [(.int (Int32.ofNat i_215)), (.int (0 : Int32)), (.ref b237), (.int (0 : Int32)), (.ref x1_value)] _
          refine st239 _ ?_
          show SF p e below T239 m 114 #[vr x1, vr x1_value, vr x3, vi (Int32.ofNat i_215), vi (Int32.ofNat n), vr lg, vr b237, un, un] [] _
          refine XS.iloadN X239.here hx rfl (hb hby d29_114) rfl ?_
          refine XS.istore X239.here hx rfl (hb hby d29_115) rfl (l' := #[vr x1, vr x1_value, vr x3, vi (Int32.ofNat i_215), vi (Int32.ofNat n), vr lg, vr b237, vi (Int32.ofNat i_215), un]) rfl ?_
          exact kt)
        refine own_ind (A := Nat × Slot) (fun (q_242, s8_242) => n - q_242) (fun (q_242, s8_242) T242 L242 h242 => (q_242 ≤ n) ∧ (s8_242 = .unset ∨ ∃ z : Int32, s8_242 = vi z) ∧ Stand p l e ({ frames := 2, cells := 8, slots := 64, locals := 27 } : Room) (s.setVm T234.vm) m #[(.ref x1), (.ref x1_value), (.ref x3)] below meth c T242 L242 7 60 ∧ T242.heap = h242 ∧ Fr n0 L242 ∧ Keep h239 h242 [b237] ∧ Arv Z h242 b237 k237 .byte (Int32.ofNat n) (own_fv (own_mxf f q_242) n) (.int (0 : Int32)) ∧ ∀ t, SF p e below T242 m 117 #[vr x1, vr x1_value, vr x3, vi (Int32.ofNat i_215), vi (Int32.ofNat n), vr lg, vr b237, vi (Int32.ofNat q_242), s8_242] [] t → Steps p.tables e below (s₁.setTop (entryFrame m #[(.ref x1), (.ref x1_value), (.ref x3)] 9)) t) ?_ (i_215, .unset) T239 _ h239 ⟨(by omega), (Or.inl rfl), X239, e239, N239, (Keep.refl _ _), A239, pre241⟩
        rintro ⟨q_242, s8_242⟩ T242 L242 h242 ⟨hq_242, hs8_242, X242, e242, N242, KK242, J242_0, pre242⟩ ih242
        have sf243 : Safe Z own_EL T234.vm h239 b237 := (Safe.keep KK239 (sfS sf240 sf0) CH237 sf240)
        have O242 : Old Z n0 h242 := O239.keep KK242 (allS g_b237 all0)
        have Z242 : n0 ≤ h242.size := Nat.le_trans Z239 KK242.1
        have K242 : Keep h0 h242 [] := K239.trans KK242 (allS (Or.inr sz_b237) all0)
        have CH242 : CHv Z own_EL T234.vm h242 := CHv.keep KK242 (sfS sf243 sf0) CH239
        have CR242 : CHr Z own_EL s.vm h0 T234.vm h242 := CR239.trans (CHr.keep KK242 (sfS sf243 sf0) CH239)
        have pre244 := fun t (kt : SF p e below T242 m 121 #[vr x1, vr x1_value, vr x3, vi (Int32.ofNat i_215), vi (Int32.ofNat n), vr lg, vr b237, vi (Int32.ofNat q_242), s8_242] [(.int (Int32.ofNat n)), (.int (Int32.ofNat q_242))] t) => pre242 t (by
          refine XS.iload X242.here hx rfl (hb hby d29_117) rfl ?_
          refine XS.iload X242.here hx rfl (hb hby d29_119) rfl ?_
          exact kt)
        by_cases hc121 : (Int32.ofNat q_242) < (Int32.ofNat n)
        · skip
          have nf245 : (q_242 < n) := (own_lt (i := q_242) (n := n) (by omega) (by omega)).mp hc121
          have V246 : Arv Z h242 x1_value ks .byte (Int32.ofNat n) (own_fv f n) (.int 0) := ((V238.keep KK239 (ninS (Nat.ne_of_lt (Nat.lt_of_lt_of_le (((V_x1_value.ext E228).ext E231).ext E234).lt (Nat.le_of_eq g237.symm))) nin0)).keep KK242 (ninS (Nat.ne_of_lt (Nat.lt_of_lt_of_le (((V_x1_value.ext E228).ext E231).ext E234).lt (Nat.le_of_eq g237.symm))) nin0))
          obtain ⟨cl_a247, Ar_a247, -, S_a247, N_a247, H_a247, -⟩ := id V246
          obtain ⟨hin_a247, hat_a247⟩ := own_rd (j := (Int32.ofNat q_242)) (i := q_242) S_a247 H_a247 rfl (by omega) (by omega)
          have rn248 : ((own_by (f q_242)) &&& (255 : Int32)) = (f q_242) := own_b255 (hp _ (by omega))
          obtain ⟨T249, X249, e249, st249⟩ := getS2 X242 hx hZ234 hown234 (host := "") (Or.inl (own_wd hw 126 rfl)) Via.refl e242 (S_instance.ext O242.2) (g := (mkF m 134 #[vr x1, vr x1_value, vr x3, vi (Int32.ofNat i_215), vi (Int32.ofNat n), vr lg, vr b237, vi (Int32.ofNat q_242), vi (f q_242)] [])) rfl (hb hby d29_134)
          have C251 : Exa Z h242 st_instance "java/lang/CharacterDataLatin1" := ((((((E_st_instance.ext E228).ext E231).ext E234).ext E237).keep KK239).keep KK242)
          obtain ⟨cq250, kq250, q250a, q250b, q250c⟩ := isOf hZ234 e249 C251
          obtain ⟨_, _, ⟨T250, L250, k250, n250⟩, -, X250, ⟨Lc250, hQ250, l250, y250, z250⟩, st250⟩ := X249.virtualBack hx (y := (⟨"java/lang/CharacterDataLatin1", "toLowerCase", "(I)I"⟩ : MethodName)) (z := (⟨"java/lang/CharacterDataLatin1", "toLowerCase", "(I)I"⟩ : MethodName)) hown234 (mvT hZ234 (own_wd hw 128 rfl)) (mvT hZ234 (own_wd hw 129 rfl)) (notFace_of_selects (args := #[]) (mvT hZ234 (own_wd hw 131 rfl))) (mvT hZ234 (own_wd hw 131 rfl)) (mvT hZ234 (own_wd hw 130 rfl)) (by decide) (backOf (W := 0) (rm30 l Z a0 hw [] st_instance (f q_242) h242 n0 Z242 O242) hZ234 (own_wd hw 132 rfl) (own_wd hw 127 rfl) (by decide) (by decide)) q250a q250c (g := (mkF m 139 #[vr x1, vr x1_value, vr x3, vi (Int32.ofNat i_215), vi (Int32.ofNat n), vr lg, vr b237, vi (Int32.ofNat q_242), vi (f q_242)] [(.int (f q_242)), (.ref st_instance)])) rfl (by rw [hml]; rfl) (Steps.refl _) (argsL := [(.int (f q_242))]) (rest := []) (lenOf pd_14 rfl) rfl (by show 2 * 0 + _ ≤ _; exact Nat.le_of_eq rfl) (hb hby d29_139) (fun _ _ => ⟨rfl, e249, (by decide : 7 + 0 ≤ _), (by decide : 60 + 0 ≤ _)⟩)
          dsimp only [Pt.U, Pt.locs, Pt.cells, Pt.slots] at X250 l250 y250 z250 st250 hQ250
          subst y250 z250
          obtain ⟨rfl, N250q, eh250⟩ := hQ250
          have N250 : Fr n0 L250 := by rw [l250]; exact Fr.app N242 N250q
          have pp252 : ¬ ((own_low (f q_242)) < (0 : Int32)) := (own_lowr (hp q_242 (by omega))).1
          have pp253 : ¬ ((255 : Int32) < (own_low (f q_242))) := (own_lowr (hp q_242 (by omega))).2
          obtain ⟨_, _, ⟨T254, L254, k254, n254⟩, -, X254, ⟨Lc254, hQ254, l254, y254, z254⟩, st254⟩ := Jvm.LawKit.callS X250 hx (y := (⟨"java/lang/StringLatin1", "canEncode", "(I)Z"⟩ : MethodName)) hown234 (mvT hZ234 (own_wd hw 73 rfl)) (mvT hZ234 (own_wd hw 74 rfl)) (mvT hZ234 (own_wd hw 71 rfl)) (mvT hZ234 (own_wd hw 75 rfl)) (by decide) (backOf (W := 0) (rm17 l Z a0 hw [] (own_low (f q_242)) h242 n0 Z242 O242 pp252 pp253) hZ234 (own_wd hw 75 rfl) (own_wd hw 71 rfl) (by decide) (by decide)) (g := (mkF m 146 #[vr x1, vr x1_value, vr x3, vi (Int32.ofNat i_215), vi (Int32.ofNat n), vr lg, vr b237, vi (Int32.ofNat q_242), vi (own_low (f q_242))] [(.int (own_low (f q_242)))])) rfl (by rw [hml]; rfl) (argsL := [(.int (own_low (f q_242)))]) (rest := []) (lenOf pd_1 rfl) rfl (by show 2 * 0 + _ ≤ _; exact Nat.le_of_eq rfl) (hb hby d29_146) (fun _ _ => ⟨rfl, eh250, (by decide : 7 + 0 ≤ _), (by decide : 60 + 0 ≤ _)⟩)
          dsimp only [Pt.U, Pt.locs, Pt.cells, Pt.slots] at X254 l254 y254 z254 st254 hQ254
          subst y254 z254
          obtain ⟨rfl, N254q, eh254⟩ := hQ254
          have N254 : Fr n0 L254 := by rw [l254]; exact Fr.app N250 N254q
          obtain ⟨cl_a255, Ar_a255, q_a255, S_a255, N_a255, H_a255, G_a255⟩ := id J242_0
          have hin_a255 : ¬ ((Int32.ofNat q_242) < 0 ∨ cl_a255.slots.size ≤ ((Int32.ofNat q_242)).toNatClampNeg) := own_in S_a255 (by omega) (by omega)
          obtain ⟨T256, h256, X256, e256, W256, st256⟩ := stB X254 hx hZ234 eh254 Ar_a255 (j := (Int32.ofNat q_242)) hin_a255 (g := (mkF m 168 #[vr x1, vr x1_value, vr x3, vi (Int32.ofNat i_215), vi (Int32.ofNat n), vr lg, vr b237, vi (Int32.ofNat q_242), vi (own_low (f q_242))] [(.int ((own_low (f q_242)).toInt8.toInt32)), (.int (Int32.ofNat q_242)), (.ref b237)])) rfl rfl (hb hby d29_168)
          have sf257 : Safe Z own_EL T234.vm h242 b237 := (Safe.keep KK242 (sfS sf243 sf0) CH239 sf243)
          have O256 : Old Z n0 h256 := O242.wr W256 g_b237
          have Z256 : n0 ≤ h256.size := Nat.le_trans Z242 (Keep.of_wr W256).1
          have K256 : Keep h0 h256 [] := K242.wr W256 (Or.inr sz_b237)
          have N256 := Fr.snoc X256 N254 g_b237
          have CH256 : CHv Z own_EL T234.vm h256 := CHv.wr W256 sf257 CH242
          have CR256 : CHr Z own_EL s.vm h0 T234.vm h256 := CR242.trans (CHr.wr W256 sf257 CH242)
          have V256 : Arv Z h256 b237 k237 .byte (Int32.ofNat n) (own_fv (own_mxf f (q_242 + 1)) n) (.int (0 : Int32)) := (Arv.set Ar_a255 q_a255 S_a255 N_a255 H_a255 G_a255 (fits_nar_byte _) W256 q_242 (own_nat (by omega)) (by rw [own_fvlen]; omega)).pad (own_setfv (by omega) (own_mxs f q_242) (own_mxo f q_242))
          have pre258 := fun t (kt : SF p e below T256 m 117 #[vr x1, vr x1_value, vr x3, vi (Int32.ofNat i_215), vi (Int32.ofNat n), vr lg, vr b237, vi ((Int32.ofNat q_242) + (1 : Int32)), vi (own_low (f q_242))] [] t) => pre244 t (by
            refine XS.icmpNo X242.here hx rfl (hb hby d29_121) rfl (tlt hc121).2.1 ?_
            refine XS.aloadN X242.here hx rfl (hb hby d29_124) rfl rfl ?_
            refine XS.iload X242.here hx rfl (hb hby d29_125) rfl ?_
            show SF p e below T242 m 127 _ [(.int (Int32.ofNat q_242)), (.ref x1_value)] _
            refine X242.baloadBytes hx (j := (Int32.ofNat q_242)) (v := (.int (own_by (f q_242)))) (by rw [e242]; exact Ar_a247.1) (State.isArrayOf_alike hZ234.alike Ar_a247.2.1) Ar_a247.2.2 hin_a247 hat_a247 (g := (mkF m 127 #[vr x1, vr x1_value, vr x3, vi (Int32.ofNat i_215), vi (Int32.ofNat n), vr lg, vr b237, vi (Int32.ofNat q_242), s8_242] [(.int (Int32.ofNat q_242)), (.ref x1_value)])) rfl rfl (hb hby d29_127) _ ?_
            refine XS.sipush X242.here hx rfl (hb hby d29_128) ?_
            refine XS.iand X242.here hx rfl (hb hby d29_131) rfl ?_
            show SF p e below T242 m 132 _ [(.int ((own_by (f q_242)) &&& (255 : Int32)))] _
            rw [rn248]
            refine XS.istore X242.here hx rfl (hb hby d29_132) rfl (l' := #[vr x1, vr x1_value, vr x3, vi (Int32.ofNat i_215), vi (Int32.ofNat n), vr lg, vr b237, vi (Int32.ofNat q_242), vi (f q_242)]) (by rcases hs8_242 with q | ⟨z, q⟩ <;> rw [q] <;> rfl) ?_
            show SF p e below T242 m 134 _ [] _
            refine st249 _ ?_
            show SF p e below T249 m 137 #[vr x1, vr x1_value, vr x3, vi (Int32.ofNat i_215), vi (Int32.ofNat n), vr lg, vr b237, vi (Int32.ofNat q_242), vi (f q_242)] [(.ref st_instance)] _
            refine XS.iload X249.here hx rfl (hb hby d29_137) rfl ?_
            show SF p e below T249 m 139 _ [(.int (f q_242)), (.ref st_instance)] _
            refine st250.trans ?_
            show SF p e below T250 m 142 #[vr x1, vr x1_value, vr x3, vi (Int32.ofNat i_215), vi (Int32.ofNat n), vr lg, vr b237, vi (Int32.ofNat q_242), vi (f q_242)] [(.int (own_low (f q_242)))] _
            refine XS.istore X250.here hx rfl (hb hby d29_142) rfl (l' := #[vr x1, vr x1_value, vr x3, vi (Int32.ofNat i_215), vi (Int32.ofNat n), vr lg, vr b237, vi (Int32.ofNat q_242), vi (own_low (f q_242))]) rfl ?_
            refine XS.iload X250.here hx rfl (hb hby d29_144) rfl ?_
            show SF p e below T250 m 146 _ [(.int (own_low (f q_242)))] _
            refine st254 _ ?_
            show SF p e below T254 m 149 #[vr x1, vr x1_value, vr x3, vi (Int32.ofNat i_215), vi (Int32.ofNat n), vr lg, vr b237, vi (Int32.ofNat q_242), vi (own_low (f q_242))] [(.int (1 : Int32))] _
            refine XS.ifYes X254.here hx rfl (pc0 := 149) (pc' := 161) rfl (hb hby d29_149) rfl ((if0 _ _).trans (feq (by decide : ¬ ((1 : Int32) = (0 : Int32)))).2) (by decide) (by decide) ?_
            refine XS.aload X254.here hx rfl (hb hby d29_161) rfl rfl ?_
            refine XS.iload X254.here hx rfl (hb hby d29_163) rfl ?_
            refine XS.iload X254.here hx rfl (hb hby d29_165) rfl ?_
            show SF p e below T254 m 167 _ [(.int (own_low (f q_242))), (.int (Int32.ofNat q_242)), (.ref b237)] _
            refine XS.i2b X254.here hx rfl (hb hby d29_167) rfl ?_
            show SF p e below T254 m 168 _ [(.int ((own_low (f q_242)).toInt8.toInt32)), (.int (Int32.ofNat q_242)), (.ref b237)] _
            refine st256 _ ?_
            show SF p e below T256 m 169 #[vr x1, vr x1_value, vr x3, vi (Int32.ofNat i_215), vi (Int32.ofNat n), vr lg, vr b237, vi (Int32.ofNat q_242), vi (own_low (f q_242))] [] _
            refine XS.iinc X256.here hx rfl (hb hby d29_169) rfl (l' := #[vr x1, vr x1_value, vr x3, vi (Int32.ofNat i_215), vi (Int32.ofNat n), vr lg, vr b237, vi ((Int32.ofNat q_242) + (1 : Int32)), vi (own_low (f q_242))]) rfl ?_
            refine XS.goto X256.here hx rfl (pc0 := 172) (pc' := 117) rfl (hb hby d29_172) (by decide) (by decide) ?_
            exact kt)
          exact ih242 ((q_242 + 1), (.val (.int (own_low (f q_242))))) T256 _ h256 (by show _ - _ < _ - _; omega) ⟨(by omega), (Or.inr ⟨_, rfl⟩), X256, e256, N256, (KK242.wr W256 (Or.inl (List.mem_of_getElem? (i := 0) rfl))), V256, (fun t kt => pre258 t (by rw [own_one]; exact kt))⟩
        · skip
          have nf259 : ¬ (q_242 < n) := fun zq => hc121 ((own_lt (i := q_242) (n := n) (by omega) (by omega)).mpr zq)
          obtain ⟨T260, h260, X260, e260, E260, A260, D260, U260, st260⟩ := newO X242 hx hZ234 hown234 (own_wd hw 97 rfl) (own_wd hw 9 rfl) (own_wd hw 10 rfl) e242 (g := (mkF m 175 #[vr x1, vr x1_value, vr x3, vi (Int32.ofNat i_215), vi (Int32.ofNat n), vr lg, vr b237, vi (Int32.ofNat q_242), s8_242] [])) rfl (hb hby d29_175) (by decide) (by decide)
          obtain ⟨b260, g260⟩ : ∃ z, z = h242.size := ⟨_, rfl⟩
          rw [← g260] at A260 D260 st260
          have O260 : Old Z n0 h260 := O242.ext E260
          have Z260 : n0 ≤ h260.size := Nat.le_trans Z242 E260.1
          have K260 : Keep h0 h260 [] := K242.ext E260
          have CH260 : CHv Z own_EL T234.vm h260 := CHv.ext E260 CH242
          have CR260 : CHr Z own_EL s.vm h0 T234.vm h260 := CR242.trans (CHr.ext E260 CH242)
          have g_b260 : n0 ≤ b260 := Nat.le_trans Z242 (Nat.le_of_eq g260.symm)
          have sz_b260 : h0.size ≤ b260 := Nat.le_trans K242.1 (Nat.le_of_eq g260.symm)
          have F_b260_coder : Fld Z h260 b260 "java/lang/String" "coder" "B" (.int (0 : Int32)) := D260 (Or.inr (own_wd hw 34 rfl)) (ty := .byte) (by decide)
          have F_b260_value : Fld Z h260 b260 "java/lang/String" "value" "[B" .null := D260 (Or.inr (own_wd hw 36 rfl)) (ty := (.array .byte)) (by decide)
          obtain ⟨_, _, ⟨T261, L261, k261, n261⟩, -, X261, ⟨Lc261, hQ261, l261, y261, z261⟩, st261⟩ := X260.specialBack hx (y := (⟨"java/lang/String", "<init>", "([BB)V"⟩ : MethodName)) rfl hown234 (mvT hZ234 (own_wd hw 113 rfl)) (mvT hZ234 (own_wd hw 114 rfl)) (mvT hZ234 (own_wd hw 115 rfl)) (by decide) (backOf (W := 1) (rm27 l Z a0 hw [] b260 b237 .null (.int (0 : Int32)) h260 n0 Z260 O260 A260 F_b260_value g_b260 F_b260_coder) hZ234 (own_wd hw 115 rfl) (own_wd hw 10 rfl) (by decide) (by decide)) (g := (mkF m 182 #[vr x1, vr x1_value, vr x3, vi (Int32.ofNat i_215), vi (Int32.ofNat n), vr lg, vr b237, vi (Int32.ofNat q_242), s8_242] [(.int (0 : Int32)), (.ref b237), (.ref b260), (.ref b260)])) rfl (by rw [hml]; rfl) (Steps.refl _) (a := b260) (argsL := [(.ref b237), (.int (0 : Int32))]) (rest := [(.ref b260)]) (lenOf pd_9 rfl) rfl (by show 2 * 0 + _ ≤ _; exact Nat.le_of_eq rfl) (hb hby d29_182) (fun _ _ => ⟨rfl, e260, (by decide : 8 + 0 ≤ _), (by decide : 64 + 0 ≤ _)⟩)
          dsimp only [Pt.U, Pt.locs, Pt.cells, Pt.slots] at X261 l261 y261 z261 st261 hQ261
          subst y261 z261
          obtain ⟨rfl, N261q, KK261, Q261_0, Q261_1, Q261_2⟩ := hQ261
          have N261 : Fr n0 L261 := by rw [l261]; exact Fr.app N242 N261q
          have sf262 : Safe Z own_EL T234.vm h260 b260 := (Safe.ext E260 CH242 (Safe.new (Nat.le_of_eq g260.symm)))
          have O261 : Old Z n0 T261.heap := O260.keep KK261 (allS g_b260 all0)
          have Z261 : n0 ≤ T261.heap.size := Nat.le_trans Z260 KK261.1
          have K261 : Keep h0 T261.heap [] := K260.trans KK261 (allS (Or.inr sz_b260) all0)
          have CH261 : CHv Z own_EL T234.vm T261.heap := CHv.keep KK261 (sfS sf262 sf0) CH260
          have CR261 : CHr Z own_EL s.vm h0 T234.vm T261.heap := CR260.trans (CHr.keep KK261 (sfS sf262 sf0) CH260)
          have V263 : Arv Z T261.heap b237 k237 .byte (Int32.ofNat n) (own_fv (own_mxf f q_242) n) (.int (0 : Int32)) := ((J242_0.ext E260).keep KK261 (ninS (Nat.ne_of_lt (Nat.lt_of_lt_of_le J242_0.lt (Nat.le_of_eq g260.symm))) nin0))
          obtain ⟨fs, hr, hrun, hended, hW, hsame⟩ := X261.leave (v := some (.ref b260)) (fun h => by rw [Bd.returns] at h; cases h)
          have hend := hS234.ended hW (show _ ≤ T261.heap.size from (Nat.le_trans (Nat.le_trans (Nat.le_trans (Nat.le_trans (Nat.le_trans hk234 E237.1) KK239.1) KK242.1) E260.1) KK261.1)) hsame
          have hcr : CHr Z own_EL s.vm s.heap T261.vm T261.heap := by
            rw [hh]
            exact CR261.trans (CHv.at X261 hZ234 (own_EW hw) CH261)
          refine ⟨_, _, pre244 _ ?_, hrun, hended, _, _, rfl, ?_, hcr, ⟨_, rfl⟩, hend.1, hend.2.1, hend.2.2.mono (by decide) (by decide)⟩
          · show SF p e below T242 m 121 #[vr x1, vr x1_value, vr x3, vi (Int32.ofNat i_215), vi (Int32.ofNat n), vr lg, vr b237, vi (Int32.ofNat q_242), s8_242] [(.int (Int32.ofNat n)), (.int (Int32.ofNat q_242))] _
            refine XS.icmpYes X242.here hx rfl (pc0 := 121) (pc' := 175) rfl (hb hby d29_121) rfl (flt hc121).2.1 (by decide) (by decide) ?_
            show SF p e below T242 m 175 #[vr x1, vr x1_value, vr x3, vi (Int32.ofNat i_215), vi (Int32.ofNat n), vr lg, vr b237, vi (Int32.ofNat q_242), s8_242] [] _
            refine st260 _ ?_
            show SF p e below T260 m 178 #[vr x1, vr x1_value, vr x3, vi (Int32.ofNat i_215), vi (Int32.ofNat n), vr lg, vr b237, vi (Int32.ofNat q_242), s8_242] [(.ref b260)] _
            refine XS.dup X260.here hx rfl (hb hby d29_178) rfl rfl ?_
            refine XS.aload X260.here hx rfl (hb hby d29_179) rfl rfl ?_
            refine XS.iconst X260.here hx rfl (hb hby d29_181) ?_
            show SF p e below T260 m 182 _ [(.int (0 : Int32)), (.ref b237), (.ref b260), (.ref b260)] _
            refine st261.trans ?_
            show SF p e below T261 m 185 #[vr x1, vr x1_value, vr x3, vi (Int32.ofNat i_215), vi (Int32.ofNat n), vr lg, vr b237, vi (Int32.ofNat q_242), s8_242] [(.ref b260)] _
            jvm_step X261.here [X261.here.top, hx, (hb hby d29_185), X261.method', Bd.returns, Value.isRef, FieldType.isReference]
            first | (intro acts; rw [hr _ acts rfl rfl rfl]) | rw [hr _ _ rfl rfl rfl]
            exact Steps.refl _
          · show Q29 Z x1 x3 x1_value ks f n lb lg lv kl st_instance h0 n0 _ T261.heap _
            exact ⟨b260, b237, k237, rfl, N261, K261, Q261_0, Q261_1, Q261_2, (by have w := V263; rw [own_fvcongr (f := own_mxf f q_242) (g := own_lw f) (fun j hj => if_pos (by omega))] at w; exact w)⟩
  · skip
    have nf264 : ¬ (i_215 < n) := fun zq => hc21 ((own_lt (i := i_215) (n := n) (by omega) (by omega)).mpr zq)
    have pre265 := fun t (kt : SF p e below T215 m 58 #[vr x1, vr x1_value, vr x3, vi (Int32.ofNat i_215), vi (Int32.ofNat n), s5_215, un, un, un] [(.int (Int32.ofNat n)), (.int (Int32.ofNat i_215))] t) => pre216 t (by
      refine XS.icmpYes X215.here hx rfl (pc0 := 21) (pc' := 55) rfl (hb hby d29_21) rfl (flt hc21).2.1 (by decide) (by decide) ?_
      refine XS.iloadN X215.here hx rfl (hb hby d29_55) rfl ?_
      refine XS.iload X215.here hx rfl (hb hby d29_56) rfl ?_
      exact kt)
    by_cases hc58 : (Int32.ofNat i_215) = (Int32.ofNat n)
    · skip
      have nf266 : (i_215 = n) := (own_eq (i := i_215) (n := n) (by omega) (by omega)).mp hc58
      obtain ⟨fs, hr, hrun, hended, hW, hsame⟩ := X215.leave (v := some (.ref x1)) (fun h => by rw [Bd.returns] at h; cases h)
      have hend := hS0.ended hW (show _ ≤ T215.heap.size from by rw [e215]; exact hk0) hsame
      have hcr : CHr Z own_EL s.vm s.heap T215.vm T215.heap := by
        rw [hh, e215]
        exact CR0.trans (CHv.at X215 hZa (own_EW hw) CH0)
      refine ⟨_, _, pre265 _ ?_, hrun, hended, _, _, rfl, ?_, hcr, ⟨_, rfl⟩, hend.1, hend.2.1, hend.2.2.mono (by decide) (by decide)⟩
      · show SF p e below T215 m 58 #[vr x1, vr x1_value, vr x3, vi (Int32.ofNat i_215), vi (Int32.ofNat n), s5_215, un, un, un] [(.int (Int32.ofNat n)), (.int (Int32.ofNat i_215))] _
        refine XS.icmpNo X215.here hx rfl (hb hby d29_58) rfl (teq hc58).2 ?_
        show SF p e below T215 m 61 _ [] _
        refine XS.aloadN X215.here hx rfl (hb hby d29_61) rfl rfl ?_
        show SF p e below T215 m 62 _ [(.ref x1)] _
        jvm_step X215.here [X215.here.top, hx, (hb hby d29_62), X215.method', Bd.returns, Value.isRef, FieldType.isReference]
        first | (intro acts; rw [hr _ acts rfl rfl rfl]) | rw [hr _ _ rfl rfl rfl]
        exact Steps.refl _
      · show Q29 Z x1 x3 x1_value ks f n lb lg lv kl st_instance h0 n0 _ T215.heap _
        rw [e215]
        exact ⟨x1, x1_value, ks, rfl, N215, K0, E_x1, F_x1_value, F_x1_coder, (by rw [own_fvcongr (f := own_lw f) (g := f) (fun j hj => hl_215 j (by omega))]; exact V_x1_value)⟩
    · skip
      have nf267 : ¬ (i_215 = n) := fun zq => hc58 ((own_eq (i := i_215) (n := n) (by omega) (by omega)).mpr zq)
      exact False.elim (by omega)
theorem d28_0 : decode jdk_42_method_109_code 0 = .ok (.aload_n 0, 1) := by decide +kernel
theorem d28_1 : decode jdk_42_method_109_code 1 = .ok (.invokevirtual 492, 3) := by decide +kernel
theorem d28_4 : decode jdk_42_method_109_code 4 = .ok (.ifCond .eq 15, 3) := by decide +kernel
theorem d28_7 : decode jdk_42_method_109_code 7 = .ok (.aload_n 0, 1) := by decide +kernel
theorem d28_8 : decode jdk_42_method_109_code 8 = .ok (.aload_n 0, 1) := by decide +kernel
theorem d28_9 : decode jdk_42_method_109_code 9 = .ok (.getfield 9, 3) := by decide +kernel
theorem d28_12 : decode jdk_42_method_109_code 12 = .ok (.aload_n 1, 1) := by decide +kernel
theorem pd_15 : parseMethodDescriptor "(Ljava/lang/String;[BLjava/util/Locale;)Ljava/lang/String;" = some ⟨[(.object "java/lang/String"), (.array .byte), (.object "java/util/Locale")], some (.object "java/lang/String")⟩ := by decide +kernel
theorem d28_13 : decode jdk_42_method_109_code 13 = .ok (.invokestatic 839, 3) := by decide +kernel
theorem d28_16 : decode jdk_42_method_109_code 16 = .ok (.goto 12, 3) := by decide +kernel
theorem d28_28 : decode jdk_42_method_109_code 28 = .ok (.areturn, 1) := by decide +kernel
theorem ef28 (m : MethodId) (tz : Addr) (x1 : Addr) : entryFrame m #[(.ref tz), (.ref x1)] 2 = mkF m 0 #[vr tz, vr x1] [] := by first | (simp [entryFrame, mkF, argsToLocals, Value.category]; done) | rfl
def Q28 (Z : State) (tz : Addr) (x1 : Addr) (tz_value : Addr) (ks : ClassId) (f : Nat → Int32) (n : Nat) (lb : Addr) (lg : Addr) (lv : Addr) (kl : ClassId) (st_instance : Addr) (st_COMPACT_STRINGS : Int32) (h0 : Heap) (n0 : Nat) (v : Option Value) (h : Heap) (L : List Loc) : Prop := ∃ (b : Addr), ∃ (t : Addr), ∃ (kk : ClassId), v = some (.ref b) ∧ Fr n0 L ∧ Keep h0 h [] ∧ Exa Z h b "java/lang/String" ∧ Fld Z h b "java/lang/String" "value" "[B" (.ref t) ∧ Fld Z h b "java/lang/String" "coder" "B" (.int (0 : Int32)) ∧ Arv Z h t kk .byte (Int32.ofNat n) (own_fv (own_lw f) n) (.int 0)
set_option maxRecDepth 65536 in
set_option maxHeartbeats 40000000 in
theorem rm28 (l : Launch) (Z : State) (a0 : Array Value) (hw : ∀ d ∈ tables_1, d.before a0 Z = true) (ws : List Jvm.Cond) (tz : Addr) (x1 : Addr) (tz_value : Addr) (ks : ClassId) (f : Nat → Int32) (n : Nat) (lb : Addr) (lg : Addr) (lv : Addr) (kl : ClassId) (st_instance : Addr) (st_COMPACT_STRINGS : Int32) (h0 : Heap) (n0 : Nat) (Z0 : n0 ≤ h0.size) (O0 : Old Z n0 h0) (E_tz : Exa Z h0 tz "java/lang/String") (F_tz_value : Fld Z h0 tz "java/lang/String" "value" "[B" (.ref tz_value)) (F_tz_coder : Fld Z h0 tz "java/lang/String" "coder" "B" (.int (0 : Int32))) (V_tz_value : Arv Z h0 tz_value ks .byte (Int32.ofNat n) (own_fv f n) (.int 0)) (hp : ∀ j, j < n → ¬ f j < 0 ∧ ¬ (255 : Int32) < f j) (hn : n ≤ 24) (E_x1 : Exa Z h0 x1 "java/util/Locale") (F_x1_baseLocale : Fld Z h0 x1 "java/util/Locale" "baseLocale" "Lsun/util/locale/BaseLocale;" (.ref lb)) (E_lb : Exa Z h0 lb "sun/util/locale/BaseLocale") (F_lb_language : Fld Z h0 lb "sun/util/locale/BaseLocale" "language" "Ljava/lang/String;" (.ref lg)) (F_lg_value : Fld Z h0 lg "java/lang/String" "value" "[B" (.ref lv)) (V_lv : Arv Z h0 lv kl .byte (0 : Int32) [] (.int 0)) (S_instance : Sta Z Z.heap "java/lang/CharacterDataLatin1" "instance" "Ljava/lang/CharacterDataLatin1;" (.ref st_instance)) (E_st_instance : Exa Z h0 st_instance "java/lang/CharacterDataLatin1") (S_COMPACT_STRINGS : Sta Z Z.heap "java/lang/String" "COMPACT_STRINGS" "Z" (.int st_COMPACT_STRINGS)) (hcomp : ¬ (st_COMPACT_STRINGS = (0 : Int32))) :
    MetFree l (⟨"java/lang/String", "toLowerCase", "(Ljava/util/Locale;)Ljava/lang/String;"⟩ : MethodName) (head1 (Jvm.Cond.code (⟨"java/lang/String", "toLowerCase", "(Ljava/util/Locale;)Ljava/lang/String;"⟩ : MethodName) jdk_42_method_109_code 2 (some (.object "java/lang/String")) :: ws) ({ frames := 3, cells := 8, slots := 64, locals := 47 } : Room)) (fun a U => a = #[(.ref tz), (.ref x1)] ∧ Z.Warmed39 U.vm ∧ U.heap = h0 ∧ CHv Z own_EL U.vm h0) (fun _ _ _ _ _ => True) (fun _ U o U' => ∃ v L, o = .returned v ∧ Q28 Z tz x1 tz_value ks f n lb lg lv kl st_instance st_COMPACT_STRINGS h0 n0 v U'.heap L ∧ CHr Z own_EL U.vm U.heap U'.vm U'.heap ∧ ReturnedEndW U o U' L ({ frames := 3, cells := 8, slots := 64, locals := 47 } : Room).cells ({ frames := 3, cells := 8, slots := 64, locals := 47 } : Room).slots) := by
  refine MetFree.of_bodySF (plainFor_of_name pn_java_lang_String) hisR ?_
  intro p e s m args below meth c s₁ Bd hml0 hP hK
  obtain ⟨rfl, hZ, hh, CH0⟩ := hP
  have hx := Bd.exec
  have hby := Bd.bytes
  have hml : c.maxLocals = 2 := hml0
  have hown : (s.setVm s.vm).vm.findClass "java/lang/String" = some m.cls := findClass_of_methodNamed Bd.named
  have hnm := (name_of_methodNamed Bd.named Bd.method).1
  have X0 : Stand p l e ({ frames := 3, cells := 8, slots := 64, locals := 47 } : Room) (s.setVm s.vm) m #[(.ref tz), (.ref x1)] below meth c s₁ [] 0 0 := Stand.of_body Bd
  have e0 : s₁.heap = h0 := by rw [← hh, Bd.state]; rfl
  have N0 := Fr.nil n0
  have K0 : Keep h0 h0 [] := Keep.refl _ _
  have pre0 : ∀ t, SF p e below s₁ m 0 #[vr tz, vr x1] [] t → Steps p.tables e below (s₁.setTop (entryFrame m #[(.ref tz), (.ref x1)] 2)) t := fun t k => castTop (ef28 m tz x1) k
  have hZa : Z.Warmed39 (s.setVm s.vm).vm := hZ
  have howna : (s.setVm s.vm).vm.findClass "java/lang/String" = some m.cls := hown
  have hS0 : s.Since s.vm h0.size := (State.WarmedH.refl s).since _
  have hk0 : h0.size ≤ h0.size := Nat.le_refl _
  have CR0 : CHr Z own_EL s.vm h0 s.vm h0 := CHr.refl CH0
  obtain ⟨cq268, kq268, q268a, q268b, q268c⟩ := isOf hZa e0 E_tz
  obtain ⟨_, _, ⟨T268, L268, k268, n268⟩, -, X268, ⟨Lc268, hQ268, l268, y268, z268⟩, st268⟩ := X0.virtualBack hx (y := (⟨"java/lang/String", "isLatin1", "()Z"⟩ : MethodName)) (z := (⟨"java/lang/String", "isLatin1", "()Z"⟩ : MethodName)) howna (mvT hZa (own_wd hw 54 rfl)) (mvT hZa (own_wd hw 55 rfl)) (notFace_of_selects (args := #[]) (mvT hZa (own_wd hw 57 rfl))) (mvT hZa (own_wd hw 57 rfl)) (mvT hZa (own_wd hw 56 rfl)) (by decide) (backOf (W := 0) (rm13 l Z a0 hw [] tz st_COMPACT_STRINGS h0 n0 Z0 O0 F_tz_coder S_COMPACT_STRINGS hcomp) hZa (own_wd hw 58 rfl) (own_wd hw 10 rfl) (by decide) (by decide)) q268a q268c (g := (mkF m 1 #[vr tz, vr x1] [(.ref tz)])) rfl (by rw [hml]; rfl) (Steps.refl _) (argsL := []) (rest := []) (lenOf pd_4 rfl) rfl (by show 2 * 0 + _ ≤ _; exact Nat.le_of_eq rfl) (hb hby d28_1) (fun _ _ => ⟨rfl, e0, (by decide : 0 + 0 ≤ _), (by decide : 0 + 0 ≤ _)⟩)
  dsimp only [Pt.U, Pt.locs, Pt.cells, Pt.slots] at X268 l268 y268 z268 st268 hQ268
  subst y268 z268
  obtain ⟨rfl, N268q, eh268⟩ := hQ268
  have N268 : Fr n0 L268 := by rw [l268]; exact Fr.app N0 N268q
  obtain ⟨T269, X269, e269, st269⟩ := getF X268 hx hZa howna (host := "") (Or.inl (own_wd hw 35 rfl)) Via.refl eh268 F_tz_value (g := (mkF m 9 #[vr tz, vr x1] [(.ref tz), (.ref tz)])) rfl rfl (hb hby d28_9)
  obtain ⟨_, _, ⟨T270, L270, k270, n270⟩, -, X270, hS270, hg270, ⟨Lc270, hQ270, l270, y270, z270, R270⟩, st270⟩ := callSS X269 hx (y := (⟨"java/lang/StringLatin1", "toLowerCase", "(Ljava/lang/String;[BLjava/util/Locale;)Ljava/lang/String;"⟩ : MethodName)) howna (mvT hZa (own_wd hw 123 rfl)) (mvT hZa (own_wd hw 124 rfl)) (mvT hZa (own_wd hw 71 rfl)) (mvT hZa (own_wd hw 125 rfl)) (by decide) (backOfSH (s := s) (vm0 := s.vm) (W := 0) (rm29 l Z a0 hw [] tz x1 tz_value ks f n lb lg lv kl st_instance h0 n0 Z0 O0 E_tz F_tz_value F_tz_coder V_tz_value hp (by omega) E_x1 F_x1_baseLocale E_lb F_lb_language F_lg_value V_lv S_instance E_st_instance) hZa (own_wd hw 125 rfl) (own_wd hw 71 rfl) (by decide) (by decide) (own_EW hw) CH0) (g := (mkF m 13 #[vr tz, vr x1] [(.ref x1), (.ref tz_value), (.ref tz)])) rfl (by rw [hml]; rfl) (argsL := [(.ref tz), (.ref tz_value), (.ref x1)]) (rest := []) (lenOf pd_15 rfl) rfl (by show 2 * 0 + _ ≤ _; exact Nat.le_of_eq rfl) (hb hby d28_13) (fun _ _ => ⟨rfl, e269, (by decide : 0 + 8 ≤ _), (by decide : 0 + 64 ≤ _)⟩)
  dsimp only [Pt.U, Pt.locs, Pt.cells, Pt.slots] at X270 l270 y270 z270 st270 hQ270 hS270 hg270 R270
  subst y270 z270
  obtain ⟨X270, hS270, hZ270, hown270⟩ := rebS hS0 hk0 X270 hS270 (by rw [← e269]; exact hg270) hZa howna
  obtain ⟨b_270, t_270, kk_270, rfl, N270q, KK270, Q270_0, Q270_1, Q270_2, Q270_3⟩ := hQ270
  have N270 : Fr n0 L270 := by rw [l270]; exact Fr.app N268 N270q
  have O270 : Old Z n0 T270.heap := O0.keep KK270 all0
  have Z270 : n0 ≤ T270.heap.size := Nat.le_trans Z0 KK270.1
  have K270 : Keep h0 T270.heap [] := K0.trans KK270 all0
  have CH270 : CHv Z own_EL T270.vm T270.heap := R270.1
  have CR270 : CHr Z own_EL s.vm h0 T270.vm T270.heap := CR0.trans R270
  obtain ⟨fs, hr, hrun, hended, hW, hsame⟩ := X270.leave (v := some (.ref b_270)) (fun h => by rw [Bd.returns] at h; cases h)
  have hend := hS270.ended hW (show _ ≤ T270.heap.size from (Nat.le_refl _)) hsame
  have hcr : CHr Z own_EL s.vm s.heap T270.vm T270.heap := by
    rw [hh]
    exact CR270.trans (CHv.at X270 hZ270 (own_EW hw) CH270)
  refine ⟨_, _, pre0 _ ?_, hrun, hended, _, _, rfl, ?_, hcr, ⟨_, rfl⟩, hend.1, hend.2.1, hend.2.2.mono (by decide) (by decide)⟩
  · show SF p e below s₁ m 0 #[vr tz, vr x1] [] _
    refine XS.aloadN X0.here hx rfl (hb hby d28_0) rfl rfl ?_
    show SF p e below s₁ m 1 #[vr tz, vr x1] [(.ref tz)] _
    refine st268.trans ?_
    show SF p e below T268 m 4 #[vr tz, vr x1] [(.int (1 : Int32))] _
    refine XS.ifNo X268.here hx rfl (hb hby d28_4) rfl ((if0 _ _).trans (feq (by decide : ¬ ((1 : Int32) = (0 : Int32)))).1) ?_
    refine XS.aloadN X268.here hx rfl (hb hby d28_7) rfl rfl ?_
    refine XS.aloadN X268.here hx rfl (hb hby d28_8) rfl rfl ?_
    show SF p e below T268 m 9 _ [(.ref tz), (.ref tz)] _
    refine st269 _ ?_
    show SF p e below T269 m 12 #[vr tz, vr x1] [(.ref tz_value), (.ref tz)] _
    refine XS.aloadN X269.here hx rfl (hb hby d28_12) rfl rfl ?_
    show SF p e below T269 m 13 _ [(.ref x1), (.ref tz_value), (.ref tz)] _
    refine st270.trans ?_
    show SF p e below T270 m 16 #[vr tz, vr x1] [(.ref b_270)] _
    refine XS.goto X270.here hx rfl (pc0 := 16) (pc' := 28) rfl (hb hby d28_16) (by decide) (by decide) ?_
    show SF p e below T270 m 28 _ [(.ref b_270)] _
    jvm_step X270.here [X270.here.top, hx, (hb hby d28_28), X270.method', Bd.returns, Value.isRef, FieldType.isReference]
    first | (intro acts; rw [hr _ acts rfl rfl rfl]) | rw [hr _ _ rfl rfl rfl]
    exact Steps.refl _
  · show Q28 Z tz x1 tz_value ks f n lb lg lv kl st_instance st_COMPACT_STRINGS h0 n0 _ T270.heap _
    exact ⟨b_270, t_270, kk_270, rfl, N270, K270, Q270_0, Q270_1, Q270_2, Q270_3⟩
theorem d10_0 : decode prog_13_method_5_code 0 = .ok (.aload_n 0, 1) := by decide +kernel
theorem d10_1 : decode prog_13_method_5_code 1 = .ok (.bipush 59, 2) := by decide +kernel
theorem d10_3 : decode prog_13_method_5_code 3 = .ok (.invokevirtual 85, 3) := by decide +kernel
theorem d10_6 : decode prog_13_method_5_code 6 = .ok (.istore_n 1, 1) := by decide +kernel
theorem d10_7 : decode prog_13_method_5_code 7 = .ok (.iload_n 1, 1) := by decide +kernel
theorem d10_8 : decode prog_13_method_5_code 8 = .ok (.ifCond .ge 7, 3) := by decide +kernel
theorem d10_15 : decode prog_13_method_5_code 15 = .ok (.aload_n 0, 1) := by decide +kernel
theorem d10_16 : decode prog_13_method_5_code 16 = .ok (.iconst 0, 1) := by decide +kernel
theorem d10_17 : decode prog_13_method_5_code 17 = .ok (.iload_n 1, 1) := by decide +kernel
theorem pd_16 : parseMethodDescriptor "(II)Ljava/lang/String;" = some ⟨[.int, .int], some (.object "java/lang/String")⟩ := by decide +kernel
theorem d10_18 : decode prog_13_method_5_code 18 = .ok (.invokevirtual 89, 3) := by decide +kernel
theorem d10_21 : decode prog_13_method_5_code 21 = .ok (.astore_n 2, 1) := by decide +kernel
theorem d10_22 : decode prog_13_method_5_code 22 = .ok (.aload_n 2, 1) := by decide +kernel
theorem d10_23 : decode prog_13_method_5_code 23 = .ok (.invokevirtual 93, 3) := by decide +kernel
theorem d10_26 : decode prog_13_method_5_code 26 = .ok (.getstatic 97, 3) := by decide +kernel
theorem pd_17 : parseMethodDescriptor "(Ljava/util/Locale;)Ljava/lang/String;" = some ⟨[(.object "java/util/Locale")], some (.object "java/lang/String")⟩ := by decide +kernel
theorem d10_29 : decode prog_13_method_5_code 29 = .ok (.invokevirtual 103, 3) := by decide +kernel
theorem d10_32 : decode prog_13_method_5_code 32 = .ok (.areturn, 1) := by decide +kernel
theorem d10_11 : decode prog_13_method_5_code 11 = .ok (.aload_n 0, 1) := by decide +kernel
theorem d10_12 : decode prog_13_method_5_code 12 = .ok (.goto 9, 3) := by decide +kernel
theorem pn_com_example_prueba_prueba_MediaTypes : plainName "com/example/prueba/prueba/MediaTypes" = true := by first | (simp [plainName, overriddenIn]; done) | decide +kernel
theorem ef10 (m : MethodId) (x1 : Addr) : entryFrame m #[(.ref x1)] 3 = mkF m 0 #[vr x1, un, un] [] := by first | (simp [entryFrame, mkF, argsToLocals, Value.category]; done) | rfl
def Q10 (Z : State) (x1 : Addr) (x1_value : Addr) (ks : ClassId) (f : Nat → Int32) (n : Nat) (lb : Addr) (lg : Addr) (lv : Addr) (kl : ClassId) (st_instance : Addr) (st_ROOT : Addr) (st_COMPACT_STRINGS : Int32) (st_fm : Value) (h0 : Heap) (n0 : Nat) (v : Option Value) (h : Heap) (L : List Loc) : Prop := ∃ (b : Addr), ∃ (t : Addr), ∃ (kk : ClassId), ∃ (ka : Nat), ∃ (ua : Nat), ∃ (ub : Nat), v = some (.ref b) ∧ Fr n0 L ∧ Keep h0 h [] ∧ Exa Z h b "java/lang/String" ∧ Fld Z h b "java/lang/String" "value" "[B" (.ref t) ∧ Fld Z h b "java/lang/String" "coder" "B" (.int (0 : Int32)) ∧ Arv Z h t kk .byte (Int32.ofNat (ub - ua)) (own_fv (own_lw (own_sh f ua)) (ub - ua)) (.int 0) ∧ (own_mt f n ka ua ub)
set_option maxRecDepth 65536 in
set_option maxHeartbeats 40000000 in
theorem rm10 (l : Launch) (Z : State) (a0 : Array Value) (hw : ∀ d ∈ tables_1, d.before a0 Z = true) (ws : List Jvm.Cond) (x1 : Addr) (x1_value : Addr) (ks : ClassId) (f : Nat → Int32) (n : Nat) (lb : Addr) (lg : Addr) (lv : Addr) (kl : ClassId) (st_instance : Addr) (st_ROOT : Addr) (st_COMPACT_STRINGS : Int32) (st_fm : Value) (h0 : Heap) (n0 : Nat) (Z0 : n0 ≤ h0.size) (O0 : Old Z n0 h0) (E_x1 : Exa Z h0 x1 "java/lang/String") (F_x1_value : Fld Z h0 x1 "java/lang/String" "value" "[B" (.ref x1_value)) (F_x1_coder : Fld Z h0 x1 "java/lang/String" "coder" "B" (.int (0 : Int32))) (V_x1_value : Arv Z h0 x1_value ks .byte (Int32.ofNat n) (own_fv f n) (.int 0)) (hp : ∀ j, j < n → ¬ f j < 0 ∧ ¬ (255 : Int32) < f j) (hn : n ≤ 24) (S_ROOT : Sta Z Z.heap "java/util/Locale" "ROOT" "Ljava/util/Locale;" (.ref st_ROOT)) (E_st_ROOT : Exa Z h0 st_ROOT "java/util/Locale") (F_st_ROOT_baseLocale : Fld Z h0 st_ROOT "java/util/Locale" "baseLocale" "Lsun/util/locale/BaseLocale;" (.ref lb)) (E_lb : Exa Z h0 lb "sun/util/locale/BaseLocale") (F_lb_language : Fld Z h0 lb "sun/util/locale/BaseLocale" "language" "Ljava/lang/String;" (.ref lg)) (F_lg_value : Fld Z h0 lg "java/lang/String" "value" "[B" (.ref lv)) (V_lv : Arv Z h0 lv kl .byte (0 : Int32) [] (.int 0)) (S_instance : Sta Z Z.heap "java/lang/CharacterDataLatin1" "instance" "Ljava/lang/CharacterDataLatin1;" (.ref st_instance)) (E_st_instance : Exa Z h0 st_instance "java/lang/CharacterDataLatin1") (S_COMPACT_STRINGS : Sta Z Z.heap "java/lang/String" "COMPACT_STRINGS" "Z" (.int st_COMPACT_STRINGS)) (hcomp : ¬ (st_COMPACT_STRINGS = (0 : Int32))) (S_fm : Sta Z Z.heap "jdk/internal/util/Preconditions" "SIOOBE_FORMATTER" "Ljava/util/function/BiFunction;" st_fm) (hfm : st_fm.isRef = true) :
    MetFree l (⟨"com/example/prueba/prueba/MediaTypes", "mediaType", "(Ljava/lang/String;)Ljava/lang/String;"⟩ : MethodName) (head1 (Jvm.Cond.code (⟨"com/example/prueba/prueba/MediaTypes", "mediaType", "(Ljava/lang/String;)Ljava/lang/String;"⟩ : MethodName) prog_13_method_5_code 3 (some (.object "java/lang/String")) :: ws) ({ frames := 6, cells := 12, slots := 120, locals := 91 } : Room)) (fun a U => a = #[(.ref x1)] ∧ Z.Warmed39 U.vm ∧ U.heap = h0 ∧ CHv Z own_EL U.vm h0) (fun _ _ _ _ _ => True) (fun _ U o U' => ∃ v L, o = .returned v ∧ Q10 Z x1 x1_value ks f n lb lg lv kl st_instance st_ROOT st_COMPACT_STRINGS st_fm h0 n0 v U'.heap L ∧ CHr Z own_EL U.vm U.heap U'.vm U'.heap ∧ ReturnedEndW U o U' L ({ frames := 6, cells := 12, slots := 120, locals := 91 } : Room).cells ({ frames := 6, cells := 12, slots := 120, locals := 91 } : Room).slots) := by
  refine MetFree.of_bodySF (plainFor_of_name pn_com_example_prueba_prueba_MediaTypes) hisR ?_
  intro p e s m args below meth c s₁ Bd hml0 hP hK
  obtain ⟨rfl, hZ, hh, CH0⟩ := hP
  have hx := Bd.exec
  have hby := Bd.bytes
  have hml : c.maxLocals = 3 := hml0
  have hown : (s.setVm s.vm).vm.findClass "com/example/prueba/prueba/MediaTypes" = some m.cls := findClass_of_methodNamed Bd.named
  have hnm := (name_of_methodNamed Bd.named Bd.method).1
  have X0 : Stand p l e ({ frames := 6, cells := 12, slots := 120, locals := 91 } : Room) (s.setVm s.vm) m #[(.ref x1)] below meth c s₁ [] 0 0 := Stand.of_body Bd
  have e0 : s₁.heap = h0 := by rw [← hh, Bd.state]; rfl
  have N0 := Fr.nil n0
  have K0 : Keep h0 h0 [] := Keep.refl _ _
  have pre0 : ∀ t, SF p e below s₁ m 0 #[vr x1, un, un] [] t → Steps p.tables e below (s₁.setTop (entryFrame m #[(.ref x1)] 3)) t := fun t k => castTop (ef10 m x1) k
  have hZa : Z.Warmed39 (s.setVm s.vm).vm := hZ
  have howna : (s.setVm s.vm).vm.findClass "com/example/prueba/prueba/MediaTypes" = some m.cls := hown
  have hS0 : s.Since s.vm h0.size := (State.WarmedH.refl s).since _
  have hk0 : h0.size ≤ h0.size := Nat.le_refl _
  have CR0 : CHr Z own_EL s.vm h0 s.vm h0 := CHr.refl CH0
  obtain ⟨cq271, kq271, q271a, q271b, q271c⟩ := isOf hZa e0 E_x1
  obtain ⟨_, _, ⟨T271, L271, k271, n271⟩, -, X271, ⟨Lc271, hQ271, l271, y271, z271⟩, st271⟩ := X0.virtualBack hx (y := (⟨"java/lang/String", "indexOf", "(I)I"⟩ : MethodName)) (z := (⟨"java/lang/String", "indexOf", "(I)I"⟩ : MethodName)) howna (mvT hZa (own_wd hw 44 rfl)) (mvT hZa (own_wd hw 45 rfl)) (notFace_of_selects (args := #[]) (mvT hZa (own_wd hw 47 rfl))) (mvT hZa (own_wd hw 47 rfl)) (mvT hZa (own_wd hw 46 rfl)) (by decide) (backOf (W := 0) (rm11 l Z a0 hw [] x1 x1_value ks f n st_COMPACT_STRINGS h0 n0 Z0 O0 E_x1 F_x1_value F_x1_coder V_x1_value hp (by omega) S_COMPACT_STRINGS hcomp) hZa (own_wd hw 48 rfl) (own_wd hw 10 rfl) (by decide) (by decide)) q271a q271c (g := (mkF m 3 #[vr x1, un, un] [(.int (59 : Int32)), (.ref x1)])) rfl (by rw [hml]; rfl) (Steps.refl _) (argsL := [(.int (59 : Int32))]) (rest := []) (lenOf pd_14 rfl) rfl (by show 2 * 0 + _ ≤ _; exact Nat.le_of_eq rfl) (hb hby d10_3) (fun _ _ => ⟨rfl, e0, (by decide : 0 + 0 ≤ _), (by decide : 0 + 0 ≤ _)⟩)
  dsimp only [Pt.U, Pt.locs, Pt.cells, Pt.slots] at X271 l271 y271 z271 st271 hQ271
  subst y271 z271
  obtain ⟨r_271, rfl, N271q, eh271, Q271_0⟩ := hQ271
  have N271 : Fr n0 L271 := by rw [l271]; exact Fr.app N0 N271q
  have pre272 := fun t (kt : SF p e below T271 m 6 #[vr x1, un, un] [(.int r_271)] t) => pre0 t (by
    refine XS.aloadN X0.here hx rfl (hb hby d10_0) rfl rfl ?_
    refine XS.bipush X0.here hx rfl (hb hby d10_1) ?_
    show SF p e below s₁ m 3 _ [(.int (59 : Int32)), (.ref x1)] _
    refine st271.trans ?_
    exact kt)
  rcases Q271_0 with ⟨kx, hkx, hr, hfx, hjx⟩ | ⟨hr, hjx⟩
  · skip
    subst hr
    obtain ⟨cq273, kq273, q273a, q273b, q273c⟩ := isOf hZa eh271 E_x1
    obtain ⟨_, _, ⟨T273, L273, k273, n273⟩, -, X273, hS273, hg273, ⟨Lc273, hQ273, l273, y273, z273, R273⟩, st273⟩ := X271.virtualBackS hx (y := (⟨"java/lang/String", "substring", "(II)Ljava/lang/String;"⟩ : MethodName)) (z := (⟨"java/lang/String", "substring", "(II)Ljava/lang/String;"⟩ : MethodName)) howna (mvT hZa (own_wd hw 179 rfl)) (mvT hZa (own_wd hw 180 rfl)) (notFace_of_selects (args := #[]) (mvT hZa (own_wd hw 182 rfl))) (mvT hZa (own_wd hw 182 rfl)) (mvT hZa (own_wd hw 181 rfl)) (by decide) (backOfSH (s := s) (vm0 := s.vm) (W := 0) (rm38 l Z a0 hw [] x1 x1_value ks f n kx st_COMPACT_STRINGS st_fm h0 n0 Z0 O0 E_x1 F_x1_value F_x1_coder V_x1_value (by omega) (by omega) S_COMPACT_STRINGS hcomp S_fm hfm) hZa (own_wd hw 183 rfl) (own_wd hw 10 rfl) (by decide) (by decide) (own_EW hw) CH0) q273a q273c (g := (mkF m 18 #[vr x1, vi (Int32.ofNat kx), un] [(.int (Int32.ofNat kx)), (.int (0 : Int32)), (.ref x1)])) rfl (by rw [hml]; rfl) (Steps.refl _) (argsL := [(.int (0 : Int32)), (.int (Int32.ofNat kx))]) (rest := []) (lenOf pd_16 rfl) rfl (by show 2 * 0 + _ ≤ _; exact Nat.le_of_eq rfl) (hb hby d10_18) (fun _ _ => ⟨rfl, eh271, (by decide : 0 + 2 ≤ _), (by decide : 0 + 28 ≤ _)⟩)
    dsimp only [Pt.U, Pt.locs, Pt.cells, Pt.slots] at X273 l273 y273 z273 st273 hQ273 hS273 hg273 R273
    subst y273 z273
    obtain ⟨X273, hS273, hZ273, hown273⟩ := rebS hS0 hk0 X273 hS273 (by rw [← eh271]; exact hg273) hZa howna
    obtain ⟨b_273, t_273, kk_273, rfl, N273q, KK273, Q273_0, Q273_1, Q273_2, Q273_3⟩ := hQ273
    have N273 : Fr n0 L273 := by rw [l273]; exact Fr.app N271 N273q
    have O273 : Old Z n0 T273.heap := O0.keep KK273 all0
    have Z273 : n0 ≤ T273.heap.size := Nat.le_trans Z0 KK273.1
    have K273 : Keep h0 T273.heap [] := K0.trans KK273 all0
    have CH273 : CHv Z own_EL T273.vm T273.heap := R273.1
    have CR273 : CHr Z own_EL s.vm h0 T273.vm T273.heap := CR0.trans R273
    obtain ⟨cq274, kq274, q274a, q274b, q274c⟩ := isOf hZ273 rfl Q273_0
    obtain ⟨_, _, ⟨T274, L274, k274, n274⟩, -, X274, hS274, hg274, ⟨Lc274, hQ274, l274, y274, z274, R274⟩, st274⟩ := X273.virtualBackS hx (y := (⟨"java/lang/String", "trim", "()Ljava/lang/String;"⟩ : MethodName)) (z := (⟨"java/lang/String", "trim", "()Ljava/lang/String;"⟩ : MethodName)) hown273 (mvT hZ273 (own_wd hw 86 rfl)) (mvT hZ273 (own_wd hw 87 rfl)) (notFace_of_selects (args := #[]) (mvT hZ273 (own_wd hw 89 rfl))) (mvT hZ273 (own_wd hw 89 rfl)) (mvT hZ273 (own_wd hw 88 rfl)) (by decide) (backOfSH (s := s) (vm0 := T273.vm) (W := 0) (rm21 l Z a0 hw [] b_273 t_273 kk_273 f kx st_COMPACT_STRINGS T273.heap n0 Z273 O273 Q273_0 Q273_1 Q273_2 Q273_3 (fun j hj => hp j (by omega)) (by omega) S_COMPACT_STRINGS hcomp) hZ273 (own_wd hw 90 rfl) (own_wd hw 10 rfl) (by decide) (by decide) (own_EW hw) CH273) q274a q274c (g := (mkF m 23 #[vr x1, vi (Int32.ofNat kx), vr b_273] [(.ref b_273)])) rfl (by rw [hml]; rfl) (Steps.refl _) (argsL := []) (rest := []) (lenOf pd_13 rfl) rfl (by show 2 * 0 + _ ≤ _; exact Nat.le_of_eq rfl) (hb hby d10_23) (fun _ _ => ⟨rfl, rfl, (by decide : 2 + 2 ≤ _), (by decide : 28 + 28 ≤ _)⟩)
    dsimp only [Pt.U, Pt.locs, Pt.cells, Pt.slots] at X274 l274 y274 z274 st274 hQ274 hS274 hg274 R274
    subst y274 z274
    obtain ⟨X274, hS274, hZ274, hown274⟩ := rebS hS273 (Nat.le_refl _) X274 hS274 hg274 hZ273 hown273
    obtain ⟨b_274, t_274, kk_274, ua_274, ub_274, rfl, N274q, KK274, Q274_0, Q274_1, Q274_2, Q274_3, Q274_4⟩ := hQ274
    have N274 : Fr n0 L274 := by rw [l274]; exact Fr.app N273 N274q
    have O274 : Old Z n0 T274.heap := O273.keep KK274 all0
    have Z274 : n0 ≤ T274.heap.size := Nat.le_trans Z273 KK274.1
    have K274 : Keep h0 T274.heap [] := K273.trans KK274 all0
    have CH274 : CHv Z own_EL T274.vm T274.heap := R274.1
    have CR274 : CHr Z own_EL s.vm h0 T274.vm T274.heap := CR273.trans R274
    obtain ⟨T275, X275, e275, st275⟩ := getS2 X274 hx hZ274 hown274 (host := "") (Or.inl (own_wd hw 116 rfl)) Via.refl rfl (S_ROOT.ext O274.2) (g := (mkF m 26 #[vr x1, vi (Int32.ofNat kx), vr b_273] [(.ref b_274)])) rfl (hb hby d10_26)
    have F276 : Fld Z T274.heap st_ROOT "java/util/Locale" "baseLocale" "Lsun/util/locale/BaseLocale;" (.ref lb) := ((F_st_ROOT_baseLocale.keep KK273 nin0).keep KK274 nin0)
    have F277 : Fld Z T274.heap lb "sun/util/locale/BaseLocale" "language" "Ljava/lang/String;" (.ref lg) := ((F_lb_language.keep KK273 nin0).keep KK274 nin0)
    have F278 : Fld Z T274.heap lg "java/lang/String" "value" "[B" (.ref lv) := ((F_lg_value.keep KK273 nin0).keep KK274 nin0)
    have C279 : Exa Z T274.heap st_ROOT "java/util/Locale" := ((E_st_ROOT.keep KK273).keep KK274)
    have C280 : Exa Z T274.heap lb "sun/util/locale/BaseLocale" := ((E_lb.keep KK273).keep KK274)
    have V281 : Arv Z T274.heap lv kl .byte (0 : Int32) [] (.int 0) := ((V_lv.keep KK273 nin0).keep KK274 nin0)
    have C282 : Exa Z T274.heap st_instance "java/lang/CharacterDataLatin1" := ((E_st_instance.keep KK273).keep KK274)
    obtain ⟨cq283, kq283, q283a, q283b, q283c⟩ := isOf hZ274 e275 Q274_0
    obtain ⟨_, _, ⟨T283, L283, k283, n283⟩, -, X283, hS283, hg283, ⟨Lc283, hQ283, l283, y283, z283, R283⟩, st283⟩ := X275.virtualBackS hx (y := (⟨"java/lang/String", "toLowerCase", "(Ljava/util/Locale;)Ljava/lang/String;"⟩ : MethodName)) (z := (⟨"java/lang/String", "toLowerCase", "(Ljava/util/Locale;)Ljava/lang/String;"⟩ : MethodName)) hown274 (mvT hZ274 (own_wd hw 118 rfl)) (mvT hZ274 (own_wd hw 119 rfl)) (notFace_of_selects (args := #[]) (mvT hZ274 (own_wd hw 121 rfl))) (mvT hZ274 (own_wd hw 121 rfl)) (mvT hZ274 (own_wd hw 120 rfl)) (by decide) (backOfSH (s := s) (vm0 := T274.vm) (W := 0) (rm28 l Z a0 hw [] b_274 st_ROOT t_274 kk_274 (own_sh f ua_274) (ub_274 - ua_274) lb lg lv kl st_instance st_COMPACT_STRINGS T274.heap n0 Z274 O274 Q274_0 Q274_1 Q274_2 Q274_3 (own_hpsh hp Q274_4 (by omega)) (by have q := Q274_4.2.1; omega) C279 F276 C280 F277 F278 V281 S_instance C282 S_COMPACT_STRINGS hcomp) hZ274 (own_wd hw 122 rfl) (own_wd hw 10 rfl) (by decide) (by decide) (own_EW hw) CH274) q283a q283c (g := (mkF m 29 #[vr x1, vi (Int32.ofNat kx), vr b_273] [(.ref st_ROOT), (.ref b_274)])) rfl (by rw [hml]; rfl) (Steps.refl _) (argsL := [(.ref st_ROOT)]) (rest := []) (lenOf pd_17 rfl) rfl (by show 2 * 0 + _ ≤ _; exact Nat.le_of_eq rfl) (hb hby d10_29) (fun _ _ => ⟨rfl, e275, (by decide : 4 + 8 ≤ _), (by decide : 56 + 64 ≤ _)⟩)
    dsimp only [Pt.U, Pt.locs, Pt.cells, Pt.slots] at X283 l283 y283 z283 st283 hQ283 hS283 hg283 R283
    subst y283 z283
    obtain ⟨X283, hS283, hZ283, hown283⟩ := rebS hS274 (Nat.le_refl _) X283 hS283 (by rw [← e275]; exact hg283) hZ274 hown274
    obtain ⟨b_283, t_283, kk_283, rfl, N283q, KK283, Q283_0, Q283_1, Q283_2, Q283_3⟩ := hQ283
    have N283 : Fr n0 L283 := by rw [l283]; exact Fr.app N274 N283q
    have O283 : Old Z n0 T283.heap := O274.keep KK283 all0
    have Z283 : n0 ≤ T283.heap.size := Nat.le_trans Z274 KK283.1
    have K283 : Keep h0 T283.heap [] := K274.trans KK283 all0
    have CH283 : CHv Z own_EL T283.vm T283.heap := R283.1
    have CR283 : CHr Z own_EL s.vm h0 T283.vm T283.heap := CR274.trans R283
    obtain ⟨fs, hr, hrun, hended, hW, hsame⟩ := X283.leave (v := some (.ref b_283)) (fun h => by rw [Bd.returns] at h; cases h)
    have hend := hS283.ended hW (show _ ≤ T283.heap.size from (Nat.le_refl _)) hsame
    have hcr : CHr Z own_EL s.vm s.heap T283.vm T283.heap := by
      rw [hh]
      exact CR283.trans (CHv.at X283 hZ283 (own_EW hw) CH283)
    refine ⟨_, _, pre272 _ ?_, hrun, hended, _, _, rfl, ?_, hcr, ⟨_, rfl⟩, hend.1, hend.2.1, hend.2.2.mono (by decide) (by decide)⟩
    · show SF p e below T271 m 6 #[vr x1, un, un] [(.int (Int32.ofNat kx))] _
      refine XS.istoreN X271.here hx rfl (hb hby d10_6) rfl (l' := #[vr x1, vi (Int32.ofNat kx), un]) rfl ?_
      refine XS.iloadN X271.here hx rfl (hb hby d10_7) rfl ?_
      refine XS.ifYes X271.here hx rfl (pc0 := 8) (pc' := 15) rfl (hb hby d10_8) rfl ((if0 _ _).trans (flt (own_nn (by omega))).2.1) (by decide) (by decide) ?_
      refine XS.aloadN X271.here hx rfl (hb hby d10_15) rfl rfl ?_
      refine XS.iconst X271.here hx rfl (hb hby d10_16) ?_
      show SF p e below T271 m 17 _ [(.int (0 : Int32)), (.ref x1)] _
      refine XS.iloadN X271.here hx rfl (hb hby d10_17) rfl ?_
      show SF p e below T271 m 18 _ [(.int (Int32.ofNat kx)), (.int (0 : Int32)), (.ref x1)] _
      refine st273.trans ?_
      show SF p e below T273 m 21 #[vr x1, vi (Int32.ofNat kx), un] [(.ref b_273)] _
      refine XS.astoreN X273.here hx rfl (hb hby d10_21) rfl rfl (l' := #[vr x1, vi (Int32.ofNat kx), vr b_273]) rfl ?_
      refine XS.aloadN X273.here hx rfl (hb hby d10_22) rfl rfl ?_
      show SF p e below T273 m 23 _ [(.ref b_273)] _
      refine st274.trans ?_
      show SF p e below T274 m 26 #[vr x1, vi (Int32.ofNat kx), vr b_273] [(.ref b_274)] _
      refine st275 _ ?_
      show SF p e below T275 m 29 #[vr x1, vi (Int32.ofNat kx), vr b_273] [(.ref st_ROOT), (.ref b_274)] _
      refine st283.trans ?_
      show SF p e below T283 m 32 #[vr x1, vi (Int32.ofNat kx), vr b_273] [(.ref b_283)] _
      jvm_step X283.here [X283.here.top, hx, (hb hby d10_32), X283.method', Bd.returns, Value.isRef, FieldType.isReference]
      first | (intro acts; rw [hr _ acts rfl rfl rfl]) | rw [hr _ _ rfl rfl rfl]
      exact Steps.refl _
    · show Q10 Z x1 x1_value ks f n lb lg lv kl st_instance st_ROOT st_COMPACT_STRINGS st_fm h0 n0 _ T283.heap _
      exact ⟨b_283, t_283, kk_283, kx, ua_274, ub_274, rfl, N283, K283, Q283_0, Q283_1, Q283_2, Q283_3, ⟨⟨by omega, hjx, fun _ => hfx⟩, Q274_4⟩⟩
  · skip
    subst hr
    obtain ⟨cq284, kq284, q284a, q284b, q284c⟩ := isOf hZa eh271 E_x1
    obtain ⟨_, _, ⟨T284, L284, k284, n284⟩, -, X284, hS284, hg284, ⟨Lc284, hQ284, l284, y284, z284, R284⟩, st284⟩ := X271.virtualBackS hx (y := (⟨"java/lang/String", "trim", "()Ljava/lang/String;"⟩ : MethodName)) (z := (⟨"java/lang/String", "trim", "()Ljava/lang/String;"⟩ : MethodName)) howna (mvT hZa (own_wd hw 86 rfl)) (mvT hZa (own_wd hw 87 rfl)) (notFace_of_selects (args := #[]) (mvT hZa (own_wd hw 89 rfl))) (mvT hZa (own_wd hw 89 rfl)) (mvT hZa (own_wd hw 88 rfl)) (by decide) (backOfSH (s := s) (vm0 := s.vm) (W := 0) (rm21 l Z a0 hw [] x1 x1_value ks f n st_COMPACT_STRINGS h0 n0 Z0 O0 E_x1 F_x1_value F_x1_coder V_x1_value hp (by omega) S_COMPACT_STRINGS hcomp) hZa (own_wd hw 90 rfl) (own_wd hw 10 rfl) (by decide) (by decide) (own_EW hw) CH0) q284a q284c (g := (mkF m 23 #[vr x1, vi (-1 : Int32), vr x1] [(.ref x1)])) rfl (by rw [hml]; rfl) (Steps.refl _) (argsL := []) (rest := []) (lenOf pd_13 rfl) rfl (by show 2 * 0 + _ ≤ _; exact Nat.le_of_eq rfl) (hb hby d10_23) (fun _ _ => ⟨rfl, eh271, (by decide : 0 + 2 ≤ _), (by decide : 0 + 28 ≤ _)⟩)
    dsimp only [Pt.U, Pt.locs, Pt.cells, Pt.slots] at X284 l284 y284 z284 st284 hQ284 hS284 hg284 R284
    subst y284 z284
    obtain ⟨X284, hS284, hZ284, hown284⟩ := rebS hS0 hk0 X284 hS284 (by rw [← eh271]; exact hg284) hZa howna
    obtain ⟨b_284, t_284, kk_284, ua_284, ub_284, rfl, N284q, KK284, Q284_0, Q284_1, Q284_2, Q284_3, Q284_4⟩ := hQ284
    have N284 : Fr n0 L284 := by rw [l284]; exact Fr.app N271 N284q
    have O284 : Old Z n0 T284.heap := O0.keep KK284 all0
    have Z284 : n0 ≤ T284.heap.size := Nat.le_trans Z0 KK284.1
    have K284 : Keep h0 T284.heap [] := K0.trans KK284 all0
    have CH284 : CHv Z own_EL T284.vm T284.heap := R284.1
    have CR284 : CHr Z own_EL s.vm h0 T284.vm T284.heap := CR0.trans R284
    obtain ⟨T285, X285, e285, st285⟩ := getS2 X284 hx hZ284 hown284 (host := "") (Or.inl (own_wd hw 116 rfl)) Via.refl rfl (S_ROOT.ext O284.2) (g := (mkF m 26 #[vr x1, vi (-1 : Int32), vr x1] [(.ref b_284)])) rfl (hb hby d10_26)
    have F286 : Fld Z T284.heap st_ROOT "java/util/Locale" "baseLocale" "Lsun/util/locale/BaseLocale;" (.ref lb) := (F_st_ROOT_baseLocale.keep KK284 nin0)
    have F287 : Fld Z T284.heap lb "sun/util/locale/BaseLocale" "language" "Ljava/lang/String;" (.ref lg) := (F_lb_language.keep KK284 nin0)
    have F288 : Fld Z T284.heap lg "java/lang/String" "value" "[B" (.ref lv) := (F_lg_value.keep KK284 nin0)
    have C289 : Exa Z T284.heap st_ROOT "java/util/Locale" := (E_st_ROOT.keep KK284)
    have C290 : Exa Z T284.heap lb "sun/util/locale/BaseLocale" := (E_lb.keep KK284)
    have V291 : Arv Z T284.heap lv kl .byte (0 : Int32) [] (.int 0) := (V_lv.keep KK284 nin0)
    have C292 : Exa Z T284.heap st_instance "java/lang/CharacterDataLatin1" := (E_st_instance.keep KK284)
    obtain ⟨cq293, kq293, q293a, q293b, q293c⟩ := isOf hZ284 e285 Q284_0
    obtain ⟨_, _, ⟨T293, L293, k293, n293⟩, -, X293, hS293, hg293, ⟨Lc293, hQ293, l293, y293, z293, R293⟩, st293⟩ := X285.virtualBackS hx (y := (⟨"java/lang/String", "toLowerCase", "(Ljava/util/Locale;)Ljava/lang/String;"⟩ : MethodName)) (z := (⟨"java/lang/String", "toLowerCase", "(Ljava/util/Locale;)Ljava/lang/String;"⟩ : MethodName)) hown284 (mvT hZ284 (own_wd hw 118 rfl)) (mvT hZ284 (own_wd hw 119 rfl)) (notFace_of_selects (args := #[]) (mvT hZ284 (own_wd hw 121 rfl))) (mvT hZ284 (own_wd hw 121 rfl)) (mvT hZ284 (own_wd hw 120 rfl)) (by decide) (backOfSH (s := s) (vm0 := T284.vm) (W := 0) (rm28 l Z a0 hw [] b_284 st_ROOT t_284 kk_284 (own_sh f ua_284) (ub_284 - ua_284) lb lg lv kl st_instance st_COMPACT_STRINGS T284.heap n0 Z284 O284 Q284_0 Q284_1 Q284_2 Q284_3 (own_hpsh hp Q284_4 (by omega)) (by have q := Q284_4.2.1; omega) C289 F286 C290 F287 F288 V291 S_instance C292 S_COMPACT_STRINGS hcomp) hZ284 (own_wd hw 122 rfl) (own_wd hw 10 rfl) (by decide) (by decide) (own_EW hw) CH284) q293a q293c (g := (mkF m 29 #[vr x1, vi (-1 : Int32), vr x1] [(.ref st_ROOT), (.ref b_284)])) rfl (by rw [hml]; rfl) (Steps.refl _) (argsL := [(.ref st_ROOT)]) (rest := []) (lenOf pd_17 rfl) rfl (by show 2 * 0 + _ ≤ _; exact Nat.le_of_eq rfl) (hb hby d10_29) (fun _ _ => ⟨rfl, e285, (by decide : 2 + 8 ≤ _), (by decide : 28 + 64 ≤ _)⟩)
    dsimp only [Pt.U, Pt.locs, Pt.cells, Pt.slots] at X293 l293 y293 z293 st293 hQ293 hS293 hg293 R293
    subst y293 z293
    obtain ⟨X293, hS293, hZ293, hown293⟩ := rebS hS284 (Nat.le_refl _) X293 hS293 (by rw [← e285]; exact hg293) hZ284 hown284
    obtain ⟨b_293, t_293, kk_293, rfl, N293q, KK293, Q293_0, Q293_1, Q293_2, Q293_3⟩ := hQ293
    have N293 : Fr n0 L293 := by rw [l293]; exact Fr.app N284 N293q
    have O293 : Old Z n0 T293.heap := O284.keep KK293 all0
    have Z293 : n0 ≤ T293.heap.size := Nat.le_trans Z284 KK293.1
    have K293 : Keep h0 T293.heap [] := K284.trans KK293 all0
    have CH293 : CHv Z own_EL T293.vm T293.heap := R293.1
    have CR293 : CHr Z own_EL s.vm h0 T293.vm T293.heap := CR284.trans R293
    obtain ⟨fs, hr, hrun, hended, hW, hsame⟩ := X293.leave (v := some (.ref b_293)) (fun h => by rw [Bd.returns] at h; cases h)
    have hend := hS293.ended hW (show _ ≤ T293.heap.size from (Nat.le_refl _)) hsame
    have hcr : CHr Z own_EL s.vm s.heap T293.vm T293.heap := by
      rw [hh]
      exact CR293.trans (CHv.at X293 hZ293 (own_EW hw) CH293)
    refine ⟨_, _, pre272 _ ?_, hrun, hended, _, _, rfl, ?_, hcr, ⟨_, rfl⟩, hend.1, hend.2.1, hend.2.2.mono (by decide) (by decide)⟩
    · show SF p e below T271 m 6 #[vr x1, un, un] [(.int (-1 : Int32))] _
      refine XS.istoreN X271.here hx rfl (hb hby d10_6) rfl (l' := #[vr x1, vi (-1 : Int32), un]) rfl ?_
      refine XS.iloadN X271.here hx rfl (hb hby d10_7) rfl ?_
      refine XS.ifNo X271.here hx rfl (hb hby d10_8) rfl ((if0 _ _).trans (tlt (by decide)).2.1) ?_
      refine XS.aloadN X271.here hx rfl (hb hby d10_11) rfl rfl ?_
      refine XS.goto X271.here hx rfl (pc0 := 12) (pc' := 21) rfl (hb hby d10_12) (by decide) (by decide) ?_
      show SF p e below T271 m 21 _ [(.ref x1)] _
      refine XS.astoreN X271.here hx rfl (hb hby d10_21) rfl rfl (l' := #[vr x1, vi (-1 : Int32), vr x1]) rfl ?_
      refine XS.aloadN X271.here hx rfl (hb hby d10_22) rfl rfl ?_
      show SF p e below T271 m 23 _ [(.ref x1)] _
      refine st284.trans ?_
      show SF p e below T284 m 26 #[vr x1, vi (-1 : Int32), vr x1] [(.ref b_284)] _
      refine st285 _ ?_
      show SF p e below T285 m 29 #[vr x1, vi (-1 : Int32), vr x1] [(.ref st_ROOT), (.ref b_284)] _
      refine st293.trans ?_
      show SF p e below T293 m 32 #[vr x1, vi (-1 : Int32), vr x1] [(.ref b_293)] _
      jvm_step X293.here [X293.here.top, hx, (hb hby d10_32), X293.method', Bd.returns, Value.isRef, FieldType.isReference]
      first | (intro acts; rw [hr _ acts rfl rfl rfl]) | rw [hr _ _ rfl rfl rfl]
      exact Steps.refl _
    · show Q10 Z x1 x1_value ks f n lb lg lv kl st_instance st_ROOT st_COMPACT_STRINGS st_fm h0 n0 _ T293.heap _
      exact ⟨b_293, t_293, kk_293, n, ua_284, ub_284, rfl, N293, K293, Q293_0, Q293_1, Q293_2, Q293_3, ⟨⟨by omega, hjx, fun q => absurd q (by omega)⟩, Q284_4⟩⟩
theorem d32_0 : decode jdk_43_method_13_code 0 = .ok (.aload_n 0, 1) := by decide +kernel
theorem d32_1 : decode jdk_43_method_13_code 1 = .ok (.arraylength, 1) := by decide +kernel
theorem d32_2 : decode jdk_43_method_13_code 2 = .ok (.aload_n 1, 1) := by decide +kernel
theorem d32_3 : decode jdk_43_method_13_code 3 = .ok (.arraylength, 1) := by decide +kernel
theorem d32_4 : decode jdk_43_method_13_code 4 = .ok (.if_icmp .ne 30, 3) := by decide +kernel
theorem d32_7 : decode jdk_43_method_13_code 7 = .ok (.iconst 0, 1) := by decide +kernel
theorem d32_8 : decode jdk_43_method_13_code 8 = .ok (.istore_n 2, 1) := by decide +kernel
theorem d32_9 : decode jdk_43_method_13_code 9 = .ok (.iload_n 2, 1) := by decide +kernel
theorem d32_10 : decode jdk_43_method_13_code 10 = .ok (.aload_n 0, 1) := by decide +kernel
theorem d32_11 : decode jdk_43_method_13_code 11 = .ok (.arraylength, 1) := by decide +kernel
theorem d32_12 : decode jdk_43_method_13_code 12 = .ok (.if_icmp .ge 20, 3) := by decide +kernel
theorem d32_15 : decode jdk_43_method_13_code 15 = .ok (.aload_n 0, 1) := by decide +kernel
theorem d32_16 : decode jdk_43_method_13_code 16 = .ok (.iload_n 2, 1) := by decide +kernel
theorem d32_17 : decode jdk_43_method_13_code 17 = .ok (.baload, 1) := by decide +kernel
theorem d32_18 : decode jdk_43_method_13_code 18 = .ok (.aload_n 1, 1) := by decide +kernel
theorem d32_19 : decode jdk_43_method_13_code 19 = .ok (.iload_n 2, 1) := by decide +kernel
theorem d32_20 : decode jdk_43_method_13_code 20 = .ok (.baload, 1) := by decide +kernel
theorem d32_21 : decode jdk_43_method_13_code 21 = .ok (.if_icmp .eq 5, 3) := by decide +kernel
theorem d32_26 : decode jdk_43_method_13_code 26 = .ok (.iinc 2 1, 3) := by decide +kernel
theorem d32_29 : decode jdk_43_method_13_code 29 = .ok (.goto (-20), 3) := by decide +kernel
theorem d32_24 : decode jdk_43_method_13_code 24 = .ok (.iconst 0, 1) := by decide +kernel
theorem d32_25 : decode jdk_43_method_13_code 25 = .ok (.ireturn, 1) := by decide +kernel
theorem d32_32 : decode jdk_43_method_13_code 32 = .ok (.iconst 1, 1) := by decide +kernel
theorem d32_33 : decode jdk_43_method_13_code 33 = .ok (.ireturn, 1) := by decide +kernel
theorem d32_34 : decode jdk_43_method_13_code 34 = .ok (.iconst 0, 1) := by decide +kernel
theorem d32_35 : decode jdk_43_method_13_code 35 = .ok (.ireturn, 1) := by decide +kernel
theorem ef32 (m : MethodId) (x1 : Addr) (x2 : Addr) : entryFrame m #[(.ref x1), (.ref x2)] 3 = mkF m 0 #[vr x1, vr x2, un] [] := by first | (simp [entryFrame, mkF, argsToLocals, Value.category]; done) | rfl
def Q32 (Z : State) (x1 : Addr) (x2 : Addr) (ks : ClassId) (f : Nat → Int32) (n : Nat) (kg : ClassId) (g : Nat → Int32) (q : Nat) (h0 : Heap) (n0 : Nat) (v : Option Value) (h : Heap) (L : List Loc) : Prop := ∃ (rr : Int32), v = some (.int rr) ∧ Fr n0 L ∧ h = h0 ∧ ((rr = (1 : Int32) ∧ own_eqs f n g q) ∨ (rr = (0 : Int32) ∧ ¬ own_eqs f n g q))
set_option maxRecDepth 65536 in
set_option maxHeartbeats 40000000 in
theorem rm32 (l : Launch) (Z : State) (a0 : Array Value) (hw : ∀ d ∈ tables_1, d.before a0 Z = true) (ws : List Jvm.Cond) (x1 : Addr) (x2 : Addr) (ks : ClassId) (f : Nat → Int32) (n : Nat) (kg : ClassId) (g : Nat → Int32) (q : Nat) (h0 : Heap) (n0 : Nat) (Z0 : n0 ≤ h0.size) (O0 : Old Z n0 h0) (V_x1 : Arv Z h0 x1 ks .byte (Int32.ofNat n) (own_fv f n) (.int 0)) (V_x2 : Arv Z h0 x2 kg .byte (Int32.ofNat q) (own_fv g q) (.int 0)) (hp : ∀ j, j < n → ¬ f j < 0 ∧ ¬ (255 : Int32) < f j) (hn : n ≤ 24) (hg : ∀ j, j < q → ¬ g j < 0 ∧ ¬ (255 : Int32) < g j) (hq : q ≤ 24) :
    MetFree l (⟨"java/lang/StringLatin1", "equals", "([B[B)Z"⟩ : MethodName) (head1 (Jvm.Cond.code (⟨"java/lang/StringLatin1", "equals", "([B[B)Z"⟩ : MethodName) jdk_43_method_13_code 3 (some .boolean) :: ws) ({ frames := 0, cells := 0, slots := 0, locals := 0 } : Room)) (fun a U => a = #[(.ref x1), (.ref x2)] ∧ Z.Warmed39 U.vm ∧ U.heap = h0) (fun _ _ _ _ _ => True) (fun _ U o U' => ∃ v L, o = .returned v ∧ Q32 Z x1 x2 ks f n kg g q h0 n0 v U'.heap L ∧ FrameEnd U o U' L ({ frames := 0, cells := 0, slots := 0, locals := 0 } : Room).cells ({ frames := 0, cells := 0, slots := 0, locals := 0 } : Room).slots) := by
  refine MetFree.of_bodySF (plainFor_of_name pn_java_lang_StringLatin1) hisR ?_
  intro p e s m args below meth c s₁ Bd hml0 hP hK
  obtain ⟨rfl, hZ, hh⟩ := hP
  have hx := Bd.exec
  have hby := Bd.bytes
  have hml : c.maxLocals = 3 := hml0
  have hown : s.vm.findClass "java/lang/StringLatin1" = some m.cls := findClass_of_methodNamed Bd.named
  have hnm := (name_of_methodNamed Bd.named Bd.method).1
  have X0 : Stand p l e ({ frames := 0, cells := 0, slots := 0, locals := 0 } : Room) s m #[(.ref x1), (.ref x2)] below meth c s₁ [] 0 0 := Stand.of_body Bd
  have e0 : s₁.heap = h0 := by rw [← hh, Bd.state]; rfl
  have N0 := Fr.nil n0
  have K0 : Keep h0 h0 [] := Keep.refl _ _
  have pre0 : ∀ t, SF p e below s₁ m 0 #[vr x1, vr x2, un] [] t → Steps p.tables e below (s₁.setTop (entryFrame m #[(.ref x1), (.ref x2)] 3)) t := fun t k => castTop (ef32 m x1 x2) k
  obtain ⟨cl_a294, Ar_a294, -, S_a294, N_a294, -, -⟩ := id V_x1
  obtain ⟨cl_a295, Ar_a295, -, S_a295, N_a295, -, -⟩ := id V_x2
  have pre296 := fun t (kt : SF p e below s₁ m 4 #[vr x1, vr x2, un] [(.int (Int32.ofNat q)), (.int (Int32.ofNat n))] t) => pre0 t (by
    refine XS.aloadN X0.here hx rfl (hb hby d32_0) rfl rfl ?_
    show SF p e below s₁ m 1 _ [(.ref x1)] _
    refine X0.arraylength hx (by rw [e0]; exact Ar_a294.1) (State.isArrayOf_alike hZ.alike Ar_a294.2.1) (g := (mkF m 1 #[vr x1, vr x2, un] [(.ref x1)])) rfl rfl (hb hby d32_1) _ ?_
    rw [len_of S_a294 N_a294]
    refine XS.aloadN X0.here hx rfl (hb hby d32_2) rfl rfl ?_
    show SF p e below s₁ m 3 _ [(.ref x2), (.int (Int32.ofNat n))] _
    refine X0.arraylength hx (by rw [e0]; exact Ar_a295.1) (State.isArrayOf_alike hZ.alike Ar_a295.2.1) (g := (mkF m 3 #[vr x1, vr x2, un] [(.ref x2), (.int (Int32.ofNat n))])) rfl rfl (hb hby d32_3) _ ?_
    rw [len_of S_a295 N_a295]
    exact kt)
  by_cases hc4 : (Int32.ofNat n) = (Int32.ofNat q)
  · skip
    have nf297 : (n = q) := (own_eq (i := n) (n := q) (by omega) (by omega)).mp hc4
    have pre298 := fun t (kt : SF p e below s₁ m 9 #[vr x1, vr x2, vi (0 : Int32)] [] t) => pre296 t (by
      refine XS.icmpNo X0.here hx rfl (hb hby d32_4) rfl (teq hc4).2 ?_
      refine XS.iconst X0.here hx rfl (hb hby d32_7) ?_
      refine XS.istoreN X0.here hx rfl (hb hby d32_8) rfl (l' := #[vr x1, vr x2, vi (0 : Int32)]) rfl ?_
      exact kt)
    refine own_ind (A := Nat) (fun i_299 => n - i_299) (fun i_299 T299 L299 h299 => (i_299 ≤ n) ∧ (∀ j, j < i_299 → f j = g j) ∧ Stand p l e ({ frames := 0, cells := 0, slots := 0, locals := 0 } : Room) s m #[(.ref x1), (.ref x2)] below meth c T299 L299 0 0 ∧ T299.heap = h0 ∧ Fr n0 L299 ∧ ∀ t, SF p e below T299 m 9 #[vr x1, vr x2, vi (Int32.ofNat i_299)] [] t → Steps p.tables e below (s₁.setTop (entryFrame m #[(.ref x1), (.ref x2)] 3)) t) ?_ 0 s₁ _ h0 ⟨(by omega), (fun j hj => absurd hj (by omega)), X0, e0, N0, pre298⟩
    rintro i_299 T299 L299 h299 ⟨hi_299, hl_299, X299, e299, N299, pre299⟩ ih299
    obtain ⟨cl_a300, Ar_a300, -, S_a300, N_a300, -, -⟩ := id V_x1
    have pre301 := fun t (kt : SF p e below T299 m 12 #[vr x1, vr x2, vi (Int32.ofNat i_299)] [(.int (Int32.ofNat n)), (.int (Int32.ofNat i_299))] t) => pre299 t (by
      refine XS.iloadN X299.here hx rfl (hb hby d32_9) rfl ?_
      refine XS.aloadN X299.here hx rfl (hb hby d32_10) rfl rfl ?_
      show SF p e below T299 m 11 _ [(.ref x1), (.int (Int32.ofNat i_299))] _
      refine X299.arraylength hx (by rw [e299]; exact Ar_a300.1) (State.isArrayOf_alike hZ.alike Ar_a300.2.1) (g := (mkF m 11 #[vr x1, vr x2, vi (Int32.ofNat i_299)] [(.ref x1), (.int (Int32.ofNat i_299))])) rfl rfl (hb hby d32_11) _ ?_
      rw [len_of S_a300 N_a300]
      exact kt)
    by_cases hc12 : (Int32.ofNat i_299) < (Int32.ofNat n)
    · skip
      have nf302 : (i_299 < n) := (own_lt (i := i_299) (n := n) (by omega) (by omega)).mp hc12
      obtain ⟨cl_a303, Ar_a303, -, S_a303, N_a303, H_a303, -⟩ := id V_x1
      obtain ⟨hin_a303, hat_a303⟩ := own_rd (j := (Int32.ofNat i_299)) (i := i_299) S_a303 H_a303 rfl (by omega) (by omega)
      obtain ⟨cl_a304, Ar_a304, -, S_a304, N_a304, H_a304, -⟩ := id V_x2
      obtain ⟨hin_a304, hat_a304⟩ := own_rd (j := (Int32.ofNat i_299)) (i := i_299) S_a304 H_a304 rfl (by omega) (by omega)
      have pre305 := fun t (kt : SF p e below T299 m 21 #[vr x1, vr x2, vi (Int32.ofNat i_299)] [(.int (own_by (g i_299))), (.int (own_by (f i_299)))] t) => pre301 t (by
        refine XS.icmpNo X299.here hx rfl (hb hby d32_12) rfl (tlt hc12).2.1 ?_
        refine XS.aloadN X299.here hx rfl (hb hby d32_15) rfl rfl ?_
        refine XS.iloadN X299.here hx rfl (hb hby d32_16) rfl ?_
        show SF p e below T299 m 17 _ [(.int (Int32.ofNat i_299)), (.ref x1)] _
        refine X299.baloadBytes hx (j := (Int32.ofNat i_299)) (v := (.int (own_by (f i_299)))) (by rw [e299]; exact Ar_a303.1) (State.isArrayOf_alike hZ.alike Ar_a303.2.1) Ar_a303.2.2 hin_a303 hat_a303 (g := (mkF m 17 #[vr x1, vr x2, vi (Int32.ofNat i_299)] [(.int (Int32.ofNat i_299)), (.ref x1)])) rfl rfl (hb hby d32_17) _ ?_
        refine XS.aloadN X299.here hx rfl (hb hby d32_18) rfl rfl ?_
        refine XS.iloadN X299.here hx rfl (hb hby d32_19) rfl ?_
        show SF p e below T299 m 20 _ [(.int (Int32.ofNat i_299)), (.ref x2), (.int (own_by (f i_299)))] _
        refine X299.baloadBytes hx (j := (Int32.ofNat i_299)) (v := (.int (own_by (g i_299)))) (by rw [e299]; exact Ar_a304.1) (State.isArrayOf_alike hZ.alike Ar_a304.2.1) Ar_a304.2.2 hin_a304 hat_a304 (g := (mkF m 20 #[vr x1, vr x2, vi (Int32.ofNat i_299)] [(.int (Int32.ofNat i_299)), (.ref x2), (.int (own_by (f i_299)))])) rfl rfl (hb hby d32_20) _ ?_
        exact kt)
      by_cases hc21 : (own_by (f i_299)) = (own_by (g i_299))
      · skip
        have pre306 := fun t (kt : SF p e below T299 m 9 #[vr x1, vr x2, vi ((Int32.ofNat i_299) + (1 : Int32))] [] t) => pre305 t (by
          refine XS.icmpYes X299.here hx rfl (pc0 := 21) (pc' := 26) rfl (hb hby d32_21) rfl (teq hc21).1 (by decide) (by decide) ?_
          refine XS.iinc X299.here hx rfl (hb hby d32_26) rfl (l' := #[vr x1, vr x2, vi ((Int32.ofNat i_299) + (1 : Int32))]) rfl ?_
          refine XS.goto X299.here hx rfl (pc0 := 29) (pc' := 9) rfl (hb hby d32_29) (by decide) (by decide) ?_
          exact kt)
        exact ih299 (i_299 + 1) T299 _ h0 (by omega) ⟨(by omega), (own_all hl_299 (own_byinj (hp i_299 (by omega)) (hg i_299 (by omega)) hc21)), X299, e299, N299, (fun t kt => pre306 t (by rw [own_one]; exact kt))⟩
      · skip
        obtain ⟨fs, hr, hrun, hended, hW, hsame⟩ := X299.leave (v := some (.int (0 : Int32))) (fun h => by rw [Bd.returns] at h; cases h)
        refine ⟨_, _, pre305 _ ?_, hrun, hended, _, _, rfl, ?_, ⟨_, rfl⟩, hW, hsame.mono (by decide) (by decide)⟩
        · show SF p e below T299 m 21 #[vr x1, vr x2, vi (Int32.ofNat i_299)] [(.int (own_by (g i_299))), (.int (own_by (f i_299)))] _
          refine XS.icmpNo X299.here hx rfl (hb hby d32_21) rfl (feq hc21).1 ?_
          refine XS.iconst X299.here hx rfl (hb hby d32_24) ?_
          show SF p e below T299 m 25 #[vr x1, vr x2, vi (Int32.ofNat i_299)] [(.int (0 : Int32))] _
          exact retN X299 hx (t := .boolean) Bd.returns (by simp) (hb hby d32_25) hr
        · show Q32 Z x1 x2 ks f n kg g q h0 n0 _ T299.heap _
          rw [e299]
          exact ⟨(0 : Int32), rfl, N299, rfl, (Or.inr ⟨rfl, fun z => hc21 (by rw [z.2 i_299 (by omega)])⟩)⟩
    · skip
      have nf307 : ¬ (i_299 < n) := fun zq => hc12 ((own_lt (i := i_299) (n := n) (by omega) (by omega)).mpr zq)
      obtain ⟨fs, hr, hrun, hended, hW, hsame⟩ := X299.leave (v := some (.int (1 : Int32))) (fun h => by rw [Bd.returns] at h; cases h)
      refine ⟨_, _, pre301 _ ?_, hrun, hended, _, _, rfl, ?_, ⟨_, rfl⟩, hW, hsame.mono (by decide) (by decide)⟩
      · show SF p e below T299 m 12 #[vr x1, vr x2, vi (Int32.ofNat i_299)] [(.int (Int32.ofNat n)), (.int (Int32.ofNat i_299))] _
        refine XS.icmpYes X299.here hx rfl (pc0 := 12) (pc' := 32) rfl (hb hby d32_12) rfl (flt hc12).2.1 (by decide) (by decide) ?_
        refine XS.iconst X299.here hx rfl (hb hby d32_32) ?_
        show SF p e below T299 m 33 _ [(.int (1 : Int32))] _
        exact retN X299 hx (t := .boolean) Bd.returns (by simp) (hb hby d32_33) hr
      · show Q32 Z x1 x2 ks f n kg g q h0 n0 _ T299.heap _
        rw [e299]
        exact ⟨(1 : Int32), rfl, N299, rfl, (Or.inl ⟨rfl, by omega, fun j hj => hl_299 j (by omega)⟩)⟩
  · skip
    have nf308 : ¬ (n = q) := fun zq => hc4 ((own_eq (i := n) (n := q) (by omega) (by omega)).mpr zq)
    obtain ⟨fs, hr, hrun, hended, hW, hsame⟩ := X0.leave (v := some (.int (0 : Int32))) (fun h => by rw [Bd.returns] at h; cases h)
    refine ⟨_, _, pre296 _ ?_, hrun, hended, _, _, rfl, ?_, ⟨_, rfl⟩, hW, hsame.mono (by decide) (by decide)⟩
    · show SF p e below s₁ m 4 #[vr x1, vr x2, un] [(.int (Int32.ofNat q)), (.int (Int32.ofNat n))] _
      refine XS.icmpYes X0.here hx rfl (pc0 := 4) (pc' := 34) rfl (hb hby d32_4) rfl (feq hc4).2 (by decide) (by decide) ?_
      refine XS.iconst X0.here hx rfl (hb hby d32_34) ?_
      show SF p e below s₁ m 35 #[vr x1, vr x2, un] [(.int (0 : Int32))] _
      exact retN X0 hx (t := .boolean) Bd.returns (by simp) (hb hby d32_35) hr
    · show Q32 Z x1 x2 ks f n kg g q h0 n0 _ s₁.heap _
      rw [e0]
      exact ⟨(0 : Int32), rfl, N0, rfl, (Or.inr ⟨rfl, fun z => absurd z.1 (by omega)⟩)⟩
theorem d31_0 : decode jdk_42_method_66_code 0 = .ok (.aload_n 0, 1) := by decide +kernel
theorem d31_1 : decode jdk_42_method_66_code 1 = .ok (.aload_n 1, 1) := by decide +kernel
theorem d31_2 : decode jdk_42_method_66_code 2 = .ok (.if_acmp .ne 5, 3) := by decide +kernel
theorem d31_5 : decode jdk_42_method_66_code 5 = .ok (.iconst 1, 1) := by decide +kernel
theorem d31_6 : decode jdk_42_method_66_code 6 = .ok (.ireturn, 1) := by decide +kernel
theorem d31_7 : decode jdk_42_method_66_code 7 = .ok (.aload_n 1, 1) := by decide +kernel
theorem d31_8 : decode jdk_42_method_66_code 8 = .ok (.instanceof 10, 3) := by decide +kernel
theorem d31_11 : decode jdk_42_method_66_code 11 = .ok (.ifCond .eq 43, 3) := by decide +kernel
theorem d31_14 : decode jdk_42_method_66_code 14 = .ok (.aload_n 1, 1) := by decide +kernel
theorem d31_15 : decode jdk_42_method_66_code 15 = .ok (.checkcast 10, 3) := by decide +kernel
theorem d31_18 : decode jdk_42_method_66_code 18 = .ok (.astore_n 2, 1) := by decide +kernel
theorem d31_19 : decode jdk_42_method_66_code 19 = .ok (.getstatic 38, 3) := by decide +kernel
theorem d31_22 : decode jdk_42_method_66_code 22 = .ok (.ifCond .eq 14, 3) := by decide +kernel
theorem d31_25 : decode jdk_42_method_66_code 25 = .ok (.aload_n 0, 1) := by decide +kernel
theorem d31_26 : decode jdk_42_method_66_code 26 = .ok (.getfield 15, 3) := by decide +kernel
theorem d31_29 : decode jdk_42_method_66_code 29 = .ok (.aload_n 2, 1) := by decide +kernel
theorem d31_30 : decode jdk_42_method_66_code 30 = .ok (.getfield 15, 3) := by decide +kernel
theorem d31_33 : decode jdk_42_method_66_code 33 = .ok (.if_icmp .ne 21, 3) := by decide +kernel
theorem d31_36 : decode jdk_42_method_66_code 36 = .ok (.aload_n 0, 1) := by decide +kernel
theorem d31_37 : decode jdk_42_method_66_code 37 = .ok (.getfield 9, 3) := by decide +kernel
theorem d31_40 : decode jdk_42_method_66_code 40 = .ok (.aload_n 2, 1) := by decide +kernel
theorem d31_41 : decode jdk_42_method_66_code 41 = .ok (.getfield 9, 3) := by decide +kernel
theorem pd_18 : parseMethodDescriptor "([B[B)Z" = some ⟨[(.array .byte), (.array .byte)], some .boolean⟩ := by decide +kernel
theorem d31_44 : decode jdk_42_method_66_code 44 = .ok (.invokestatic 541, 3) := by decide +kernel
theorem d31_47 : decode jdk_42_method_66_code 47 = .ok (.ifCond .eq 7, 3) := by decide +kernel
theorem d31_50 : decode jdk_42_method_66_code 50 = .ok (.iconst 1, 1) := by decide +kernel
theorem d31_51 : decode jdk_42_method_66_code 51 = .ok (.goto 4, 3) := by decide +kernel
theorem d31_55 : decode jdk_42_method_66_code 55 = .ok (.ireturn, 1) := by decide +kernel
theorem d31_54 : decode jdk_42_method_66_code 54 = .ok (.iconst 0, 1) := by decide +kernel
theorem ef31 (m : MethodId) (tz : Addr) (x1 : Addr) : entryFrame m #[(.ref tz), (.ref x1)] 3 = mkF m 0 #[vr tz, vr x1, un] [] := by first | (simp [entryFrame, mkF, argsToLocals, Value.category]; done) | rfl
def Q31 (Z : State) (tz : Addr) (x1 : Addr) (tz_value : Addr) (x1_value : Addr) (ks : ClassId) (f : Nat → Int32) (n : Nat) (kg : ClassId) (g : Nat → Int32) (q : Nat) (st_COMPACT_STRINGS : Int32) (h0 : Heap) (n0 : Nat) (v : Option Value) (h : Heap) (L : List Loc) : Prop := ∃ (rr : Int32), v = some (.int rr) ∧ Fr n0 L ∧ h = h0 ∧ ((rr = (1 : Int32) ∧ own_eqs f n g q) ∨ (rr = (0 : Int32) ∧ ¬ own_eqs f n g q))
set_option maxRecDepth 65536 in
set_option maxHeartbeats 40000000 in
theorem rm31 (l : Launch) (Z : State) (a0 : Array Value) (hw : ∀ d ∈ tables_1, d.before a0 Z = true) (ws : List Jvm.Cond) (tz : Addr) (x1 : Addr) (tz_value : Addr) (x1_value : Addr) (ks : ClassId) (f : Nat → Int32) (n : Nat) (kg : ClassId) (g : Nat → Int32) (q : Nat) (st_COMPACT_STRINGS : Int32) (h0 : Heap) (n0 : Nat) (Z0 : n0 ≤ h0.size) (O0 : Old Z n0 h0) (E_tz : Exa Z h0 tz "java/lang/String") (F_tz_value : Fld Z h0 tz "java/lang/String" "value" "[B" (.ref tz_value)) (F_tz_coder : Fld Z h0 tz "java/lang/String" "coder" "B" (.int (0 : Int32))) (V_tz_value : Arv Z h0 tz_value ks .byte (Int32.ofNat n) (own_fv f n) (.int 0)) (E_x1 : Exa Z h0 x1 "java/lang/String") (F_x1_value : Fld Z h0 x1 "java/lang/String" "value" "[B" (.ref x1_value)) (F_x1_coder : Fld Z h0 x1 "java/lang/String" "coder" "B" (.int (0 : Int32))) (V_x1_value : Arv Z h0 x1_value kg .byte (Int32.ofNat q) (own_fv g q) (.int 0)) (hp : ∀ j, j < n → ¬ f j < 0 ∧ ¬ (255 : Int32) < f j) (hn : n ≤ 24) (hg : ∀ j, j < q → ¬ g j < 0 ∧ ¬ (255 : Int32) < g j) (hq : q ≤ 24) (S_COMPACT_STRINGS : Sta Z Z.heap "java/lang/String" "COMPACT_STRINGS" "Z" (.int st_COMPACT_STRINGS)) (hcomp : ¬ (st_COMPACT_STRINGS = (0 : Int32))) :
    MetFree l (⟨"java/lang/String", "equals", "(Ljava/lang/Object;)Z"⟩ : MethodName) (head1 (Jvm.Cond.code (⟨"java/lang/String", "equals", "(Ljava/lang/Object;)Z"⟩ : MethodName) jdk_42_method_66_code 3 (some .boolean) :: ws) ({ frames := 1, cells := 0, slots := 0, locals := 14 } : Room)) (fun a U => a = #[(.ref tz), (.ref x1)] ∧ Z.Warmed39 U.vm ∧ U.heap = h0) (fun _ _ _ _ _ => True) (fun _ U o U' => ∃ v L, o = .returned v ∧ Q31 Z tz x1 tz_value x1_value ks f n kg g q st_COMPACT_STRINGS h0 n0 v U'.heap L ∧ FrameEnd U o U' L ({ frames := 1, cells := 0, slots := 0, locals := 14 } : Room).cells ({ frames := 1, cells := 0, slots := 0, locals := 14 } : Room).slots) := by
  refine MetFree.of_bodySF (plainFor_of_name pn_java_lang_String) hisR ?_
  intro p e s m args below meth c s₁ Bd hml0 hP hK
  obtain ⟨rfl, hZ, hh⟩ := hP
  have hx := Bd.exec
  have hby := Bd.bytes
  have hml : c.maxLocals = 3 := hml0
  have hown : s.vm.findClass "java/lang/String" = some m.cls := findClass_of_methodNamed Bd.named
  have hnm := (name_of_methodNamed Bd.named Bd.method).1
  have X0 : Stand p l e ({ frames := 1, cells := 0, slots := 0, locals := 14 } : Room) s m #[(.ref tz), (.ref x1)] below meth c s₁ [] 0 0 := Stand.of_body Bd
  have e0 : s₁.heap = h0 := by rw [← hh, Bd.state]; rfl
  have N0 := Fr.nil n0
  have K0 : Keep h0 h0 [] := Keep.refl _ _
  have pre0 : ∀ t, SF p e below s₁ m 0 #[vr tz, vr x1, un] [] t → Steps p.tables e below (s₁.setTop (entryFrame m #[(.ref tz), (.ref x1)] 3)) t := fun t k => castTop (ef31 m tz x1) k
  have pre309 := fun t (kt : SF p e below s₁ m 2 #[vr tz, vr x1, un] [(.ref x1), (.ref tz)] t) => pre0 t (by
    refine XS.aloadN X0.here hx rfl (hb hby d31_0) rfl rfl ?_
    refine XS.aloadN X0.here hx rfl (hb hby d31_1) rfl rfl ?_
    exact kt)
  by_cases hc2 : tz = x1
  · skip
    obtain ⟨fs, hr, hrun, hended, hW, hsame⟩ := X0.leave (v := some (.int (1 : Int32))) (fun h => by rw [Bd.returns] at h; cases h)
    refine ⟨_, _, pre309 _ ?_, hrun, hended, _, _, rfl, ?_, ⟨_, rfl⟩, hW, hsame.mono (by decide) (by decide)⟩
    · show SF p e below s₁ m 2 #[vr tz, vr x1, un] [(.ref x1), (.ref tz)] _
      refine Jvm.RoadKit.acmp (g := (mkF m 2 #[vr tz, vr x1, un] [(.ref x1), (.ref tz)])) X0 hx rfl rfl rfl (pc0 := 2) (pc' := 5) (same := true) rfl (hb hby d31_2) rfl (decide_eq_true (congrArg Value.ref hc2)) (by decide) (by decide) ?_
      refine XS.iconst X0.here hx rfl (hb hby d31_5) ?_
      show SF p e below s₁ m 6 _ [(.int (1 : Int32))] _
      exact retN X0 hx (t := .boolean) Bd.returns (by simp) (hb hby d31_6) hr
    · show Q31 Z tz x1 tz_value x1_value ks f n kg g q st_COMPACT_STRINGS h0 n0 _ s₁.heap _
      rw [e0]
      exact ⟨(1 : Int32), rfl, N0, rfl, (Or.inl ⟨rfl, own_strsame hc2 F_tz_value F_x1_value V_tz_value V_x1_value hp hg (by omega) (by omega)⟩)⟩
  · skip
    obtain ⟨T310, X310, e310, st310⟩ := instY X0 hx hZ hown (own_wd hw 141 rfl) e0 (Ins.self E_x1) (g := (mkF m 8 #[vr tz, vr x1, un] [(.ref x1)])) rfl rfl (hb hby d31_8)
    obtain ⟨T311, X311, e311, st311⟩ := castY X310 hx hZ hown (own_wd hw 141 rfl) e310 (Ins.self E_x1) (g := (mkF m 15 #[vr tz, vr x1, un] [(.ref x1)])) rfl rfl (hb hby d31_15)
    obtain ⟨T312, X312, e312, st312⟩ := getS2 X311 hx hZ hown (host := "") (Or.inl (own_wd hw 21 rfl)) Via.refl e311 (S_COMPACT_STRINGS.ext O0.2) (g := (mkF m 19 #[vr tz, vr x1, vr x1] [])) rfl (hb hby d31_19)
    obtain ⟨T313, X313, e313, st313⟩ := getF X312 hx hZ hown (host := "") (Or.inl (own_wd hw 33 rfl)) Via.refl e312 F_tz_coder (g := (mkF m 26 #[vr tz, vr x1, vr x1] [(.ref tz)])) rfl rfl (hb hby d31_26)
    obtain ⟨T314, X314, e314, st314⟩ := getF X313 hx hZ hown (host := "") (Or.inl (own_wd hw 33 rfl)) Via.refl e313 F_x1_coder (g := (mkF m 30 #[vr tz, vr x1, vr x1] [(.ref x1), (.int (0 : Int32))])) rfl rfl (hb hby d31_30)
    obtain ⟨T315, X315, e315, st315⟩ := getF X314 hx hZ hown (host := "") (Or.inl (own_wd hw 35 rfl)) Via.refl e314 F_tz_value (g := (mkF m 37 #[vr tz, vr x1, vr x1] [(.ref tz)])) rfl rfl (hb hby d31_37)
    obtain ⟨T316, X316, e316, st316⟩ := getF X315 hx hZ hown (host := "") (Or.inl (own_wd hw 35 rfl)) Via.refl e315 F_x1_value (g := (mkF m 41 #[vr tz, vr x1, vr x1] [(.ref x1), (.ref tz_value)])) rfl rfl (hb hby d31_41)
    obtain ⟨_, _, ⟨T317, L317, k317, n317⟩, -, X317, ⟨Lc317, hQ317, l317, y317, z317⟩, st317⟩ := Jvm.LawKit.callS X316 hx (y := (⟨"java/lang/StringLatin1", "equals", "([B[B)Z"⟩ : MethodName)) hown (mvT hZ (own_wd hw 142 rfl)) (mvT hZ (own_wd hw 143 rfl)) (mvT hZ (own_wd hw 71 rfl)) (mvT hZ (own_wd hw 144 rfl)) (by decide) (backOf (W := 0) (rm32 l Z a0 hw [] tz_value x1_value ks f n kg g q h0 n0 Z0 O0 V_tz_value V_x1_value hp (by omega) hg (by omega)) hZ (own_wd hw 144 rfl) (own_wd hw 71 rfl) (by decide) (by decide)) (g := (mkF m 44 #[vr tz, vr x1, vr x1] [(.ref x1_value), (.ref tz_value)])) rfl (by rw [hml]; rfl) (argsL := [(.ref tz_value), (.ref x1_value)]) (rest := []) (lenOf pd_18 rfl) rfl (by show 2 * 0 + _ ≤ _; exact Nat.le_of_eq rfl) (hb hby d31_44) (fun _ _ => ⟨rfl, e316, (by decide : 0 + 0 ≤ _), (by decide : 0 + 0 ≤ _)⟩)
    dsimp only [Pt.U, Pt.locs, Pt.cells, Pt.slots] at X317 l317 y317 z317 st317 hQ317
    subst y317 z317
    obtain ⟨rr_317, rfl, N317q, eh317, Q317_0⟩ := hQ317
    have N317 : Fr n0 L317 := by rw [l317]; exact Fr.app N0 N317q
    have pre318 := fun t (kt : SF p e below T317 m 47 #[vr tz, vr x1, vr x1] [(.int rr_317)] t) => pre309 t (by
      refine Jvm.RoadKit.acmp (g := (mkF m 2 #[vr tz, vr x1, un] [(.ref x1), (.ref tz)])) X0 hx rfl rfl rfl (pc0 := 2) (pc' := 7) (same := false) rfl (hb hby d31_2) rfl (decide_eq_false fun q => hc2 (Value.ref.inj q)) (by decide) (by decide) ?_
      refine XS.aloadN X0.here hx rfl (hb hby d31_7) rfl rfl ?_
      show SF p e below s₁ m 8 _ [(.ref x1)] _
      refine st310 _ ?_
      show SF p e below T310 m 11 #[vr tz, vr x1, un] [(.int (1 : Int32))] _
      refine XS.ifNo X310.here hx rfl (hb hby d31_11) rfl ((if0 _ _).trans (feq (by decide : ¬ ((1 : Int32) = (0 : Int32)))).1) ?_
      refine XS.aloadN X310.here hx rfl (hb hby d31_14) rfl rfl ?_
      show SF p e below T310 m 15 _ [(.ref x1)] _
      refine st311 _ ?_
      show SF p e below T311 m 18 #[vr tz, vr x1, un] [(.ref x1)] _
      refine XS.astoreN X311.here hx rfl (hb hby d31_18) rfl rfl (l' := #[vr tz, vr x1, vr x1]) rfl ?_
      show SF p e below T311 m 19 _ [] _
      refine st312 _ ?_
      show SF p e below T312 m 22 #[vr tz, vr x1, vr x1] [(.int st_COMPACT_STRINGS)] _
      refine XS.ifNo X312.here hx rfl (hb hby d31_22) rfl ((if0 _ _).trans (feq hcomp).1) ?_
      refine XS.aloadN X312.here hx rfl (hb hby d31_25) rfl rfl ?_
      show SF p e below T312 m 26 _ [(.ref tz)] _
      refine st313 _ ?_
      show SF p e below T313 m 29 #[vr tz, vr x1, vr x1] [(.int (0 : Int32))] _
      refine XS.aloadN X313.here hx rfl (hb hby d31_29) rfl rfl ?_
      show SF p e below T313 m 30 _ [(.ref x1), (.int (0 : Int32))] _
      refine st314 _ ?_
      show SF p e below T314 m 33 #[vr tz, vr x1, vr x1] [(.int (0 : Int32)), (.int (0 : Int32))] _
      refine XS.icmpNo X314.here hx rfl (hb hby d31_33) rfl (teq (by decide : (0 : Int32) = (0 : Int32))).2 ?_
      refine XS.aloadN X314.here hx rfl (hb hby d31_36) rfl rfl ?_
      show SF p e below T314 m 37 _ [(.ref tz)] _
      refine st315 _ ?_
      show SF p e below T315 m 40 #[vr tz, vr x1, vr x1] [(.ref tz_value)] _
      refine XS.aloadN X315.here hx rfl (hb hby d31_40) rfl rfl ?_
      show SF p e below T315 m 41 _ [(.ref x1), (.ref tz_value)] _
      refine st316 _ ?_
      show SF p e below T316 m 44 #[vr tz, vr x1, vr x1] [(.ref x1_value), (.ref tz_value)] _
      refine st317 _ ?_
      exact kt)
    rcases Q317_0 with ⟨hr, hE⟩ | ⟨hr, hE⟩
    · skip
      subst hr
      obtain ⟨fs, hr, hrun, hended, hW, hsame⟩ := X317.leave (v := some (.int (1 : Int32))) (fun h => by rw [Bd.returns] at h; cases h)
      refine ⟨_, _, pre318 _ ?_, hrun, hended, _, _, rfl, ?_, ⟨_, rfl⟩, hW, hsame.mono (by decide) (by decide)⟩
      · show SF p e below T317 m 47 #[vr tz, vr x1, vr x1] [(.int (1 : Int32))] _
        refine XS.ifNo X317.here hx rfl (hb hby d31_47) rfl ((if0 _ _).trans (feq (by decide : ¬ ((1 : Int32) = (0 : Int32)))).1) ?_
        refine XS.iconst X317.here hx rfl (hb hby d31_50) ?_
        refine XS.goto X317.here hx rfl (pc0 := 51) (pc' := 55) rfl (hb hby d31_51) (by decide) (by decide) ?_
        show SF p e below T317 m 55 _ [(.int (1 : Int32))] _
        exact retN X317 hx (t := .boolean) Bd.returns (by simp) (hb hby d31_55) hr
      · show Q31 Z tz x1 tz_value x1_value ks f n kg g q st_COMPACT_STRINGS h0 n0 _ T317.heap _
        rw [eh317]
        exact ⟨(1 : Int32), rfl, N317, rfl, (Or.inl ⟨rfl, hE⟩)⟩
    · skip
      subst hr
      obtain ⟨fs, hr, hrun, hended, hW, hsame⟩ := X317.leave (v := some (.int (0 : Int32))) (fun h => by rw [Bd.returns] at h; cases h)
      refine ⟨_, _, pre318 _ ?_, hrun, hended, _, _, rfl, ?_, ⟨_, rfl⟩, hW, hsame.mono (by decide) (by decide)⟩
      · show SF p e below T317 m 47 #[vr tz, vr x1, vr x1] [(.int (0 : Int32))] _
        refine XS.ifYes X317.here hx rfl (pc0 := 47) (pc' := 54) rfl (hb hby d31_47) rfl ((if0 _ _).trans (teq (by decide : (0 : Int32) = (0 : Int32))).1) (by decide) (by decide) ?_
        refine XS.iconst X317.here hx rfl (hb hby d31_54) ?_
        show SF p e below T317 m 55 _ [(.int (0 : Int32))] _
        exact retN X317 hx (t := .boolean) Bd.returns (by simp) (hb hby d31_55) hr
      · show Q31 Z tz x1 tz_value x1_value ks f n kg g q st_COMPACT_STRINGS h0 n0 _ T317.heap _
        rw [eh317]
        exact ⟨(0 : Int32), rfl, N317, rfl, (Or.inr ⟨rfl, hE⟩)⟩
theorem d35_0 : decode jdk_48_method_14_code 0 = .ok (.iconst 0, 1) := by decide +kernel
theorem d35_1 : decode jdk_48_method_14_code 1 = .ok (.istore 5, 2) := by decide +kernel
theorem d35_3 : decode jdk_48_method_14_code 3 = .ok (.iload 4, 2) := by decide +kernel
theorem d35_5 : decode jdk_48_method_14_code 5 = .ok (.bipush 7, 2) := by decide +kernel
theorem d35_7 : decode jdk_48_method_14_code 7 = .ok (.if_icmp .le 63, 3) := by decide +kernel
theorem d35_70 : decode jdk_48_method_14_code 70 = .ok (.iload 5, 2) := by decide +kernel
theorem d35_72 : decode jdk_48_method_14_code 72 = .ok (.iload 4, 2) := by decide +kernel
theorem d35_74 : decode jdk_48_method_14_code 74 = .ok (.if_icmp .ge 27, 3) := by decide +kernel
theorem d35_77 : decode jdk_48_method_14_code 77 = .ok (.aload_n 0, 1) := by decide +kernel
theorem d35_78 : decode jdk_48_method_14_code 78 = .ok (.iload_n 1, 1) := by decide +kernel
theorem d35_79 : decode jdk_48_method_14_code 79 = .ok (.iload 5, 2) := by decide +kernel
theorem d35_81 : decode jdk_48_method_14_code 81 = .ok (.iadd, 1) := by decide +kernel
theorem d35_82 : decode jdk_48_method_14_code 82 = .ok (.baload, 1) := by decide +kernel
theorem d35_83 : decode jdk_48_method_14_code 83 = .ok (.aload_n 2, 1) := by decide +kernel
theorem d35_84 : decode jdk_48_method_14_code 84 = .ok (.iload_n 3, 1) := by decide +kernel
theorem d35_85 : decode jdk_48_method_14_code 85 = .ok (.iload 5, 2) := by decide +kernel
theorem d35_87 : decode jdk_48_method_14_code 87 = .ok (.iadd, 1) := by decide +kernel
theorem d35_88 : decode jdk_48_method_14_code 88 = .ok (.baload, 1) := by decide +kernel
theorem d35_89 : decode jdk_48_method_14_code 89 = .ok (.if_icmp .eq 6, 3) := by decide +kernel
theorem d35_95 : decode jdk_48_method_14_code 95 = .ok (.iinc 5 1, 3) := by decide +kernel
theorem d35_98 : decode jdk_48_method_14_code 98 = .ok (.goto (-28), 3) := by decide +kernel
theorem d35_101 : decode jdk_48_method_14_code 101 = .ok (.iconst (-1), 1) := by decide +kernel
theorem d35_102 : decode jdk_48_method_14_code 102 = .ok (.ireturn, 1) := by decide +kernel
theorem d35_92 : decode jdk_48_method_14_code 92 = .ok (.iload 5, 2) := by decide +kernel
theorem d35_94 : decode jdk_48_method_14_code 94 = .ok (.ireturn, 1) := by decide +kernel
theorem pn_jdk_internal_util_ArraysSupport : plainName "jdk/internal/util/ArraysSupport" = true := by first | (simp [plainName, overriddenIn]; done) | decide +kernel
theorem ef35 (m : MethodId) (x1 : Addr) (x3 : Addr) : entryFrame m #[(.ref x1), (.int (Int32.ofNat ix)), (.ref x3), (.int (0 : Int32)), (.int (5 : Int32))] 8 = mkF m 0 #[vr x1, vi (Int32.ofNat ix), vr x3, vi (0 : Int32), vi (5 : Int32), un, un, un] [] := by first | (simp [entryFrame, mkF, argsToLocals, Value.category]; done) | rfl
def Q35 (Z : State) (x1 : Addr) (x3 : Addr) (ks : ClassId) (f : Nat → Int32) (n : Nat) (ix : Nat) (kg : ClassId) (h0 : Heap) (n0 : Nat) (v : Option Value) (h : Heap) (L : List Loc) : Prop := ∃ (rr : Int32), v = some (.int rr) ∧ Fr n0 L ∧ h = h0 ∧ ((rr = (-1 : Int32) ∧ own_en f ix) ∨ (¬ rr < (0 : Int32) ∧ ¬ own_en f ix))
set_option maxRecDepth 65536 in
set_option maxHeartbeats 40000000 in
theorem rm35 (l : Launch) (Z : State) (a0 : Array Value) (hw : ∀ d ∈ tables_1, d.before a0 Z = true) (ws : List Jvm.Cond) (x1 : Addr) (x3 : Addr) (ks : ClassId) (f : Nat → Int32) (n : Nat) (ix : Nat) (kg : ClassId) (h0 : Heap) (n0 : Nat) (Z0 : n0 ≤ h0.size) (O0 : Old Z n0 h0) (V_x1 : Arv Z h0 x1 ks .byte (Int32.ofNat n) (own_fv f n) (.int 0)) (V_x3 : Arv Z h0 x3 kg .byte (5 : Int32) [(.int (43 : Int32)), (.int (106 : Int32)), (.int (115 : Int32)), (.int (111 : Int32)), (.int (110 : Int32))] (.int 0)) (hp : ∀ j, j < n → ¬ f j < 0 ∧ ¬ (255 : Int32) < f j) (hn : n ≤ 24) (hix : ix + 5 ≤ n) :
    MetFree l (⟨"jdk/internal/util/ArraysSupport", "mismatch", "([BI[BII)I"⟩ : MethodName) (head1 (Jvm.Cond.code (⟨"jdk/internal/util/ArraysSupport", "mismatch", "([BI[BII)I"⟩ : MethodName) jdk_48_method_14_code 8 (some .int) :: ws) ({ frames := 0, cells := 0, slots := 0, locals := 0 } : Room)) (fun a U => a = #[(.ref x1), (.int (Int32.ofNat ix)), (.ref x3), (.int (0 : Int32)), (.int (5 : Int32))] ∧ Z.Warmed39 U.vm ∧ U.heap = h0) (fun _ _ _ _ _ => True) (fun _ U o U' => ∃ v L, o = .returned v ∧ Q35 Z x1 x3 ks f n ix kg h0 n0 v U'.heap L ∧ FrameEnd U o U' L ({ frames := 0, cells := 0, slots := 0, locals := 0 } : Room).cells ({ frames := 0, cells := 0, slots := 0, locals := 0 } : Room).slots) := by
  refine MetFree.of_bodySF (plainFor_of_name pn_jdk_internal_util_ArraysSupport) hisR ?_
  intro p e s m args below meth c s₁ Bd hml0 hP hK
  obtain ⟨rfl, hZ, hh⟩ := hP
  have hx := Bd.exec
  have hby := Bd.bytes
  have hml : c.maxLocals = 8 := hml0
  have hown : s.vm.findClass "jdk/internal/util/ArraysSupport" = some m.cls := findClass_of_methodNamed Bd.named
  have hnm := (name_of_methodNamed Bd.named Bd.method).1
  have X0 : Stand p l e ({ frames := 0, cells := 0, slots := 0, locals := 0 } : Room) s m #[(.ref x1), (.int (Int32.ofNat ix)), (.ref x3), (.int (0 : Int32)), (.int (5 : Int32))] below meth c s₁ [] 0 0 := Stand.of_body Bd
  have e0 : s₁.heap = h0 := by rw [← hh, Bd.state]; rfl
  have N0 := Fr.nil n0
  have K0 : Keep h0 h0 [] := Keep.refl _ _
  have pre0 : ∀ t, SF p e below s₁ m 0 #[vr x1, vi (Int32.ofNat ix), vr x3, vi (0 : Int32), vi (5 : Int32), un, un, un] [] t → Steps p.tables e below (s₁.setTop (entryFrame m #[(.ref x1), (.int (Int32.ofNat ix)), (.ref x3), (.int (0 : Int32)), (.int (5 : Int32))] 8)) t := fun t k => castTop (ef35 m x1 x3) k
  obtain ⟨cl_a319, Ar_a319, -, S_a319, N_a319, H_a319, -⟩ := id V_x1
  obtain ⟨hin_a319, hat_a319⟩ := own_rd (j := ((Int32.ofNat ix) + (0 : Int32))) (i := (ix + 0)) S_a319 H_a319 (own_add ix 0) (by omega) (by omega)
  obtain ⟨cl_a320, Ar_a320, -, S_a320, N_a320, H_a320, -⟩ := id V_x3
  have hin_a320 : ¬ (((0 : Int32) + (0 : Int32)) < 0 ∨ cl_a320.slots.size ≤ (((0 : Int32) + (0 : Int32))).toNatClampNeg) := inb_of S_a320 ⟨by decide, by decide⟩
  have hat_a320 : cl_a320.slots[(((0 : Int32) + (0 : Int32))).toNatClampNeg]? = some (.int (43 : Int32)) := H_a320.at hin_a320 rfl
  have pre321 := fun t (kt : SF p e below s₁ m 89 #[vr x1, vi (Int32.ofNat ix), vr x3, vi (0 : Int32), vi (5 : Int32), vi (0 : Int32), un, un] [(.int (43 : Int32)), (.int (own_by (f (ix + 0))))] t) => pre0 t (by
    refine XS.iconst X0.here hx rfl (hb hby d35_0) ?_
    refine XS.istore X0.here hx rfl (hb hby d35_1) rfl (l' := #[vr x1, vi (Int32.ofNat ix), vr x3, vi (0 : Int32), vi (5 : Int32), vi (0 : Int32), un, un]) rfl ?_
    refine XS.iload X0.here hx rfl (hb hby d35_3) rfl ?_
    refine XS.bipush X0.here hx rfl (hb hby d35_5) ?_
    refine XS.icmpYes X0.here hx rfl (pc0 := 7) (pc' := 70) rfl (hb hby d35_7) rfl (flt (by decide : ¬ ((7 : Int32) < (5 : Int32)))).2.2.2 (by decide) (by decide) ?_
    refine XS.iload X0.here hx rfl (hb hby d35_70) rfl ?_
    show SF p e below s₁ m 72 _ [(.int (0 : Int32))] _
    refine XS.iload X0.here hx rfl (hb hby d35_72) rfl ?_
    refine XS.icmpNo X0.here hx rfl (hb hby d35_74) rfl (tlt (by decide : (0 : Int32) < (5 : Int32))).2.1 ?_
    refine XS.aloadN X0.here hx rfl (hb hby d35_77) rfl rfl ?_
    refine XS.iloadN X0.here hx rfl (hb hby d35_78) rfl ?_
    refine XS.iload X0.here hx rfl (hb hby d35_79) rfl ?_
    refine XS.iadd X0.here hx rfl (hb hby d35_81) rfl ?_
    show SF p e below s₁ m 82 _ [(.int ((Int32.ofNat ix) + (0 : Int32))), (.ref x1)] _
    refine X0.baloadBytes hx (j := ((Int32.ofNat ix) + (0 : Int32))) (v := (.int (own_by (f (ix + 0))))) (by rw [e0]; exact Ar_a319.1) (State.isArrayOf_alike hZ.alike Ar_a319.2.1) Ar_a319.2.2 hin_a319 hat_a319 (g := (mkF m 82 #[vr x1, vi (Int32.ofNat ix), vr x3, vi (0 : Int32), vi (5 : Int32), vi (0 : Int32), un, un] [(.int ((Int32.ofNat ix) + (0 : Int32))), (.ref x1)])) rfl rfl (hb hby d35_82) _ ?_
    refine XS.aloadN X0.here hx rfl (hb hby d35_83) rfl rfl ?_
    refine XS.iloadN X0.here hx rfl (hb hby d35_84) rfl ?_
    refine XS.iload X0.here hx rfl (hb hby d35_85) rfl ?_
    refine XS.iadd X0.here hx rfl (hb hby d35_87) rfl ?_
    show SF p e below s₁ m 88 _ [(.int ((0 : Int32) + (0 : Int32))), (.ref x3), (.int (own_by (f (ix + 0))))] _
    refine X0.baloadBytes hx (j := ((0 : Int32) + (0 : Int32))) (v := (.int (43 : Int32))) (by rw [e0]; exact Ar_a320.1) (State.isArrayOf_alike hZ.alike Ar_a320.2.1) Ar_a320.2.2 hin_a320 hat_a320 (g := (mkF m 88 #[vr x1, vi (Int32.ofNat ix), vr x3, vi (0 : Int32), vi (5 : Int32), vi (0 : Int32), un, un] [(.int ((0 : Int32) + (0 : Int32))), (.ref x3), (.int (own_by (f (ix + 0))))])) rfl rfl (hb hby d35_88) _ ?_
    exact kt)
  by_cases hc89 : (own_by (f (ix + 0))) = (43 : Int32)
  · skip
    obtain ⟨cl_a322, Ar_a322, -, S_a322, N_a322, H_a322, -⟩ := id V_x1
    obtain ⟨hin_a322, hat_a322⟩ := own_rd (j := ((Int32.ofNat ix) + ((0 : Int32) + (1 : Int32)))) (i := (ix + 1)) S_a322 H_a322 (own_add ix 1) (by omega) (by omega)
    obtain ⟨cl_a323, Ar_a323, -, S_a323, N_a323, H_a323, -⟩ := id V_x3
    have hin_a323 : ¬ (((0 : Int32) + ((0 : Int32) + (1 : Int32))) < 0 ∨ cl_a323.slots.size ≤ (((0 : Int32) + ((0 : Int32) + (1 : Int32)))).toNatClampNeg) := inb_of S_a323 ⟨by decide, by decide⟩
    have hat_a323 : cl_a323.slots[(((0 : Int32) + ((0 : Int32) + (1 : Int32)))).toNatClampNeg]? = some (.int (106 : Int32)) := H_a323.at hin_a323 rfl
    have pre325 := fun t (kt : SF p e below s₁ m 89 #[vr x1, vi (Int32.ofNat ix), vr x3, vi (0 : Int32), vi (5 : Int32), vi ((0 : Int32) + (1 : Int32)), un, un] [(.int (106 : Int32)), (.int (own_by (f (ix + 1))))] t) => pre321 t (by
      refine XS.icmpYes X0.here hx rfl (pc0 := 89) (pc' := 95) rfl (hb hby d35_89) rfl (teq hc89).1 (by decide) (by decide) ?_
      refine XS.iinc X0.here hx rfl (hb hby d35_95) rfl (l' := #[vr x1, vi (Int32.ofNat ix), vr x3, vi (0 : Int32), vi (5 : Int32), vi ((0 : Int32) + (1 : Int32)), un, un]) rfl ?_
      refine XS.goto X0.here hx rfl (pc0 := 98) (pc' := 70) rfl (hb hby d35_98) (by decide) (by decide) ?_
      refine XS.iload X0.here hx rfl (hb hby d35_70) rfl ?_
      refine XS.iload X0.here hx rfl (hb hby d35_72) rfl ?_
      show SF p e below s₁ m 74 _ [(.int (5 : Int32)), (.int ((0 : Int32) + (1 : Int32)))] _
      refine XS.icmpNo X0.here hx rfl (hb hby d35_74) rfl (tlt (by decide : ((0 : Int32) + (1 : Int32)) < (5 : Int32))).2.1 ?_
      refine XS.aloadN X0.here hx rfl (hb hby d35_77) rfl rfl ?_
      refine XS.iloadN X0.here hx rfl (hb hby d35_78) rfl ?_
      refine XS.iload X0.here hx rfl (hb hby d35_79) rfl ?_
      refine XS.iadd X0.here hx rfl (hb hby d35_81) rfl ?_
      show SF p e below s₁ m 82 _ [(.int ((Int32.ofNat ix) + ((0 : Int32) + (1 : Int32)))), (.ref x1)] _
      refine X0.baloadBytes hx (j := ((Int32.ofNat ix) + ((0 : Int32) + (1 : Int32)))) (v := (.int (own_by (f (ix + 1))))) (by rw [e0]; exact Ar_a322.1) (State.isArrayOf_alike hZ.alike Ar_a322.2.1) Ar_a322.2.2 hin_a322 hat_a322 (g := (mkF m 82 #[vr x1, vi (Int32.ofNat ix), vr x3, vi (0 : Int32), vi (5 : Int32), vi ((0 : Int32) + (1 : Int32)), un, un] [(.int ((Int32.ofNat ix) + ((0 : Int32) + (1 : Int32)))), (.ref x1)])) rfl rfl (hb hby d35_82) _ ?_
      refine XS.aloadN X0.here hx rfl (hb hby d35_83) rfl rfl ?_
      refine XS.iloadN X0.here hx rfl (hb hby d35_84) rfl ?_
      refine XS.iload X0.here hx rfl (hb hby d35_85) rfl ?_
      refine XS.iadd X0.here hx rfl (hb hby d35_87) rfl ?_
      show SF p e below s₁ m 88 _ [(.int ((0 : Int32) + ((0 : Int32) + (1 : Int32)))), (.ref x3), (.int (own_by (f (ix + 1))))] _
      refine X0.baloadBytes hx (j := ((0 : Int32) + ((0 : Int32) + (1 : Int32)))) (v := (.int (106 : Int32))) (by rw [e0]; exact Ar_a323.1) (State.isArrayOf_alike hZ.alike Ar_a323.2.1) Ar_a323.2.2 hin_a323 hat_a323 (g := (mkF m 88 #[vr x1, vi (Int32.ofNat ix), vr x3, vi (0 : Int32), vi (5 : Int32), vi ((0 : Int32) + (1 : Int32)), un, un] [(.int ((0 : Int32) + ((0 : Int32) + (1 : Int32)))), (.ref x3), (.int (own_by (f (ix + 1))))])) rfl rfl (hb hby d35_88) _ ?_
      exact kt)
    by_cases hc89_324 : (own_by (f (ix + 1))) = (106 : Int32)
    · skip
      obtain ⟨cl_a326, Ar_a326, -, S_a326, N_a326, H_a326, -⟩ := id V_x1
      obtain ⟨hin_a326, hat_a326⟩ := own_rd (j := ((Int32.ofNat ix) + (((0 : Int32) + (1 : Int32)) + (1 : Int32)))) (i := (ix + 2)) S_a326 H_a326 (own_add ix 2) (by omega) (by omega)
      obtain ⟨cl_a327, Ar_a327, -, S_a327, N_a327, H_a327, -⟩ := id V_x3
      have hin_a327 : ¬ (((0 : Int32) + (((0 : Int32) + (1 : Int32)) + (1 : Int32))) < 0 ∨ cl_a327.slots.size ≤ (((0 : Int32) + (((0 : Int32) + (1 : Int32)) + (1 : Int32)))).toNatClampNeg) := inb_of S_a327 ⟨by decide, by decide⟩
      have hat_a327 : cl_a327.slots[(((0 : Int32) + (((0 : Int32) + (1 : Int32)) + (1 : Int32)))).toNatClampNeg]? = some (.int (115 : Int32)) := H_a327.at hin_a327 rfl
      have pre329 := fun t (kt : SF p e below s₁ m 89 #[vr x1, vi (Int32.ofNat ix), vr x3, vi (0 : Int32), vi (5 : Int32), vi (((0 : Int32) + (1 : Int32)) + (1 : Int32)), un, un] [(.int (115 : Int32)), (.int (own_by (f (ix + 2))))] t) => pre325 t (by
        refine XS.icmpYes X0.here hx rfl (pc0 := 89) (pc' := 95) rfl (hb hby d35_89) rfl (teq hc89_324).1 (by decide) (by decide) ?_
        refine XS.iinc X0.here hx rfl (hb hby d35_95) rfl (l' := #[vr x1, vi (Int32.ofNat ix), vr x3, vi (0 : Int32), vi (5 : Int32), vi (((0 : Int32) + (1 : Int32)) + (1 : Int32)), un, un]) rfl ?_
        refine XS.goto X0.here hx rfl (pc0 := 98) (pc' := 70) rfl (hb hby d35_98) (by decide) (by decide) ?_
        refine XS.iload X0.here hx rfl (hb hby d35_70) rfl ?_
        refine XS.iload X0.here hx rfl (hb hby d35_72) rfl ?_
        show SF p e below s₁ m 74 _ [(.int (5 : Int32)), (.int (((0 : Int32) + (1 : Int32)) + (1 : Int32)))] _
        refine XS.icmpNo X0.here hx rfl (hb hby d35_74) rfl (tlt (by decide : (((0 : Int32) + (1 : Int32)) + (1 : Int32)) < (5 : Int32))).2.1 ?_
        refine XS.aloadN X0.here hx rfl (hb hby d35_77) rfl rfl ?_
        refine XS.iloadN X0.here hx rfl (hb hby d35_78) rfl ?_
        refine XS.iload X0.here hx rfl (hb hby d35_79) rfl ?_
        refine XS.iadd X0.here hx rfl (hb hby d35_81) rfl ?_
        show SF p e below s₁ m 82 _ [(.int ((Int32.ofNat ix) + (((0 : Int32) + (1 : Int32)) + (1 : Int32)))), (.ref x1)] _
        refine X0.baloadBytes hx (j := ((Int32.ofNat ix) + (((0 : Int32) + (1 : Int32)) + (1 : Int32)))) (v := (.int (own_by (f (ix + 2))))) (by rw [e0]; exact Ar_a326.1) (State.isArrayOf_alike hZ.alike Ar_a326.2.1) Ar_a326.2.2 hin_a326 hat_a326 (g := (mkF m 82 #[vr x1, vi (Int32.ofNat ix), vr x3, vi (0 : Int32), vi (5 : Int32), vi (((0 : Int32) + (1 : Int32)) + (1 : Int32)), un, un] [(.int ((Int32.ofNat ix) + (((0 : Int32) + (1 : Int32)) + (1 : Int32)))), (.ref x1)])) rfl rfl (hb hby d35_82) _ ?_
        refine XS.aloadN X0.here hx rfl (hb hby d35_83) rfl rfl ?_
        refine XS.iloadN X0.here hx rfl (hb hby d35_84) rfl ?_
        refine XS.iload X0.here hx rfl (hb hby d35_85) rfl ?_
        refine XS.iadd X0.here hx rfl (hb hby d35_87) rfl ?_
        show SF p e below s₁ m 88 _ [(.int ((0 : Int32) + (((0 : Int32) + (1 : Int32)) + (1 : Int32)))), (.ref x3), (.int (own_by (f (ix + 2))))] _
        refine X0.baloadBytes hx (j := ((0 : Int32) + (((0 : Int32) + (1 : Int32)) + (1 : Int32)))) (v := (.int (115 : Int32))) (by rw [e0]; exact Ar_a327.1) (State.isArrayOf_alike hZ.alike Ar_a327.2.1) Ar_a327.2.2 hin_a327 hat_a327 (g := (mkF m 88 #[vr x1, vi (Int32.ofNat ix), vr x3, vi (0 : Int32), vi (5 : Int32), vi (((0 : Int32) + (1 : Int32)) + (1 : Int32)), un, un] [(.int ((0 : Int32) + (((0 : Int32) + (1 : Int32)) + (1 : Int32)))), (.ref x3), (.int (own_by (f (ix + 2))))])) rfl rfl (hb hby d35_88) _ ?_
        exact kt)
      by_cases hc89_328 : (own_by (f (ix + 2))) = (115 : Int32)
      · skip
        obtain ⟨cl_a330, Ar_a330, -, S_a330, N_a330, H_a330, -⟩ := id V_x1
        obtain ⟨hin_a330, hat_a330⟩ := own_rd (j := ((Int32.ofNat ix) + ((((0 : Int32) + (1 : Int32)) + (1 : Int32)) + (1 : Int32)))) (i := (ix + 3)) S_a330 H_a330 (own_add ix 3) (by omega) (by omega)
        obtain ⟨cl_a331, Ar_a331, -, S_a331, N_a331, H_a331, -⟩ := id V_x3
        have hin_a331 : ¬ (((0 : Int32) + ((((0 : Int32) + (1 : Int32)) + (1 : Int32)) + (1 : Int32))) < 0 ∨ cl_a331.slots.size ≤ (((0 : Int32) + ((((0 : Int32) + (1 : Int32)) + (1 : Int32)) + (1 : Int32)))).toNatClampNeg) := inb_of S_a331 ⟨by decide, by decide⟩
        have hat_a331 : cl_a331.slots[(((0 : Int32) + ((((0 : Int32) + (1 : Int32)) + (1 : Int32)) + (1 : Int32)))).toNatClampNeg]? = some (.int (111 : Int32)) := H_a331.at hin_a331 rfl
        have pre333 := fun t (kt : SF p e below s₁ m 89 #[vr x1, vi (Int32.ofNat ix), vr x3, vi (0 : Int32), vi (5 : Int32), vi ((((0 : Int32) + (1 : Int32)) + (1 : Int32)) + (1 : Int32)), un, un] [(.int (111 : Int32)), (.int (own_by (f (ix + 3))))] t) => pre329 t (by
          refine XS.icmpYes X0.here hx rfl (pc0 := 89) (pc' := 95) rfl (hb hby d35_89) rfl (teq hc89_328).1 (by decide) (by decide) ?_
          refine XS.iinc X0.here hx rfl (hb hby d35_95) rfl (l' := #[vr x1, vi (Int32.ofNat ix), vr x3, vi (0 : Int32), vi (5 : Int32), vi ((((0 : Int32) + (1 : Int32)) + (1 : Int32)) + (1 : Int32)), un, un]) rfl ?_
          refine XS.goto X0.here hx rfl (pc0 := 98) (pc' := 70) rfl (hb hby d35_98) (by decide) (by decide) ?_
          refine XS.iload X0.here hx rfl (hb hby d35_70) rfl ?_
          refine XS.iload X0.here hx rfl (hb hby d35_72) rfl ?_
          show SF p e below s₁ m 74 _ [(.int (5 : Int32)), (.int ((((0 : Int32) + (1 : Int32)) + (1 : Int32)) + (1 : Int32)))] _
          refine XS.icmpNo X0.here hx rfl (hb hby d35_74) rfl (tlt (by decide : ((((0 : Int32) + (1 : Int32)) + (1 : Int32)) + (1 : Int32)) < (5 : Int32))).2.1 ?_
          refine XS.aloadN X0.here hx rfl (hb hby d35_77) rfl rfl ?_
          refine XS.iloadN X0.here hx rfl (hb hby d35_78) rfl ?_
          refine XS.iload X0.here hx rfl (hb hby d35_79) rfl ?_
          refine XS.iadd X0.here hx rfl (hb hby d35_81) rfl ?_
          show SF p e below s₁ m 82 _ [(.int ((Int32.ofNat ix) + ((((0 : Int32) + (1 : Int32)) + (1 : Int32)) + (1 : Int32)))), (.ref x1)] _
          refine X0.baloadBytes hx (j := ((Int32.ofNat ix) + ((((0 : Int32) + (1 : Int32)) + (1 : Int32)) + (1 : Int32)))) (v := (.int (own_by (f (ix + 3))))) (by rw [e0]; exact Ar_a330.1) (State.isArrayOf_alike hZ.alike Ar_a330.2.1) Ar_a330.2.2 hin_a330 hat_a330 (g := (mkF m 82 #[vr x1, vi (Int32.ofNat ix), vr x3, vi (0 : Int32), vi (5 : Int32), vi ((((0 : Int32) + (1 : Int32)) + (1 : Int32)) + (1 : Int32)), un, un] [(.int ((Int32.ofNat ix) + ((((0 : Int32) + (1 : Int32)) + (1 : Int32)) + (1 : Int32)))), (.ref x1)])) rfl rfl (hb hby d35_82) _ ?_
          refine XS.aloadN X0.here hx rfl (hb hby d35_83) rfl rfl ?_
          refine XS.iloadN X0.here hx rfl (hb hby d35_84) rfl ?_
          refine XS.iload X0.here hx rfl (hb hby d35_85) rfl ?_
          refine XS.iadd X0.here hx rfl (hb hby d35_87) rfl ?_
          show SF p e below s₁ m 88 _ [(.int ((0 : Int32) + ((((0 : Int32) + (1 : Int32)) + (1 : Int32)) + (1 : Int32)))), (.ref x3), (.int (own_by (f (ix + 3))))] _
          refine X0.baloadBytes hx (j := ((0 : Int32) + ((((0 : Int32) + (1 : Int32)) + (1 : Int32)) + (1 : Int32)))) (v := (.int (111 : Int32))) (by rw [e0]; exact Ar_a331.1) (State.isArrayOf_alike hZ.alike Ar_a331.2.1) Ar_a331.2.2 hin_a331 hat_a331 (g := (mkF m 88 #[vr x1, vi (Int32.ofNat ix), vr x3, vi (0 : Int32), vi (5 : Int32), vi ((((0 : Int32) + (1 : Int32)) + (1 : Int32)) + (1 : Int32)), un, un] [(.int ((0 : Int32) + ((((0 : Int32) + (1 : Int32)) + (1 : Int32)) + (1 : Int32)))), (.ref x3), (.int (own_by (f (ix + 3))))])) rfl rfl (hb hby d35_88) _ ?_
          exact kt)
        by_cases hc89_332 : (own_by (f (ix + 3))) = (111 : Int32)
        · skip
          obtain ⟨cl_a334, Ar_a334, -, S_a334, N_a334, H_a334, -⟩ := id V_x1
          obtain ⟨hin_a334, hat_a334⟩ := own_rd (j := ((Int32.ofNat ix) + (((((0 : Int32) + (1 : Int32)) + (1 : Int32)) + (1 : Int32)) + (1 : Int32)))) (i := (ix + 4)) S_a334 H_a334 (own_add ix 4) (by omega) (by omega)
          obtain ⟨cl_a335, Ar_a335, -, S_a335, N_a335, H_a335, -⟩ := id V_x3
          have hin_a335 : ¬ (((0 : Int32) + (((((0 : Int32) + (1 : Int32)) + (1 : Int32)) + (1 : Int32)) + (1 : Int32))) < 0 ∨ cl_a335.slots.size ≤ (((0 : Int32) + (((((0 : Int32) + (1 : Int32)) + (1 : Int32)) + (1 : Int32)) + (1 : Int32)))).toNatClampNeg) := inb_of S_a335 ⟨by decide, by decide⟩
          have hat_a335 : cl_a335.slots[(((0 : Int32) + (((((0 : Int32) + (1 : Int32)) + (1 : Int32)) + (1 : Int32)) + (1 : Int32)))).toNatClampNeg]? = some (.int (110 : Int32)) := H_a335.at hin_a335 rfl
          have pre337 := fun t (kt : SF p e below s₁ m 89 #[vr x1, vi (Int32.ofNat ix), vr x3, vi (0 : Int32), vi (5 : Int32), vi (((((0 : Int32) + (1 : Int32)) + (1 : Int32)) + (1 : Int32)) + (1 : Int32)), un, un] [(.int (110 : Int32)), (.int (own_by (f (ix + 4))))] t) => pre333 t (by
            refine XS.icmpYes X0.here hx rfl (pc0 := 89) (pc' := 95) rfl (hb hby d35_89) rfl (teq hc89_332).1 (by decide) (by decide) ?_
            refine XS.iinc X0.here hx rfl (hb hby d35_95) rfl (l' := #[vr x1, vi (Int32.ofNat ix), vr x3, vi (0 : Int32), vi (5 : Int32), vi (((((0 : Int32) + (1 : Int32)) + (1 : Int32)) + (1 : Int32)) + (1 : Int32)), un, un]) rfl ?_
            refine XS.goto X0.here hx rfl (pc0 := 98) (pc' := 70) rfl (hb hby d35_98) (by decide) (by decide) ?_
            refine XS.iload X0.here hx rfl (hb hby d35_70) rfl ?_
            refine XS.iload X0.here hx rfl (hb hby d35_72) rfl ?_
            show SF p e below s₁ m 74 _ [(.int (5 : Int32)), (.int (((((0 : Int32) + (1 : Int32)) + (1 : Int32)) + (1 : Int32)) + (1 : Int32)))] _
            refine XS.icmpNo X0.here hx rfl (hb hby d35_74) rfl (tlt (by decide : (((((0 : Int32) + (1 : Int32)) + (1 : Int32)) + (1 : Int32)) + (1 : Int32)) < (5 : Int32))).2.1 ?_
            refine XS.aloadN X0.here hx rfl (hb hby d35_77) rfl rfl ?_
            refine XS.iloadN X0.here hx rfl (hb hby d35_78) rfl ?_
            refine XS.iload X0.here hx rfl (hb hby d35_79) rfl ?_
            refine XS.iadd X0.here hx rfl (hb hby d35_81) rfl ?_
            show SF p e below s₁ m 82 _ [(.int ((Int32.ofNat ix) + (((((0 : Int32) + (1 : Int32)) + (1 : Int32)) + (1 : Int32)) + (1 : Int32)))), (.ref x1)] _
            refine X0.baloadBytes hx (j := ((Int32.ofNat ix) + (((((0 : Int32) + (1 : Int32)) + (1 : Int32)) + (1 : Int32)) + (1 : Int32)))) (v := (.int (own_by (f (ix + 4))))) (by rw [e0]; exact Ar_a334.1) (State.isArrayOf_alike hZ.alike Ar_a334.2.1) Ar_a334.2.2 hin_a334 hat_a334 (g := (mkF m 82 #[vr x1, vi (Int32.ofNat ix), vr x3, vi (0 : Int32), vi (5 : Int32), vi (((((0 : Int32) + (1 : Int32)) + (1 : Int32)) + (1 : Int32)) + (1 : Int32)), un, un] [(.int ((Int32.ofNat ix) + (((((0 : Int32) + (1 : Int32)) + (1 : Int32)) + (1 : Int32)) + (1 : Int32)))), (.ref x1)])) rfl rfl (hb hby d35_82) _ ?_
            refine XS.aloadN X0.here hx rfl (hb hby d35_83) rfl rfl ?_
            refine XS.iloadN X0.here hx rfl (hb hby d35_84) rfl ?_
            refine XS.iload X0.here hx rfl (hb hby d35_85) rfl ?_
            refine XS.iadd X0.here hx rfl (hb hby d35_87) rfl ?_
            show SF p e below s₁ m 88 _ [(.int ((0 : Int32) + (((((0 : Int32) + (1 : Int32)) + (1 : Int32)) + (1 : Int32)) + (1 : Int32)))), (.ref x3), (.int (own_by (f (ix + 4))))] _
            refine X0.baloadBytes hx (j := ((0 : Int32) + (((((0 : Int32) + (1 : Int32)) + (1 : Int32)) + (1 : Int32)) + (1 : Int32)))) (v := (.int (110 : Int32))) (by rw [e0]; exact Ar_a335.1) (State.isArrayOf_alike hZ.alike Ar_a335.2.1) Ar_a335.2.2 hin_a335 hat_a335 (g := (mkF m 88 #[vr x1, vi (Int32.ofNat ix), vr x3, vi (0 : Int32), vi (5 : Int32), vi (((((0 : Int32) + (1 : Int32)) + (1 : Int32)) + (1 : Int32)) + (1 : Int32)), un, un] [(.int ((0 : Int32) + (((((0 : Int32) + (1 : Int32)) + (1 : Int32)) + (1 : Int32)) + (1 : Int32)))), (.ref x3), (.int (own_by (f (ix + 4))))])) rfl rfl (hb hby d35_88) _ ?_
            exact kt)
          by_cases hc89_336 : (own_by (f (ix + 4))) = (110 : Int32)
          · skip
            obtain ⟨fs, hr, hrun, hended, hW, hsame⟩ := X0.leave (v := some (.int (-1 : Int32))) (fun h => by rw [Bd.returns] at h; cases h)
            refine ⟨_, _, pre337 _ ?_, hrun, hended, _, _, rfl, ?_, ⟨_, rfl⟩, hW, hsame.mono (by decide) (by decide)⟩
            · show SF p e below s₁ m 89 #[vr x1, vi (Int32.ofNat ix), vr x3, vi (0 : Int32), vi (5 : Int32), vi (((((0 : Int32) + (1 : Int32)) + (1 : Int32)) + (1 : Int32)) + (1 : Int32)), un, un] [(.int (110 : Int32)), (.int (own_by (f (ix + 4))))] _
              refine XS.icmpYes X0.here hx rfl (pc0 := 89) (pc' := 95) rfl (hb hby d35_89) rfl (teq hc89_336).1 (by decide) (by decide) ?_
              refine XS.iinc X0.here hx rfl (hb hby d35_95) rfl (l' := #[vr x1, vi (Int32.ofNat ix), vr x3, vi (0 : Int32), vi (5 : Int32), vi ((((((0 : Int32) + (1 : Int32)) + (1 : Int32)) + (1 : Int32)) + (1 : Int32)) + (1 : Int32)), un, un]) rfl ?_
              refine XS.goto X0.here hx rfl (pc0 := 98) (pc' := 70) rfl (hb hby d35_98) (by decide) (by decide) ?_
              refine XS.iload X0.here hx rfl (hb hby d35_70) rfl ?_
              refine XS.iload X0.here hx rfl (hb hby d35_72) rfl ?_
              show SF p e below s₁ m 74 _ [(.int (5 : Int32)), (.int ((((((0 : Int32) + (1 : Int32)) + (1 : Int32)) + (1 : Int32)) + (1 : Int32)) + (1 : Int32)))] _
              refine XS.icmpYes X0.here hx rfl (pc0 := 74) (pc' := 101) rfl (hb hby d35_74) rfl (flt (by decide : ¬ (((((((0 : Int32) + (1 : Int32)) + (1 : Int32)) + (1 : Int32)) + (1 : Int32)) + (1 : Int32)) < (5 : Int32)))).2.1 (by decide) (by decide) ?_
              refine XS.iconst X0.here hx rfl (hb hby d35_101) ?_
              show SF p e below s₁ m 102 _ [(.int (-1 : Int32))] _
              exact retI X0 hx Bd.returns (hb hby d35_102) hr
            · show Q35 Z x1 x3 ks f n ix kg h0 n0 _ s₁.heap _
              rw [e0]
              exact ⟨(-1 : Int32), rfl, N0, rfl, (Or.inl ⟨rfl, own_sub5 (fun j hj => hp (ix + j) (by omega)) hc89 hc89_324 hc89_328 hc89_332 hc89_336⟩)⟩
          · skip
            obtain ⟨fs, hr, hrun, hended, hW, hsame⟩ := X0.leave (v := some (.int (((((0 : Int32) + (1 : Int32)) + (1 : Int32)) + (1 : Int32)) + (1 : Int32)))) (fun h => by rw [Bd.returns] at h; cases h)
            refine ⟨_, _, pre337 _ ?_, hrun, hended, _, _, rfl, ?_, ⟨_, rfl⟩, hW, hsame.mono (by decide) (by decide)⟩
            · show SF p e below s₁ m 89 #[vr x1, vi (Int32.ofNat ix), vr x3, vi (0 : Int32), vi (5 : Int32), vi (((((0 : Int32) + (1 : Int32)) + (1 : Int32)) + (1 : Int32)) + (1 : Int32)), un, un] [(.int (110 : Int32)), (.int (own_by (f (ix + 4))))] _
              refine XS.icmpNo X0.here hx rfl (hb hby d35_89) rfl (feq hc89_336).1 ?_
              refine XS.iload X0.here hx rfl (hb hby d35_92) rfl ?_
              show SF p e below s₁ m 94 #[vr x1, vi (Int32.ofNat ix), vr x3, vi (0 : Int32), vi (5 : Int32), vi (((((0 : Int32) + (1 : Int32)) + (1 : Int32)) + (1 : Int32)) + (1 : Int32)), un, un] [(.int (((((0 : Int32) + (1 : Int32)) + (1 : Int32)) + (1 : Int32)) + (1 : Int32)))] _
              exact retI X0 hx Bd.returns (hb hby d35_94) hr
            · show Q35 Z x1 x3 ks f n ix kg h0 n0 _ s₁.heap _
              rw [e0]
              exact ⟨(((((0 : Int32) + (1 : Int32)) + (1 : Int32)) + (1 : Int32)) + (1 : Int32)), rfl, N0, rfl, (Or.inr ⟨by decide, fun z => hc89_336 (by rw [z 4 (by omega)]; decide)⟩)⟩
        · skip
          obtain ⟨fs, hr, hrun, hended, hW, hsame⟩ := X0.leave (v := some (.int ((((0 : Int32) + (1 : Int32)) + (1 : Int32)) + (1 : Int32)))) (fun h => by rw [Bd.returns] at h; cases h)
          refine ⟨_, _, pre333 _ ?_, hrun, hended, _, _, rfl, ?_, ⟨_, rfl⟩, hW, hsame.mono (by decide) (by decide)⟩
          · show SF p e below s₁ m 89 #[vr x1, vi (Int32.ofNat ix), vr x3, vi (0 : Int32), vi (5 : Int32), vi ((((0 : Int32) + (1 : Int32)) + (1 : Int32)) + (1 : Int32)), un, un] [(.int (111 : Int32)), (.int (own_by (f (ix + 3))))] _
            refine XS.icmpNo X0.here hx rfl (hb hby d35_89) rfl (feq hc89_332).1 ?_
            refine XS.iload X0.here hx rfl (hb hby d35_92) rfl ?_
            show SF p e below s₁ m 94 #[vr x1, vi (Int32.ofNat ix), vr x3, vi (0 : Int32), vi (5 : Int32), vi ((((0 : Int32) + (1 : Int32)) + (1 : Int32)) + (1 : Int32)), un, un] [(.int ((((0 : Int32) + (1 : Int32)) + (1 : Int32)) + (1 : Int32)))] _
            exact retI X0 hx Bd.returns (hb hby d35_94) hr
          · show Q35 Z x1 x3 ks f n ix kg h0 n0 _ s₁.heap _
            rw [e0]
            exact ⟨((((0 : Int32) + (1 : Int32)) + (1 : Int32)) + (1 : Int32)), rfl, N0, rfl, (Or.inr ⟨by decide, fun z => hc89_332 (by rw [z 3 (by omega)]; decide)⟩)⟩
      · skip
        obtain ⟨fs, hr, hrun, hended, hW, hsame⟩ := X0.leave (v := some (.int (((0 : Int32) + (1 : Int32)) + (1 : Int32)))) (fun h => by rw [Bd.returns] at h; cases h)
        refine ⟨_, _, pre329 _ ?_, hrun, hended, _, _, rfl, ?_, ⟨_, rfl⟩, hW, hsame.mono (by decide) (by decide)⟩
        · show SF p e below s₁ m 89 #[vr x1, vi (Int32.ofNat ix), vr x3, vi (0 : Int32), vi (5 : Int32), vi (((0 : Int32) + (1 : Int32)) + (1 : Int32)), un, un] [(.int (115 : Int32)), (.int (own_by (f (ix + 2))))] _
          refine XS.icmpNo X0.here hx rfl (hb hby d35_89) rfl (feq hc89_328).1 ?_
          refine XS.iload X0.here hx rfl (hb hby d35_92) rfl ?_
          show SF p e below s₁ m 94 #[vr x1, vi (Int32.ofNat ix), vr x3, vi (0 : Int32), vi (5 : Int32), vi (((0 : Int32) + (1 : Int32)) + (1 : Int32)), un, un] [(.int (((0 : Int32) + (1 : Int32)) + (1 : Int32)))] _
          exact retI X0 hx Bd.returns (hb hby d35_94) hr
        · show Q35 Z x1 x3 ks f n ix kg h0 n0 _ s₁.heap _
          rw [e0]
          exact ⟨(((0 : Int32) + (1 : Int32)) + (1 : Int32)), rfl, N0, rfl, (Or.inr ⟨by decide, fun z => hc89_328 (by rw [z 2 (by omega)]; decide)⟩)⟩
    · skip
      obtain ⟨fs, hr, hrun, hended, hW, hsame⟩ := X0.leave (v := some (.int ((0 : Int32) + (1 : Int32)))) (fun h => by rw [Bd.returns] at h; cases h)
      refine ⟨_, _, pre325 _ ?_, hrun, hended, _, _, rfl, ?_, ⟨_, rfl⟩, hW, hsame.mono (by decide) (by decide)⟩
      · show SF p e below s₁ m 89 #[vr x1, vi (Int32.ofNat ix), vr x3, vi (0 : Int32), vi (5 : Int32), vi ((0 : Int32) + (1 : Int32)), un, un] [(.int (106 : Int32)), (.int (own_by (f (ix + 1))))] _
        refine XS.icmpNo X0.here hx rfl (hb hby d35_89) rfl (feq hc89_324).1 ?_
        refine XS.iload X0.here hx rfl (hb hby d35_92) rfl ?_
        show SF p e below s₁ m 94 #[vr x1, vi (Int32.ofNat ix), vr x3, vi (0 : Int32), vi (5 : Int32), vi ((0 : Int32) + (1 : Int32)), un, un] [(.int ((0 : Int32) + (1 : Int32)))] _
        exact retI X0 hx Bd.returns (hb hby d35_94) hr
      · show Q35 Z x1 x3 ks f n ix kg h0 n0 _ s₁.heap _
        rw [e0]
        exact ⟨((0 : Int32) + (1 : Int32)), rfl, N0, rfl, (Or.inr ⟨by decide, fun z => hc89_324 (by rw [z 1 (by omega)]; decide)⟩)⟩
  · skip
    obtain ⟨fs, hr, hrun, hended, hW, hsame⟩ := X0.leave (v := some (.int (0 : Int32))) (fun h => by rw [Bd.returns] at h; cases h)
    refine ⟨_, _, pre321 _ ?_, hrun, hended, _, _, rfl, ?_, ⟨_, rfl⟩, hW, hsame.mono (by decide) (by decide)⟩
    · show SF p e below s₁ m 89 #[vr x1, vi (Int32.ofNat ix), vr x3, vi (0 : Int32), vi (5 : Int32), vi (0 : Int32), un, un] [(.int (43 : Int32)), (.int (own_by (f (ix + 0))))] _
      refine XS.icmpNo X0.here hx rfl (hb hby d35_89) rfl (feq hc89).1 ?_
      refine XS.iload X0.here hx rfl (hb hby d35_92) rfl ?_
      show SF p e below s₁ m 94 #[vr x1, vi (Int32.ofNat ix), vr x3, vi (0 : Int32), vi (5 : Int32), vi (0 : Int32), un, un] [(.int (0 : Int32))] _
      exact retI X0 hx Bd.returns (hb hby d35_94) hr
    · show Q35 Z x1 x3 ks f n ix kg h0 n0 _ s₁.heap _
      rw [e0]
      exact ⟨(0 : Int32), rfl, N0, rfl, (Or.inr ⟨by decide, fun z => hc89 (by rw [z 0 (by omega)]; decide)⟩)⟩
theorem ef14_c (m : MethodId) (tz : Addr) : entryFrame m #[(.ref tz)] 1 = mkF m 0 #[vr tz] [] := by first | (simp [entryFrame, mkF, argsToLocals, Value.category]; done) | rfl
def Q14_c (Z : State) (tz : Addr) (tz_value : Addr) (kg : ClassId) (st_COMPACT_STRINGS : Int32) (h0 : Heap) (n0 : Nat) (v : Option Value) (h : Heap) (L : List Loc) : Prop := v = some (.int (5 : Int32)) ∧ Fr n0 L ∧ h = h0
set_option maxRecDepth 65536 in
set_option maxHeartbeats 40000000 in
theorem rm14_c (l : Launch) (Z : State) (a0 : Array Value) (hw : ∀ d ∈ tables_1, d.before a0 Z = true) (ws : List Jvm.Cond) (tz : Addr) (tz_value : Addr) (kg : ClassId) (st_COMPACT_STRINGS : Int32) (h0 : Heap) (n0 : Nat) (Z0 : n0 ≤ h0.size) (O0 : Old Z n0 h0) (E_tz : Exa Z h0 tz "java/lang/String") (F_tz_value : Fld Z h0 tz "java/lang/String" "value" "[B" (.ref tz_value)) (F_tz_coder : Fld Z h0 tz "java/lang/String" "coder" "B" (.int (0 : Int32))) (V_tz_value : Arv Z h0 tz_value kg .byte (5 : Int32) [(.int (43 : Int32)), (.int (106 : Int32)), (.int (115 : Int32)), (.int (111 : Int32)), (.int (110 : Int32))] (.int 0)) (S_COMPACT_STRINGS : Sta Z Z.heap "java/lang/String" "COMPACT_STRINGS" "Z" (.int st_COMPACT_STRINGS)) (hcomp : ¬ (st_COMPACT_STRINGS = (0 : Int32))) :
    MetFree l (⟨"java/lang/String", "length", "()I"⟩ : MethodName) (head1 (Jvm.Cond.code (⟨"java/lang/String", "length", "()I"⟩ : MethodName) jdk_42_method_54_code 1 (some .int) :: ws) ({ frames := 1, cells := 0, slots := 0, locals := 13 } : Room)) (fun a U => a = #[(.ref tz)] ∧ Z.Warmed39 U.vm ∧ U.heap = h0) (fun _ _ _ _ _ => True) (fun _ U o U' => ∃ v L, o = .returned v ∧ Q14_c Z tz tz_value kg st_COMPACT_STRINGS h0 n0 v U'.heap L ∧ FrameEnd U o U' L ({ frames := 1, cells := 0, slots := 0, locals := 13 } : Room).cells ({ frames := 1, cells := 0, slots := 0, locals := 13 } : Room).slots) := by
  refine MetFree.of_bodySF (plainFor_of_name pn_java_lang_String) hisR ?_
  intro p e s m args below meth c s₁ Bd hml0 hP hK
  obtain ⟨rfl, hZ, hh⟩ := hP
  have hx := Bd.exec
  have hby := Bd.bytes
  have hml : c.maxLocals = 1 := hml0
  have hown : s.vm.findClass "java/lang/String" = some m.cls := findClass_of_methodNamed Bd.named
  have hnm := (name_of_methodNamed Bd.named Bd.method).1
  have X0 : Stand p l e ({ frames := 1, cells := 0, slots := 0, locals := 13 } : Room) s m #[(.ref tz)] below meth c s₁ [] 0 0 := Stand.of_body Bd
  have e0 : s₁.heap = h0 := by rw [← hh, Bd.state]; rfl
  have N0 := Fr.nil n0
  have K0 : Keep h0 h0 [] := Keep.refl _ _
  have pre0 : ∀ t, SF p e below s₁ m 0 #[vr tz] [] t → Steps p.tables e below (s₁.setTop (entryFrame m #[(.ref tz)] 1)) t := fun t k => castTop (ef14_c m tz) k
  obtain ⟨T338, X338, e338, st338⟩ := getF X0 hx hZ hown (host := "") (Or.inl (own_wd hw 35 rfl)) Via.refl e0 F_tz_value (g := (mkF m 1 #[vr tz] [(.ref tz)])) rfl rfl (hb hby d14_1)
  obtain ⟨cl_a339, Ar_a339, -, S_a339, N_a339, -, -⟩ := id V_tz_value
  obtain ⟨cq340, kq340, q340a, q340b, q340c⟩ := isOf hZ e338 E_tz
  obtain ⟨_, _, ⟨T340, L340, k340, n340⟩, -, X340, ⟨Lc340, hQ340, l340, y340, z340⟩, st340⟩ := X338.virtualBack hx (y := (⟨"java/lang/String", "coder", "()B"⟩ : MethodName)) (z := (⟨"java/lang/String", "coder", "()B"⟩ : MethodName)) hown (mvT hZ (own_wd hw 64 rfl)) (mvT hZ (own_wd hw 65 rfl)) (notFace_of_selects (args := #[]) (mvT hZ (own_wd hw 67 rfl))) (mvT hZ (own_wd hw 67 rfl)) (mvT hZ (own_wd hw 66 rfl)) (by decide) (backOf (W := 1) (rm15 l Z a0 hw [] tz st_COMPACT_STRINGS h0 n0 Z0 O0 F_tz_coder S_COMPACT_STRINGS hcomp) hZ (own_wd hw 68 rfl) (own_wd hw 10 rfl) (by decide) (by decide)) q340a q340c (g := (mkF m 6 #[vr tz] [(.ref tz), (.int (5 : Int32))])) rfl (by rw [hml]; rfl) (Steps.refl _) (argsL := []) (rest := [(.int (5 : Int32))]) (lenOf pd_0 rfl) rfl (by show 2 * 0 + _ ≤ _; exact Nat.le_of_eq rfl) (hb hby d14_6) (fun _ _ => ⟨rfl, e338, (by decide : 0 + 0 ≤ _), (by decide : 0 + 0 ≤ _)⟩)
  dsimp only [Pt.U, Pt.locs, Pt.cells, Pt.slots] at X340 l340 y340 z340 st340 hQ340
  subst y340 z340
  obtain ⟨rfl, N340q, eh340⟩ := hQ340
  have N340 : Fr n0 L340 := by rw [l340]; exact Fr.app N0 N340q
  have rn341 : ((5 : Int32) >>> ((0 : Int32) &&& 31)) = (5 : Int32) := own_shr0 _
  obtain ⟨fs, hr, hrun, hended, hW, hsame⟩ := X340.leave (v := some (.int (5 : Int32))) (fun h => by rw [Bd.returns] at h; cases h)
  refine ⟨_, _, pre0 _ ?_, hrun, hended, _, _, rfl, ?_, ⟨_, rfl⟩, hW, hsame.mono (by decide) (by decide)⟩
  · show SF p e below s₁ m 0 #[vr tz] [] _
    refine XS.aloadN X0.here hx rfl (hb hby d14_0) rfl rfl ?_
    show SF p e below s₁ m 1 #[vr tz] [(.ref tz)] _
    refine st338 _ ?_
    show SF p e below T338 m 4 #[vr tz] [(.ref tz_value)] _
    refine X338.arraylength hx (by rw [e338]; exact Ar_a339.1) (State.isArrayOf_alike hZ.alike Ar_a339.2.1) (g := (mkF m 4 #[vr tz] [(.ref tz_value)])) rfl rfl (hb hby d14_4) _ ?_
    rw [len_of S_a339 N_a339]
    refine XS.aloadN X338.here hx rfl (hb hby d14_5) rfl rfl ?_
    show SF p e below T338 m 6 _ [(.ref tz), (.int (5 : Int32))] _
    refine st340.trans ?_
    show SF p e below T340 m 9 #[vr tz] [(.int (0 : Int32)), (.int (5 : Int32))] _
    refine XS.ishr X340.here hx rfl (hb hby d14_9) rfl ?_
    show SF p e below T340 m 10 _ [(.int ((5 : Int32) >>> ((0 : Int32) &&& 31)))] _
    rw [rn341]
    show SF p e below T340 m 10 _ [(.int (5 : Int32))] _
    exact retI X340 hx Bd.returns (hb hby d14_10) hr
  · show Q14_c Z tz tz_value kg st_COMPACT_STRINGS h0 n0 _ T340.heap _
    rw [eh340]
    exact ⟨rfl, N340, rfl⟩
theorem d34_0 : decode jdk_42_method_75_code 0 = .ok (.iload_n 2, 1) := by decide +kernel
theorem d34_1 : decode jdk_42_method_75_code 1 = .ok (.ifCond .lt 16, 3) := by decide +kernel
theorem d34_17 : decode jdk_42_method_75_code 17 = .ok (.iconst 0, 1) := by decide +kernel
theorem d34_18 : decode jdk_42_method_75_code 18 = .ok (.ireturn, 1) := by decide +kernel
theorem ef34_n (m : MethodId) (tz : Addr) (x1 : Addr) (x2 : Int32) : entryFrame m #[(.ref tz), (.ref x1), (.int x2)] 8 = mkF m 0 #[vr tz, vr x1, vi x2, un, un, un, un, un] [] := by first | (simp [entryFrame, mkF, argsToLocals, Value.category]; done) | rfl
def Q34_n (Z : State) (tz : Addr) (x1 : Addr) (x2 : Int32) (tz_value : Addr) (x1_value : Addr) (ks : ClassId) (f : Nat → Int32) (n : Nat) (kg : ClassId) (h0 : Heap) (n0 : Nat) (v : Option Value) (h : Heap) (L : List Loc) : Prop := v = some (.int (0 : Int32)) ∧ Fr n0 L ∧ h = h0
set_option maxRecDepth 65536 in
set_option maxHeartbeats 40000000 in
theorem rm34_n (l : Launch) (Z : State) (a0 : Array Value) (hw : ∀ d ∈ tables_1, d.before a0 Z = true) (ws : List Jvm.Cond) (tz : Addr) (x1 : Addr) (x2 : Int32) (tz_value : Addr) (x1_value : Addr) (ks : ClassId) (f : Nat → Int32) (n : Nat) (kg : ClassId) (h0 : Heap) (n0 : Nat) (Z0 : n0 ≤ h0.size) (O0 : Old Z n0 h0) (hneg : x2 < (0 : Int32)) (E_tz : Exa Z h0 tz "java/lang/String") (F_tz_value : Fld Z h0 tz "java/lang/String" "value" "[B" (.ref tz_value)) (F_tz_coder : Fld Z h0 tz "java/lang/String" "coder" "B" (.int (0 : Int32))) (V_tz_value : Arv Z h0 tz_value ks .byte (Int32.ofNat n) (own_fv f n) (.int 0)) (E_x1 : Exa Z h0 x1 "java/lang/String") (F_x1_value : Fld Z h0 x1 "java/lang/String" "value" "[B" (.ref x1_value)) (F_x1_coder : Fld Z h0 x1 "java/lang/String" "coder" "B" (.int (0 : Int32))) (V_x1_value : Arv Z h0 x1_value kg .byte (5 : Int32) [(.int (43 : Int32)), (.int (106 : Int32)), (.int (115 : Int32)), (.int (111 : Int32)), (.int (110 : Int32))] (.int 0)) (hp : ∀ j, j < n → ¬ f j < 0 ∧ ¬ (255 : Int32) < f j) (hn : n ≤ 24) :
    MetFree l (⟨"java/lang/String", "startsWith", "(Ljava/lang/String;I)Z"⟩ : MethodName) (head1 (Jvm.Cond.code (⟨"java/lang/String", "startsWith", "(Ljava/lang/String;I)Z"⟩ : MethodName) jdk_42_method_75_code 8 (some .boolean) :: ws) ({ frames := 0, cells := 0, slots := 0, locals := 0 } : Room)) (fun a U => a = #[(.ref tz), (.ref x1), (.int x2)] ∧ Z.Warmed39 U.vm ∧ U.heap = h0) (fun _ _ _ _ _ => True) (fun _ U o U' => ∃ v L, o = .returned v ∧ Q34_n Z tz x1 x2 tz_value x1_value ks f n kg h0 n0 v U'.heap L ∧ FrameEnd U o U' L ({ frames := 0, cells := 0, slots := 0, locals := 0 } : Room).cells ({ frames := 0, cells := 0, slots := 0, locals := 0 } : Room).slots) := by
  refine MetFree.of_bodySF (plainFor_of_name pn_java_lang_String) hisR ?_
  intro p e s m args below meth c s₁ Bd hml0 hP hK
  obtain ⟨rfl, hZ, hh⟩ := hP
  have hx := Bd.exec
  have hby := Bd.bytes
  have hml : c.maxLocals = 8 := hml0
  have hown : s.vm.findClass "java/lang/String" = some m.cls := findClass_of_methodNamed Bd.named
  have hnm := (name_of_methodNamed Bd.named Bd.method).1
  have X0 : Stand p l e ({ frames := 0, cells := 0, slots := 0, locals := 0 } : Room) s m #[(.ref tz), (.ref x1), (.int x2)] below meth c s₁ [] 0 0 := Stand.of_body Bd
  have e0 : s₁.heap = h0 := by rw [← hh, Bd.state]; rfl
  have N0 := Fr.nil n0
  have K0 : Keep h0 h0 [] := Keep.refl _ _
  have pre0 : ∀ t, SF p e below s₁ m 0 #[vr tz, vr x1, vi x2, un, un, un, un, un] [] t → Steps p.tables e below (s₁.setTop (entryFrame m #[(.ref tz), (.ref x1), (.int x2)] 8)) t := fun t k => castTop (ef34_n m tz x1 x2) k
  obtain ⟨fs, hr, hrun, hended, hW, hsame⟩ := X0.leave (v := some (.int (0 : Int32))) (fun h => by rw [Bd.returns] at h; cases h)
  refine ⟨_, _, pre0 _ ?_, hrun, hended, _, _, rfl, ?_, ⟨_, rfl⟩, hW, hsame.mono (by decide) (by decide)⟩
  · show SF p e below s₁ m 0 #[vr tz, vr x1, vi x2, un, un, un, un, un] [] _
    refine XS.iloadN X0.here hx rfl (hb hby d34_0) rfl ?_
    refine XS.ifYes X0.here hx rfl (pc0 := 1) (pc' := 17) rfl (hb hby d34_1) rfl ((if0 _ _).trans (tlt hneg).1) (by decide) (by decide) ?_
    refine XS.iconst X0.here hx rfl (hb hby d34_17) ?_
    show SF p e below s₁ m 18 #[vr tz, vr x1, vi x2, un, un, un, un, un] [(.int (0 : Int32))] _
    exact retN X0 hx (t := .boolean) Bd.returns (by simp) (hb hby d34_18) hr
  · show Q34_n Z tz x1 x2 tz_value x1_value ks f n kg h0 n0 _ s₁.heap _
    rw [e0]
    exact ⟨rfl, N0, rfl⟩
theorem d34_4 : decode jdk_42_method_75_code 4 = .ok (.iload_n 2, 1) := by decide +kernel
theorem d34_5 : decode jdk_42_method_75_code 5 = .ok (.aload_n 0, 1) := by decide +kernel
theorem d34_6 : decode jdk_42_method_75_code 6 = .ok (.invokevirtual 505, 3) := by decide +kernel
theorem d34_9 : decode jdk_42_method_75_code 9 = .ok (.aload_n 1, 1) := by decide +kernel
theorem d34_10 : decode jdk_42_method_75_code 10 = .ok (.invokevirtual 505, 3) := by decide +kernel
theorem d34_13 : decode jdk_42_method_75_code 13 = .ok (.isub, 1) := by decide +kernel
theorem d34_14 : decode jdk_42_method_75_code 14 = .ok (.if_icmp .le 5, 3) := by decide +kernel
theorem d34_19 : decode jdk_42_method_75_code 19 = .ok (.aload_n 0, 1) := by decide +kernel
theorem d34_20 : decode jdk_42_method_75_code 20 = .ok (.getfield 9, 3) := by decide +kernel
theorem d34_23 : decode jdk_42_method_75_code 23 = .ok (.astore_n 3, 1) := by decide +kernel
theorem d34_24 : decode jdk_42_method_75_code 24 = .ok (.aload_n 1, 1) := by decide +kernel
theorem d34_25 : decode jdk_42_method_75_code 25 = .ok (.getfield 9, 3) := by decide +kernel
theorem d34_28 : decode jdk_42_method_75_code 28 = .ok (.astore 4, 2) := by decide +kernel
theorem d34_30 : decode jdk_42_method_75_code 30 = .ok (.iconst 0, 1) := by decide +kernel
theorem d34_31 : decode jdk_42_method_75_code 31 = .ok (.istore 5, 2) := by decide +kernel
theorem d34_33 : decode jdk_42_method_75_code 33 = .ok (.aload 4, 2) := by decide +kernel
theorem d34_35 : decode jdk_42_method_75_code 35 = .ok (.arraylength, 1) := by decide +kernel
theorem d34_36 : decode jdk_42_method_75_code 36 = .ok (.istore 6, 2) := by decide +kernel
theorem d34_38 : decode jdk_42_method_75_code 38 = .ok (.aload_n 0, 1) := by decide +kernel
theorem d34_39 : decode jdk_42_method_75_code 39 = .ok (.invokevirtual 335, 3) := by decide +kernel
theorem d34_42 : decode jdk_42_method_75_code 42 = .ok (.istore 7, 2) := by decide +kernel
theorem d34_44 : decode jdk_42_method_75_code 44 = .ok (.iload 7, 2) := by decide +kernel
theorem d34_46 : decode jdk_42_method_75_code 46 = .ok (.aload_n 1, 1) := by decide +kernel
theorem d34_47 : decode jdk_42_method_75_code 47 = .ok (.invokevirtual 335, 3) := by decide +kernel
theorem d34_50 : decode jdk_42_method_75_code 50 = .ok (.if_icmp .ne 32, 3) := by decide +kernel
theorem d34_53 : decode jdk_42_method_75_code 53 = .ok (.iload 7, 2) := by decide +kernel
theorem d34_55 : decode jdk_42_method_75_code 55 = .ok (.iconst 1, 1) := by decide +kernel
theorem d34_56 : decode jdk_42_method_75_code 56 = .ok (.if_icmp .ne 7, 3) := by decide +kernel
theorem d34_63 : decode jdk_42_method_75_code 63 = .ok (.aload_n 3, 1) := by decide +kernel
theorem d34_64 : decode jdk_42_method_75_code 64 = .ok (.iload_n 2, 1) := by decide +kernel
theorem d34_65 : decode jdk_42_method_75_code 65 = .ok (.aload 4, 2) := by decide +kernel
theorem d34_67 : decode jdk_42_method_75_code 67 = .ok (.iconst 0, 1) := by decide +kernel
theorem d34_68 : decode jdk_42_method_75_code 68 = .ok (.iload 6, 2) := by decide +kernel
theorem pd_19 : parseMethodDescriptor "([BI[BII)I" = some ⟨[(.array .byte), .int, (.array .byte), .int, .int], some .int⟩ := by decide +kernel
theorem d34_70 : decode jdk_42_method_75_code 70 = .ok (.invokestatic 607, 3) := by decide +kernel
theorem d34_73 : decode jdk_42_method_75_code 73 = .ok (.ifCond .ge 7, 3) := by decide +kernel
theorem d34_76 : decode jdk_42_method_75_code 76 = .ok (.iconst 1, 1) := by decide +kernel
theorem d34_77 : decode jdk_42_method_75_code 77 = .ok (.goto 4, 3) := by decide +kernel
theorem d34_81 : decode jdk_42_method_75_code 81 = .ok (.ireturn, 1) := by decide +kernel
theorem d34_80 : decode jdk_42_method_75_code 80 = .ok (.iconst 0, 1) := by decide +kernel
theorem ef34_y (m : MethodId) (tz : Addr) (x1 : Addr) : entryFrame m #[(.ref tz), (.ref x1), (.int (Int32.ofNat ix))] 8 = mkF m 0 #[vr tz, vr x1, vi (Int32.ofNat ix), un, un, un, un, un] [] := by first | (simp [entryFrame, mkF, argsToLocals, Value.category]; done) | rfl
def Q34_y (Z : State) (tz : Addr) (x1 : Addr) (tz_value : Addr) (x1_value : Addr) (ks : ClassId) (f : Nat → Int32) (n : Nat) (kg : ClassId) (ix : Nat) (st_COMPACT_STRINGS : Int32) (h0 : Heap) (n0 : Nat) (v : Option Value) (h : Heap) (L : List Loc) : Prop := ∃ (rr : Int32), v = some (.int rr) ∧ Fr n0 L ∧ h = h0 ∧ ((rr = (1 : Int32) ∧ own_en f ix) ∨ (rr = (0 : Int32) ∧ ¬ own_en f ix))
set_option maxRecDepth 65536 in
set_option maxHeartbeats 40000000 in
theorem rm34_y (l : Launch) (Z : State) (a0 : Array Value) (hw : ∀ d ∈ tables_1, d.before a0 Z = true) (ws : List Jvm.Cond) (tz : Addr) (x1 : Addr) (tz_value : Addr) (x1_value : Addr) (ks : ClassId) (f : Nat → Int32) (n : Nat) (kg : ClassId) (ix : Nat) (st_COMPACT_STRINGS : Int32) (h0 : Heap) (n0 : Nat) (Z0 : n0 ≤ h0.size) (O0 : Old Z n0 h0) (E_tz : Exa Z h0 tz "java/lang/String") (F_tz_value : Fld Z h0 tz "java/lang/String" "value" "[B" (.ref tz_value)) (F_tz_coder : Fld Z h0 tz "java/lang/String" "coder" "B" (.int (0 : Int32))) (V_tz_value : Arv Z h0 tz_value ks .byte (Int32.ofNat n) (own_fv f n) (.int 0)) (E_x1 : Exa Z h0 x1 "java/lang/String") (F_x1_value : Fld Z h0 x1 "java/lang/String" "value" "[B" (.ref x1_value)) (F_x1_coder : Fld Z h0 x1 "java/lang/String" "coder" "B" (.int (0 : Int32))) (V_x1_value : Arv Z h0 x1_value kg .byte (5 : Int32) [(.int (43 : Int32)), (.int (106 : Int32)), (.int (115 : Int32)), (.int (111 : Int32)), (.int (110 : Int32))] (.int 0)) (hp : ∀ j, j < n → ¬ f j < 0 ∧ ¬ (255 : Int32) < f j) (hn : n ≤ 24) (hix : ix + 5 = n) (S_COMPACT_STRINGS : Sta Z Z.heap "java/lang/String" "COMPACT_STRINGS" "Z" (.int st_COMPACT_STRINGS)) (hcomp : ¬ (st_COMPACT_STRINGS = (0 : Int32))) :
    MetFree l (⟨"java/lang/String", "startsWith", "(Ljava/lang/String;I)Z"⟩ : MethodName) (head1 (Jvm.Cond.code (⟨"java/lang/String", "startsWith", "(Ljava/lang/String;I)Z"⟩ : MethodName) jdk_42_method_75_code 8 (some .boolean) :: ws) ({ frames := 2, cells := 0, slots := 0, locals := 27 } : Room)) (fun a U => a = #[(.ref tz), (.ref x1), (.int (Int32.ofNat ix))] ∧ Z.Warmed39 U.vm ∧ U.heap = h0) (fun _ _ _ _ _ => True) (fun _ U o U' => ∃ v L, o = .returned v ∧ Q34_y Z tz x1 tz_value x1_value ks f n kg ix st_COMPACT_STRINGS h0 n0 v U'.heap L ∧ FrameEnd U o U' L ({ frames := 2, cells := 0, slots := 0, locals := 27 } : Room).cells ({ frames := 2, cells := 0, slots := 0, locals := 27 } : Room).slots) := by
  refine MetFree.of_bodySF (plainFor_of_name pn_java_lang_String) hisR ?_
  intro p e s m args below meth c s₁ Bd hml0 hP hK
  obtain ⟨rfl, hZ, hh⟩ := hP
  have hx := Bd.exec
  have hby := Bd.bytes
  have hml : c.maxLocals = 8 := hml0
  have hown : s.vm.findClass "java/lang/String" = some m.cls := findClass_of_methodNamed Bd.named
  have hnm := (name_of_methodNamed Bd.named Bd.method).1
  have X0 : Stand p l e ({ frames := 2, cells := 0, slots := 0, locals := 27 } : Room) s m #[(.ref tz), (.ref x1), (.int (Int32.ofNat ix))] below meth c s₁ [] 0 0 := Stand.of_body Bd
  have e0 : s₁.heap = h0 := by rw [← hh, Bd.state]; rfl
  have N0 := Fr.nil n0
  have K0 : Keep h0 h0 [] := Keep.refl _ _
  have pre0 : ∀ t, SF p e below s₁ m 0 #[vr tz, vr x1, vi (Int32.ofNat ix), un, un, un, un, un] [] t → Steps p.tables e below (s₁.setTop (entryFrame m #[(.ref tz), (.ref x1), (.int (Int32.ofNat ix))] 8)) t := fun t k => castTop (ef34_y m tz x1) k
  obtain ⟨cq342, kq342, q342a, q342b, q342c⟩ := isOf hZ e0 E_tz
  obtain ⟨_, _, ⟨T342, L342, k342, n342⟩, -, X342, ⟨Lc342, hQ342, l342, y342, z342⟩, st342⟩ := X0.virtualBack hx (y := (⟨"java/lang/String", "length", "()I"⟩ : MethodName)) (z := (⟨"java/lang/String", "length", "()I"⟩ : MethodName)) hown (mvT hZ (own_wd hw 59 rfl)) (mvT hZ (own_wd hw 60 rfl)) (notFace_of_selects (args := #[]) (mvT hZ (own_wd hw 62 rfl))) (mvT hZ (own_wd hw 62 rfl)) (mvT hZ (own_wd hw 61 rfl)) (by decide) (backOf (W := 1) (rm14 l Z a0 hw [] tz tz_value ks f n st_COMPACT_STRINGS h0 n0 Z0 O0 E_tz F_tz_value F_tz_coder V_tz_value S_COMPACT_STRINGS hcomp) hZ (own_wd hw 63 rfl) (own_wd hw 10 rfl) (by decide) (by decide)) q342a q342c (g := (mkF m 6 #[vr tz, vr x1, vi (Int32.ofNat ix), un, un, un, un, un] [(.ref tz), (.int (Int32.ofNat ix))])) rfl (by rw [hml]; rfl) (Steps.refl _) (argsL := []) (rest := [(.int (Int32.ofNat ix))]) (lenOf pd_5 rfl) rfl (by show 2 * 0 + _ ≤ _; exact Nat.le_of_eq rfl) (hb hby d34_6) (fun _ _ => ⟨rfl, e0, (by decide : 0 + 0 ≤ _), (by decide : 0 + 0 ≤ _)⟩)
  dsimp only [Pt.U, Pt.locs, Pt.cells, Pt.slots] at X342 l342 y342 z342 st342 hQ342
  subst y342 z342
  obtain ⟨rfl, N342q, eh342⟩ := hQ342
  have N342 : Fr n0 L342 := by rw [l342]; exact Fr.app N0 N342q
  obtain ⟨cq343, kq343, q343a, q343b, q343c⟩ := isOf hZ eh342 E_x1
  obtain ⟨_, _, ⟨T343, L343, k343, n343⟩, -, X343, ⟨Lc343, hQ343, l343, y343, z343⟩, st343⟩ := X342.virtualBack hx (y := (⟨"java/lang/String", "length", "()I"⟩ : MethodName)) (z := (⟨"java/lang/String", "length", "()I"⟩ : MethodName)) hown (mvT hZ (own_wd hw 59 rfl)) (mvT hZ (own_wd hw 60 rfl)) (notFace_of_selects (args := #[]) (mvT hZ (own_wd hw 62 rfl))) (mvT hZ (own_wd hw 62 rfl)) (mvT hZ (own_wd hw 61 rfl)) (by decide) (backOf (W := 2) (rm14_c l Z a0 hw [] x1 x1_value kg st_COMPACT_STRINGS h0 n0 Z0 O0 E_x1 F_x1_value F_x1_coder V_x1_value S_COMPACT_STRINGS hcomp) hZ (own_wd hw 63 rfl) (own_wd hw 10 rfl) (by decide) (by decide)) q343a q343c (g := (mkF m 10 #[vr tz, vr x1, vi (Int32.ofNat ix), un, un, un, un, un] [(.ref x1), (.int (Int32.ofNat n)), (.int (Int32.ofNat ix))])) rfl (by rw [hml]; rfl) (Steps.refl _) (argsL := []) (rest := [(.int (Int32.ofNat n)), (.int (Int32.ofNat ix))]) (lenOf pd_5 rfl) rfl (by show 2 * 0 + _ ≤ _; exact Nat.le_of_eq rfl) (hb hby d34_10) (fun _ _ => ⟨rfl, eh342, (by decide : 0 + 0 ≤ _), (by decide : 0 + 0 ≤ _)⟩)
  dsimp only [Pt.U, Pt.locs, Pt.cells, Pt.slots] at X343 l343 y343 z343 st343 hQ343
  subst y343 z343
  obtain ⟨rfl, N343q, eh343⟩ := hQ343
  have N343 : Fr n0 L343 := by rw [l343]; exact Fr.app N342 N343q
  have rn344 : ((Int32.ofNat n) - (5 : Int32)) = (Int32.ofNat ix) := (by rw [← hix]; exact own_subr ix 5)
  obtain ⟨T345, X345, e345, st345⟩ := getF X343 hx hZ hown (host := "") (Or.inl (own_wd hw 35 rfl)) Via.refl eh343 F_tz_value (g := (mkF m 20 #[vr tz, vr x1, vi (Int32.ofNat ix), un, un, un, un, un] [(.ref tz)])) rfl rfl (hb hby d34_20)
  obtain ⟨T346, X346, e346, st346⟩ := getF X345 hx hZ hown (host := "") (Or.inl (own_wd hw 35 rfl)) Via.refl e345 F_x1_value (g := (mkF m 25 #[vr tz, vr x1, vi (Int32.ofNat ix), vr tz_value, un, un, un, un] [(.ref x1)])) rfl rfl (hb hby d34_25)
  obtain ⟨cl_a347, Ar_a347, -, S_a347, N_a347, -, -⟩ := id V_x1_value
  obtain ⟨cq348, kq348, q348a, q348b, q348c⟩ := isOf hZ e346 E_tz
  obtain ⟨_, _, ⟨T348, L348, k348, n348⟩, -, X348, ⟨Lc348, hQ348, l348, y348, z348⟩, st348⟩ := X346.virtualBack hx (y := (⟨"java/lang/String", "coder", "()B"⟩ : MethodName)) (z := (⟨"java/lang/String", "coder", "()B"⟩ : MethodName)) hown (mvT hZ (own_wd hw 64 rfl)) (mvT hZ (own_wd hw 65 rfl)) (notFace_of_selects (args := #[]) (mvT hZ (own_wd hw 67 rfl))) (mvT hZ (own_wd hw 67 rfl)) (mvT hZ (own_wd hw 66 rfl)) (by decide) (backOf (W := 0) (rm15 l Z a0 hw [] tz st_COMPACT_STRINGS h0 n0 Z0 O0 F_tz_coder S_COMPACT_STRINGS hcomp) hZ (own_wd hw 68 rfl) (own_wd hw 10 rfl) (by decide) (by decide)) q348a q348c (g := (mkF m 39 #[vr tz, vr x1, vi (Int32.ofNat ix), vr tz_value, vr x1_value, vi (0 : Int32), vi (5 : Int32), un] [(.ref tz)])) rfl (by rw [hml]; rfl) (Steps.refl _) (argsL := []) (rest := []) (lenOf pd_0 rfl) rfl (by show 2 * 0 + _ ≤ _; exact Nat.le_of_eq rfl) (hb hby d34_39) (fun _ _ => ⟨rfl, e346, (by decide : 0 + 0 ≤ _), (by decide : 0 + 0 ≤ _)⟩)
  dsimp only [Pt.U, Pt.locs, Pt.cells, Pt.slots] at X348 l348 y348 z348 st348 hQ348
  subst y348 z348
  obtain ⟨rfl, N348q, eh348⟩ := hQ348
  have N348 : Fr n0 L348 := by rw [l348]; exact Fr.app N343 N348q
  obtain ⟨cq349, kq349, q349a, q349b, q349c⟩ := isOf hZ eh348 E_x1
  obtain ⟨_, _, ⟨T349, L349, k349, n349⟩, -, X349, ⟨Lc349, hQ349, l349, y349, z349⟩, st349⟩ := X348.virtualBack hx (y := (⟨"java/lang/String", "coder", "()B"⟩ : MethodName)) (z := (⟨"java/lang/String", "coder", "()B"⟩ : MethodName)) hown (mvT hZ (own_wd hw 64 rfl)) (mvT hZ (own_wd hw 65 rfl)) (notFace_of_selects (args := #[]) (mvT hZ (own_wd hw 67 rfl))) (mvT hZ (own_wd hw 67 rfl)) (mvT hZ (own_wd hw 66 rfl)) (by decide) (backOf (W := 1) (rm15 l Z a0 hw [] x1 st_COMPACT_STRINGS h0 n0 Z0 O0 F_x1_coder S_COMPACT_STRINGS hcomp) hZ (own_wd hw 68 rfl) (own_wd hw 10 rfl) (by decide) (by decide)) q349a q349c (g := (mkF m 47 #[vr tz, vr x1, vi (Int32.ofNat ix), vr tz_value, vr x1_value, vi (0 : Int32), vi (5 : Int32), vi (0 : Int32)] [(.ref x1), (.int (0 : Int32))])) rfl (by rw [hml]; rfl) (Steps.refl _) (argsL := []) (rest := [(.int (0 : Int32))]) (lenOf pd_0 rfl) rfl (by show 2 * 0 + _ ≤ _; exact Nat.le_of_eq rfl) (hb hby d34_47) (fun _ _ => ⟨rfl, eh348, (by decide : 0 + 0 ≤ _), (by decide : 0 + 0 ≤ _)⟩)
  dsimp only [Pt.U, Pt.locs, Pt.cells, Pt.slots] at X349 l349 y349 z349 st349 hQ349
  subst y349 z349
  obtain ⟨rfl, N349q, eh349⟩ := hQ349
  have N349 : Fr n0 L349 := by rw [l349]; exact Fr.app N348 N349q
  obtain ⟨_, _, ⟨T350, L350, k350, n350⟩, -, X350, ⟨Lc350, hQ350, l350, y350, z350⟩, st350⟩ := Jvm.LawKit.callS X349 hx (y := (⟨"jdk/internal/util/ArraysSupport", "mismatch", "([BI[BII)I"⟩ : MethodName)) hown (mvT hZ (own_wd hw 156 rfl)) (mvT hZ (own_wd hw 157 rfl)) (mvT hZ (own_wd hw 158 rfl)) (mvT hZ (own_wd hw 159 rfl)) (by decide) (backOf (W := 0) (rm35 l Z a0 hw [] tz_value x1_value ks f n ix kg h0 n0 Z0 O0 V_tz_value V_x1_value hp (by omega) (by omega)) hZ (own_wd hw 159 rfl) (own_wd hw 158 rfl) (by decide) (by decide)) (g := (mkF m 70 #[vr tz, vr x1, vi (Int32.ofNat ix), vr tz_value, vr x1_value, vi (0 : Int32), vi (5 : Int32), vi (0 : Int32)] [(.int (5 : Int32)), (.int (0 : Int32)), (.ref x1_value), (.int (Int32.ofNat ix)), (.ref tz_value)])) rfl (by rw [hml]; rfl) (argsL := [(.ref tz_value), (.int (Int32.ofNat ix)), (.ref x1_value), (.int (0 : Int32)), (.int (5 : Int32))]) (rest := []) (lenOf pd_19 rfl) rfl (by show 2 * 0 + _ ≤ _; exact Nat.le_of_eq rfl) (hb hby d34_70) (fun _ _ => ⟨rfl, eh349, (by decide : 0 + 0 ≤ _), (by decide : 0 + 0 ≤ _)⟩)
  dsimp only [Pt.U, Pt.locs, Pt.cells, Pt.slots] at X350 l350 y350 z350 st350 hQ350
  subst y350 z350
  obtain ⟨rr_350, rfl, N350q, eh350, Q350_0⟩ := hQ350
  have N350 : Fr n0 L350 := by rw [l350]; exact Fr.app N349 N350q
  have pre351 := fun t (kt : SF p e below T350 m 73 #[vr tz, vr x1, vi (Int32.ofNat ix), vr tz_value, vr x1_value, vi (0 : Int32), vi (5 : Int32), vi (0 : Int32)] [(.int rr_350)] t) => pre0 t (by
    refine XS.iloadN X0.here hx rfl (hb hby d34_0) rfl ?_
    refine XS.ifNo X0.here hx rfl (hb hby d34_1) rfl ((if0 _ _).trans (flt (own_nn (by omega))).1) ?_
    refine XS.iloadN X0.here hx rfl (hb hby d34_4) rfl ?_
    refine XS.aloadN X0.here hx rfl (hb hby d34_5) rfl rfl ?_
    show SF p e below s₁ m 6 _ [(.ref tz), (.int (Int32.ofNat ix))] _
    refine st342.trans ?_
    show SF p e below T342 m 9 #[vr tz, vr x1, vi (Int32.ofNat ix), un, un, un, un, un] [(.int (Int32.ofNat n)), (.int (Int32.ofNat ix))] _
    refine XS.aloadN X342.here hx rfl (hb hby d34_9) rfl rfl ?_
    show SF p e below T342 m 10 _ [(.ref x1), (.int (Int32.ofNat n)), (.int (Int32.ofNat ix))] _
    refine st343.trans ?_
    show SF p e below T343 m 13 #[vr tz, vr x1, vi (Int32.ofNat ix), un, un, un, un, un] [(.int (5 : Int32)), (.int (Int32.ofNat n)), (.int (Int32.ofNat ix))] _
    refine XS.isub X343.here hx rfl (hb hby d34_13) rfl ?_
    show SF p e below T343 m 14 _ [(.int ((Int32.ofNat n) - (5 : Int32))), (.int (Int32.ofNat ix))] _
    rw [rn344]
    refine XS.icmpYes X343.here hx rfl (pc0 := 14) (pc' := 19) rfl (hb hby d34_14) rfl (flt (Int32.lt_irrefl)).2.2.2 (by decide) (by decide) ?_
    refine XS.aloadN X343.here hx rfl (hb hby d34_19) rfl rfl ?_
    show SF p e below T343 m 20 _ [(.ref tz)] _
    refine st345 _ ?_
    show SF p e below T345 m 23 #[vr tz, vr x1, vi (Int32.ofNat ix), un, un, un, un, un] [(.ref tz_value)] _
    refine XS.astoreN X345.here hx rfl (hb hby d34_23) rfl rfl (l' := #[vr tz, vr x1, vi (Int32.ofNat ix), vr tz_value, un, un, un, un]) rfl ?_
    refine XS.aloadN X345.here hx rfl (hb hby d34_24) rfl rfl ?_
    show SF p e below T345 m 25 _ [(.ref x1)] _
    refine st346 _ ?_
    show SF p e below T346 m 28 #[vr tz, vr x1, vi (Int32.ofNat ix), vr tz_value, un, un, un, un] [(.ref x1_value)] _
    refine XS.astore X346.here hx rfl (hb hby d34_28) rfl rfl (l' := #[vr tz, vr x1, vi (Int32.ofNat ix), vr tz_value, vr x1_value, un, un, un]) rfl ?_
    refine XS.iconst X346.here hx rfl (hb hby d34_30) ?_
    refine XS.istore X346.here hx rfl (hb hby d34_31) rfl (l' := #[vr tz, vr x1, vi (Int32.ofNat ix), vr tz_value, vr x1_value, vi (0 : Int32), un, un]) rfl ?_
    refine XS.aload X346.here hx rfl (hb hby d34_33) rfl rfl ?_
    show SF p e below T346 m 35 _ [(.ref x1_value)] _
    refine X346.arraylength hx (by rw [e346]; exact Ar_a347.1) (State.isArrayOf_alike hZ.alike Ar_a347.2.1) (g := (mkF m 35 #[vr tz, vr x1, vi (Int32.ofNat ix), vr tz_value, vr x1_value, vi (0 : Int32), un, un] [(.ref x1_value)])) rfl rfl (hb hby d34_35) _ ?_
    rw [len_of S_a347 N_a347]
    refine XS.istore X346.here hx rfl (hb hby d34_36) rfl (l' := #[vr tz, vr x1, vi (Int32.ofNat ix), vr tz_value, vr x1_value, vi (0 : Int32), vi (5 : Int32), un]) rfl ?_
    refine XS.aloadN X346.here hx rfl (hb hby d34_38) rfl rfl ?_
    show SF p e below T346 m 39 _ [(.ref tz)] _
    refine st348.trans ?_
    show SF p e below T348 m 42 #[vr tz, vr x1, vi (Int32.ofNat ix), vr tz_value, vr x1_value, vi (0 : Int32), vi (5 : Int32), un] [(.int (0 : Int32))] _
    refine XS.istore X348.here hx rfl (hb hby d34_42) rfl (l' := #[vr tz, vr x1, vi (Int32.ofNat ix), vr tz_value, vr x1_value, vi (0 : Int32), vi (5 : Int32), vi (0 : Int32)]) rfl ?_
    refine XS.iload X348.here hx rfl (hb hby d34_44) rfl ?_
    refine XS.aloadN X348.here hx rfl (hb hby d34_46) rfl rfl ?_
    show SF p e below T348 m 47 _ [(.ref x1), (.int (0 : Int32))] _
    refine st349.trans ?_
    show SF p e below T349 m 50 #[vr tz, vr x1, vi (Int32.ofNat ix), vr tz_value, vr x1_value, vi (0 : Int32), vi (5 : Int32), vi (0 : Int32)] [(.int (0 : Int32)), (.int (0 : Int32))] _
    refine XS.icmpNo X349.here hx rfl (hb hby d34_50) rfl (teq (by decide : (0 : Int32) = (0 : Int32))).2 ?_
    refine XS.iload X349.here hx rfl (hb hby d34_53) rfl ?_
    refine XS.iconst X349.here hx rfl (hb hby d34_55) ?_
    refine XS.icmpYes X349.here hx rfl (pc0 := 56) (pc' := 63) rfl (hb hby d34_56) rfl (feq (by decide : ¬ ((0 : Int32) = (1 : Int32)))).2 (by decide) (by decide) ?_
    refine XS.aloadN X349.here hx rfl (hb hby d34_63) rfl rfl ?_
    refine XS.iloadN X349.here hx rfl (hb hby d34_64) rfl ?_
    show SF p e below T349 m 65 _ [(.int (Int32.ofNat ix)), (.ref tz_value)] _
    refine XS.aload X349.here hx rfl (hb hby d34_65) rfl rfl ?_
    refine XS.iconst X349.here hx rfl (hb hby d34_67) ?_
    refine XS.iload X349.here hx rfl (hb hby d34_68) rfl ?_
    show SF p e below T349 m 70 _ [(.int (5 : Int32)), (.int (0 : Int32)), (.ref x1_value), (.int (Int32.ofNat ix)), (.ref tz_value)] _
    refine st350 _ ?_
    exact kt)
  rcases Q350_0 with ⟨hrr, hE⟩ | ⟨hrr, hE⟩
  · skip
    obtain ⟨fs, hr, hrun, hended, hW, hsame⟩ := X350.leave (v := some (.int (1 : Int32))) (fun h => by rw [Bd.returns] at h; cases h)
    refine ⟨_, _, pre351 _ ?_, hrun, hended, _, _, rfl, ?_, ⟨_, rfl⟩, hW, hsame.mono (by decide) (by decide)⟩
    · show SF p e below T350 m 73 #[vr tz, vr x1, vi (Int32.ofNat ix), vr tz_value, vr x1_value, vi (0 : Int32), vi (5 : Int32), vi (0 : Int32)] [(.int rr_350)] _
      refine XS.ifNo X350.here hx rfl (hb hby d34_73) rfl ((if0 _ _).trans (tlt (show rr_350 < (0 : Int32) by rw [hrr]; decide)).2.1) ?_
      refine XS.iconst X350.here hx rfl (hb hby d34_76) ?_
      refine XS.goto X350.here hx rfl (pc0 := 77) (pc' := 81) rfl (hb hby d34_77) (by decide) (by decide) ?_
      show SF p e below T350 m 81 _ [(.int (1 : Int32))] _
      exact retN X350 hx (t := .boolean) Bd.returns (by simp) (hb hby d34_81) hr
    · show Q34_y Z tz x1 tz_value x1_value ks f n kg ix st_COMPACT_STRINGS h0 n0 _ T350.heap _
      rw [eh350]
      exact ⟨(1 : Int32), rfl, N350, rfl, (Or.inl ⟨rfl, hE⟩)⟩
  · skip
    obtain ⟨fs, hr, hrun, hended, hW, hsame⟩ := X350.leave (v := some (.int (0 : Int32))) (fun h => by rw [Bd.returns] at h; cases h)
    refine ⟨_, _, pre351 _ ?_, hrun, hended, _, _, rfl, ?_, ⟨_, rfl⟩, hW, hsame.mono (by decide) (by decide)⟩
    · show SF p e below T350 m 73 #[vr tz, vr x1, vi (Int32.ofNat ix), vr tz_value, vr x1_value, vi (0 : Int32), vi (5 : Int32), vi (0 : Int32)] [(.int rr_350)] _
      refine XS.ifYes X350.here hx rfl (pc0 := 73) (pc' := 80) rfl (hb hby d34_73) rfl ((if0 _ _).trans (flt hrr).2.1) (by decide) (by decide) ?_
      refine XS.iconst X350.here hx rfl (hb hby d34_80) ?_
      show SF p e below T350 m 81 _ [(.int (0 : Int32))] _
      exact retN X350 hx (t := .boolean) Bd.returns (by simp) (hb hby d34_81) hr
    · show Q34_y Z tz x1 tz_value x1_value ks f n kg ix st_COMPACT_STRINGS h0 n0 _ T350.heap _
      rw [eh350]
      exact ⟨(0 : Int32), rfl, N350, rfl, (Or.inr ⟨rfl, hE⟩)⟩
theorem d33_0 : decode jdk_42_method_77_code 0 = .ok (.aload_n 0, 1) := by decide +kernel
theorem d33_1 : decode jdk_42_method_77_code 1 = .ok (.aload_n 1, 1) := by decide +kernel
theorem d33_2 : decode jdk_42_method_77_code 2 = .ok (.aload_n 0, 1) := by decide +kernel
theorem d33_3 : decode jdk_42_method_77_code 3 = .ok (.invokevirtual 505, 3) := by decide +kernel
theorem d33_6 : decode jdk_42_method_77_code 6 = .ok (.aload_n 1, 1) := by decide +kernel
theorem d33_7 : decode jdk_42_method_77_code 7 = .ok (.invokevirtual 505, 3) := by decide +kernel
theorem d33_10 : decode jdk_42_method_77_code 10 = .ok (.isub, 1) := by decide +kernel
theorem pd_20 : parseMethodDescriptor "(Ljava/lang/String;I)Z" = some ⟨[(.object "java/lang/String"), .int], some .boolean⟩ := by decide +kernel
theorem d33_11 : decode jdk_42_method_77_code 11 = .ok (.invokevirtual 624, 3) := by decide +kernel
theorem d33_14 : decode jdk_42_method_77_code 14 = .ok (.ireturn, 1) := by decide +kernel
theorem ef33 (m : MethodId) (tz : Addr) (x1 : Addr) : entryFrame m #[(.ref tz), (.ref x1)] 2 = mkF m 0 #[vr tz, vr x1] [] := by first | (simp [entryFrame, mkF, argsToLocals, Value.category]; done) | rfl
def Q33 (Z : State) (tz : Addr) (x1 : Addr) (tz_value : Addr) (x1_value : Addr) (ks : ClassId) (f : Nat → Int32) (n : Nat) (kg : ClassId) (st_COMPACT_STRINGS : Int32) (h0 : Heap) (n0 : Nat) (v : Option Value) (h : Heap) (L : List Loc) : Prop := ∃ (rr : Int32), v = some (.int rr) ∧ Fr n0 L ∧ h = h0 ∧ ((rr = (1 : Int32) ∧ own_ew f n) ∨ (rr = (0 : Int32) ∧ ¬ own_ew f n))
set_option maxRecDepth 65536 in
set_option maxHeartbeats 40000000 in
theorem rm33 (l : Launch) (Z : State) (a0 : Array Value) (hw : ∀ d ∈ tables_1, d.before a0 Z = true) (ws : List Jvm.Cond) (tz : Addr) (x1 : Addr) (tz_value : Addr) (x1_value : Addr) (ks : ClassId) (f : Nat → Int32) (n : Nat) (kg : ClassId) (st_COMPACT_STRINGS : Int32) (h0 : Heap) (n0 : Nat) (Z0 : n0 ≤ h0.size) (O0 : Old Z n0 h0) (E_tz : Exa Z h0 tz "java/lang/String") (F_tz_value : Fld Z h0 tz "java/lang/String" "value" "[B" (.ref tz_value)) (F_tz_coder : Fld Z h0 tz "java/lang/String" "coder" "B" (.int (0 : Int32))) (V_tz_value : Arv Z h0 tz_value ks .byte (Int32.ofNat n) (own_fv f n) (.int 0)) (E_x1 : Exa Z h0 x1 "java/lang/String") (F_x1_value : Fld Z h0 x1 "java/lang/String" "value" "[B" (.ref x1_value)) (F_x1_coder : Fld Z h0 x1 "java/lang/String" "coder" "B" (.int (0 : Int32))) (V_x1_value : Arv Z h0 x1_value kg .byte (5 : Int32) [(.int (43 : Int32)), (.int (106 : Int32)), (.int (115 : Int32)), (.int (111 : Int32)), (.int (110 : Int32))] (.int 0)) (hp : ∀ j, j < n → ¬ f j < 0 ∧ ¬ (255 : Int32) < f j) (hn : n ≤ 24) (S_COMPACT_STRINGS : Sta Z Z.heap "java/lang/String" "COMPACT_STRINGS" "Z" (.int st_COMPACT_STRINGS)) (hcomp : ¬ (st_COMPACT_STRINGS = (0 : Int32))) :
    MetFree l (⟨"java/lang/String", "endsWith", "(Ljava/lang/String;)Z"⟩ : MethodName) (head1 (Jvm.Cond.code (⟨"java/lang/String", "endsWith", "(Ljava/lang/String;)Z"⟩ : MethodName) jdk_42_method_77_code 2 (some .boolean) :: ws) ({ frames := 3, cells := 0, slots := 0, locals := 46 } : Room)) (fun a U => a = #[(.ref tz), (.ref x1)] ∧ Z.Warmed39 U.vm ∧ U.heap = h0) (fun _ _ _ _ _ => True) (fun _ U o U' => ∃ v L, o = .returned v ∧ Q33 Z tz x1 tz_value x1_value ks f n kg st_COMPACT_STRINGS h0 n0 v U'.heap L ∧ FrameEnd U o U' L ({ frames := 3, cells := 0, slots := 0, locals := 46 } : Room).cells ({ frames := 3, cells := 0, slots := 0, locals := 46 } : Room).slots) := by
  refine MetFree.of_bodySF (plainFor_of_name pn_java_lang_String) hisR ?_
  intro p e s m args below meth c s₁ Bd hml0 hP hK
  obtain ⟨rfl, hZ, hh⟩ := hP
  have hx := Bd.exec
  have hby := Bd.bytes
  have hml : c.maxLocals = 2 := hml0
  have hown : s.vm.findClass "java/lang/String" = some m.cls := findClass_of_methodNamed Bd.named
  have hnm := (name_of_methodNamed Bd.named Bd.method).1
  have X0 : Stand p l e ({ frames := 3, cells := 0, slots := 0, locals := 46 } : Room) s m #[(.ref tz), (.ref x1)] below meth c s₁ [] 0 0 := Stand.of_body Bd
  have e0 : s₁.heap = h0 := by rw [← hh, Bd.state]; rfl
  have N0 := Fr.nil n0
  have K0 : Keep h0 h0 [] := Keep.refl _ _
  have pre0 : ∀ t, SF p e below s₁ m 0 #[vr tz, vr x1] [] t → Steps p.tables e below (s₁.setTop (entryFrame m #[(.ref tz), (.ref x1)] 2)) t := fun t k => castTop (ef33 m tz x1) k
  rcases Nat.lt_or_ge 4 n with hlen | hlen
  · skip
    obtain ⟨cq352, kq352, q352a, q352b, q352c⟩ := isOf hZ e0 E_tz
    obtain ⟨_, _, ⟨T352, L352, k352, n352⟩, -, X352, ⟨Lc352, hQ352, l352, y352, z352⟩, st352⟩ := X0.virtualBack hx (y := (⟨"java/lang/String", "length", "()I"⟩ : MethodName)) (z := (⟨"java/lang/String", "length", "()I"⟩ : MethodName)) hown (mvT hZ (own_wd hw 59 rfl)) (mvT hZ (own_wd hw 60 rfl)) (notFace_of_selects (args := #[]) (mvT hZ (own_wd hw 62 rfl))) (mvT hZ (own_wd hw 62 rfl)) (mvT hZ (own_wd hw 61 rfl)) (by decide) (backOf (W := 2) (rm14 l Z a0 hw [] tz tz_value ks f n st_COMPACT_STRINGS h0 n0 Z0 O0 E_tz F_tz_value F_tz_coder V_tz_value S_COMPACT_STRINGS hcomp) hZ (own_wd hw 63 rfl) (own_wd hw 10 rfl) (by decide) (by decide)) q352a q352c (g := (mkF m 3 #[vr tz, vr x1] [(.ref tz), (.ref x1), (.ref tz)])) rfl (by rw [hml]; rfl) (Steps.refl _) (argsL := []) (rest := [(.ref x1), (.ref tz)]) (lenOf pd_5 rfl) rfl (by show 2 * 0 + _ ≤ _; exact Nat.le_of_eq rfl) (hb hby d33_3) (fun _ _ => ⟨rfl, e0, (by decide : 0 + 0 ≤ _), (by decide : 0 + 0 ≤ _)⟩)
    dsimp only [Pt.U, Pt.locs, Pt.cells, Pt.slots] at X352 l352 y352 z352 st352 hQ352
    subst y352 z352
    obtain ⟨rfl, N352q, eh352⟩ := hQ352
    have N352 : Fr n0 L352 := by rw [l352]; exact Fr.app N0 N352q
    obtain ⟨cq353, kq353, q353a, q353b, q353c⟩ := isOf hZ eh352 E_x1
    obtain ⟨_, _, ⟨T353, L353, k353, n353⟩, -, X353, ⟨Lc353, hQ353, l353, y353, z353⟩, st353⟩ := X352.virtualBack hx (y := (⟨"java/lang/String", "length", "()I"⟩ : MethodName)) (z := (⟨"java/lang/String", "length", "()I"⟩ : MethodName)) hown (mvT hZ (own_wd hw 59 rfl)) (mvT hZ (own_wd hw 60 rfl)) (notFace_of_selects (args := #[]) (mvT hZ (own_wd hw 62 rfl))) (mvT hZ (own_wd hw 62 rfl)) (mvT hZ (own_wd hw 61 rfl)) (by decide) (backOf (W := 3) (rm14_c l Z a0 hw [] x1 x1_value kg st_COMPACT_STRINGS h0 n0 Z0 O0 E_x1 F_x1_value F_x1_coder V_x1_value S_COMPACT_STRINGS hcomp) hZ (own_wd hw 63 rfl) (own_wd hw 10 rfl) (by decide) (by decide)) q353a q353c (g := (mkF m 7 #[vr tz, vr x1] [(.ref x1), (.int (Int32.ofNat n)), (.ref x1), (.ref tz)])) rfl (by rw [hml]; rfl) (Steps.refl _) (argsL := []) (rest := [(.int (Int32.ofNat n)), (.ref x1), (.ref tz)]) (lenOf pd_5 rfl) rfl (by show 2 * 0 + _ ≤ _; exact Nat.le_of_eq rfl) (hb hby d33_7) (fun _ _ => ⟨rfl, eh352, (by decide : 0 + 0 ≤ _), (by decide : 0 + 0 ≤ _)⟩)
    dsimp only [Pt.U, Pt.locs, Pt.cells, Pt.slots] at X353 l353 y353 z353 st353 hQ353
    subst y353 z353
    obtain ⟨rfl, N353q, eh353⟩ := hQ353
    have N353 : Fr n0 L353 := by rw [l353]; exact Fr.app N352 N353q
    have rn354 : ((Int32.ofNat n) - (5 : Int32)) = (Int32.ofNat (n - 5)) := own_sub (b := 5) (by omega)
    obtain ⟨cq355, kq355, q355a, q355b, q355c⟩ := isOf hZ eh353 E_tz
    obtain ⟨_, _, ⟨T355, L355, k355, n355⟩, -, X355, ⟨Lc355, hQ355, l355, y355, z355⟩, st355⟩ := X353.virtualBack hx (y := (⟨"java/lang/String", "startsWith", "(Ljava/lang/String;I)Z"⟩ : MethodName)) (z := (⟨"java/lang/String", "startsWith", "(Ljava/lang/String;I)Z"⟩ : MethodName)) hown (mvT hZ (own_wd hw 151 rfl)) (mvT hZ (own_wd hw 152 rfl)) (notFace_of_selects (args := #[]) (mvT hZ (own_wd hw 154 rfl))) (mvT hZ (own_wd hw 154 rfl)) (mvT hZ (own_wd hw 153 rfl)) (by decide) (backOf (W := 0) (rm34_y l Z a0 hw [] tz x1 tz_value x1_value ks f n kg (n - 5) st_COMPACT_STRINGS h0 n0 Z0 O0 E_tz F_tz_value F_tz_coder V_tz_value E_x1 F_x1_value F_x1_coder V_x1_value hp (by omega) (by omega) S_COMPACT_STRINGS hcomp) hZ (own_wd hw 155 rfl) (own_wd hw 10 rfl) (by decide) (by decide)) q355a q355c (g := (mkF m 11 #[vr tz, vr x1] [(.int (Int32.ofNat (n - 5))), (.ref x1), (.ref tz)])) rfl (by rw [hml]; rfl) (Steps.refl _) (argsL := [(.ref x1), (.int (Int32.ofNat (n - 5)))]) (rest := []) (lenOf pd_20 rfl) rfl (by show 2 * 0 + _ ≤ _; exact Nat.le_of_eq rfl) (hb hby d33_11) (fun _ _ => ⟨rfl, eh353, (by decide : 0 + 0 ≤ _), (by decide : 0 + 0 ≤ _)⟩)
    dsimp only [Pt.U, Pt.locs, Pt.cells, Pt.slots] at X355 l355 y355 z355 st355 hQ355
    subst y355 z355
    obtain ⟨rr_355, rfl, N355q, eh355, Q355_0⟩ := hQ355
    have N355 : Fr n0 L355 := by rw [l355]; exact Fr.app N353 N355q
    have pre356 := fun t (kt : SF p e below T355 m 14 #[vr tz, vr x1] [(.int rr_355)] t) => pre0 t (by
      refine XS.aloadN X0.here hx rfl (hb hby d33_0) rfl rfl ?_
      refine XS.aloadN X0.here hx rfl (hb hby d33_1) rfl rfl ?_
      refine XS.aloadN X0.here hx rfl (hb hby d33_2) rfl rfl ?_
      show SF p e below s₁ m 3 _ [(.ref tz), (.ref x1), (.ref tz)] _
      refine st352.trans ?_
      show SF p e below T352 m 6 #[vr tz, vr x1] [(.int (Int32.ofNat n)), (.ref x1), (.ref tz)] _
      refine XS.aloadN X352.here hx rfl (hb hby d33_6) rfl rfl ?_
      show SF p e below T352 m 7 _ [(.ref x1), (.int (Int32.ofNat n)), (.ref x1), (.ref tz)] _
      refine st353.trans ?_
      show SF p e below T353 m 10 #[vr tz, vr x1] [(.int (5 : Int32)), (.int (Int32.ofNat n)), (.ref x1), (.ref tz)] _
      refine XS.isub X353.here hx rfl (hb hby d33_10) rfl ?_
      show SF p e below T353 m 11 _ [(.int ((Int32.ofNat n) - (5 : Int32))), (.ref x1), (.ref tz)] _
      rw [rn354]
      show SF p e below T353 m 11 _ [(.int (Int32.ofNat (n - 5))), (.ref x1), (.ref tz)] _
      refine st355.trans ?_
      exact kt)
    rcases Q355_0 with ⟨hr, hE⟩ | ⟨hr, hE⟩
    · skip
      subst hr
      obtain ⟨fs, hr, hrun, hended, hW, hsame⟩ := X355.leave (v := some (.int (1 : Int32))) (fun h => by rw [Bd.returns] at h; cases h)
      refine ⟨_, _, pre356 _ ?_, hrun, hended, _, _, rfl, ?_, ⟨_, rfl⟩, hW, hsame.mono (by decide) (by decide)⟩
      · show SF p e below T355 m 14 #[vr tz, vr x1] [(.int (1 : Int32))] _
        show SF p e below T355 m 14 _ [(.int (1 : Int32))] _
        exact retN X355 hx (t := .boolean) Bd.returns (by simp) (hb hby d33_14) hr
      · show Q33 Z tz x1 tz_value x1_value ks f n kg st_COMPACT_STRINGS h0 n0 _ T355.heap _
        rw [eh355]
        exact ⟨(1 : Int32), rfl, N355, rfl, (Or.inl ⟨rfl, by omega, hE⟩)⟩
    · skip
      subst hr
      obtain ⟨fs, hr, hrun, hended, hW, hsame⟩ := X355.leave (v := some (.int (0 : Int32))) (fun h => by rw [Bd.returns] at h; cases h)
      refine ⟨_, _, pre356 _ ?_, hrun, hended, _, _, rfl, ?_, ⟨_, rfl⟩, hW, hsame.mono (by decide) (by decide)⟩
      · show SF p e below T355 m 14 #[vr tz, vr x1] [(.int (0 : Int32))] _
        show SF p e below T355 m 14 _ [(.int (0 : Int32))] _
        exact retN X355 hx (t := .boolean) Bd.returns (by simp) (hb hby d33_14) hr
      · show Q33 Z tz x1 tz_value x1_value ks f n kg st_COMPACT_STRINGS h0 n0 _ T355.heap _
        rw [eh355]
        exact ⟨(0 : Int32), rfl, N355, rfl, (Or.inr ⟨rfl, fun z => hE z.2⟩)⟩
  · skip
    obtain ⟨cq357, kq357, q357a, q357b, q357c⟩ := isOf hZ e0 E_tz
    obtain ⟨_, _, ⟨T357, L357, k357, n357⟩, -, X357, ⟨Lc357, hQ357, l357, y357, z357⟩, st357⟩ := X0.virtualBack hx (y := (⟨"java/lang/String", "length", "()I"⟩ : MethodName)) (z := (⟨"java/lang/String", "length", "()I"⟩ : MethodName)) hown (mvT hZ (own_wd hw 59 rfl)) (mvT hZ (own_wd hw 60 rfl)) (notFace_of_selects (args := #[]) (mvT hZ (own_wd hw 62 rfl))) (mvT hZ (own_wd hw 62 rfl)) (mvT hZ (own_wd hw 61 rfl)) (by decide) (backOf (W := 2) (rm14 l Z a0 hw [] tz tz_value ks f n st_COMPACT_STRINGS h0 n0 Z0 O0 E_tz F_tz_value F_tz_coder V_tz_value S_COMPACT_STRINGS hcomp) hZ (own_wd hw 63 rfl) (own_wd hw 10 rfl) (by decide) (by decide)) q357a q357c (g := (mkF m 3 #[vr tz, vr x1] [(.ref tz), (.ref x1), (.ref tz)])) rfl (by rw [hml]; rfl) (Steps.refl _) (argsL := []) (rest := [(.ref x1), (.ref tz)]) (lenOf pd_5 rfl) rfl (by show 2 * 0 + _ ≤ _; exact Nat.le_of_eq rfl) (hb hby d33_3) (fun _ _ => ⟨rfl, e0, (by decide : 0 + 0 ≤ _), (by decide : 0 + 0 ≤ _)⟩)
    dsimp only [Pt.U, Pt.locs, Pt.cells, Pt.slots] at X357 l357 y357 z357 st357 hQ357
    subst y357 z357
    obtain ⟨rfl, N357q, eh357⟩ := hQ357
    have N357 : Fr n0 L357 := by rw [l357]; exact Fr.app N0 N357q
    obtain ⟨cq358, kq358, q358a, q358b, q358c⟩ := isOf hZ eh357 E_x1
    obtain ⟨_, _, ⟨T358, L358, k358, n358⟩, -, X358, ⟨Lc358, hQ358, l358, y358, z358⟩, st358⟩ := X357.virtualBack hx (y := (⟨"java/lang/String", "length", "()I"⟩ : MethodName)) (z := (⟨"java/lang/String", "length", "()I"⟩ : MethodName)) hown (mvT hZ (own_wd hw 59 rfl)) (mvT hZ (own_wd hw 60 rfl)) (notFace_of_selects (args := #[]) (mvT hZ (own_wd hw 62 rfl))) (mvT hZ (own_wd hw 62 rfl)) (mvT hZ (own_wd hw 61 rfl)) (by decide) (backOf (W := 3) (rm14_c l Z a0 hw [] x1 x1_value kg st_COMPACT_STRINGS h0 n0 Z0 O0 E_x1 F_x1_value F_x1_coder V_x1_value S_COMPACT_STRINGS hcomp) hZ (own_wd hw 63 rfl) (own_wd hw 10 rfl) (by decide) (by decide)) q358a q358c (g := (mkF m 7 #[vr tz, vr x1] [(.ref x1), (.int (Int32.ofNat n)), (.ref x1), (.ref tz)])) rfl (by rw [hml]; rfl) (Steps.refl _) (argsL := []) (rest := [(.int (Int32.ofNat n)), (.ref x1), (.ref tz)]) (lenOf pd_5 rfl) rfl (by show 2 * 0 + _ ≤ _; exact Nat.le_of_eq rfl) (hb hby d33_7) (fun _ _ => ⟨rfl, eh357, (by decide : 0 + 0 ≤ _), (by decide : 0 + 0 ≤ _)⟩)
    dsimp only [Pt.U, Pt.locs, Pt.cells, Pt.slots] at X358 l358 y358 z358 st358 hQ358
    subst y358 z358
    obtain ⟨rfl, N358q, eh358⟩ := hQ358
    have N358 : Fr n0 L358 := by rw [l358]; exact Fr.app N357 N358q
    have pp359 : ((Int32.ofNat n) - (5 : Int32)) < (0 : Int32) := own_neg (by omega)
    obtain ⟨cq360, kq360, q360a, q360b, q360c⟩ := isOf hZ eh358 E_tz
    obtain ⟨_, _, ⟨T360, L360, k360, n360⟩, -, X360, ⟨Lc360, hQ360, l360, y360, z360⟩, st360⟩ := X358.virtualBack hx (y := (⟨"java/lang/String", "startsWith", "(Ljava/lang/String;I)Z"⟩ : MethodName)) (z := (⟨"java/lang/String", "startsWith", "(Ljava/lang/String;I)Z"⟩ : MethodName)) hown (mvT hZ (own_wd hw 151 rfl)) (mvT hZ (own_wd hw 152 rfl)) (notFace_of_selects (args := #[]) (mvT hZ (own_wd hw 154 rfl))) (mvT hZ (own_wd hw 154 rfl)) (mvT hZ (own_wd hw 153 rfl)) (by decide) (backOf (W := 0) (rm34_n l Z a0 hw [] tz x1 ((Int32.ofNat n) - (5 : Int32)) tz_value x1_value ks f n kg h0 n0 Z0 O0 pp359 E_tz F_tz_value F_tz_coder V_tz_value E_x1 F_x1_value F_x1_coder V_x1_value hp (by omega)) hZ (own_wd hw 155 rfl) (own_wd hw 10 rfl) (by decide) (by decide)) q360a q360c (g := (mkF m 11 #[vr tz, vr x1] [(.int ((Int32.ofNat n) - (5 : Int32))), (.ref x1), (.ref tz)])) rfl (by rw [hml]; rfl) (Steps.refl _) (argsL := [(.ref x1), (.int ((Int32.ofNat n) - (5 : Int32)))]) (rest := []) (lenOf pd_20 rfl) rfl (by show 2 * 0 + _ ≤ _; exact Nat.le_of_eq rfl) (hb hby d33_11) (fun _ _ => ⟨rfl, eh358, (by decide : 0 + 0 ≤ _), (by decide : 0 + 0 ≤ _)⟩)
    dsimp only [Pt.U, Pt.locs, Pt.cells, Pt.slots] at X360 l360 y360 z360 st360 hQ360
    subst y360 z360
    obtain ⟨rfl, N360q, eh360⟩ := hQ360
    have N360 : Fr n0 L360 := by rw [l360]; exact Fr.app N358 N360q
    obtain ⟨fs, hr, hrun, hended, hW, hsame⟩ := X360.leave (v := some (.int (0 : Int32))) (fun h => by rw [Bd.returns] at h; cases h)
    refine ⟨_, _, pre0 _ ?_, hrun, hended, _, _, rfl, ?_, ⟨_, rfl⟩, hW, hsame.mono (by decide) (by decide)⟩
    · show SF p e below s₁ m 0 #[vr tz, vr x1] [] _
      refine XS.aloadN X0.here hx rfl (hb hby d33_0) rfl rfl ?_
      refine XS.aloadN X0.here hx rfl (hb hby d33_1) rfl rfl ?_
      refine XS.aloadN X0.here hx rfl (hb hby d33_2) rfl rfl ?_
      show SF p e below s₁ m 3 _ [(.ref tz), (.ref x1), (.ref tz)] _
      refine st357.trans ?_
      show SF p e below T357 m 6 #[vr tz, vr x1] [(.int (Int32.ofNat n)), (.ref x1), (.ref tz)] _
      refine XS.aloadN X357.here hx rfl (hb hby d33_6) rfl rfl ?_
      show SF p e below T357 m 7 _ [(.ref x1), (.int (Int32.ofNat n)), (.ref x1), (.ref tz)] _
      refine st358.trans ?_
      show SF p e below T358 m 10 #[vr tz, vr x1] [(.int (5 : Int32)), (.int (Int32.ofNat n)), (.ref x1), (.ref tz)] _
      refine XS.isub X358.here hx rfl (hb hby d33_10) rfl ?_
      show SF p e below T358 m 11 _ [(.int ((Int32.ofNat n) - (5 : Int32))), (.ref x1), (.ref tz)] _
      refine st360.trans ?_
      show SF p e below T360 m 14 #[vr tz, vr x1] [(.int (0 : Int32))] _
      exact retN X360 hx (t := .boolean) Bd.returns (by simp) (hb hby d33_14) hr
    · show Q33 Z tz x1 tz_value x1_value ks f n kg st_COMPACT_STRINGS h0 n0 _ T360.heap _
      rw [eh360]
      exact ⟨(0 : Int32), rfl, N360, rfl, (Or.inr ⟨rfl, fun z => absurd z.1 (by omega)⟩)⟩
theorem d9_0 : decode prog_13_method_4_code 0 = .ok (.aload_n 0, 1) := by decide +kernel
theorem pd_21 : parseMethodDescriptor "(Ljava/lang/String;)Ljava/lang/String;" = some ⟨[(.object "java/lang/String")], some (.object "java/lang/String")⟩ := by decide +kernel
theorem d9_1 : decode prog_13_method_4_code 1 = .ok (.invokestatic 69, 3) := by decide +kernel
theorem d9_4 : decode prog_13_method_4_code 4 = .ok (.astore_n 1, 1) := by decide +kernel
theorem d9_5 : decode prog_13_method_4_code 5 = .ok (.aload_n 1, 1) := by decide +kernel
theorem d9_6 : decode prog_13_method_4_code 6 = .ok (.ldc 73, 2) := by decide +kernel
theorem pd_22 : parseMethodDescriptor "(Ljava/lang/Object;)Z" = some ⟨[(.object "java/lang/Object")], some .boolean⟩ := by decide +kernel
theorem d9_8 : decode prog_13_method_4_code 8 = .ok (.invokevirtual 75, 3) := by decide +kernel
theorem d9_11 : decode prog_13_method_4_code 11 = .ok (.ifCond .ne 12, 3) := by decide +kernel
theorem d9_23 : decode prog_13_method_4_code 23 = .ok (.iconst 1, 1) := by decide +kernel
theorem d9_24 : decode prog_13_method_4_code 24 = .ok (.goto 4, 3) := by decide +kernel
theorem d9_28 : decode prog_13_method_4_code 28 = .ok (.ireturn, 1) := by decide +kernel
theorem d9_14 : decode prog_13_method_4_code 14 = .ok (.aload_n 1, 1) := by decide +kernel
theorem d9_15 : decode prog_13_method_4_code 15 = .ok (.ldc 79, 2) := by decide +kernel
theorem pd_23 : parseMethodDescriptor "(Ljava/lang/String;)Z" = some ⟨[(.object "java/lang/String")], some .boolean⟩ := by decide +kernel
theorem d9_17 : decode prog_13_method_4_code 17 = .ok (.invokevirtual 81, 3) := by decide +kernel
theorem d9_20 : decode prog_13_method_4_code 20 = .ok (.ifCond .eq 7, 3) := by decide +kernel
theorem d9_27 : decode prog_13_method_4_code 27 = .ok (.iconst 0, 1) := by decide +kernel
theorem ef9 (m : MethodId) (x1 : Addr) : entryFrame m #[(.ref x1)] 2 = mkF m 0 #[vr x1, un] [] := by first | (simp [entryFrame, mkF, argsToLocals, Value.category]; done) | rfl
def Q9 (Z : State) (x1 : Addr) (x1_value : Addr) (ks : ClassId) (f : Nat → Int32) (n : Nat) (lb : Addr) (lg : Addr) (lv : Addr) (kl : ClassId) (st_instance : Addr) (st_ROOT : Addr) (st_COMPACT_STRINGS : Int32) (st_fm : Value) (h0 : Heap) (n0 : Nat) (v : Option Value) (h : Heap) (L : List Loc) : Prop := ∃ (rr : Int32), ∃ (ka : Nat), ∃ (ua : Nat), ∃ (ub : Nat), v = some (.int rr) ∧ Fr n0 L ∧ Keep h0 h [] ∧ (own_mt f n ka ua ub) ∧ ((rr = (1 : Int32) ∧ own_js (own_lw (own_sh f ua)) (ub - ua)) ∨ (rr = (0 : Int32) ∧ ¬ own_js (own_lw (own_sh f ua)) (ub - ua)))
set_option maxRecDepth 65536 in
set_option maxHeartbeats 40000000 in
theorem rm9 (l : Launch) (Z : State) (a0 : Array Value) (hw : ∀ d ∈ tables_1, d.before a0 Z = true) (ws : List Jvm.Cond) (x1 : Addr) (x1_value : Addr) (ks : ClassId) (f : Nat → Int32) (n : Nat) (lb : Addr) (lg : Addr) (lv : Addr) (kl : ClassId) (st_instance : Addr) (st_ROOT : Addr) (st_COMPACT_STRINGS : Int32) (st_fm : Value) (h0 : Heap) (n0 : Nat) (Z0 : n0 ≤ h0.size) (O0 : Old Z n0 h0) (E_x1 : Exa Z h0 x1 "java/lang/String") (F_x1_value : Fld Z h0 x1 "java/lang/String" "value" "[B" (.ref x1_value)) (F_x1_coder : Fld Z h0 x1 "java/lang/String" "coder" "B" (.int (0 : Int32))) (V_x1_value : Arv Z h0 x1_value ks .byte (Int32.ofNat n) (own_fv f n) (.int 0)) (hp : ∀ j, j < n → ¬ f j < 0 ∧ ¬ (255 : Int32) < f j) (hn : n ≤ 24) (S_ROOT : Sta Z Z.heap "java/util/Locale" "ROOT" "Ljava/util/Locale;" (.ref st_ROOT)) (E_st_ROOT : Exa Z h0 st_ROOT "java/util/Locale") (F_st_ROOT_baseLocale : Fld Z h0 st_ROOT "java/util/Locale" "baseLocale" "Lsun/util/locale/BaseLocale;" (.ref lb)) (E_lb : Exa Z h0 lb "sun/util/locale/BaseLocale") (F_lb_language : Fld Z h0 lb "sun/util/locale/BaseLocale" "language" "Ljava/lang/String;" (.ref lg)) (F_lg_value : Fld Z h0 lg "java/lang/String" "value" "[B" (.ref lv)) (V_lv : Arv Z h0 lv kl .byte (0 : Int32) [] (.int 0)) (S_instance : Sta Z Z.heap "java/lang/CharacterDataLatin1" "instance" "Ljava/lang/CharacterDataLatin1;" (.ref st_instance)) (E_st_instance : Exa Z h0 st_instance "java/lang/CharacterDataLatin1") (S_COMPACT_STRINGS : Sta Z Z.heap "java/lang/String" "COMPACT_STRINGS" "Z" (.int st_COMPACT_STRINGS)) (hcomp : ¬ (st_COMPACT_STRINGS = (0 : Int32))) (S_fm : Sta Z Z.heap "jdk/internal/util/Preconditions" "SIOOBE_FORMATTER" "Ljava/util/function/BiFunction;" st_fm) (hfm : st_fm.isRef = true) :
    MetFree l (⟨"com/example/prueba/prueba/MediaTypes", "isJson", "(Ljava/lang/String;)Z"⟩ : MethodName) (head1 (Jvm.Cond.code (⟨"com/example/prueba/prueba/MediaTypes", "isJson", "(Ljava/lang/String;)Z"⟩ : MethodName) prog_13_method_4_code 2 (some .boolean) :: ws) ({ frames := 7, cells := 16, slots := 212, locals := 105 } : Room)) (fun a U => a = #[(.ref x1)] ∧ Z.Warmed39 U.vm ∧ U.heap = h0 ∧ CHv Z own_EL U.vm h0) (fun _ _ _ _ _ => True) (fun _ U o U' => ∃ v L, o = .returned v ∧ Q9 Z x1 x1_value ks f n lb lg lv kl st_instance st_ROOT st_COMPACT_STRINGS st_fm h0 n0 v U'.heap L ∧ CHr Z own_EL U.vm U.heap U'.vm U'.heap ∧ ReturnedEndW U o U' L ({ frames := 7, cells := 16, slots := 212, locals := 105 } : Room).cells ({ frames := 7, cells := 16, slots := 212, locals := 105 } : Room).slots) := by
  refine MetFree.of_bodySF (plainFor_of_name pn_com_example_prueba_prueba_MediaTypes) hisR ?_
  intro p e s m args below meth c s₁ Bd hml0 hP hK
  obtain ⟨rfl, hZ, hh, CH0⟩ := hP
  have hx := Bd.exec
  have hby := Bd.bytes
  have hml : c.maxLocals = 2 := hml0
  have hown : (s.setVm s.vm).vm.findClass "com/example/prueba/prueba/MediaTypes" = some m.cls := findClass_of_methodNamed Bd.named
  have hnm := (name_of_methodNamed Bd.named Bd.method).1
  have X0 : Stand p l e ({ frames := 7, cells := 16, slots := 212, locals := 105 } : Room) (s.setVm s.vm) m #[(.ref x1)] below meth c s₁ [] 0 0 := Stand.of_body Bd
  have e0 : s₁.heap = h0 := by rw [← hh, Bd.state]; rfl
  have N0 := Fr.nil n0
  have K0 : Keep h0 h0 [] := Keep.refl _ _
  have pre0 : ∀ t, SF p e below s₁ m 0 #[vr x1, un] [] t → Steps p.tables e below (s₁.setTop (entryFrame m #[(.ref x1)] 2)) t := fun t k => castTop (ef9 m x1) k
  have hZa : Z.Warmed39 (s.setVm s.vm).vm := hZ
  have howna : (s.setVm s.vm).vm.findClass "com/example/prueba/prueba/MediaTypes" = some m.cls := hown
  have hS0 : s.Since s.vm h0.size := (State.WarmedH.refl s).since _
  have hk0 : h0.size ≤ h0.size := Nat.le_refl _
  have CR0 : CHr Z own_EL s.vm h0 s.vm h0 := CHr.refl CH0
  obtain ⟨_, _, ⟨T361, L361, k361, n361⟩, -, X361, hS361, hg361, ⟨Lc361, hQ361, l361, y361, z361, R361⟩, st361⟩ := callSS X0 hx (y := (⟨"com/example/prueba/prueba/MediaTypes", "mediaType", "(Ljava/lang/String;)Ljava/lang/String;"⟩ : MethodName)) howna (mvT hZa (own_wd hw 41 rfl)) (mvT hZa (own_wd hw 42 rfl)) (mvT hZa (own_wd hw 39 rfl)) (mvT hZa (own_wd hw 43 rfl)) (by decide) (backOfSH (s := s) (vm0 := s.vm) (W := 0) (rm10 l Z a0 hw [] x1 x1_value ks f n lb lg lv kl st_instance st_ROOT st_COMPACT_STRINGS st_fm h0 n0 Z0 O0 E_x1 F_x1_value F_x1_coder V_x1_value hp (by omega) S_ROOT E_st_ROOT F_st_ROOT_baseLocale E_lb F_lb_language F_lg_value V_lv S_instance E_st_instance S_COMPACT_STRINGS hcomp S_fm hfm) hZa (own_wd hw 43 rfl) (own_wd hw 39 rfl) (by decide) (by decide) (own_EW hw) CH0) (g := (mkF m 1 #[vr x1, un] [(.ref x1)])) rfl (by rw [hml]; rfl) (argsL := [(.ref x1)]) (rest := []) (lenOf pd_21 rfl) rfl (by show 2 * 0 + _ ≤ _; exact Nat.le_of_eq rfl) (hb hby d9_1) (fun _ _ => ⟨rfl, e0, (by decide : 0 + 12 ≤ _), (by decide : 0 + 120 ≤ _)⟩)
  dsimp only [Pt.U, Pt.locs, Pt.cells, Pt.slots] at X361 l361 y361 z361 st361 hQ361 hS361 hg361 R361
  subst y361 z361
  obtain ⟨X361, hS361, hZ361, hown361⟩ := rebS hS0 hk0 X361 hS361 (by rw [← e0]; exact hg361) hZa howna
  obtain ⟨b_361, t_361, kk_361, ka_361, ua_361, ub_361, rfl, N361q, KK361, Q361_0, Q361_1, Q361_2, Q361_3, Q361_4⟩ := hQ361
  have N361 : Fr n0 L361 := by rw [l361]; exact Fr.app N0 N361q
  have O361 : Old Z n0 T361.heap := O0.keep KK361 all0
  have Z361 : n0 ≤ T361.heap.size := Nat.le_trans Z0 KK361.1
  have K361 : Keep h0 T361.heap [] := K0.trans KK361 all0
  have CH361 : CHv Z own_EL T361.vm T361.heap := R361.1
  have CR361 : CHr Z own_EL s.vm h0 T361.vm T361.heap := CR0.trans R361
  obtain ⟨hua, hub⟩ := own_mtle Q361_4
  obtain ⟨b362, T362, h362, k362, t362, kb362, X362, e362, E362, hS362, hk362, hZ362, hown362, Ex362, Co362, Va362, Ar362, lta362, ltb362, R362, Lt362, sep362, st362⟩ := ldcCH (s := s) (vm0 := T361.vm) X361 hx hZ361 hown361 (own_wd hw 133 rfl) (own_wS hw) rfl hS361 (Nat.le_refl _) (own_EW hw) (List.mem_of_getElem? (i := 0) rfl) CH361 (vs := [(.int (97 : Int32)), (.int (112 : Int32)), (.int (112 : Int32)), (.int (108 : Int32)), (.int (105 : Int32)), (.int (99 : Int32)), (.int (97 : Int32)), (.int (116 : Int32)), (.int (105 : Int32)), (.int (111 : Int32)), (.int (110 : Int32)), (.int (47 : Int32)), (.int (106 : Int32)), (.int (115 : Int32)), (.int (111 : Int32)), (.int (110 : Int32))]) (z := (16 : Int32)) ⟨by decide +kernel, by decide +kernel⟩ (by decide) (by decide) (g := (mkF m 6 #[vr x1, vr b_361] [(.ref b_361)])) rfl (hb hby d9_6) (n := 64) (by decide +kernel) (by decide) (by decide) (by decide)
  have O362 : Old Z n0 h362 := O361.ext E362
  have Z362 : n0 ≤ h362.size := Nat.le_trans Z361 E362.1
  have K362 : Keep h0 h362 [] := K361.ext E362
  have CH362 : CHv Z own_EL T362.vm h362 := R362.1
  have CR362 : CHr Z own_EL s.vm h0 T362.vm h362 := CR361.trans R362
  have V363 : Arv Z h362 t362 kb362 .byte (Int32.ofNat 16) (own_fv own_ap 16) (.int 0) := by rw [own_apV]; exact Ar362
  have F364 : Fld Z h362 b_361 "java/lang/String" "value" "[B" (.ref t_361) := (Q361_1.ext E362)
  have F365 : Fld Z h362 b_361 "java/lang/String" "coder" "B" (.int (0 : Int32)) := (Q361_2.ext E362)
  have C366 : Exa Z h362 b_361 "java/lang/String" := (Q361_0.ext E362)
  have V367 : Arv Z h362 t_361 kk_361 .byte (Int32.ofNat (ub_361 - ua_361)) (own_fv (own_lw (own_sh f ua_361)) (ub_361 - ua_361)) (.int 0) := (Q361_3.ext E362)
  obtain ⟨cq368, kq368, q368a, q368b, q368c⟩ := isOf hZ362 e362 C366
  obtain ⟨_, _, ⟨T368, L368, k368, n368⟩, -, X368, ⟨Lc368, hQ368, l368, y368, z368⟩, st368⟩ := X362.virtualBack hx (y := (⟨"java/lang/String", "equals", "(Ljava/lang/Object;)Z"⟩ : MethodName)) (z := (⟨"java/lang/String", "equals", "(Ljava/lang/Object;)Z"⟩ : MethodName)) hown362 (mvT hZ362 (own_wd hw 136 rfl)) (mvT hZ362 (own_wd hw 137 rfl)) (notFace_of_selects (args := #[]) (mvT hZ362 (own_wd hw 139 rfl))) (mvT hZ362 (own_wd hw 139 rfl)) (mvT hZ362 (own_wd hw 138 rfl)) (by decide) (backOf (W := 0) (rm31 l Z a0 hw [] b_361 b362 t_361 t362 kk_361 (own_lw (own_sh f ua_361)) (ub_361 - ua_361) kb362 own_ap 16 st_COMPACT_STRINGS h362 n0 Z362 O362 C366 F364 F365 V367 Ex362 Va362 Co362 V363 (own_hpmt hp Q361_4) (by omega) own_aprange (by omega) S_COMPACT_STRINGS hcomp) hZ362 (own_wd hw 140 rfl) (own_wd hw 10 rfl) (by decide) (by decide)) q368a q368c (g := (mkF m 8 #[vr x1, vr b_361] [(.ref b362), (.ref b_361)])) rfl (by rw [hml]; rfl) (Steps.refl _) (argsL := [(.ref b362)]) (rest := []) (lenOf pd_22 rfl) rfl (by show 2 * 0 + _ ≤ _; exact Nat.le_of_eq rfl) (hb hby d9_8) (fun _ _ => ⟨rfl, e362, (by decide : 14 + 0 ≤ _), (by decide : 188 + 0 ≤ _)⟩)
  dsimp only [Pt.U, Pt.locs, Pt.cells, Pt.slots] at X368 l368 y368 z368 st368 hQ368
  subst y368 z368
  obtain ⟨rr_368, rfl, N368q, eh368, Q368_0⟩ := hQ368
  have N368 : Fr n0 L368 := by rw [l368]; exact Fr.app N361 N368q
  have pre369 := fun t (kt : SF p e below T368 m 11 #[vr x1, vr b_361] [(.int rr_368)] t) => pre0 t (by
    refine XS.aloadN X0.here hx rfl (hb hby d9_0) rfl rfl ?_
    show SF p e below s₁ m 1 _ [(.ref x1)] _
    refine st361.trans ?_
    show SF p e below T361 m 4 #[vr x1, un] [(.ref b_361)] _
    refine XS.astoreN X361.here hx rfl (hb hby d9_4) rfl rfl (l' := #[vr x1, vr b_361]) rfl ?_
    refine XS.aloadN X361.here hx rfl (hb hby d9_5) rfl rfl ?_
    show SF p e below T361 m 6 _ [(.ref b_361)] _
    refine st362 _ ?_
    show SF p e below T362 m 8 #[vr x1, vr b_361] [(.ref b362), (.ref b_361)] _
    refine st368.trans ?_
    exact kt)
  rcases Q368_0 with ⟨hr, hE1⟩ | ⟨hr, hE1⟩
  · skip
    subst hr
    obtain ⟨fs, hr, hrun, hended, hW, hsame⟩ := X368.leave (v := some (.int (1 : Int32))) (fun h => by rw [Bd.returns] at h; cases h)
    have hend := hS362.ended hW (show _ ≤ T368.heap.size from by rw [eh368]; exact hk362) hsame
    have hcr : CHr Z own_EL s.vm s.heap T368.vm T368.heap := by
      rw [hh, eh368]
      exact CR362.trans (CHv.at X368 hZ362 (own_EW hw) CH362)
    refine ⟨_, _, pre369 _ ?_, hrun, hended, _, _, rfl, ?_, hcr, ⟨_, rfl⟩, hend.1, hend.2.1, hend.2.2.mono (by decide) (by decide)⟩
    · show SF p e below T368 m 11 #[vr x1, vr b_361] [(.int (1 : Int32))] _
      refine XS.ifYes X368.here hx rfl (pc0 := 11) (pc' := 23) rfl (hb hby d9_11) rfl ((if0 _ _).trans (feq (by decide : ¬ ((1 : Int32) = (0 : Int32)))).2) (by decide) (by decide) ?_
      refine XS.iconst X368.here hx rfl (hb hby d9_23) ?_
      refine XS.goto X368.here hx rfl (pc0 := 24) (pc' := 28) rfl (hb hby d9_24) (by decide) (by decide) ?_
      show SF p e below T368 m 28 _ [(.int (1 : Int32))] _
      exact retN X368 hx (t := .boolean) Bd.returns (by simp) (hb hby d9_28) hr
    · show Q9 Z x1 x1_value ks f n lb lg lv kl st_instance st_ROOT st_COMPACT_STRINGS st_fm h0 n0 _ T368.heap _
      rw [eh368]
      exact ⟨(1 : Int32), ka_361, ua_361, ub_361, rfl, N368, K362, Q361_4, (Or.inl ⟨rfl, Or.inl hE1⟩)⟩
  · skip
    subst hr
    obtain ⟨b370, T370, h370, k370, t370, kb370, X370, e370, E370, hS370, hk370, hZ370, hown370, Ex370, Co370, Va370, Ar370, lta370, ltb370, R370, Lt370, sep370, st370⟩ := ldcCH (s := s) (vm0 := T362.vm) X368 hx hZ362 hown362 (own_wd hw 145 rfl) (own_wS hw) eh368 hS362 hk362 (own_EW hw) (List.mem_of_getElem? (i := 1) rfl) CH362 (vs := [(.int (43 : Int32)), (.int (106 : Int32)), (.int (115 : Int32)), (.int (111 : Int32)), (.int (110 : Int32))]) (z := (5 : Int32)) ⟨by decide +kernel, by decide +kernel⟩ (by decide) (by decide) (g := (mkF m 15 #[vr x1, vr b_361] [(.ref b_361)])) rfl (hb hby d9_15) (n := 20) (by decide +kernel) (by decide) (by decide) (by decide)
    have O370 : Old Z n0 h370 := O362.ext E370
    have Z370 : n0 ≤ h370.size := Nat.le_trans Z362 E370.1
    have K370 : Keep h0 h370 [] := K362.ext E370
    have CH370 : CHv Z own_EL T370.vm h370 := R370.1
    have CR370 : CHr Z own_EL s.vm h0 T370.vm h370 := CR362.trans R370
    have F371 : Fld Z h370 b_361 "java/lang/String" "value" "[B" (.ref t_361) := (F364.ext E370)
    have F372 : Fld Z h370 b_361 "java/lang/String" "coder" "B" (.int (0 : Int32)) := (F365.ext E370)
    have C373 : Exa Z h370 b_361 "java/lang/String" := (C366.ext E370)
    have V374 : Arv Z h370 t_361 kk_361 .byte (Int32.ofNat (ub_361 - ua_361)) (own_fv (own_lw (own_sh f ua_361)) (ub_361 - ua_361)) (.int 0) := (V367.ext E370)
    obtain ⟨cq375, kq375, q375a, q375b, q375c⟩ := isOf hZ370 e370 C373
    obtain ⟨_, _, ⟨T375, L375, k375, n375⟩, -, X375, ⟨Lc375, hQ375, l375, y375, z375⟩, st375⟩ := X370.virtualBack hx (y := (⟨"java/lang/String", "endsWith", "(Ljava/lang/String;)Z"⟩ : MethodName)) (z := (⟨"java/lang/String", "endsWith", "(Ljava/lang/String;)Z"⟩ : MethodName)) hown370 (mvT hZ370 (own_wd hw 146 rfl)) (mvT hZ370 (own_wd hw 147 rfl)) (notFace_of_selects (args := #[]) (mvT hZ370 (own_wd hw 149 rfl))) (mvT hZ370 (own_wd hw 149 rfl)) (mvT hZ370 (own_wd hw 148 rfl)) (by decide) (backOf (W := 0) (rm33 l Z a0 hw [] b_361 b370 t_361 t370 kk_361 (own_lw (own_sh f ua_361)) (ub_361 - ua_361) kb370 st_COMPACT_STRINGS h370 n0 Z370 O370 C373 F371 F372 V374 Ex370 Va370 Co370 Ar370 (own_hpmt hp Q361_4) (by omega) S_COMPACT_STRINGS hcomp) hZ370 (own_wd hw 150 rfl) (own_wd hw 10 rfl) (by decide) (by decide)) q375a q375c (g := (mkF m 17 #[vr x1, vr b_361] [(.ref b370), (.ref b_361)])) rfl (by rw [hml]; rfl) (Steps.refl _) (argsL := [(.ref b370)]) (rest := []) (lenOf pd_23 rfl) rfl (by show 2 * 0 + _ ≤ _; exact Nat.le_of_eq rfl) (hb hby d9_17) (fun _ _ => ⟨rfl, e370, (by decide : 16 + 0 ≤ _), (by decide : 212 + 0 ≤ _)⟩)
    dsimp only [Pt.U, Pt.locs, Pt.cells, Pt.slots] at X375 l375 y375 z375 st375 hQ375
    subst y375 z375
    obtain ⟨rr_375, rfl, N375q, eh375, Q375_0⟩ := hQ375
    have N375 : Fr n0 L375 := by rw [l375]; exact Fr.app N368 N375q
    have pre376 := fun t (kt : SF p e below T375 m 20 #[vr x1, vr b_361] [(.int rr_375)] t) => pre369 t (by
      refine XS.ifNo X368.here hx rfl (hb hby d9_11) rfl ((if0 _ _).trans (teq (by decide : (0 : Int32) = (0 : Int32))).2) ?_
      refine XS.aloadN X368.here hx rfl (hb hby d9_14) rfl rfl ?_
      show SF p e below T368 m 15 _ [(.ref b_361)] _
      refine st370 _ ?_
      show SF p e below T370 m 17 #[vr x1, vr b_361] [(.ref b370), (.ref b_361)] _
      refine st375.trans ?_
      exact kt)
    rcases Q375_0 with ⟨hr, hE2⟩ | ⟨hr, hE2⟩
    · skip
      subst hr
      obtain ⟨fs, hr, hrun, hended, hW, hsame⟩ := X375.leave (v := some (.int (1 : Int32))) (fun h => by rw [Bd.returns] at h; cases h)
      have hend := hS370.ended hW (show _ ≤ T375.heap.size from by rw [eh375]; exact hk370) hsame
      have hcr : CHr Z own_EL s.vm s.heap T375.vm T375.heap := by
        rw [hh, eh375]
        exact CR370.trans (CHv.at X375 hZ370 (own_EW hw) CH370)
      refine ⟨_, _, pre376 _ ?_, hrun, hended, _, _, rfl, ?_, hcr, ⟨_, rfl⟩, hend.1, hend.2.1, hend.2.2.mono (by decide) (by decide)⟩
      · show SF p e below T375 m 20 #[vr x1, vr b_361] [(.int (1 : Int32))] _
        refine XS.ifNo X375.here hx rfl (hb hby d9_20) rfl ((if0 _ _).trans (feq (by decide : ¬ ((1 : Int32) = (0 : Int32)))).1) ?_
        refine XS.iconst X375.here hx rfl (hb hby d9_23) ?_
        refine XS.goto X375.here hx rfl (pc0 := 24) (pc' := 28) rfl (hb hby d9_24) (by decide) (by decide) ?_
        show SF p e below T375 m 28 _ [(.int (1 : Int32))] _
        exact retN X375 hx (t := .boolean) Bd.returns (by simp) (hb hby d9_28) hr
      · show Q9 Z x1 x1_value ks f n lb lg lv kl st_instance st_ROOT st_COMPACT_STRINGS st_fm h0 n0 _ T375.heap _
        rw [eh375]
        exact ⟨(1 : Int32), ka_361, ua_361, ub_361, rfl, N375, K370, Q361_4, (Or.inl ⟨rfl, Or.inr hE2⟩)⟩
    · skip
      subst hr
      obtain ⟨fs, hr, hrun, hended, hW, hsame⟩ := X375.leave (v := some (.int (0 : Int32))) (fun h => by rw [Bd.returns] at h; cases h)
      have hend := hS370.ended hW (show _ ≤ T375.heap.size from by rw [eh375]; exact hk370) hsame
      have hcr : CHr Z own_EL s.vm s.heap T375.vm T375.heap := by
        rw [hh, eh375]
        exact CR370.trans (CHv.at X375 hZ370 (own_EW hw) CH370)
      refine ⟨_, _, pre376 _ ?_, hrun, hended, _, _, rfl, ?_, hcr, ⟨_, rfl⟩, hend.1, hend.2.1, hend.2.2.mono (by decide) (by decide)⟩
      · show SF p e below T375 m 20 #[vr x1, vr b_361] [(.int (0 : Int32))] _
        refine XS.ifYes X375.here hx rfl (pc0 := 20) (pc' := 27) rfl (hb hby d9_20) rfl ((if0 _ _).trans (teq (by decide : (0 : Int32) = (0 : Int32))).1) (by decide) (by decide) ?_
        refine XS.iconst X375.here hx rfl (hb hby d9_27) ?_
        show SF p e below T375 m 28 _ [(.int (0 : Int32))] _
        exact retN X375 hx (t := .boolean) Bd.returns (by simp) (hb hby d9_28) hr
      · show Q9 Z x1 x1_value ks f n lb lg lv kl st_instance st_ROOT st_COMPACT_STRINGS st_fm h0 n0 _ T375.heap _
        rw [eh375]
        exact ⟨(0 : Int32), ka_361, ua_361, ub_361, rfl, N375, K370, Q361_4, (Or.inr ⟨rfl, fun z => z.elim hE1 hE2⟩)⟩
theorem d2_0 : decode method_2_code 0 = .ok (.iload_n 1, 1) := by decide +kernel
theorem d2_1 : decode method_2_code 1 = .ok (.ifCond .eq 11, 3) := by decide +kernel
theorem d2_12 : decode method_2_code 12 = .ok (.iload_n 0, 1) := by decide +kernel
theorem d2_13 : decode method_2_code 13 = .ok (.ireturn, 1) := by decide +kernel
theorem d2_4 : decode method_2_code 4 = .ok (.iload_n 0, 1) := by decide +kernel
theorem d2_5 : decode method_2_code 5 = .ok (.bipush 32, 2) := by decide +kernel
theorem d2_7 : decode method_2_code 7 = .ok (.isub, 1) := by decide +kernel
theorem d2_8 : decode method_2_code 8 = .ok (.i2c, 1) := by decide +kernel
theorem d2_9 : decode method_2_code 9 = .ok (.goto 4, 3) := by decide +kernel
theorem pn_com_example_prueba_prueba_MediaTypesIsJsonPinLaw : plainName "com/example/prueba/prueba/MediaTypesIsJsonPinLaw" = true := by first | (simp [plainName, overriddenIn]; done) | decide +kernel
theorem ef2 (m : MethodId) (x1 : Int32) (x2 : Int32) : entryFrame m #[(.int x1), (.int x2)] 2 = mkF m 0 #[vi x1, vi x2] [] := by first | (simp [entryFrame, mkF, argsToLocals, Value.category]; done) | rfl
def Q2 (Z : State) (x1 : Int32) (x2 : Int32) (h0 : Heap) (n0 : Nat) (v : Option Value) (h : Heap) (L : List Loc) : Prop := v = some (.int (own_cased x1 x2)) ∧ Fr n0 L ∧ h = h0
set_option maxRecDepth 65536 in
set_option maxHeartbeats 40000000 in
theorem rm2 (l : Launch) (Z : State) (a0 : Array Value) (hw : ∀ d ∈ tables_1, d.before a0 Z = true) (ws : List Jvm.Cond) (x1 : Int32) (x2 : Int32) (h0 : Heap) (n0 : Nat) (Z0 : n0 ≤ h0.size) (O0 : Old Z n0 h0) :
    MetFree l (⟨"com/example/prueba/prueba/MediaTypesIsJsonPinLaw", "cased", "(CZ)C"⟩ : MethodName) (head1 (Jvm.Cond.code (⟨"com/example/prueba/prueba/MediaTypesIsJsonPinLaw", "cased", "(CZ)C"⟩ : MethodName) method_2_code 2 (some .char) :: ws) ({ frames := 0, cells := 0, slots := 0, locals := 0 } : Room)) (fun a U => a = #[(.int x1), (.int x2)] ∧ Z.Warmed39 U.vm ∧ U.heap = h0) (fun _ _ _ _ _ => True) (fun _ U o U' => ∃ v L, o = .returned v ∧ Q2 Z x1 x2 h0 n0 v U'.heap L ∧ FrameEnd U o U' L ({ frames := 0, cells := 0, slots := 0, locals := 0 } : Room).cells ({ frames := 0, cells := 0, slots := 0, locals := 0 } : Room).slots) := by
  refine MetFree.of_bodySF (plainFor_of_name pn_com_example_prueba_prueba_MediaTypesIsJsonPinLaw) hisR ?_
  intro p e s m args below meth c s₁ Bd hml0 hP hK
  obtain ⟨rfl, hZ, hh⟩ := hP
  have hx := Bd.exec
  have hby := Bd.bytes
  have hml : c.maxLocals = 2 := hml0
  have hown : s.vm.findClass "com/example/prueba/prueba/MediaTypesIsJsonPinLaw" = some m.cls := findClass_of_methodNamed Bd.named
  have hnm := (name_of_methodNamed Bd.named Bd.method).1
  have X0 : Stand p l e ({ frames := 0, cells := 0, slots := 0, locals := 0 } : Room) s m #[(.int x1), (.int x2)] below meth c s₁ [] 0 0 := Stand.of_body Bd
  have e0 : s₁.heap = h0 := by rw [← hh, Bd.state]; rfl
  have N0 := Fr.nil n0
  have K0 : Keep h0 h0 [] := Keep.refl _ _
  have pre0 : ∀ t, SF p e below s₁ m 0 #[vi x1, vi x2] [] t → Steps p.tables e below (s₁.setTop (entryFrame m #[(.int x1), (.int x2)] 2)) t := fun t k => castTop (ef2 m x1 x2) k
  have pre377 := fun t (kt : SF p e below s₁ m 1 #[vi x1, vi x2] [(.int x2)] t) => pre0 t (by
    refine XS.iloadN X0.here hx rfl (hb hby d2_0) rfl ?_
    exact kt)
  by_cases hc1 : x2 = (0 : Int32)
  · skip
    obtain ⟨fs, hr, hrun, hended, hW, hsame⟩ := X0.leave (v := some (.int (x1.toUInt32.toUInt16.toUInt32.toInt32))) (fun h => by rw [Bd.returns] at h; cases h)
    refine ⟨_, _, pre377 _ ?_, hrun, hended, _, _, rfl, ?_, ⟨_, rfl⟩, hW, hsame.mono (by decide) (by decide)⟩
    · show SF p e below s₁ m 1 #[vi x1, vi x2] [(.int x2)] _
      refine XS.ifYes X0.here hx rfl (pc0 := 1) (pc' := 12) rfl (hb hby d2_1) rfl ((if0 _ _).trans (teq hc1).1) (by decide) (by decide) ?_
      refine XS.iloadN X0.here hx rfl (hb hby d2_12) rfl ?_
      show SF p e below s₁ m 13 _ [(.int x1)] _
      exact retN X0 hx (t := .char) Bd.returns (by simp) (hb hby d2_13) hr
    · show Q2 Z x1 x2 h0 n0 _ s₁.heap _
      rw [e0]
      exact ⟨(by unfold own_cased; first | rw [if_pos (by assumption)] | rw [if_neg (by assumption)]), N0, rfl⟩
  · skip
    obtain ⟨fs, hr, hrun, hended, hW, hsame⟩ := X0.leave (v := some (.int (((x1 - (32 : Int32)).toUInt32.toUInt16.toUInt32.toInt32).toUInt32.toUInt16.toUInt32.toInt32))) (fun h => by rw [Bd.returns] at h; cases h)
    refine ⟨_, _, pre377 _ ?_, hrun, hended, _, _, rfl, ?_, ⟨_, rfl⟩, hW, hsame.mono (by decide) (by decide)⟩
    · show SF p e below s₁ m 1 #[vi x1, vi x2] [(.int x2)] _
      refine XS.ifNo X0.here hx rfl (hb hby d2_1) rfl ((if0 _ _).trans (feq hc1).1) ?_
      refine XS.iloadN X0.here hx rfl (hb hby d2_4) rfl ?_
      refine XS.bipush X0.here hx rfl (hb hby d2_5) ?_
      refine XS.isub X0.here hx rfl (hb hby d2_7) rfl ?_
      refine XS.i2c X0.here hx rfl (hb hby d2_8) rfl ?_
      show SF p e below s₁ m 9 _ [(.int ((x1 - (32 : Int32)).toUInt32.toUInt16.toUInt32.toInt32))] _
      refine XS.goto X0.here hx rfl (pc0 := 9) (pc' := 13) rfl (hb hby d2_9) (by decide) (by decide) ?_
      show SF p e below s₁ m 13 _ [(.int ((x1 - (32 : Int32)).toUInt32.toUInt16.toUInt32.toInt32))] _
      exact retN X0 hx (t := .char) Bd.returns (by simp) (hb hby d2_13) hr
    · show Q2 Z x1 x2 h0 n0 _ s₁.heap _
      rw [e0]
      exact ⟨(by unfold own_cased; first | rw [if_pos (by assumption)] | rw [if_neg (by assumption)]), N0, rfl⟩
theorem d1_0 : decode method_3_code 0 = .ok (.aload_n 0, 1) := by decide +kernel
theorem d1_1 : decode method_3_code 1 = .ok (.iload_n 1, 1) := by decide +kernel
theorem d1_2 : decode method_3_code 2 = .ok (.iload_n 2, 1) := by decide +kernel
theorem d1_3 : decode method_3_code 3 = .ok (.castore, 1) := by decide +kernel
theorem d1_4 : decode method_3_code 4 = .ok (.aload_n 0, 1) := by decide +kernel
theorem d1_5 : decode method_3_code 5 = .ok (.iload_n 1, 1) := by decide +kernel
theorem d1_6 : decode method_3_code 6 = .ok (.iconst 1, 1) := by decide +kernel
theorem d1_7 : decode method_3_code 7 = .ok (.iadd, 1) := by decide +kernel
theorem d1_8 : decode method_3_code 8 = .ok (.bipush 112, 2) := by decide +kernel
theorem d1_10 : decode method_3_code 10 = .ok (.iload 5, 2) := by decide +kernel
theorem pd_24 : parseMethodDescriptor "(CZ)C" = some ⟨[.char, .boolean], some .char⟩ := by decide +kernel
theorem d1_12 : decode method_3_code 12 = .ok (.invokestatic 7, 3) := by decide +kernel
theorem d1_15 : decode method_3_code 15 = .ok (.castore, 1) := by decide +kernel
theorem d1_16 : decode method_3_code 16 = .ok (.aload_n 0, 1) := by decide +kernel
theorem d1_17 : decode method_3_code 17 = .ok (.iload_n 1, 1) := by decide +kernel
theorem d1_18 : decode method_3_code 18 = .ok (.iconst 2, 1) := by decide +kernel
theorem d1_19 : decode method_3_code 19 = .ok (.iadd, 1) := by decide +kernel
theorem d1_20 : decode method_3_code 20 = .ok (.bipush 112, 2) := by decide +kernel
theorem d1_22 : decode method_3_code 22 = .ok (.iload 5, 2) := by decide +kernel
theorem d1_24 : decode method_3_code 24 = .ok (.invokestatic 7, 3) := by decide +kernel
theorem d1_27 : decode method_3_code 27 = .ok (.castore, 1) := by decide +kernel
theorem d1_28 : decode method_3_code 28 = .ok (.aload_n 0, 1) := by decide +kernel
theorem d1_29 : decode method_3_code 29 = .ok (.iload_n 1, 1) := by decide +kernel
theorem d1_30 : decode method_3_code 30 = .ok (.iconst 3, 1) := by decide +kernel
theorem d1_31 : decode method_3_code 31 = .ok (.iadd, 1) := by decide +kernel
theorem d1_32 : decode method_3_code 32 = .ok (.bipush 108, 2) := by decide +kernel
theorem d1_34 : decode method_3_code 34 = .ok (.iload 5, 2) := by decide +kernel
theorem d1_36 : decode method_3_code 36 = .ok (.invokestatic 7, 3) := by decide +kernel
theorem d1_39 : decode method_3_code 39 = .ok (.castore, 1) := by decide +kernel
theorem d1_40 : decode method_3_code 40 = .ok (.aload_n 0, 1) := by decide +kernel
theorem d1_41 : decode method_3_code 41 = .ok (.iload_n 1, 1) := by decide +kernel
theorem d1_42 : decode method_3_code 42 = .ok (.iconst 4, 1) := by decide +kernel
theorem d1_43 : decode method_3_code 43 = .ok (.iadd, 1) := by decide +kernel
theorem d1_44 : decode method_3_code 44 = .ok (.bipush 105, 2) := by decide +kernel
theorem d1_46 : decode method_3_code 46 = .ok (.iload 5, 2) := by decide +kernel
theorem d1_48 : decode method_3_code 48 = .ok (.invokestatic 7, 3) := by decide +kernel
theorem d1_51 : decode method_3_code 51 = .ok (.castore, 1) := by decide +kernel
theorem d1_52 : decode method_3_code 52 = .ok (.aload_n 0, 1) := by decide +kernel
theorem d1_53 : decode method_3_code 53 = .ok (.iload_n 1, 1) := by decide +kernel
theorem d1_54 : decode method_3_code 54 = .ok (.iconst 5, 1) := by decide +kernel
theorem d1_55 : decode method_3_code 55 = .ok (.iadd, 1) := by decide +kernel
theorem d1_56 : decode method_3_code 56 = .ok (.bipush 99, 2) := by decide +kernel
theorem d1_58 : decode method_3_code 58 = .ok (.iload 5, 2) := by decide +kernel
theorem d1_60 : decode method_3_code 60 = .ok (.invokestatic 7, 3) := by decide +kernel
theorem d1_63 : decode method_3_code 63 = .ok (.castore, 1) := by decide +kernel
theorem d1_64 : decode method_3_code 64 = .ok (.aload_n 0, 1) := by decide +kernel
theorem d1_65 : decode method_3_code 65 = .ok (.iload_n 1, 1) := by decide +kernel
theorem d1_66 : decode method_3_code 66 = .ok (.bipush 6, 2) := by decide +kernel
theorem d1_68 : decode method_3_code 68 = .ok (.iadd, 1) := by decide +kernel
theorem d1_69 : decode method_3_code 69 = .ok (.bipush 97, 2) := by decide +kernel
theorem d1_71 : decode method_3_code 71 = .ok (.iload 5, 2) := by decide +kernel
theorem d1_73 : decode method_3_code 73 = .ok (.invokestatic 7, 3) := by decide +kernel
theorem d1_76 : decode method_3_code 76 = .ok (.castore, 1) := by decide +kernel
theorem d1_77 : decode method_3_code 77 = .ok (.aload_n 0, 1) := by decide +kernel
theorem d1_78 : decode method_3_code 78 = .ok (.iload_n 1, 1) := by decide +kernel
theorem d1_79 : decode method_3_code 79 = .ok (.bipush 7, 2) := by decide +kernel
theorem d1_81 : decode method_3_code 81 = .ok (.iadd, 1) := by decide +kernel
theorem d1_82 : decode method_3_code 82 = .ok (.bipush 116, 2) := by decide +kernel
theorem d1_84 : decode method_3_code 84 = .ok (.iload 5, 2) := by decide +kernel
theorem d1_86 : decode method_3_code 86 = .ok (.invokestatic 7, 3) := by decide +kernel
theorem d1_89 : decode method_3_code 89 = .ok (.castore, 1) := by decide +kernel
theorem d1_90 : decode method_3_code 90 = .ok (.aload_n 0, 1) := by decide +kernel
theorem d1_91 : decode method_3_code 91 = .ok (.iload_n 1, 1) := by decide +kernel
theorem d1_92 : decode method_3_code 92 = .ok (.bipush 8, 2) := by decide +kernel
theorem d1_94 : decode method_3_code 94 = .ok (.iadd, 1) := by decide +kernel
theorem d1_95 : decode method_3_code 95 = .ok (.bipush 105, 2) := by decide +kernel
theorem d1_97 : decode method_3_code 97 = .ok (.iload 5, 2) := by decide +kernel
theorem d1_99 : decode method_3_code 99 = .ok (.invokestatic 7, 3) := by decide +kernel
theorem d1_102 : decode method_3_code 102 = .ok (.castore, 1) := by decide +kernel
theorem d1_103 : decode method_3_code 103 = .ok (.aload_n 0, 1) := by decide +kernel
theorem d1_104 : decode method_3_code 104 = .ok (.iload_n 1, 1) := by decide +kernel
theorem d1_105 : decode method_3_code 105 = .ok (.bipush 9, 2) := by decide +kernel
theorem d1_107 : decode method_3_code 107 = .ok (.iadd, 1) := by decide +kernel
theorem d1_108 : decode method_3_code 108 = .ok (.bipush 111, 2) := by decide +kernel
theorem d1_110 : decode method_3_code 110 = .ok (.iload 5, 2) := by decide +kernel
theorem d1_112 : decode method_3_code 112 = .ok (.invokestatic 7, 3) := by decide +kernel
theorem d1_115 : decode method_3_code 115 = .ok (.castore, 1) := by decide +kernel
theorem d1_116 : decode method_3_code 116 = .ok (.aload_n 0, 1) := by decide +kernel
theorem d1_117 : decode method_3_code 117 = .ok (.iload_n 1, 1) := by decide +kernel
theorem d1_118 : decode method_3_code 118 = .ok (.bipush 10, 2) := by decide +kernel
theorem d1_120 : decode method_3_code 120 = .ok (.iadd, 1) := by decide +kernel
theorem d1_121 : decode method_3_code 121 = .ok (.bipush 110, 2) := by decide +kernel
theorem d1_123 : decode method_3_code 123 = .ok (.iload 5, 2) := by decide +kernel
theorem d1_125 : decode method_3_code 125 = .ok (.invokestatic 7, 3) := by decide +kernel
theorem d1_128 : decode method_3_code 128 = .ok (.castore, 1) := by decide +kernel
theorem d1_129 : decode method_3_code 129 = .ok (.aload_n 0, 1) := by decide +kernel
theorem d1_130 : decode method_3_code 130 = .ok (.iload_n 1, 1) := by decide +kernel
theorem d1_131 : decode method_3_code 131 = .ok (.bipush 11, 2) := by decide +kernel
theorem d1_133 : decode method_3_code 133 = .ok (.iadd, 1) := by decide +kernel
theorem d1_134 : decode method_3_code 134 = .ok (.iload_n 3, 1) := by decide +kernel
theorem d1_135 : decode method_3_code 135 = .ok (.castore, 1) := by decide +kernel
theorem d1_136 : decode method_3_code 136 = .ok (.aload_n 0, 1) := by decide +kernel
theorem d1_137 : decode method_3_code 137 = .ok (.iload_n 1, 1) := by decide +kernel
theorem d1_138 : decode method_3_code 138 = .ok (.bipush 12, 2) := by decide +kernel
theorem d1_140 : decode method_3_code 140 = .ok (.iadd, 1) := by decide +kernel
theorem d1_141 : decode method_3_code 141 = .ok (.iload 4, 2) := by decide +kernel
theorem d1_143 : decode method_3_code 143 = .ok (.castore, 1) := by decide +kernel
theorem d1_144 : decode method_3_code 144 = .ok (.aload_n 0, 1) := by decide +kernel
theorem d1_145 : decode method_3_code 145 = .ok (.iload_n 1, 1) := by decide +kernel
theorem d1_146 : decode method_3_code 146 = .ok (.bipush 13, 2) := by decide +kernel
theorem d1_148 : decode method_3_code 148 = .ok (.iadd, 1) := by decide +kernel
theorem d1_149 : decode method_3_code 149 = .ok (.bipush 115, 2) := by decide +kernel
theorem d1_151 : decode method_3_code 151 = .ok (.iload 5, 2) := by decide +kernel
theorem d1_153 : decode method_3_code 153 = .ok (.invokestatic 7, 3) := by decide +kernel
theorem d1_156 : decode method_3_code 156 = .ok (.castore, 1) := by decide +kernel
theorem d1_157 : decode method_3_code 157 = .ok (.aload_n 0, 1) := by decide +kernel
theorem d1_158 : decode method_3_code 158 = .ok (.iload_n 1, 1) := by decide +kernel
theorem d1_159 : decode method_3_code 159 = .ok (.bipush 14, 2) := by decide +kernel
theorem d1_161 : decode method_3_code 161 = .ok (.iadd, 1) := by decide +kernel
theorem d1_162 : decode method_3_code 162 = .ok (.bipush 111, 2) := by decide +kernel
theorem d1_164 : decode method_3_code 164 = .ok (.iload 5, 2) := by decide +kernel
theorem d1_166 : decode method_3_code 166 = .ok (.invokestatic 7, 3) := by decide +kernel
theorem d1_169 : decode method_3_code 169 = .ok (.castore, 1) := by decide +kernel
theorem d1_170 : decode method_3_code 170 = .ok (.aload_n 0, 1) := by decide +kernel
theorem d1_171 : decode method_3_code 171 = .ok (.iload_n 1, 1) := by decide +kernel
theorem d1_172 : decode method_3_code 172 = .ok (.bipush 15, 2) := by decide +kernel
theorem d1_174 : decode method_3_code 174 = .ok (.iadd, 1) := by decide +kernel
theorem d1_175 : decode method_3_code 175 = .ok (.bipush 110, 2) := by decide +kernel
theorem d1_177 : decode method_3_code 177 = .ok (.iload 5, 2) := by decide +kernel
theorem d1_179 : decode method_3_code 179 = .ok (.invokestatic 7, 3) := by decide +kernel
theorem d1_182 : decode method_3_code 182 = .ok (.castore, 1) := by decide +kernel
theorem d1_183 : decode method_3_code 183 = .ok (.return_, 1) := by decide +kernel
theorem ef1 (m : MethodId) (x1 : Addr) (x3 : Int32) (x4 : Int32) (x5 : Int32) (x6 : Int32) : entryFrame m #[(.ref x1), (.int (Int32.ofNat oo)), (.int x3), (.int x4), (.int x5), (.int x6)] 6 = mkF m 0 #[vr x1, vi (Int32.ofNat oo), vi x3, vi x4, vi x5, vi x6] [] := by first | (simp [entryFrame, mkF, argsToLocals, Value.category]; done) | rfl
def Q1 (Z : State) (x1 : Addr) (x3 : Int32) (x4 : Int32) (x5 : Int32) (x6 : Int32) (kc : ClassId) (fc : Nat → Int32) (oo : Nat) (n : Nat) (h0 : Heap) (n0 : Nat) (v : Option Value) (h : Heap) (L : List Loc) : Prop := v = none ∧ Fr n0 L ∧ Keep h0 h [x1] ∧ Arv Z h x1 kc .char (Int32.ofNat n) (own_cv (own_put fc x3 x4 x5 x6 oo 16) n) (.int (0 : Int32))
set_option maxRecDepth 65536 in
set_option maxHeartbeats 40000000 in
theorem rm1 (l : Launch) (Z : State) (a0 : Array Value) (hw : ∀ d ∈ tables_1, d.before a0 Z = true) (ws : List Jvm.Cond) (x1 : Addr) (x3 : Int32) (x4 : Int32) (x5 : Int32) (x6 : Int32) (kc : ClassId) (fc : Nat → Int32) (oo : Nat) (n : Nat) (h0 : Heap) (n0 : Nat) (Z0 : n0 ≤ h0.size) (O0 : Old Z n0 h0) (V_x1 : Arv Z h0 x1 kc .char (Int32.ofNat n) (own_cv fc n) (.int (0 : Int32))) (hn : n ≤ 24) (hon : oo + 16 ≤ n) (g_x1 : n0 ≤ x1) :
    MetFree l (⟨"com/example/prueba/prueba/MediaTypesIsJsonPinLaw", "putCore", "([CICCCZ)V"⟩ : MethodName) (head1 (Jvm.Cond.code (⟨"com/example/prueba/prueba/MediaTypesIsJsonPinLaw", "putCore", "([CICCCZ)V"⟩ : MethodName) method_3_code 6 none :: ws) ({ frames := 1, cells := 0, slots := 0, locals := 15 } : Room)) (fun a U => a = #[(.ref x1), (.int (Int32.ofNat oo)), (.int x3), (.int x4), (.int x5), (.int x6)] ∧ Z.Warmed39 U.vm ∧ U.heap = h0) (fun _ _ _ _ _ => True) (fun _ U o U' => ∃ v L, o = .returned v ∧ Q1 Z x1 x3 x4 x5 x6 kc fc oo n h0 n0 v U'.heap L ∧ FrameEnd U o U' L ({ frames := 1, cells := 0, slots := 0, locals := 15 } : Room).cells ({ frames := 1, cells := 0, slots := 0, locals := 15 } : Room).slots) := by
  refine MetFree.of_bodySF (plainFor_of_name pn_com_example_prueba_prueba_MediaTypesIsJsonPinLaw) hisR ?_
  intro p e s m args below meth c s₁ Bd hml0 hP hK
  obtain ⟨rfl, hZ, hh⟩ := hP
  have hx := Bd.exec
  have hby := Bd.bytes
  have hml : c.maxLocals = 6 := hml0
  have hown : s.vm.findClass "com/example/prueba/prueba/MediaTypesIsJsonPinLaw" = some m.cls := findClass_of_methodNamed Bd.named
  have hnm := (name_of_methodNamed Bd.named Bd.method).1
  have X0 : Stand p l e ({ frames := 1, cells := 0, slots := 0, locals := 15 } : Room) s m #[(.ref x1), (.int (Int32.ofNat oo)), (.int x3), (.int x4), (.int x5), (.int x6)] below meth c s₁ [] 0 0 := Stand.of_body Bd
  have e0 : s₁.heap = h0 := by rw [← hh, Bd.state]; rfl
  have N0 := Fr.nil n0
  have K0 : Keep h0 h0 [x1] := Keep.refl _ _
  have pre0 : ∀ t, SF p e below s₁ m 0 #[vr x1, vi (Int32.ofNat oo), vi x3, vi x4, vi x5, vi x6] [] t → Steps p.tables e below (s₁.setTop (entryFrame m #[(.ref x1), (.int (Int32.ofNat oo)), (.int x3), (.int x4), (.int x5), (.int x6)] 6)) t := fun t k => castTop (ef1 m x1 x3 x4 x5 x6) k
  obtain ⟨cl_a378, Ar_a378, q_a378, S_a378, N_a378, H_a378, G_a378⟩ := id V_x1
  have ej_a378 : (Int32.ofNat oo) = Int32.ofNat oo := rfl
  have hin_a378 : ¬ ((Int32.ofNat oo) < 0 ∨ cl_a378.slots.size ≤ ((Int32.ofNat oo)).toNatClampNeg) := by rw [ej_a378]; exact own_in (n := n) S_a378 (by omega) (by omega)
  obtain ⟨T379, h379, X379, e379, W379, st379⟩ := stC X0 hx hZ e0 Ar_a378 (j := (Int32.ofNat oo)) hin_a378 (g := (mkF m 3 #[vr x1, vi (Int32.ofNat oo), vi x3, vi x4, vi x5, vi x6] [(.int x3), (.int (Int32.ofNat oo)), (.ref x1)])) rfl rfl (hb hby d1_3)
  have O379 : Old Z n0 h379 := O0.wr W379 g_x1
  have Z379 : n0 ≤ h379.size := Nat.le_trans Z0 (Keep.of_wr W379).1
  have K379 : Keep h0 h379 [x1] := K0.wr W379 (Or.inl (List.mem_of_getElem? (i := 0) rfl))
  have N379 := Fr.snoc X379 N0 g_x1
  have V379 : Arv Z h379 x1 kc .char (Int32.ofNat n) (own_cv (own_put fc x3 x4 x5 x6 oo 1) n) (.int (0 : Int32)) := (Arv.set Ar_a378 q_a378 S_a378 N_a378 H_a378 G_a378 (fits_nar_char _) W379 oo (by rw [ej_a378]; exact own_nat (by omega)) (by rw [own_cvlen]; omega)).pad (own_setcv (own_put_s (i := 0) (by first | rfl | decide)) own_put_o0)
  obtain ⟨_, _, ⟨T380, L380, k380, n380⟩, -, X380, ⟨Lc380, hQ380, l380, y380, z380⟩, st380⟩ := Jvm.LawKit.callS X379 hx (y := (⟨"com/example/prueba/prueba/MediaTypesIsJsonPinLaw", "cased", "(CZ)C"⟩ : MethodName)) hown (mvT hZ (own_wd hw 5 rfl)) (mvT hZ (own_wd hw 6 rfl)) (mvT hZ (own_wd hw 3 rfl)) (mvT hZ (own_wd hw 7 rfl)) (by decide) (backOf (W := 2) (rm2 l Z a0 hw [] (112 : Int32) x6 h379 n0 Z379 O379) hZ (own_wd hw 7 rfl) (own_wd hw 3 rfl) (by decide) (by decide)) (g := (mkF m 12 #[vr x1, vi (Int32.ofNat oo), vi x3, vi x4, vi x5, vi x6] [(.int x6), (.int (112 : Int32)), (.int ((Int32.ofNat oo) + (1 : Int32))), (.ref x1)])) rfl (by rw [hml]; rfl) (argsL := [(.int (112 : Int32)), (.int x6)]) (rest := [(.int ((Int32.ofNat oo) + (1 : Int32))), (.ref x1)]) (lenOf pd_24 rfl) rfl (by show 2 * 0 + _ ≤ _; exact Nat.le_of_eq rfl) (hb hby d1_12) (fun _ _ => ⟨rfl, e379, (by decide : 0 + 0 ≤ _), (by decide : 0 + 0 ≤ _)⟩)
  dsimp only [Pt.U, Pt.locs, Pt.cells, Pt.slots] at X380 l380 y380 z380 st380 hQ380
  subst y380 z380
  obtain ⟨rfl, N380q, eh380⟩ := hQ380
  have N380 : Fr n0 L380 := by rw [l380]; exact Fr.app N379 N380q
  obtain ⟨cl_a381, Ar_a381, q_a381, S_a381, N_a381, H_a381, G_a381⟩ := id V379
  have ej_a381 : ((Int32.ofNat oo) + (1 : Int32)) = Int32.ofNat (oo + 1) := (own_add oo 1)
  have hin_a381 : ¬ (((Int32.ofNat oo) + (1 : Int32)) < 0 ∨ cl_a381.slots.size ≤ (((Int32.ofNat oo) + (1 : Int32))).toNatClampNeg) := by rw [ej_a381]; exact own_in (n := n) S_a381 (by omega) (by omega)
  obtain ⟨T382, h382, X382, e382, W382, st382⟩ := stC X380 hx hZ eh380 Ar_a381 (j := ((Int32.ofNat oo) + (1 : Int32))) hin_a381 (g := (mkF m 15 #[vr x1, vi (Int32.ofNat oo), vi x3, vi x4, vi x5, vi x6] [(.int (own_cased (112 : Int32) x6)), (.int ((Int32.ofNat oo) + (1 : Int32))), (.ref x1)])) rfl rfl (hb hby d1_15)
  have O382 : Old Z n0 h382 := O379.wr W382 g_x1
  have Z382 : n0 ≤ h382.size := Nat.le_trans Z379 (Keep.of_wr W382).1
  have K382 : Keep h0 h382 [x1] := K379.wr W382 (Or.inl (List.mem_of_getElem? (i := 0) rfl))
  have N382 := Fr.snoc X382 N380 g_x1
  have V382 : Arv Z h382 x1 kc .char (Int32.ofNat n) (own_cv (own_put fc x3 x4 x5 x6 oo 2) n) (.int (0 : Int32)) := (Arv.set Ar_a381 q_a381 S_a381 N_a381 H_a381 G_a381 (fits_nar_char _) W382 (oo + 1) (by rw [ej_a381]; exact own_nat (by omega)) (by rw [own_cvlen]; omega)).pad (own_setcv (own_put_s (i := 1) (by first | rfl | decide)) (own_put_o (i := 1)))
  obtain ⟨_, _, ⟨T383, L383, k383, n383⟩, -, X383, ⟨Lc383, hQ383, l383, y383, z383⟩, st383⟩ := Jvm.LawKit.callS X382 hx (y := (⟨"com/example/prueba/prueba/MediaTypesIsJsonPinLaw", "cased", "(CZ)C"⟩ : MethodName)) hown (mvT hZ (own_wd hw 5 rfl)) (mvT hZ (own_wd hw 6 rfl)) (mvT hZ (own_wd hw 3 rfl)) (mvT hZ (own_wd hw 7 rfl)) (by decide) (backOf (W := 2) (rm2 l Z a0 hw [] (112 : Int32) x6 h382 n0 Z382 O382) hZ (own_wd hw 7 rfl) (own_wd hw 3 rfl) (by decide) (by decide)) (g := (mkF m 24 #[vr x1, vi (Int32.ofNat oo), vi x3, vi x4, vi x5, vi x6] [(.int x6), (.int (112 : Int32)), (.int ((Int32.ofNat oo) + (2 : Int32))), (.ref x1)])) rfl (by rw [hml]; rfl) (argsL := [(.int (112 : Int32)), (.int x6)]) (rest := [(.int ((Int32.ofNat oo) + (2 : Int32))), (.ref x1)]) (lenOf pd_24 rfl) rfl (by show 2 * 0 + _ ≤ _; exact Nat.le_of_eq rfl) (hb hby d1_24) (fun _ _ => ⟨rfl, e382, (by decide : 0 + 0 ≤ _), (by decide : 0 + 0 ≤ _)⟩)
  dsimp only [Pt.U, Pt.locs, Pt.cells, Pt.slots] at X383 l383 y383 z383 st383 hQ383
  subst y383 z383
  obtain ⟨rfl, N383q, eh383⟩ := hQ383
  have N383 : Fr n0 L383 := by rw [l383]; exact Fr.app N382 N383q
  obtain ⟨cl_a384, Ar_a384, q_a384, S_a384, N_a384, H_a384, G_a384⟩ := id V382
  have ej_a384 : ((Int32.ofNat oo) + (2 : Int32)) = Int32.ofNat (oo + 2) := (own_add oo 2)
  have hin_a384 : ¬ (((Int32.ofNat oo) + (2 : Int32)) < 0 ∨ cl_a384.slots.size ≤ (((Int32.ofNat oo) + (2 : Int32))).toNatClampNeg) := by rw [ej_a384]; exact own_in (n := n) S_a384 (by omega) (by omega)
  obtain ⟨T385, h385, X385, e385, W385, st385⟩ := stC X383 hx hZ eh383 Ar_a384 (j := ((Int32.ofNat oo) + (2 : Int32))) hin_a384 (g := (mkF m 27 #[vr x1, vi (Int32.ofNat oo), vi x3, vi x4, vi x5, vi x6] [(.int (own_cased (112 : Int32) x6)), (.int ((Int32.ofNat oo) + (2 : Int32))), (.ref x1)])) rfl rfl (hb hby d1_27)
  have O385 : Old Z n0 h385 := O382.wr W385 g_x1
  have Z385 : n0 ≤ h385.size := Nat.le_trans Z382 (Keep.of_wr W385).1
  have K385 : Keep h0 h385 [x1] := K382.wr W385 (Or.inl (List.mem_of_getElem? (i := 0) rfl))
  have N385 := Fr.snoc X385 N383 g_x1
  have V385 : Arv Z h385 x1 kc .char (Int32.ofNat n) (own_cv (own_put fc x3 x4 x5 x6 oo 3) n) (.int (0 : Int32)) := (Arv.set Ar_a384 q_a384 S_a384 N_a384 H_a384 G_a384 (fits_nar_char _) W385 (oo + 2) (by rw [ej_a384]; exact own_nat (by omega)) (by rw [own_cvlen]; omega)).pad (own_setcv (own_put_s (i := 2) (by first | rfl | decide)) (own_put_o (i := 2)))
  obtain ⟨_, _, ⟨T386, L386, k386, n386⟩, -, X386, ⟨Lc386, hQ386, l386, y386, z386⟩, st386⟩ := Jvm.LawKit.callS X385 hx (y := (⟨"com/example/prueba/prueba/MediaTypesIsJsonPinLaw", "cased", "(CZ)C"⟩ : MethodName)) hown (mvT hZ (own_wd hw 5 rfl)) (mvT hZ (own_wd hw 6 rfl)) (mvT hZ (own_wd hw 3 rfl)) (mvT hZ (own_wd hw 7 rfl)) (by decide) (backOf (W := 2) (rm2 l Z a0 hw [] (108 : Int32) x6 h385 n0 Z385 O385) hZ (own_wd hw 7 rfl) (own_wd hw 3 rfl) (by decide) (by decide)) (g := (mkF m 36 #[vr x1, vi (Int32.ofNat oo), vi x3, vi x4, vi x5, vi x6] [(.int x6), (.int (108 : Int32)), (.int ((Int32.ofNat oo) + (3 : Int32))), (.ref x1)])) rfl (by rw [hml]; rfl) (argsL := [(.int (108 : Int32)), (.int x6)]) (rest := [(.int ((Int32.ofNat oo) + (3 : Int32))), (.ref x1)]) (lenOf pd_24 rfl) rfl (by show 2 * 0 + _ ≤ _; exact Nat.le_of_eq rfl) (hb hby d1_36) (fun _ _ => ⟨rfl, e385, (by decide : 0 + 0 ≤ _), (by decide : 0 + 0 ≤ _)⟩)
  dsimp only [Pt.U, Pt.locs, Pt.cells, Pt.slots] at X386 l386 y386 z386 st386 hQ386
  subst y386 z386
  obtain ⟨rfl, N386q, eh386⟩ := hQ386
  have N386 : Fr n0 L386 := by rw [l386]; exact Fr.app N385 N386q
  obtain ⟨cl_a387, Ar_a387, q_a387, S_a387, N_a387, H_a387, G_a387⟩ := id V385
  have ej_a387 : ((Int32.ofNat oo) + (3 : Int32)) = Int32.ofNat (oo + 3) := (own_add oo 3)
  have hin_a387 : ¬ (((Int32.ofNat oo) + (3 : Int32)) < 0 ∨ cl_a387.slots.size ≤ (((Int32.ofNat oo) + (3 : Int32))).toNatClampNeg) := by rw [ej_a387]; exact own_in (n := n) S_a387 (by omega) (by omega)
  obtain ⟨T388, h388, X388, e388, W388, st388⟩ := stC X386 hx hZ eh386 Ar_a387 (j := ((Int32.ofNat oo) + (3 : Int32))) hin_a387 (g := (mkF m 39 #[vr x1, vi (Int32.ofNat oo), vi x3, vi x4, vi x5, vi x6] [(.int (own_cased (108 : Int32) x6)), (.int ((Int32.ofNat oo) + (3 : Int32))), (.ref x1)])) rfl rfl (hb hby d1_39)
  have O388 : Old Z n0 h388 := O385.wr W388 g_x1
  have Z388 : n0 ≤ h388.size := Nat.le_trans Z385 (Keep.of_wr W388).1
  have K388 : Keep h0 h388 [x1] := K385.wr W388 (Or.inl (List.mem_of_getElem? (i := 0) rfl))
  have N388 := Fr.snoc X388 N386 g_x1
  have V388 : Arv Z h388 x1 kc .char (Int32.ofNat n) (own_cv (own_put fc x3 x4 x5 x6 oo 4) n) (.int (0 : Int32)) := (Arv.set Ar_a387 q_a387 S_a387 N_a387 H_a387 G_a387 (fits_nar_char _) W388 (oo + 3) (by rw [ej_a387]; exact own_nat (by omega)) (by rw [own_cvlen]; omega)).pad (own_setcv (own_put_s (i := 3) (by first | rfl | decide)) (own_put_o (i := 3)))
  obtain ⟨_, _, ⟨T389, L389, k389, n389⟩, -, X389, ⟨Lc389, hQ389, l389, y389, z389⟩, st389⟩ := Jvm.LawKit.callS X388 hx (y := (⟨"com/example/prueba/prueba/MediaTypesIsJsonPinLaw", "cased", "(CZ)C"⟩ : MethodName)) hown (mvT hZ (own_wd hw 5 rfl)) (mvT hZ (own_wd hw 6 rfl)) (mvT hZ (own_wd hw 3 rfl)) (mvT hZ (own_wd hw 7 rfl)) (by decide) (backOf (W := 2) (rm2 l Z a0 hw [] (105 : Int32) x6 h388 n0 Z388 O388) hZ (own_wd hw 7 rfl) (own_wd hw 3 rfl) (by decide) (by decide)) (g := (mkF m 48 #[vr x1, vi (Int32.ofNat oo), vi x3, vi x4, vi x5, vi x6] [(.int x6), (.int (105 : Int32)), (.int ((Int32.ofNat oo) + (4 : Int32))), (.ref x1)])) rfl (by rw [hml]; rfl) (argsL := [(.int (105 : Int32)), (.int x6)]) (rest := [(.int ((Int32.ofNat oo) + (4 : Int32))), (.ref x1)]) (lenOf pd_24 rfl) rfl (by show 2 * 0 + _ ≤ _; exact Nat.le_of_eq rfl) (hb hby d1_48) (fun _ _ => ⟨rfl, e388, (by decide : 0 + 0 ≤ _), (by decide : 0 + 0 ≤ _)⟩)
  dsimp only [Pt.U, Pt.locs, Pt.cells, Pt.slots] at X389 l389 y389 z389 st389 hQ389
  subst y389 z389
  obtain ⟨rfl, N389q, eh389⟩ := hQ389
  have N389 : Fr n0 L389 := by rw [l389]; exact Fr.app N388 N389q
  obtain ⟨cl_a390, Ar_a390, q_a390, S_a390, N_a390, H_a390, G_a390⟩ := id V388
  have ej_a390 : ((Int32.ofNat oo) + (4 : Int32)) = Int32.ofNat (oo + 4) := (own_add oo 4)
  have hin_a390 : ¬ (((Int32.ofNat oo) + (4 : Int32)) < 0 ∨ cl_a390.slots.size ≤ (((Int32.ofNat oo) + (4 : Int32))).toNatClampNeg) := by rw [ej_a390]; exact own_in (n := n) S_a390 (by omega) (by omega)
  obtain ⟨T391, h391, X391, e391, W391, st391⟩ := stC X389 hx hZ eh389 Ar_a390 (j := ((Int32.ofNat oo) + (4 : Int32))) hin_a390 (g := (mkF m 51 #[vr x1, vi (Int32.ofNat oo), vi x3, vi x4, vi x5, vi x6] [(.int (own_cased (105 : Int32) x6)), (.int ((Int32.ofNat oo) + (4 : Int32))), (.ref x1)])) rfl rfl (hb hby d1_51)
  have O391 : Old Z n0 h391 := O388.wr W391 g_x1
  have Z391 : n0 ≤ h391.size := Nat.le_trans Z388 (Keep.of_wr W391).1
  have K391 : Keep h0 h391 [x1] := K388.wr W391 (Or.inl (List.mem_of_getElem? (i := 0) rfl))
  have N391 := Fr.snoc X391 N389 g_x1
  have V391 : Arv Z h391 x1 kc .char (Int32.ofNat n) (own_cv (own_put fc x3 x4 x5 x6 oo 5) n) (.int (0 : Int32)) := (Arv.set Ar_a390 q_a390 S_a390 N_a390 H_a390 G_a390 (fits_nar_char _) W391 (oo + 4) (by rw [ej_a390]; exact own_nat (by omega)) (by rw [own_cvlen]; omega)).pad (own_setcv (own_put_s (i := 4) (by first | rfl | decide)) (own_put_o (i := 4)))
  obtain ⟨_, _, ⟨T392, L392, k392, n392⟩, -, X392, ⟨Lc392, hQ392, l392, y392, z392⟩, st392⟩ := Jvm.LawKit.callS X391 hx (y := (⟨"com/example/prueba/prueba/MediaTypesIsJsonPinLaw", "cased", "(CZ)C"⟩ : MethodName)) hown (mvT hZ (own_wd hw 5 rfl)) (mvT hZ (own_wd hw 6 rfl)) (mvT hZ (own_wd hw 3 rfl)) (mvT hZ (own_wd hw 7 rfl)) (by decide) (backOf (W := 2) (rm2 l Z a0 hw [] (99 : Int32) x6 h391 n0 Z391 O391) hZ (own_wd hw 7 rfl) (own_wd hw 3 rfl) (by decide) (by decide)) (g := (mkF m 60 #[vr x1, vi (Int32.ofNat oo), vi x3, vi x4, vi x5, vi x6] [(.int x6), (.int (99 : Int32)), (.int ((Int32.ofNat oo) + (5 : Int32))), (.ref x1)])) rfl (by rw [hml]; rfl) (argsL := [(.int (99 : Int32)), (.int x6)]) (rest := [(.int ((Int32.ofNat oo) + (5 : Int32))), (.ref x1)]) (lenOf pd_24 rfl) rfl (by show 2 * 0 + _ ≤ _; exact Nat.le_of_eq rfl) (hb hby d1_60) (fun _ _ => ⟨rfl, e391, (by decide : 0 + 0 ≤ _), (by decide : 0 + 0 ≤ _)⟩)
  dsimp only [Pt.U, Pt.locs, Pt.cells, Pt.slots] at X392 l392 y392 z392 st392 hQ392
  subst y392 z392
  obtain ⟨rfl, N392q, eh392⟩ := hQ392
  have N392 : Fr n0 L392 := by rw [l392]; exact Fr.app N391 N392q
  obtain ⟨cl_a393, Ar_a393, q_a393, S_a393, N_a393, H_a393, G_a393⟩ := id V391
  have ej_a393 : ((Int32.ofNat oo) + (5 : Int32)) = Int32.ofNat (oo + 5) := (own_add oo 5)
  have hin_a393 : ¬ (((Int32.ofNat oo) + (5 : Int32)) < 0 ∨ cl_a393.slots.size ≤ (((Int32.ofNat oo) + (5 : Int32))).toNatClampNeg) := by rw [ej_a393]; exact own_in (n := n) S_a393 (by omega) (by omega)
  obtain ⟨T394, h394, X394, e394, W394, st394⟩ := stC X392 hx hZ eh392 Ar_a393 (j := ((Int32.ofNat oo) + (5 : Int32))) hin_a393 (g := (mkF m 63 #[vr x1, vi (Int32.ofNat oo), vi x3, vi x4, vi x5, vi x6] [(.int (own_cased (99 : Int32) x6)), (.int ((Int32.ofNat oo) + (5 : Int32))), (.ref x1)])) rfl rfl (hb hby d1_63)
  have O394 : Old Z n0 h394 := O391.wr W394 g_x1
  have Z394 : n0 ≤ h394.size := Nat.le_trans Z391 (Keep.of_wr W394).1
  have K394 : Keep h0 h394 [x1] := K391.wr W394 (Or.inl (List.mem_of_getElem? (i := 0) rfl))
  have N394 := Fr.snoc X394 N392 g_x1
  have V394 : Arv Z h394 x1 kc .char (Int32.ofNat n) (own_cv (own_put fc x3 x4 x5 x6 oo 6) n) (.int (0 : Int32)) := (Arv.set Ar_a393 q_a393 S_a393 N_a393 H_a393 G_a393 (fits_nar_char _) W394 (oo + 5) (by rw [ej_a393]; exact own_nat (by omega)) (by rw [own_cvlen]; omega)).pad (own_setcv (own_put_s (i := 5) (by first | rfl | decide)) (own_put_o (i := 5)))
  obtain ⟨_, _, ⟨T395, L395, k395, n395⟩, -, X395, ⟨Lc395, hQ395, l395, y395, z395⟩, st395⟩ := Jvm.LawKit.callS X394 hx (y := (⟨"com/example/prueba/prueba/MediaTypesIsJsonPinLaw", "cased", "(CZ)C"⟩ : MethodName)) hown (mvT hZ (own_wd hw 5 rfl)) (mvT hZ (own_wd hw 6 rfl)) (mvT hZ (own_wd hw 3 rfl)) (mvT hZ (own_wd hw 7 rfl)) (by decide) (backOf (W := 2) (rm2 l Z a0 hw [] (97 : Int32) x6 h394 n0 Z394 O394) hZ (own_wd hw 7 rfl) (own_wd hw 3 rfl) (by decide) (by decide)) (g := (mkF m 73 #[vr x1, vi (Int32.ofNat oo), vi x3, vi x4, vi x5, vi x6] [(.int x6), (.int (97 : Int32)), (.int ((Int32.ofNat oo) + (6 : Int32))), (.ref x1)])) rfl (by rw [hml]; rfl) (argsL := [(.int (97 : Int32)), (.int x6)]) (rest := [(.int ((Int32.ofNat oo) + (6 : Int32))), (.ref x1)]) (lenOf pd_24 rfl) rfl (by show 2 * 0 + _ ≤ _; exact Nat.le_of_eq rfl) (hb hby d1_73) (fun _ _ => ⟨rfl, e394, (by decide : 0 + 0 ≤ _), (by decide : 0 + 0 ≤ _)⟩)
  dsimp only [Pt.U, Pt.locs, Pt.cells, Pt.slots] at X395 l395 y395 z395 st395 hQ395
  subst y395 z395
  obtain ⟨rfl, N395q, eh395⟩ := hQ395
  have N395 : Fr n0 L395 := by rw [l395]; exact Fr.app N394 N395q
  obtain ⟨cl_a396, Ar_a396, q_a396, S_a396, N_a396, H_a396, G_a396⟩ := id V394
  have ej_a396 : ((Int32.ofNat oo) + (6 : Int32)) = Int32.ofNat (oo + 6) := (own_add oo 6)
  have hin_a396 : ¬ (((Int32.ofNat oo) + (6 : Int32)) < 0 ∨ cl_a396.slots.size ≤ (((Int32.ofNat oo) + (6 : Int32))).toNatClampNeg) := by rw [ej_a396]; exact own_in (n := n) S_a396 (by omega) (by omega)
  obtain ⟨T397, h397, X397, e397, W397, st397⟩ := stC X395 hx hZ eh395 Ar_a396 (j := ((Int32.ofNat oo) + (6 : Int32))) hin_a396 (g := (mkF m 76 #[vr x1, vi (Int32.ofNat oo), vi x3, vi x4, vi x5, vi x6] [(.int (own_cased (97 : Int32) x6)), (.int ((Int32.ofNat oo) + (6 : Int32))), (.ref x1)])) rfl rfl (hb hby d1_76)
  have O397 : Old Z n0 h397 := O394.wr W397 g_x1
  have Z397 : n0 ≤ h397.size := Nat.le_trans Z394 (Keep.of_wr W397).1
  have K397 : Keep h0 h397 [x1] := K394.wr W397 (Or.inl (List.mem_of_getElem? (i := 0) rfl))
  have N397 := Fr.snoc X397 N395 g_x1
  have V397 : Arv Z h397 x1 kc .char (Int32.ofNat n) (own_cv (own_put fc x3 x4 x5 x6 oo 7) n) (.int (0 : Int32)) := (Arv.set Ar_a396 q_a396 S_a396 N_a396 H_a396 G_a396 (fits_nar_char _) W397 (oo + 6) (by rw [ej_a396]; exact own_nat (by omega)) (by rw [own_cvlen]; omega)).pad (own_setcv (own_put_s (i := 6) (by first | rfl | decide)) (own_put_o (i := 6)))
  obtain ⟨_, _, ⟨T398, L398, k398, n398⟩, -, X398, ⟨Lc398, hQ398, l398, y398, z398⟩, st398⟩ := Jvm.LawKit.callS X397 hx (y := (⟨"com/example/prueba/prueba/MediaTypesIsJsonPinLaw", "cased", "(CZ)C"⟩ : MethodName)) hown (mvT hZ (own_wd hw 5 rfl)) (mvT hZ (own_wd hw 6 rfl)) (mvT hZ (own_wd hw 3 rfl)) (mvT hZ (own_wd hw 7 rfl)) (by decide) (backOf (W := 2) (rm2 l Z a0 hw [] (116 : Int32) x6 h397 n0 Z397 O397) hZ (own_wd hw 7 rfl) (own_wd hw 3 rfl) (by decide) (by decide)) (g := (mkF m 86 #[vr x1, vi (Int32.ofNat oo), vi x3, vi x4, vi x5, vi x6] [(.int x6), (.int (116 : Int32)), (.int ((Int32.ofNat oo) + (7 : Int32))), (.ref x1)])) rfl (by rw [hml]; rfl) (argsL := [(.int (116 : Int32)), (.int x6)]) (rest := [(.int ((Int32.ofNat oo) + (7 : Int32))), (.ref x1)]) (lenOf pd_24 rfl) rfl (by show 2 * 0 + _ ≤ _; exact Nat.le_of_eq rfl) (hb hby d1_86) (fun _ _ => ⟨rfl, e397, (by decide : 0 + 0 ≤ _), (by decide : 0 + 0 ≤ _)⟩)
  dsimp only [Pt.U, Pt.locs, Pt.cells, Pt.slots] at X398 l398 y398 z398 st398 hQ398
  subst y398 z398
  obtain ⟨rfl, N398q, eh398⟩ := hQ398
  have N398 : Fr n0 L398 := by rw [l398]; exact Fr.app N397 N398q
  obtain ⟨cl_a399, Ar_a399, q_a399, S_a399, N_a399, H_a399, G_a399⟩ := id V397
  have ej_a399 : ((Int32.ofNat oo) + (7 : Int32)) = Int32.ofNat (oo + 7) := (own_add oo 7)
  have hin_a399 : ¬ (((Int32.ofNat oo) + (7 : Int32)) < 0 ∨ cl_a399.slots.size ≤ (((Int32.ofNat oo) + (7 : Int32))).toNatClampNeg) := by rw [ej_a399]; exact own_in (n := n) S_a399 (by omega) (by omega)
  obtain ⟨T400, h400, X400, e400, W400, st400⟩ := stC X398 hx hZ eh398 Ar_a399 (j := ((Int32.ofNat oo) + (7 : Int32))) hin_a399 (g := (mkF m 89 #[vr x1, vi (Int32.ofNat oo), vi x3, vi x4, vi x5, vi x6] [(.int (own_cased (116 : Int32) x6)), (.int ((Int32.ofNat oo) + (7 : Int32))), (.ref x1)])) rfl rfl (hb hby d1_89)
  have O400 : Old Z n0 h400 := O397.wr W400 g_x1
  have Z400 : n0 ≤ h400.size := Nat.le_trans Z397 (Keep.of_wr W400).1
  have K400 : Keep h0 h400 [x1] := K397.wr W400 (Or.inl (List.mem_of_getElem? (i := 0) rfl))
  have N400 := Fr.snoc X400 N398 g_x1
  have V400 : Arv Z h400 x1 kc .char (Int32.ofNat n) (own_cv (own_put fc x3 x4 x5 x6 oo 8) n) (.int (0 : Int32)) := (Arv.set Ar_a399 q_a399 S_a399 N_a399 H_a399 G_a399 (fits_nar_char _) W400 (oo + 7) (by rw [ej_a399]; exact own_nat (by omega)) (by rw [own_cvlen]; omega)).pad (own_setcv (own_put_s (i := 7) (by first | rfl | decide)) (own_put_o (i := 7)))
  obtain ⟨_, _, ⟨T401, L401, k401, n401⟩, -, X401, ⟨Lc401, hQ401, l401, y401, z401⟩, st401⟩ := Jvm.LawKit.callS X400 hx (y := (⟨"com/example/prueba/prueba/MediaTypesIsJsonPinLaw", "cased", "(CZ)C"⟩ : MethodName)) hown (mvT hZ (own_wd hw 5 rfl)) (mvT hZ (own_wd hw 6 rfl)) (mvT hZ (own_wd hw 3 rfl)) (mvT hZ (own_wd hw 7 rfl)) (by decide) (backOf (W := 2) (rm2 l Z a0 hw [] (105 : Int32) x6 h400 n0 Z400 O400) hZ (own_wd hw 7 rfl) (own_wd hw 3 rfl) (by decide) (by decide)) (g := (mkF m 99 #[vr x1, vi (Int32.ofNat oo), vi x3, vi x4, vi x5, vi x6] [(.int x6), (.int (105 : Int32)), (.int ((Int32.ofNat oo) + (8 : Int32))), (.ref x1)])) rfl (by rw [hml]; rfl) (argsL := [(.int (105 : Int32)), (.int x6)]) (rest := [(.int ((Int32.ofNat oo) + (8 : Int32))), (.ref x1)]) (lenOf pd_24 rfl) rfl (by show 2 * 0 + _ ≤ _; exact Nat.le_of_eq rfl) (hb hby d1_99) (fun _ _ => ⟨rfl, e400, (by decide : 0 + 0 ≤ _), (by decide : 0 + 0 ≤ _)⟩)
  dsimp only [Pt.U, Pt.locs, Pt.cells, Pt.slots] at X401 l401 y401 z401 st401 hQ401
  subst y401 z401
  obtain ⟨rfl, N401q, eh401⟩ := hQ401
  have N401 : Fr n0 L401 := by rw [l401]; exact Fr.app N400 N401q
  obtain ⟨cl_a402, Ar_a402, q_a402, S_a402, N_a402, H_a402, G_a402⟩ := id V400
  have ej_a402 : ((Int32.ofNat oo) + (8 : Int32)) = Int32.ofNat (oo + 8) := (own_add oo 8)
  have hin_a402 : ¬ (((Int32.ofNat oo) + (8 : Int32)) < 0 ∨ cl_a402.slots.size ≤ (((Int32.ofNat oo) + (8 : Int32))).toNatClampNeg) := by rw [ej_a402]; exact own_in (n := n) S_a402 (by omega) (by omega)
  obtain ⟨T403, h403, X403, e403, W403, st403⟩ := stC X401 hx hZ eh401 Ar_a402 (j := ((Int32.ofNat oo) + (8 : Int32))) hin_a402 (g := (mkF m 102 #[vr x1, vi (Int32.ofNat oo), vi x3, vi x4, vi x5, vi x6] [(.int (own_cased (105 : Int32) x6)), (.int ((Int32.ofNat oo) + (8 : Int32))), (.ref x1)])) rfl rfl (hb hby d1_102)
  have O403 : Old Z n0 h403 := O400.wr W403 g_x1
  have Z403 : n0 ≤ h403.size := Nat.le_trans Z400 (Keep.of_wr W403).1
  have K403 : Keep h0 h403 [x1] := K400.wr W403 (Or.inl (List.mem_of_getElem? (i := 0) rfl))
  have N403 := Fr.snoc X403 N401 g_x1
  have V403 : Arv Z h403 x1 kc .char (Int32.ofNat n) (own_cv (own_put fc x3 x4 x5 x6 oo 9) n) (.int (0 : Int32)) := (Arv.set Ar_a402 q_a402 S_a402 N_a402 H_a402 G_a402 (fits_nar_char _) W403 (oo + 8) (by rw [ej_a402]; exact own_nat (by omega)) (by rw [own_cvlen]; omega)).pad (own_setcv (own_put_s (i := 8) (by first | rfl | decide)) (own_put_o (i := 8)))
  obtain ⟨_, _, ⟨T404, L404, k404, n404⟩, -, X404, ⟨Lc404, hQ404, l404, y404, z404⟩, st404⟩ := Jvm.LawKit.callS X403 hx (y := (⟨"com/example/prueba/prueba/MediaTypesIsJsonPinLaw", "cased", "(CZ)C"⟩ : MethodName)) hown (mvT hZ (own_wd hw 5 rfl)) (mvT hZ (own_wd hw 6 rfl)) (mvT hZ (own_wd hw 3 rfl)) (mvT hZ (own_wd hw 7 rfl)) (by decide) (backOf (W := 2) (rm2 l Z a0 hw [] (111 : Int32) x6 h403 n0 Z403 O403) hZ (own_wd hw 7 rfl) (own_wd hw 3 rfl) (by decide) (by decide)) (g := (mkF m 112 #[vr x1, vi (Int32.ofNat oo), vi x3, vi x4, vi x5, vi x6] [(.int x6), (.int (111 : Int32)), (.int ((Int32.ofNat oo) + (9 : Int32))), (.ref x1)])) rfl (by rw [hml]; rfl) (argsL := [(.int (111 : Int32)), (.int x6)]) (rest := [(.int ((Int32.ofNat oo) + (9 : Int32))), (.ref x1)]) (lenOf pd_24 rfl) rfl (by show 2 * 0 + _ ≤ _; exact Nat.le_of_eq rfl) (hb hby d1_112) (fun _ _ => ⟨rfl, e403, (by decide : 0 + 0 ≤ _), (by decide : 0 + 0 ≤ _)⟩)
  dsimp only [Pt.U, Pt.locs, Pt.cells, Pt.slots] at X404 l404 y404 z404 st404 hQ404
  subst y404 z404
  obtain ⟨rfl, N404q, eh404⟩ := hQ404
  have N404 : Fr n0 L404 := by rw [l404]; exact Fr.app N403 N404q
  obtain ⟨cl_a405, Ar_a405, q_a405, S_a405, N_a405, H_a405, G_a405⟩ := id V403
  have ej_a405 : ((Int32.ofNat oo) + (9 : Int32)) = Int32.ofNat (oo + 9) := (own_add oo 9)
  have hin_a405 : ¬ (((Int32.ofNat oo) + (9 : Int32)) < 0 ∨ cl_a405.slots.size ≤ (((Int32.ofNat oo) + (9 : Int32))).toNatClampNeg) := by rw [ej_a405]; exact own_in (n := n) S_a405 (by omega) (by omega)
  obtain ⟨T406, h406, X406, e406, W406, st406⟩ := stC X404 hx hZ eh404 Ar_a405 (j := ((Int32.ofNat oo) + (9 : Int32))) hin_a405 (g := (mkF m 115 #[vr x1, vi (Int32.ofNat oo), vi x3, vi x4, vi x5, vi x6] [(.int (own_cased (111 : Int32) x6)), (.int ((Int32.ofNat oo) + (9 : Int32))), (.ref x1)])) rfl rfl (hb hby d1_115)
  have O406 : Old Z n0 h406 := O403.wr W406 g_x1
  have Z406 : n0 ≤ h406.size := Nat.le_trans Z403 (Keep.of_wr W406).1
  have K406 : Keep h0 h406 [x1] := K403.wr W406 (Or.inl (List.mem_of_getElem? (i := 0) rfl))
  have N406 := Fr.snoc X406 N404 g_x1
  have V406 : Arv Z h406 x1 kc .char (Int32.ofNat n) (own_cv (own_put fc x3 x4 x5 x6 oo 10) n) (.int (0 : Int32)) := (Arv.set Ar_a405 q_a405 S_a405 N_a405 H_a405 G_a405 (fits_nar_char _) W406 (oo + 9) (by rw [ej_a405]; exact own_nat (by omega)) (by rw [own_cvlen]; omega)).pad (own_setcv (own_put_s (i := 9) (by first | rfl | decide)) (own_put_o (i := 9)))
  obtain ⟨_, _, ⟨T407, L407, k407, n407⟩, -, X407, ⟨Lc407, hQ407, l407, y407, z407⟩, st407⟩ := Jvm.LawKit.callS X406 hx (y := (⟨"com/example/prueba/prueba/MediaTypesIsJsonPinLaw", "cased", "(CZ)C"⟩ : MethodName)) hown (mvT hZ (own_wd hw 5 rfl)) (mvT hZ (own_wd hw 6 rfl)) (mvT hZ (own_wd hw 3 rfl)) (mvT hZ (own_wd hw 7 rfl)) (by decide) (backOf (W := 2) (rm2 l Z a0 hw [] (110 : Int32) x6 h406 n0 Z406 O406) hZ (own_wd hw 7 rfl) (own_wd hw 3 rfl) (by decide) (by decide)) (g := (mkF m 125 #[vr x1, vi (Int32.ofNat oo), vi x3, vi x4, vi x5, vi x6] [(.int x6), (.int (110 : Int32)), (.int ((Int32.ofNat oo) + (10 : Int32))), (.ref x1)])) rfl (by rw [hml]; rfl) (argsL := [(.int (110 : Int32)), (.int x6)]) (rest := [(.int ((Int32.ofNat oo) + (10 : Int32))), (.ref x1)]) (lenOf pd_24 rfl) rfl (by show 2 * 0 + _ ≤ _; exact Nat.le_of_eq rfl) (hb hby d1_125) (fun _ _ => ⟨rfl, e406, (by decide : 0 + 0 ≤ _), (by decide : 0 + 0 ≤ _)⟩)
  dsimp only [Pt.U, Pt.locs, Pt.cells, Pt.slots] at X407 l407 y407 z407 st407 hQ407
  subst y407 z407
  obtain ⟨rfl, N407q, eh407⟩ := hQ407
  have N407 : Fr n0 L407 := by rw [l407]; exact Fr.app N406 N407q
  obtain ⟨cl_a408, Ar_a408, q_a408, S_a408, N_a408, H_a408, G_a408⟩ := id V406
  have ej_a408 : ((Int32.ofNat oo) + (10 : Int32)) = Int32.ofNat (oo + 10) := (own_add oo 10)
  have hin_a408 : ¬ (((Int32.ofNat oo) + (10 : Int32)) < 0 ∨ cl_a408.slots.size ≤ (((Int32.ofNat oo) + (10 : Int32))).toNatClampNeg) := by rw [ej_a408]; exact own_in (n := n) S_a408 (by omega) (by omega)
  obtain ⟨T409, h409, X409, e409, W409, st409⟩ := stC X407 hx hZ eh407 Ar_a408 (j := ((Int32.ofNat oo) + (10 : Int32))) hin_a408 (g := (mkF m 128 #[vr x1, vi (Int32.ofNat oo), vi x3, vi x4, vi x5, vi x6] [(.int (own_cased (110 : Int32) x6)), (.int ((Int32.ofNat oo) + (10 : Int32))), (.ref x1)])) rfl rfl (hb hby d1_128)
  have O409 : Old Z n0 h409 := O406.wr W409 g_x1
  have Z409 : n0 ≤ h409.size := Nat.le_trans Z406 (Keep.of_wr W409).1
  have K409 : Keep h0 h409 [x1] := K406.wr W409 (Or.inl (List.mem_of_getElem? (i := 0) rfl))
  have N409 := Fr.snoc X409 N407 g_x1
  have V409 : Arv Z h409 x1 kc .char (Int32.ofNat n) (own_cv (own_put fc x3 x4 x5 x6 oo 11) n) (.int (0 : Int32)) := (Arv.set Ar_a408 q_a408 S_a408 N_a408 H_a408 G_a408 (fits_nar_char _) W409 (oo + 10) (by rw [ej_a408]; exact own_nat (by omega)) (by rw [own_cvlen]; omega)).pad (own_setcv (own_put_s (i := 10) (by first | rfl | decide)) (own_put_o (i := 10)))
  obtain ⟨cl_a410, Ar_a410, q_a410, S_a410, N_a410, H_a410, G_a410⟩ := id V409
  have ej_a410 : ((Int32.ofNat oo) + (11 : Int32)) = Int32.ofNat (oo + 11) := (own_add oo 11)
  have hin_a410 : ¬ (((Int32.ofNat oo) + (11 : Int32)) < 0 ∨ cl_a410.slots.size ≤ (((Int32.ofNat oo) + (11 : Int32))).toNatClampNeg) := by rw [ej_a410]; exact own_in (n := n) S_a410 (by omega) (by omega)
  obtain ⟨T411, h411, X411, e411, W411, st411⟩ := stC X409 hx hZ e409 Ar_a410 (j := ((Int32.ofNat oo) + (11 : Int32))) hin_a410 (g := (mkF m 135 #[vr x1, vi (Int32.ofNat oo), vi x3, vi x4, vi x5, vi x6] [(.int x4), (.int ((Int32.ofNat oo) + (11 : Int32))), (.ref x1)])) rfl rfl (hb hby d1_135)
  have O411 : Old Z n0 h411 := O409.wr W411 g_x1
  have Z411 : n0 ≤ h411.size := Nat.le_trans Z409 (Keep.of_wr W411).1
  have K411 : Keep h0 h411 [x1] := K409.wr W411 (Or.inl (List.mem_of_getElem? (i := 0) rfl))
  have N411 := Fr.snoc X411 N409 g_x1
  have V411 : Arv Z h411 x1 kc .char (Int32.ofNat n) (own_cv (own_put fc x3 x4 x5 x6 oo 12) n) (.int (0 : Int32)) := (Arv.set Ar_a410 q_a410 S_a410 N_a410 H_a410 G_a410 (fits_nar_char _) W411 (oo + 11) (by rw [ej_a410]; exact own_nat (by omega)) (by rw [own_cvlen]; omega)).pad (own_setcv (own_put_s (i := 11) (by first | rfl | decide)) (own_put_o (i := 11)))
  obtain ⟨cl_a412, Ar_a412, q_a412, S_a412, N_a412, H_a412, G_a412⟩ := id V411
  have ej_a412 : ((Int32.ofNat oo) + (12 : Int32)) = Int32.ofNat (oo + 12) := (own_add oo 12)
  have hin_a412 : ¬ (((Int32.ofNat oo) + (12 : Int32)) < 0 ∨ cl_a412.slots.size ≤ (((Int32.ofNat oo) + (12 : Int32))).toNatClampNeg) := by rw [ej_a412]; exact own_in (n := n) S_a412 (by omega) (by omega)
  obtain ⟨T413, h413, X413, e413, W413, st413⟩ := stC X411 hx hZ e411 Ar_a412 (j := ((Int32.ofNat oo) + (12 : Int32))) hin_a412 (g := (mkF m 143 #[vr x1, vi (Int32.ofNat oo), vi x3, vi x4, vi x5, vi x6] [(.int x5), (.int ((Int32.ofNat oo) + (12 : Int32))), (.ref x1)])) rfl rfl (hb hby d1_143)
  have O413 : Old Z n0 h413 := O411.wr W413 g_x1
  have Z413 : n0 ≤ h413.size := Nat.le_trans Z411 (Keep.of_wr W413).1
  have K413 : Keep h0 h413 [x1] := K411.wr W413 (Or.inl (List.mem_of_getElem? (i := 0) rfl))
  have N413 := Fr.snoc X413 N411 g_x1
  have V413 : Arv Z h413 x1 kc .char (Int32.ofNat n) (own_cv (own_put fc x3 x4 x5 x6 oo 13) n) (.int (0 : Int32)) := (Arv.set Ar_a412 q_a412 S_a412 N_a412 H_a412 G_a412 (fits_nar_char _) W413 (oo + 12) (by rw [ej_a412]; exact own_nat (by omega)) (by rw [own_cvlen]; omega)).pad (own_setcv (own_put_s (i := 12) (by first | rfl | decide)) (own_put_o (i := 12)))
  obtain ⟨_, _, ⟨T414, L414, k414, n414⟩, -, X414, ⟨Lc414, hQ414, l414, y414, z414⟩, st414⟩ := Jvm.LawKit.callS X413 hx (y := (⟨"com/example/prueba/prueba/MediaTypesIsJsonPinLaw", "cased", "(CZ)C"⟩ : MethodName)) hown (mvT hZ (own_wd hw 5 rfl)) (mvT hZ (own_wd hw 6 rfl)) (mvT hZ (own_wd hw 3 rfl)) (mvT hZ (own_wd hw 7 rfl)) (by decide) (backOf (W := 2) (rm2 l Z a0 hw [] (115 : Int32) x6 h413 n0 Z413 O413) hZ (own_wd hw 7 rfl) (own_wd hw 3 rfl) (by decide) (by decide)) (g := (mkF m 153 #[vr x1, vi (Int32.ofNat oo), vi x3, vi x4, vi x5, vi x6] [(.int x6), (.int (115 : Int32)), (.int ((Int32.ofNat oo) + (13 : Int32))), (.ref x1)])) rfl (by rw [hml]; rfl) (argsL := [(.int (115 : Int32)), (.int x6)]) (rest := [(.int ((Int32.ofNat oo) + (13 : Int32))), (.ref x1)]) (lenOf pd_24 rfl) rfl (by show 2 * 0 + _ ≤ _; exact Nat.le_of_eq rfl) (hb hby d1_153) (fun _ _ => ⟨rfl, e413, (by decide : 0 + 0 ≤ _), (by decide : 0 + 0 ≤ _)⟩)
  dsimp only [Pt.U, Pt.locs, Pt.cells, Pt.slots] at X414 l414 y414 z414 st414 hQ414
  subst y414 z414
  obtain ⟨rfl, N414q, eh414⟩ := hQ414
  have N414 : Fr n0 L414 := by rw [l414]; exact Fr.app N413 N414q
  obtain ⟨cl_a415, Ar_a415, q_a415, S_a415, N_a415, H_a415, G_a415⟩ := id V413
  have ej_a415 : ((Int32.ofNat oo) + (13 : Int32)) = Int32.ofNat (oo + 13) := (own_add oo 13)
  have hin_a415 : ¬ (((Int32.ofNat oo) + (13 : Int32)) < 0 ∨ cl_a415.slots.size ≤ (((Int32.ofNat oo) + (13 : Int32))).toNatClampNeg) := by rw [ej_a415]; exact own_in (n := n) S_a415 (by omega) (by omega)
  obtain ⟨T416, h416, X416, e416, W416, st416⟩ := stC X414 hx hZ eh414 Ar_a415 (j := ((Int32.ofNat oo) + (13 : Int32))) hin_a415 (g := (mkF m 156 #[vr x1, vi (Int32.ofNat oo), vi x3, vi x4, vi x5, vi x6] [(.int (own_cased (115 : Int32) x6)), (.int ((Int32.ofNat oo) + (13 : Int32))), (.ref x1)])) rfl rfl (hb hby d1_156)
  have O416 : Old Z n0 h416 := O413.wr W416 g_x1
  have Z416 : n0 ≤ h416.size := Nat.le_trans Z413 (Keep.of_wr W416).1
  have K416 : Keep h0 h416 [x1] := K413.wr W416 (Or.inl (List.mem_of_getElem? (i := 0) rfl))
  have N416 := Fr.snoc X416 N414 g_x1
  have V416 : Arv Z h416 x1 kc .char (Int32.ofNat n) (own_cv (own_put fc x3 x4 x5 x6 oo 14) n) (.int (0 : Int32)) := (Arv.set Ar_a415 q_a415 S_a415 N_a415 H_a415 G_a415 (fits_nar_char _) W416 (oo + 13) (by rw [ej_a415]; exact own_nat (by omega)) (by rw [own_cvlen]; omega)).pad (own_setcv (own_put_s (i := 13) (by first | rfl | decide)) (own_put_o (i := 13)))
  obtain ⟨_, _, ⟨T417, L417, k417, n417⟩, -, X417, ⟨Lc417, hQ417, l417, y417, z417⟩, st417⟩ := Jvm.LawKit.callS X416 hx (y := (⟨"com/example/prueba/prueba/MediaTypesIsJsonPinLaw", "cased", "(CZ)C"⟩ : MethodName)) hown (mvT hZ (own_wd hw 5 rfl)) (mvT hZ (own_wd hw 6 rfl)) (mvT hZ (own_wd hw 3 rfl)) (mvT hZ (own_wd hw 7 rfl)) (by decide) (backOf (W := 2) (rm2 l Z a0 hw [] (111 : Int32) x6 h416 n0 Z416 O416) hZ (own_wd hw 7 rfl) (own_wd hw 3 rfl) (by decide) (by decide)) (g := (mkF m 166 #[vr x1, vi (Int32.ofNat oo), vi x3, vi x4, vi x5, vi x6] [(.int x6), (.int (111 : Int32)), (.int ((Int32.ofNat oo) + (14 : Int32))), (.ref x1)])) rfl (by rw [hml]; rfl) (argsL := [(.int (111 : Int32)), (.int x6)]) (rest := [(.int ((Int32.ofNat oo) + (14 : Int32))), (.ref x1)]) (lenOf pd_24 rfl) rfl (by show 2 * 0 + _ ≤ _; exact Nat.le_of_eq rfl) (hb hby d1_166) (fun _ _ => ⟨rfl, e416, (by decide : 0 + 0 ≤ _), (by decide : 0 + 0 ≤ _)⟩)
  dsimp only [Pt.U, Pt.locs, Pt.cells, Pt.slots] at X417 l417 y417 z417 st417 hQ417
  subst y417 z417
  obtain ⟨rfl, N417q, eh417⟩ := hQ417
  have N417 : Fr n0 L417 := by rw [l417]; exact Fr.app N416 N417q
  obtain ⟨cl_a418, Ar_a418, q_a418, S_a418, N_a418, H_a418, G_a418⟩ := id V416
  have ej_a418 : ((Int32.ofNat oo) + (14 : Int32)) = Int32.ofNat (oo + 14) := (own_add oo 14)
  have hin_a418 : ¬ (((Int32.ofNat oo) + (14 : Int32)) < 0 ∨ cl_a418.slots.size ≤ (((Int32.ofNat oo) + (14 : Int32))).toNatClampNeg) := by rw [ej_a418]; exact own_in (n := n) S_a418 (by omega) (by omega)
  obtain ⟨T419, h419, X419, e419, W419, st419⟩ := stC X417 hx hZ eh417 Ar_a418 (j := ((Int32.ofNat oo) + (14 : Int32))) hin_a418 (g := (mkF m 169 #[vr x1, vi (Int32.ofNat oo), vi x3, vi x4, vi x5, vi x6] [(.int (own_cased (111 : Int32) x6)), (.int ((Int32.ofNat oo) + (14 : Int32))), (.ref x1)])) rfl rfl (hb hby d1_169)
  have O419 : Old Z n0 h419 := O416.wr W419 g_x1
  have Z419 : n0 ≤ h419.size := Nat.le_trans Z416 (Keep.of_wr W419).1
  have K419 : Keep h0 h419 [x1] := K416.wr W419 (Or.inl (List.mem_of_getElem? (i := 0) rfl))
  have N419 := Fr.snoc X419 N417 g_x1
  have V419 : Arv Z h419 x1 kc .char (Int32.ofNat n) (own_cv (own_put fc x3 x4 x5 x6 oo 15) n) (.int (0 : Int32)) := (Arv.set Ar_a418 q_a418 S_a418 N_a418 H_a418 G_a418 (fits_nar_char _) W419 (oo + 14) (by rw [ej_a418]; exact own_nat (by omega)) (by rw [own_cvlen]; omega)).pad (own_setcv (own_put_s (i := 14) (by first | rfl | decide)) (own_put_o (i := 14)))
  obtain ⟨_, _, ⟨T420, L420, k420, n420⟩, -, X420, ⟨Lc420, hQ420, l420, y420, z420⟩, st420⟩ := Jvm.LawKit.callS X419 hx (y := (⟨"com/example/prueba/prueba/MediaTypesIsJsonPinLaw", "cased", "(CZ)C"⟩ : MethodName)) hown (mvT hZ (own_wd hw 5 rfl)) (mvT hZ (own_wd hw 6 rfl)) (mvT hZ (own_wd hw 3 rfl)) (mvT hZ (own_wd hw 7 rfl)) (by decide) (backOf (W := 2) (rm2 l Z a0 hw [] (110 : Int32) x6 h419 n0 Z419 O419) hZ (own_wd hw 7 rfl) (own_wd hw 3 rfl) (by decide) (by decide)) (g := (mkF m 179 #[vr x1, vi (Int32.ofNat oo), vi x3, vi x4, vi x5, vi x6] [(.int x6), (.int (110 : Int32)), (.int ((Int32.ofNat oo) + (15 : Int32))), (.ref x1)])) rfl (by rw [hml]; rfl) (argsL := [(.int (110 : Int32)), (.int x6)]) (rest := [(.int ((Int32.ofNat oo) + (15 : Int32))), (.ref x1)]) (lenOf pd_24 rfl) rfl (by show 2 * 0 + _ ≤ _; exact Nat.le_of_eq rfl) (hb hby d1_179) (fun _ _ => ⟨rfl, e419, (by decide : 0 + 0 ≤ _), (by decide : 0 + 0 ≤ _)⟩)
  dsimp only [Pt.U, Pt.locs, Pt.cells, Pt.slots] at X420 l420 y420 z420 st420 hQ420
  subst y420 z420
  obtain ⟨rfl, N420q, eh420⟩ := hQ420
  have N420 : Fr n0 L420 := by rw [l420]; exact Fr.app N419 N420q
  obtain ⟨cl_a421, Ar_a421, q_a421, S_a421, N_a421, H_a421, G_a421⟩ := id V419
  have ej_a421 : ((Int32.ofNat oo) + (15 : Int32)) = Int32.ofNat (oo + 15) := (own_add oo 15)
  have hin_a421 : ¬ (((Int32.ofNat oo) + (15 : Int32)) < 0 ∨ cl_a421.slots.size ≤ (((Int32.ofNat oo) + (15 : Int32))).toNatClampNeg) := by rw [ej_a421]; exact own_in (n := n) S_a421 (by omega) (by omega)
  obtain ⟨T422, h422, X422, e422, W422, st422⟩ := stC X420 hx hZ eh420 Ar_a421 (j := ((Int32.ofNat oo) + (15 : Int32))) hin_a421 (g := (mkF m 182 #[vr x1, vi (Int32.ofNat oo), vi x3, vi x4, vi x5, vi x6] [(.int (own_cased (110 : Int32) x6)), (.int ((Int32.ofNat oo) + (15 : Int32))), (.ref x1)])) rfl rfl (hb hby d1_182)
  have O422 : Old Z n0 h422 := O419.wr W422 g_x1
  have Z422 : n0 ≤ h422.size := Nat.le_trans Z419 (Keep.of_wr W422).1
  have K422 : Keep h0 h422 [x1] := K419.wr W422 (Or.inl (List.mem_of_getElem? (i := 0) rfl))
  have N422 := Fr.snoc X422 N420 g_x1
  have V422 : Arv Z h422 x1 kc .char (Int32.ofNat n) (own_cv (own_put fc x3 x4 x5 x6 oo 16) n) (.int (0 : Int32)) := (Arv.set Ar_a421 q_a421 S_a421 N_a421 H_a421 G_a421 (fits_nar_char _) W422 (oo + 15) (by rw [ej_a421]; exact own_nat (by omega)) (by rw [own_cvlen]; omega)).pad (own_setcv (own_put_s (i := 15) (by first | rfl | decide)) (own_put_o (i := 15)))
  obtain ⟨fs, hr, hrun, hended, hW, hsame⟩ := X422.leave (v := none) (fun _ => rfl)
  refine ⟨_, _, pre0 _ ?_, hrun, hended, _, _, rfl, ?_, ⟨_, rfl⟩, hW, hsame.mono (by decide) (by decide)⟩
  · show SF p e below s₁ m 0 #[vr x1, vi (Int32.ofNat oo), vi x3, vi x4, vi x5, vi x6] [] _
    refine XS.aloadN X0.here hx rfl (hb hby d1_0) rfl rfl ?_
    refine XS.iloadN X0.here hx rfl (hb hby d1_1) rfl ?_
    refine XS.iloadN X0.here hx rfl (hb hby d1_2) rfl ?_
    show SF p e below s₁ m 3 #[vr x1, vi (Int32.ofNat oo), vi x3, vi x4, vi x5, vi x6] [(.int x3), (.int (Int32.ofNat oo)), (.ref x1)] _
    refine st379 _ ?_
    show SF p e below T379 m 4 #[vr x1, vi (Int32.ofNat oo), vi x3, vi x4, vi x5, vi x6] [] _
    refine XS.aloadN X379.here hx rfl (hb hby d1_4) rfl rfl ?_
    refine XS.iloadN X379.here hx rfl (hb hby d1_5) rfl ?_
    refine XS.iconst X379.here hx rfl (hb hby d1_6) ?_
    refine XS.iadd X379.here hx rfl (hb hby d1_7) rfl ?_
    refine XS.bipush X379.here hx rfl (hb hby d1_8) ?_
    refine XS.iload X379.here hx rfl (hb hby d1_10) rfl ?_
    show SF p e below T379 m 12 _ [(.int x6), (.int (112 : Int32)), (.int ((Int32.ofNat oo) + (1 : Int32))), (.ref x1)] _
    refine st380 _ ?_
    show SF p e below T380 m 15 #[vr x1, vi (Int32.ofNat oo), vi x3, vi x4, vi x5, vi x6] [(.int (own_cased (112 : Int32) x6)), (.int ((Int32.ofNat oo) + (1 : Int32))), (.ref x1)] _
    refine st382 _ ?_
    show SF p e below T382 m 16 #[vr x1, vi (Int32.ofNat oo), vi x3, vi x4, vi x5, vi x6] [] _
    refine XS.aloadN X382.here hx rfl (hb hby d1_16) rfl rfl ?_
    refine XS.iloadN X382.here hx rfl (hb hby d1_17) rfl ?_
    refine XS.iconst X382.here hx rfl (hb hby d1_18) ?_
    refine XS.iadd X382.here hx rfl (hb hby d1_19) rfl ?_
    refine XS.bipush X382.here hx rfl (hb hby d1_20) ?_
    refine XS.iload X382.here hx rfl (hb hby d1_22) rfl ?_
    show SF p e below T382 m 24 _ [(.int x6), (.int (112 : Int32)), (.int ((Int32.ofNat oo) + (2 : Int32))), (.ref x1)] _
    refine st383 _ ?_
    show SF p e below T383 m 27 #[vr x1, vi (Int32.ofNat oo), vi x3, vi x4, vi x5, vi x6] [(.int (own_cased (112 : Int32) x6)), (.int ((Int32.ofNat oo) + (2 : Int32))), (.ref x1)] _
    refine st385 _ ?_
    show SF p e below T385 m 28 #[vr x1, vi (Int32.ofNat oo), vi x3, vi x4, vi x5, vi x6] [] _
    refine XS.aloadN X385.here hx rfl (hb hby d1_28) rfl rfl ?_
    refine XS.iloadN X385.here hx rfl (hb hby d1_29) rfl ?_
    refine XS.iconst X385.here hx rfl (hb hby d1_30) ?_
    refine XS.iadd X385.here hx rfl (hb hby d1_31) rfl ?_
    refine XS.bipush X385.here hx rfl (hb hby d1_32) ?_
    refine XS.iload X385.here hx rfl (hb hby d1_34) rfl ?_
    show SF p e below T385 m 36 _ [(.int x6), (.int (108 : Int32)), (.int ((Int32.ofNat oo) + (3 : Int32))), (.ref x1)] _
    refine st386 _ ?_
    show SF p e below T386 m 39 #[vr x1, vi (Int32.ofNat oo), vi x3, vi x4, vi x5, vi x6] [(.int (own_cased (108 : Int32) x6)), (.int ((Int32.ofNat oo) + (3 : Int32))), (.ref x1)] _
    refine st388 _ ?_
    show SF p e below T388 m 40 #[vr x1, vi (Int32.ofNat oo), vi x3, vi x4, vi x5, vi x6] [] _
    refine XS.aloadN X388.here hx rfl (hb hby d1_40) rfl rfl ?_
    refine XS.iloadN X388.here hx rfl (hb hby d1_41) rfl ?_
    refine XS.iconst X388.here hx rfl (hb hby d1_42) ?_
    refine XS.iadd X388.here hx rfl (hb hby d1_43) rfl ?_
    refine XS.bipush X388.here hx rfl (hb hby d1_44) ?_
    refine XS.iload X388.here hx rfl (hb hby d1_46) rfl ?_
    show SF p e below T388 m 48 _ [(.int x6), (.int (105 : Int32)), (.int ((Int32.ofNat oo) + (4 : Int32))), (.ref x1)] _
    refine st389 _ ?_
    show SF p e below T389 m 51 #[vr x1, vi (Int32.ofNat oo), vi x3, vi x4, vi x5, vi x6] [(.int (own_cased (105 : Int32) x6)), (.int ((Int32.ofNat oo) + (4 : Int32))), (.ref x1)] _
    refine st391 _ ?_
    show SF p e below T391 m 52 #[vr x1, vi (Int32.ofNat oo), vi x3, vi x4, vi x5, vi x6] [] _
    refine XS.aloadN X391.here hx rfl (hb hby d1_52) rfl rfl ?_
    refine XS.iloadN X391.here hx rfl (hb hby d1_53) rfl ?_
    refine XS.iconst X391.here hx rfl (hb hby d1_54) ?_
    refine XS.iadd X391.here hx rfl (hb hby d1_55) rfl ?_
    refine XS.bipush X391.here hx rfl (hb hby d1_56) ?_
    refine XS.iload X391.here hx rfl (hb hby d1_58) rfl ?_
    show SF p e below T391 m 60 _ [(.int x6), (.int (99 : Int32)), (.int ((Int32.ofNat oo) + (5 : Int32))), (.ref x1)] _
    refine st392 _ ?_
    show SF p e below T392 m 63 #[vr x1, vi (Int32.ofNat oo), vi x3, vi x4, vi x5, vi x6] [(.int (own_cased (99 : Int32) x6)), (.int ((Int32.ofNat oo) + (5 : Int32))), (.ref x1)] _
    refine st394 _ ?_
    show SF p e below T394 m 64 #[vr x1, vi (Int32.ofNat oo), vi x3, vi x4, vi x5, vi x6] [] _
    refine XS.aloadN X394.here hx rfl (hb hby d1_64) rfl rfl ?_
    refine XS.iloadN X394.here hx rfl (hb hby d1_65) rfl ?_
    refine XS.bipush X394.here hx rfl (hb hby d1_66) ?_
    refine XS.iadd X394.here hx rfl (hb hby d1_68) rfl ?_
    refine XS.bipush X394.here hx rfl (hb hby d1_69) ?_
    refine XS.iload X394.here hx rfl (hb hby d1_71) rfl ?_
    show SF p e below T394 m 73 _ [(.int x6), (.int (97 : Int32)), (.int ((Int32.ofNat oo) + (6 : Int32))), (.ref x1)] _
    refine st395 _ ?_
    show SF p e below T395 m 76 #[vr x1, vi (Int32.ofNat oo), vi x3, vi x4, vi x5, vi x6] [(.int (own_cased (97 : Int32) x6)), (.int ((Int32.ofNat oo) + (6 : Int32))), (.ref x1)] _
    refine st397 _ ?_
    show SF p e below T397 m 77 #[vr x1, vi (Int32.ofNat oo), vi x3, vi x4, vi x5, vi x6] [] _
    refine XS.aloadN X397.here hx rfl (hb hby d1_77) rfl rfl ?_
    refine XS.iloadN X397.here hx rfl (hb hby d1_78) rfl ?_
    refine XS.bipush X397.here hx rfl (hb hby d1_79) ?_
    refine XS.iadd X397.here hx rfl (hb hby d1_81) rfl ?_
    refine XS.bipush X397.here hx rfl (hb hby d1_82) ?_
    refine XS.iload X397.here hx rfl (hb hby d1_84) rfl ?_
    show SF p e below T397 m 86 _ [(.int x6), (.int (116 : Int32)), (.int ((Int32.ofNat oo) + (7 : Int32))), (.ref x1)] _
    refine st398 _ ?_
    show SF p e below T398 m 89 #[vr x1, vi (Int32.ofNat oo), vi x3, vi x4, vi x5, vi x6] [(.int (own_cased (116 : Int32) x6)), (.int ((Int32.ofNat oo) + (7 : Int32))), (.ref x1)] _
    refine st400 _ ?_
    show SF p e below T400 m 90 #[vr x1, vi (Int32.ofNat oo), vi x3, vi x4, vi x5, vi x6] [] _
    refine XS.aloadN X400.here hx rfl (hb hby d1_90) rfl rfl ?_
    refine XS.iloadN X400.here hx rfl (hb hby d1_91) rfl ?_
    refine XS.bipush X400.here hx rfl (hb hby d1_92) ?_
    refine XS.iadd X400.here hx rfl (hb hby d1_94) rfl ?_
    refine XS.bipush X400.here hx rfl (hb hby d1_95) ?_
    refine XS.iload X400.here hx rfl (hb hby d1_97) rfl ?_
    show SF p e below T400 m 99 _ [(.int x6), (.int (105 : Int32)), (.int ((Int32.ofNat oo) + (8 : Int32))), (.ref x1)] _
    refine st401 _ ?_
    show SF p e below T401 m 102 #[vr x1, vi (Int32.ofNat oo), vi x3, vi x4, vi x5, vi x6] [(.int (own_cased (105 : Int32) x6)), (.int ((Int32.ofNat oo) + (8 : Int32))), (.ref x1)] _
    refine st403 _ ?_
    show SF p e below T403 m 103 #[vr x1, vi (Int32.ofNat oo), vi x3, vi x4, vi x5, vi x6] [] _
    refine XS.aloadN X403.here hx rfl (hb hby d1_103) rfl rfl ?_
    refine XS.iloadN X403.here hx rfl (hb hby d1_104) rfl ?_
    refine XS.bipush X403.here hx rfl (hb hby d1_105) ?_
    refine XS.iadd X403.here hx rfl (hb hby d1_107) rfl ?_
    refine XS.bipush X403.here hx rfl (hb hby d1_108) ?_
    refine XS.iload X403.here hx rfl (hb hby d1_110) rfl ?_
    show SF p e below T403 m 112 _ [(.int x6), (.int (111 : Int32)), (.int ((Int32.ofNat oo) + (9 : Int32))), (.ref x1)] _
    refine st404 _ ?_
    show SF p e below T404 m 115 #[vr x1, vi (Int32.ofNat oo), vi x3, vi x4, vi x5, vi x6] [(.int (own_cased (111 : Int32) x6)), (.int ((Int32.ofNat oo) + (9 : Int32))), (.ref x1)] _
    refine st406 _ ?_
    show SF p e below T406 m 116 #[vr x1, vi (Int32.ofNat oo), vi x3, vi x4, vi x5, vi x6] [] _
    refine XS.aloadN X406.here hx rfl (hb hby d1_116) rfl rfl ?_
    refine XS.iloadN X406.here hx rfl (hb hby d1_117) rfl ?_
    refine XS.bipush X406.here hx rfl (hb hby d1_118) ?_
    refine XS.iadd X406.here hx rfl (hb hby d1_120) rfl ?_
    refine XS.bipush X406.here hx rfl (hb hby d1_121) ?_
    refine XS.iload X406.here hx rfl (hb hby d1_123) rfl ?_
    show SF p e below T406 m 125 _ [(.int x6), (.int (110 : Int32)), (.int ((Int32.ofNat oo) + (10 : Int32))), (.ref x1)] _
    refine st407 _ ?_
    show SF p e below T407 m 128 #[vr x1, vi (Int32.ofNat oo), vi x3, vi x4, vi x5, vi x6] [(.int (own_cased (110 : Int32) x6)), (.int ((Int32.ofNat oo) + (10 : Int32))), (.ref x1)] _
    refine st409 _ ?_
    show SF p e below T409 m 129 #[vr x1, vi (Int32.ofNat oo), vi x3, vi x4, vi x5, vi x6] [] _
    refine XS.aloadN X409.here hx rfl (hb hby d1_129) rfl rfl ?_
    refine XS.iloadN X409.here hx rfl (hb hby d1_130) rfl ?_
    refine XS.bipush X409.here hx rfl (hb hby d1_131) ?_
    refine XS.iadd X409.here hx rfl (hb hby d1_133) rfl ?_
    refine XS.iloadN X409.here hx rfl (hb hby d1_134) rfl ?_
    show SF p e below T409 m 135 _ [(.int x4), (.int ((Int32.ofNat oo) + (11 : Int32))), (.ref x1)] _
    refine st411 _ ?_
    show SF p e below T411 m 136 #[vr x1, vi (Int32.ofNat oo), vi x3, vi x4, vi x5, vi x6] [] _
    refine XS.aloadN X411.here hx rfl (hb hby d1_136) rfl rfl ?_
    refine XS.iloadN X411.here hx rfl (hb hby d1_137) rfl ?_
    refine XS.bipush X411.here hx rfl (hb hby d1_138) ?_
    refine XS.iadd X411.here hx rfl (hb hby d1_140) rfl ?_
    refine XS.iload X411.here hx rfl (hb hby d1_141) rfl ?_
    show SF p e below T411 m 143 _ [(.int x5), (.int ((Int32.ofNat oo) + (12 : Int32))), (.ref x1)] _
    refine st413 _ ?_
    show SF p e below T413 m 144 #[vr x1, vi (Int32.ofNat oo), vi x3, vi x4, vi x5, vi x6] [] _
    refine XS.aloadN X413.here hx rfl (hb hby d1_144) rfl rfl ?_
    refine XS.iloadN X413.here hx rfl (hb hby d1_145) rfl ?_
    refine XS.bipush X413.here hx rfl (hb hby d1_146) ?_
    refine XS.iadd X413.here hx rfl (hb hby d1_148) rfl ?_
    refine XS.bipush X413.here hx rfl (hb hby d1_149) ?_
    refine XS.iload X413.here hx rfl (hb hby d1_151) rfl ?_
    show SF p e below T413 m 153 _ [(.int x6), (.int (115 : Int32)), (.int ((Int32.ofNat oo) + (13 : Int32))), (.ref x1)] _
    refine st414 _ ?_
    show SF p e below T414 m 156 #[vr x1, vi (Int32.ofNat oo), vi x3, vi x4, vi x5, vi x6] [(.int (own_cased (115 : Int32) x6)), (.int ((Int32.ofNat oo) + (13 : Int32))), (.ref x1)] _
    refine st416 _ ?_
    show SF p e below T416 m 157 #[vr x1, vi (Int32.ofNat oo), vi x3, vi x4, vi x5, vi x6] [] _
    refine XS.aloadN X416.here hx rfl (hb hby d1_157) rfl rfl ?_
    refine XS.iloadN X416.here hx rfl (hb hby d1_158) rfl ?_
    refine XS.bipush X416.here hx rfl (hb hby d1_159) ?_
    refine XS.iadd X416.here hx rfl (hb hby d1_161) rfl ?_
    refine XS.bipush X416.here hx rfl (hb hby d1_162) ?_
    refine XS.iload X416.here hx rfl (hb hby d1_164) rfl ?_
    show SF p e below T416 m 166 _ [(.int x6), (.int (111 : Int32)), (.int ((Int32.ofNat oo) + (14 : Int32))), (.ref x1)] _
    refine st417 _ ?_
    show SF p e below T417 m 169 #[vr x1, vi (Int32.ofNat oo), vi x3, vi x4, vi x5, vi x6] [(.int (own_cased (111 : Int32) x6)), (.int ((Int32.ofNat oo) + (14 : Int32))), (.ref x1)] _
    refine st419 _ ?_
    show SF p e below T419 m 170 #[vr x1, vi (Int32.ofNat oo), vi x3, vi x4, vi x5, vi x6] [] _
    refine XS.aloadN X419.here hx rfl (hb hby d1_170) rfl rfl ?_
    refine XS.iloadN X419.here hx rfl (hb hby d1_171) rfl ?_
    refine XS.bipush X419.here hx rfl (hb hby d1_172) ?_
    refine XS.iadd X419.here hx rfl (hb hby d1_174) rfl ?_
    refine XS.bipush X419.here hx rfl (hb hby d1_175) ?_
    refine XS.iload X419.here hx rfl (hb hby d1_177) rfl ?_
    show SF p e below T419 m 179 _ [(.int x6), (.int (110 : Int32)), (.int ((Int32.ofNat oo) + (15 : Int32))), (.ref x1)] _
    refine st420 _ ?_
    show SF p e below T420 m 182 #[vr x1, vi (Int32.ofNat oo), vi x3, vi x4, vi x5, vi x6] [(.int (own_cased (110 : Int32) x6)), (.int ((Int32.ofNat oo) + (15 : Int32))), (.ref x1)] _
    refine st422 _ ?_
    show SF p e below T422 m 183 #[vr x1, vi (Int32.ofNat oo), vi x3, vi x4, vi x5, vi x6] [] _
    exact X422.returnOut hx Bd.returns (hb hby d1_183) hr
  · show Q1 Z x1 x3 x4 x5 x6 kc fc oo n h0 n0 _ T422.heap _
    rw [e422]
    exact ⟨rfl, N422, K422, V422⟩
theorem d41_0 : decode method_4_code 0 = .ok (.aload_n 0, 1) := by decide +kernel
theorem d41_1 : decode method_4_code 1 = .ok (.iload_n 1, 1) := by decide +kernel
theorem d41_2 : decode method_4_code 2 = .ok (.bipush 59, 2) := by decide +kernel
theorem d41_4 : decode method_4_code 4 = .ok (.castore, 1) := by decide +kernel
theorem d41_5 : decode method_4_code 5 = .ok (.aload_n 0, 1) := by decide +kernel
theorem d41_6 : decode method_4_code 6 = .ok (.iload_n 1, 1) := by decide +kernel
theorem d41_7 : decode method_4_code 7 = .ok (.iconst 1, 1) := by decide +kernel
theorem d41_8 : decode method_4_code 8 = .ok (.iadd, 1) := by decide +kernel
theorem d41_9 : decode method_4_code 9 = .ok (.bipush 43, 2) := by decide +kernel
theorem d41_11 : decode method_4_code 11 = .ok (.castore, 1) := by decide +kernel
theorem d41_12 : decode method_4_code 12 = .ok (.aload_n 0, 1) := by decide +kernel
theorem d41_13 : decode method_4_code 13 = .ok (.iload_n 1, 1) := by decide +kernel
theorem d41_14 : decode method_4_code 14 = .ok (.iconst 2, 1) := by decide +kernel
theorem d41_15 : decode method_4_code 15 = .ok (.iadd, 1) := by decide +kernel
theorem d41_16 : decode method_4_code 16 = .ok (.bipush 106, 2) := by decide +kernel
theorem d41_18 : decode method_4_code 18 = .ok (.castore, 1) := by decide +kernel
theorem d41_19 : decode method_4_code 19 = .ok (.aload_n 0, 1) := by decide +kernel
theorem d41_20 : decode method_4_code 20 = .ok (.iload_n 1, 1) := by decide +kernel
theorem d41_21 : decode method_4_code 21 = .ok (.iconst 3, 1) := by decide +kernel
theorem d41_22 : decode method_4_code 22 = .ok (.iadd, 1) := by decide +kernel
theorem d41_23 : decode method_4_code 23 = .ok (.bipush 115, 2) := by decide +kernel
theorem d41_25 : decode method_4_code 25 = .ok (.castore, 1) := by decide +kernel
theorem d41_26 : decode method_4_code 26 = .ok (.aload_n 0, 1) := by decide +kernel
theorem d41_27 : decode method_4_code 27 = .ok (.iload_n 1, 1) := by decide +kernel
theorem d41_28 : decode method_4_code 28 = .ok (.iconst 4, 1) := by decide +kernel
theorem d41_29 : decode method_4_code 29 = .ok (.iadd, 1) := by decide +kernel
theorem d41_30 : decode method_4_code 30 = .ok (.bipush 111, 2) := by decide +kernel
theorem d41_32 : decode method_4_code 32 = .ok (.castore, 1) := by decide +kernel
theorem d41_33 : decode method_4_code 33 = .ok (.aload_n 0, 1) := by decide +kernel
theorem d41_34 : decode method_4_code 34 = .ok (.iload_n 1, 1) := by decide +kernel
theorem d41_35 : decode method_4_code 35 = .ok (.iconst 5, 1) := by decide +kernel
theorem d41_36 : decode method_4_code 36 = .ok (.iadd, 1) := by decide +kernel
theorem d41_37 : decode method_4_code 37 = .ok (.bipush 110, 2) := by decide +kernel
theorem d41_39 : decode method_4_code 39 = .ok (.castore, 1) := by decide +kernel
theorem d41_40 : decode method_4_code 40 = .ok (.return_, 1) := by decide +kernel
theorem ef41 (m : MethodId) (x1 : Addr) : entryFrame m #[(.ref x1), (.int (Int32.ofNat oo))] 2 = mkF m 0 #[vr x1, vi (Int32.ofNat oo)] [] := by first | (simp [entryFrame, mkF, argsToLocals, Value.category]; done) | rfl
def Q41 (Z : State) (x1 : Addr) (kc : ClassId) (fc : Nat → Int32) (oo : Nat) (n : Nat) (h0 : Heap) (n0 : Nat) (v : Option Value) (h : Heap) (L : List Loc) : Prop := v = none ∧ Fr n0 L ∧ Keep h0 h [x1] ∧ Arv Z h x1 kc .char (Int32.ofNat n) (own_cv (own_tl fc oo 6) n) (.int (0 : Int32))
set_option maxRecDepth 65536 in
set_option maxHeartbeats 40000000 in
theorem rm41 (l : Launch) (Z : State) (a0 : Array Value) (hw : ∀ d ∈ tables_1, d.before a0 Z = true) (ws : List Jvm.Cond) (x1 : Addr) (kc : ClassId) (fc : Nat → Int32) (oo : Nat) (n : Nat) (h0 : Heap) (n0 : Nat) (Z0 : n0 ≤ h0.size) (O0 : Old Z n0 h0) (V_x1 : Arv Z h0 x1 kc .char (Int32.ofNat n) (own_cv fc n) (.int (0 : Int32))) (hn : n ≤ 24) (hon : oo + 6 ≤ n) (g_x1 : n0 ≤ x1) :
    MetFree l (⟨"com/example/prueba/prueba/MediaTypesIsJsonPinLaw", "putTail", "([CI)V"⟩ : MethodName) (head1 (Jvm.Cond.code (⟨"com/example/prueba/prueba/MediaTypesIsJsonPinLaw", "putTail", "([CI)V"⟩ : MethodName) method_4_code 2 none :: ws) ({ frames := 0, cells := 0, slots := 0, locals := 0 } : Room)) (fun a U => a = #[(.ref x1), (.int (Int32.ofNat oo))] ∧ Z.Warmed39 U.vm ∧ U.heap = h0) (fun _ _ _ _ _ => True) (fun _ U o U' => ∃ v L, o = .returned v ∧ Q41 Z x1 kc fc oo n h0 n0 v U'.heap L ∧ FrameEnd U o U' L ({ frames := 0, cells := 0, slots := 0, locals := 0 } : Room).cells ({ frames := 0, cells := 0, slots := 0, locals := 0 } : Room).slots) := by
  refine MetFree.of_bodySF (plainFor_of_name pn_com_example_prueba_prueba_MediaTypesIsJsonPinLaw) hisR ?_
  intro p e s m args below meth c s₁ Bd hml0 hP hK
  obtain ⟨rfl, hZ, hh⟩ := hP
  have hx := Bd.exec
  have hby := Bd.bytes
  have hml : c.maxLocals = 2 := hml0
  have hown : s.vm.findClass "com/example/prueba/prueba/MediaTypesIsJsonPinLaw" = some m.cls := findClass_of_methodNamed Bd.named
  have hnm := (name_of_methodNamed Bd.named Bd.method).1
  have X0 : Stand p l e ({ frames := 0, cells := 0, slots := 0, locals := 0 } : Room) s m #[(.ref x1), (.int (Int32.ofNat oo))] below meth c s₁ [] 0 0 := Stand.of_body Bd
  have e0 : s₁.heap = h0 := by rw [← hh, Bd.state]; rfl
  have N0 := Fr.nil n0
  have K0 : Keep h0 h0 [x1] := Keep.refl _ _
  have pre0 : ∀ t, SF p e below s₁ m 0 #[vr x1, vi (Int32.ofNat oo)] [] t → Steps p.tables e below (s₁.setTop (entryFrame m #[(.ref x1), (.int (Int32.ofNat oo))] 2)) t := fun t k => castTop (ef41 m x1) k
  obtain ⟨cl_a423, Ar_a423, q_a423, S_a423, N_a423, H_a423, G_a423⟩ := id V_x1
  have ej_a423 : (Int32.ofNat oo) = Int32.ofNat oo := rfl
  have hin_a423 : ¬ ((Int32.ofNat oo) < 0 ∨ cl_a423.slots.size ≤ ((Int32.ofNat oo)).toNatClampNeg) := by rw [ej_a423]; exact own_in (n := n) S_a423 (by omega) (by omega)
  obtain ⟨T424, h424, X424, e424, W424, st424⟩ := stC X0 hx hZ e0 Ar_a423 (j := (Int32.ofNat oo)) hin_a423 (g := (mkF m 4 #[vr x1, vi (Int32.ofNat oo)] [(.int (59 : Int32)), (.int (Int32.ofNat oo)), (.ref x1)])) rfl rfl (hb hby d41_4)
  have O424 : Old Z n0 h424 := O0.wr W424 g_x1
  have Z424 : n0 ≤ h424.size := Nat.le_trans Z0 (Keep.of_wr W424).1
  have K424 : Keep h0 h424 [x1] := K0.wr W424 (Or.inl (List.mem_of_getElem? (i := 0) rfl))
  have N424 := Fr.snoc X424 N0 g_x1
  have V424 : Arv Z h424 x1 kc .char (Int32.ofNat n) (own_cv (own_tl fc oo 1) n) (.int (0 : Int32)) := (Arv.set Ar_a423 q_a423 S_a423 N_a423 H_a423 G_a423 (fits_nar_char _) W424 oo (by rw [ej_a423]; exact own_nat (by omega)) (by rw [own_cvlen]; omega)).pad (own_setcv (own_tl_s (i := 0) (by first | rfl | decide)) own_tl_o0)
  obtain ⟨cl_a425, Ar_a425, q_a425, S_a425, N_a425, H_a425, G_a425⟩ := id V424
  have ej_a425 : ((Int32.ofNat oo) + (1 : Int32)) = Int32.ofNat (oo + 1) := (own_add oo 1)
  have hin_a425 : ¬ (((Int32.ofNat oo) + (1 : Int32)) < 0 ∨ cl_a425.slots.size ≤ (((Int32.ofNat oo) + (1 : Int32))).toNatClampNeg) := by rw [ej_a425]; exact own_in (n := n) S_a425 (by omega) (by omega)
  obtain ⟨T426, h426, X426, e426, W426, st426⟩ := stC X424 hx hZ e424 Ar_a425 (j := ((Int32.ofNat oo) + (1 : Int32))) hin_a425 (g := (mkF m 11 #[vr x1, vi (Int32.ofNat oo)] [(.int (43 : Int32)), (.int ((Int32.ofNat oo) + (1 : Int32))), (.ref x1)])) rfl rfl (hb hby d41_11)
  have O426 : Old Z n0 h426 := O424.wr W426 g_x1
  have Z426 : n0 ≤ h426.size := Nat.le_trans Z424 (Keep.of_wr W426).1
  have K426 : Keep h0 h426 [x1] := K424.wr W426 (Or.inl (List.mem_of_getElem? (i := 0) rfl))
  have N426 := Fr.snoc X426 N424 g_x1
  have V426 : Arv Z h426 x1 kc .char (Int32.ofNat n) (own_cv (own_tl fc oo 2) n) (.int (0 : Int32)) := (Arv.set Ar_a425 q_a425 S_a425 N_a425 H_a425 G_a425 (fits_nar_char _) W426 (oo + 1) (by rw [ej_a425]; exact own_nat (by omega)) (by rw [own_cvlen]; omega)).pad (own_setcv (own_tl_s (i := 1) (by first | rfl | decide)) (own_tl_o (i := 1)))
  obtain ⟨cl_a427, Ar_a427, q_a427, S_a427, N_a427, H_a427, G_a427⟩ := id V426
  have ej_a427 : ((Int32.ofNat oo) + (2 : Int32)) = Int32.ofNat (oo + 2) := (own_add oo 2)
  have hin_a427 : ¬ (((Int32.ofNat oo) + (2 : Int32)) < 0 ∨ cl_a427.slots.size ≤ (((Int32.ofNat oo) + (2 : Int32))).toNatClampNeg) := by rw [ej_a427]; exact own_in (n := n) S_a427 (by omega) (by omega)
  obtain ⟨T428, h428, X428, e428, W428, st428⟩ := stC X426 hx hZ e426 Ar_a427 (j := ((Int32.ofNat oo) + (2 : Int32))) hin_a427 (g := (mkF m 18 #[vr x1, vi (Int32.ofNat oo)] [(.int (106 : Int32)), (.int ((Int32.ofNat oo) + (2 : Int32))), (.ref x1)])) rfl rfl (hb hby d41_18)
  have O428 : Old Z n0 h428 := O426.wr W428 g_x1
  have Z428 : n0 ≤ h428.size := Nat.le_trans Z426 (Keep.of_wr W428).1
  have K428 : Keep h0 h428 [x1] := K426.wr W428 (Or.inl (List.mem_of_getElem? (i := 0) rfl))
  have N428 := Fr.snoc X428 N426 g_x1
  have V428 : Arv Z h428 x1 kc .char (Int32.ofNat n) (own_cv (own_tl fc oo 3) n) (.int (0 : Int32)) := (Arv.set Ar_a427 q_a427 S_a427 N_a427 H_a427 G_a427 (fits_nar_char _) W428 (oo + 2) (by rw [ej_a427]; exact own_nat (by omega)) (by rw [own_cvlen]; omega)).pad (own_setcv (own_tl_s (i := 2) (by first | rfl | decide)) (own_tl_o (i := 2)))
  obtain ⟨cl_a429, Ar_a429, q_a429, S_a429, N_a429, H_a429, G_a429⟩ := id V428
  have ej_a429 : ((Int32.ofNat oo) + (3 : Int32)) = Int32.ofNat (oo + 3) := (own_add oo 3)
  have hin_a429 : ¬ (((Int32.ofNat oo) + (3 : Int32)) < 0 ∨ cl_a429.slots.size ≤ (((Int32.ofNat oo) + (3 : Int32))).toNatClampNeg) := by rw [ej_a429]; exact own_in (n := n) S_a429 (by omega) (by omega)
  obtain ⟨T430, h430, X430, e430, W430, st430⟩ := stC X428 hx hZ e428 Ar_a429 (j := ((Int32.ofNat oo) + (3 : Int32))) hin_a429 (g := (mkF m 25 #[vr x1, vi (Int32.ofNat oo)] [(.int (115 : Int32)), (.int ((Int32.ofNat oo) + (3 : Int32))), (.ref x1)])) rfl rfl (hb hby d41_25)
  have O430 : Old Z n0 h430 := O428.wr W430 g_x1
  have Z430 : n0 ≤ h430.size := Nat.le_trans Z428 (Keep.of_wr W430).1
  have K430 : Keep h0 h430 [x1] := K428.wr W430 (Or.inl (List.mem_of_getElem? (i := 0) rfl))
  have N430 := Fr.snoc X430 N428 g_x1
  have V430 : Arv Z h430 x1 kc .char (Int32.ofNat n) (own_cv (own_tl fc oo 4) n) (.int (0 : Int32)) := (Arv.set Ar_a429 q_a429 S_a429 N_a429 H_a429 G_a429 (fits_nar_char _) W430 (oo + 3) (by rw [ej_a429]; exact own_nat (by omega)) (by rw [own_cvlen]; omega)).pad (own_setcv (own_tl_s (i := 3) (by first | rfl | decide)) (own_tl_o (i := 3)))
  obtain ⟨cl_a431, Ar_a431, q_a431, S_a431, N_a431, H_a431, G_a431⟩ := id V430
  have ej_a431 : ((Int32.ofNat oo) + (4 : Int32)) = Int32.ofNat (oo + 4) := (own_add oo 4)
  have hin_a431 : ¬ (((Int32.ofNat oo) + (4 : Int32)) < 0 ∨ cl_a431.slots.size ≤ (((Int32.ofNat oo) + (4 : Int32))).toNatClampNeg) := by rw [ej_a431]; exact own_in (n := n) S_a431 (by omega) (by omega)
  obtain ⟨T432, h432, X432, e432, W432, st432⟩ := stC X430 hx hZ e430 Ar_a431 (j := ((Int32.ofNat oo) + (4 : Int32))) hin_a431 (g := (mkF m 32 #[vr x1, vi (Int32.ofNat oo)] [(.int (111 : Int32)), (.int ((Int32.ofNat oo) + (4 : Int32))), (.ref x1)])) rfl rfl (hb hby d41_32)
  have O432 : Old Z n0 h432 := O430.wr W432 g_x1
  have Z432 : n0 ≤ h432.size := Nat.le_trans Z430 (Keep.of_wr W432).1
  have K432 : Keep h0 h432 [x1] := K430.wr W432 (Or.inl (List.mem_of_getElem? (i := 0) rfl))
  have N432 := Fr.snoc X432 N430 g_x1
  have V432 : Arv Z h432 x1 kc .char (Int32.ofNat n) (own_cv (own_tl fc oo 5) n) (.int (0 : Int32)) := (Arv.set Ar_a431 q_a431 S_a431 N_a431 H_a431 G_a431 (fits_nar_char _) W432 (oo + 4) (by rw [ej_a431]; exact own_nat (by omega)) (by rw [own_cvlen]; omega)).pad (own_setcv (own_tl_s (i := 4) (by first | rfl | decide)) (own_tl_o (i := 4)))
  obtain ⟨cl_a433, Ar_a433, q_a433, S_a433, N_a433, H_a433, G_a433⟩ := id V432
  have ej_a433 : ((Int32.ofNat oo) + (5 : Int32)) = Int32.ofNat (oo + 5) := (own_add oo 5)
  have hin_a433 : ¬ (((Int32.ofNat oo) + (5 : Int32)) < 0 ∨ cl_a433.slots.size ≤ (((Int32.ofNat oo) + (5 : Int32))).toNatClampNeg) := by rw [ej_a433]; exact own_in (n := n) S_a433 (by omega) (by omega)
  obtain ⟨T434, h434, X434, e434, W434, st434⟩ := stC X432 hx hZ e432 Ar_a433 (j := ((Int32.ofNat oo) + (5 : Int32))) hin_a433 (g := (mkF m 39 #[vr x1, vi (Int32.ofNat oo)] [(.int (110 : Int32)), (.int ((Int32.ofNat oo) + (5 : Int32))), (.ref x1)])) rfl rfl (hb hby d41_39)
  have O434 : Old Z n0 h434 := O432.wr W434 g_x1
  have Z434 : n0 ≤ h434.size := Nat.le_trans Z432 (Keep.of_wr W434).1
  have K434 : Keep h0 h434 [x1] := K432.wr W434 (Or.inl (List.mem_of_getElem? (i := 0) rfl))
  have N434 := Fr.snoc X434 N432 g_x1
  have V434 : Arv Z h434 x1 kc .char (Int32.ofNat n) (own_cv (own_tl fc oo 6) n) (.int (0 : Int32)) := (Arv.set Ar_a433 q_a433 S_a433 N_a433 H_a433 G_a433 (fits_nar_char _) W434 (oo + 5) (by rw [ej_a433]; exact own_nat (by omega)) (by rw [own_cvlen]; omega)).pad (own_setcv (own_tl_s (i := 5) (by first | rfl | decide)) (own_tl_o (i := 5)))
  obtain ⟨fs, hr, hrun, hended, hW, hsame⟩ := X434.leave (v := none) (fun _ => rfl)
  refine ⟨_, _, pre0 _ ?_, hrun, hended, _, _, rfl, ?_, ⟨_, rfl⟩, hW, hsame.mono (by decide) (by decide)⟩
  · show SF p e below s₁ m 0 #[vr x1, vi (Int32.ofNat oo)] [] _
    refine XS.aloadN X0.here hx rfl (hb hby d41_0) rfl rfl ?_
    refine XS.iloadN X0.here hx rfl (hb hby d41_1) rfl ?_
    refine XS.bipush X0.here hx rfl (hb hby d41_2) ?_
    show SF p e below s₁ m 4 #[vr x1, vi (Int32.ofNat oo)] [(.int (59 : Int32)), (.int (Int32.ofNat oo)), (.ref x1)] _
    refine st424 _ ?_
    show SF p e below T424 m 5 #[vr x1, vi (Int32.ofNat oo)] [] _
    refine XS.aloadN X424.here hx rfl (hb hby d41_5) rfl rfl ?_
    refine XS.iloadN X424.here hx rfl (hb hby d41_6) rfl ?_
    refine XS.iconst X424.here hx rfl (hb hby d41_7) ?_
    refine XS.iadd X424.here hx rfl (hb hby d41_8) rfl ?_
    refine XS.bipush X424.here hx rfl (hb hby d41_9) ?_
    show SF p e below T424 m 11 _ [(.int (43 : Int32)), (.int ((Int32.ofNat oo) + (1 : Int32))), (.ref x1)] _
    refine st426 _ ?_
    show SF p e below T426 m 12 #[vr x1, vi (Int32.ofNat oo)] [] _
    refine XS.aloadN X426.here hx rfl (hb hby d41_12) rfl rfl ?_
    refine XS.iloadN X426.here hx rfl (hb hby d41_13) rfl ?_
    refine XS.iconst X426.here hx rfl (hb hby d41_14) ?_
    refine XS.iadd X426.here hx rfl (hb hby d41_15) rfl ?_
    refine XS.bipush X426.here hx rfl (hb hby d41_16) ?_
    show SF p e below T426 m 18 _ [(.int (106 : Int32)), (.int ((Int32.ofNat oo) + (2 : Int32))), (.ref x1)] _
    refine st428 _ ?_
    show SF p e below T428 m 19 #[vr x1, vi (Int32.ofNat oo)] [] _
    refine XS.aloadN X428.here hx rfl (hb hby d41_19) rfl rfl ?_
    refine XS.iloadN X428.here hx rfl (hb hby d41_20) rfl ?_
    refine XS.iconst X428.here hx rfl (hb hby d41_21) ?_
    refine XS.iadd X428.here hx rfl (hb hby d41_22) rfl ?_
    refine XS.bipush X428.here hx rfl (hb hby d41_23) ?_
    show SF p e below T428 m 25 _ [(.int (115 : Int32)), (.int ((Int32.ofNat oo) + (3 : Int32))), (.ref x1)] _
    refine st430 _ ?_
    show SF p e below T430 m 26 #[vr x1, vi (Int32.ofNat oo)] [] _
    refine XS.aloadN X430.here hx rfl (hb hby d41_26) rfl rfl ?_
    refine XS.iloadN X430.here hx rfl (hb hby d41_27) rfl ?_
    refine XS.iconst X430.here hx rfl (hb hby d41_28) ?_
    refine XS.iadd X430.here hx rfl (hb hby d41_29) rfl ?_
    refine XS.bipush X430.here hx rfl (hb hby d41_30) ?_
    show SF p e below T430 m 32 _ [(.int (111 : Int32)), (.int ((Int32.ofNat oo) + (4 : Int32))), (.ref x1)] _
    refine st432 _ ?_
    show SF p e below T432 m 33 #[vr x1, vi (Int32.ofNat oo)] [] _
    refine XS.aloadN X432.here hx rfl (hb hby d41_33) rfl rfl ?_
    refine XS.iloadN X432.here hx rfl (hb hby d41_34) rfl ?_
    refine XS.iconst X432.here hx rfl (hb hby d41_35) ?_
    refine XS.iadd X432.here hx rfl (hb hby d41_36) rfl ?_
    refine XS.bipush X432.here hx rfl (hb hby d41_37) ?_
    show SF p e below T432 m 39 _ [(.int (110 : Int32)), (.int ((Int32.ofNat oo) + (5 : Int32))), (.ref x1)] _
    refine st434 _ ?_
    show SF p e below T434 m 40 #[vr x1, vi (Int32.ofNat oo)] [] _
    exact X434.returnOut hx Bd.returns (hb hby d41_40) hr
  · show Q41 Z x1 kc fc oo n h0 n0 _ T434.heap _
    rw [e434]
    exact ⟨rfl, N434, K434, V434⟩
theorem pd_25 : parseMethodDescriptor "([CICCCZ)V" = some ⟨[(.array .char), .int, .char, .char, .char, .boolean], none⟩ := by decide +kernel
theorem pd_26 : parseMethodDescriptor "([C)V" = some ⟨[(.array .char)], none⟩ := by decide +kernel
theorem pd_27 : parseMethodDescriptor "([CI)V" = some ⟨[(.array .char), .int], none⟩ := by decide +kernel
theorem ef0 (m : MethodId) (x1 : Int32) (x2 : Int32) (x3 : Int32) (x4 : Int32) (x5 : Int32) (x6 : Int32) : entryFrame m #[(.int x1), (.int x2), (.int x3), (.int x4), (.int x5), (.int x6)] maxLocals = mkF m 0 #[vi x1, vi x2, vi x3, vi x4, vi x5, vi x6, un, un, un, un, un, un, un, un, un, un, un, un, un, un] [] := by first | (simp [entryFrame, mkF, argsToLocals, Value.category, maxLocals]; done) | rfl
def Q0 (Z : State) (x1 : Int32) (x2 : Int32) (x3 : Int32) (x4 : Int32) (x5 : Int32) (x6 : Int32) (st_ROOT : Addr) (st_ROOT_baseLocale : Addr) (st_ROOT_baseLocale_language : Addr) (st_ROOT_baseLocale_language_value : Addr) (k_st_ROOT_baseLocale_language_value : ClassId) (st_instance : Addr) (st_COMPACT_STRINGS : Int32) (st_fm : Value) (h0 : Heap) (n0 : Nat) (v : Option Value) (h : Heap) (L : List Loc) : Prop := v = some (.int (1 : Int32)) ∧ Fr n0 L ∧ Keep h0 h []
set_option maxRecDepth 65536 in
set_option maxHeartbeats 40000000 in
theorem rm0 (l : Launch) (Z : State) (a0 : Array Value) (hw : ∀ d ∈ tables_1, d.before a0 Z = true) (ws : List Jvm.Cond) (x1 : Int32) (x2 : Int32) (x3 : Int32) (x4 : Int32) (x5 : Int32) (x6 : Int32) (st_ROOT : Addr) (st_ROOT_baseLocale : Addr) (st_ROOT_baseLocale_language : Addr) (st_ROOT_baseLocale_language_value : Addr) (k_st_ROOT_baseLocale_language_value : ClassId) (st_instance : Addr) (st_COMPACT_STRINGS : Int32) (st_fm : Value) (h0 : Heap) (n0 : Nat) (Z0 : n0 ≤ h0.size) (O0 : Old Z n0 h0) (S_ROOT : Sta Z Z.heap "java/util/Locale" "ROOT" "Ljava/util/Locale;" (.ref st_ROOT)) (EZ_st_ROOT : Exa Z Z.heap st_ROOT "java/util/Locale") (FZ_st_ROOT_baseLocale : Fld Z Z.heap st_ROOT "java/util/Locale" "baseLocale" "Lsun/util/locale/BaseLocale;" (.ref st_ROOT_baseLocale)) (EZ_st_ROOT_baseLocale : Exa Z Z.heap st_ROOT_baseLocale "sun/util/locale/BaseLocale") (FZ_st_ROOT_baseLocale_language : Fld Z Z.heap st_ROOT_baseLocale "sun/util/locale/BaseLocale" "language" "Ljava/lang/String;" (.ref st_ROOT_baseLocale_language)) (FZ_st_ROOT_baseLocale_language_value : Fld Z Z.heap st_ROOT_baseLocale_language "java/lang/String" "value" "[B" (.ref st_ROOT_baseLocale_language_value)) (VZ_st_ROOT_baseLocale_language_value : Arv Z Z.heap st_ROOT_baseLocale_language_value k_st_ROOT_baseLocale_language_value .byte (0 : Int32) [] (.int (0 : Int32))) (S_instance : Sta Z Z.heap "java/lang/CharacterDataLatin1" "instance" "Ljava/lang/CharacterDataLatin1;" (.ref st_instance)) (EZ_st_instance : Exa Z Z.heap st_instance "java/lang/CharacterDataLatin1") (S_COMPACT_STRINGS : Sta Z Z.heap "java/lang/String" "COMPACT_STRINGS" "Z" (.int st_COMPACT_STRINGS)) (hcomp : ¬ (st_COMPACT_STRINGS = (0 : Int32))) (S_fm : Sta Z Z.heap "jdk/internal/util/Preconditions" "SIOOBE_FORMATTER" "Ljava/util/function/BiFunction;" st_fm) (hfm : st_fm.isRef = true) :
    MetFree l x (head1 (Jvm.Cond.code x code maxLocals ret :: ws) room_1) (fun a U => a = #[(.int x1), (.int x2), (.int x3), (.int x4), (.int x5), (.int x6)] ∧ Z.Warmed39 U.vm ∧ U.heap = h0 ∧ CHv Z own_EL U.vm h0) (fun _ _ _ _ _ => True) (fun _ U o U' => ∃ v L, o = .returned v ∧ Q0 Z x1 x2 x3 x4 x5 x6 st_ROOT st_ROOT_baseLocale st_ROOT_baseLocale_language st_ROOT_baseLocale_language_value k_st_ROOT_baseLocale_language_value st_instance st_COMPACT_STRINGS st_fm h0 n0 v U'.heap L ∧ CHr Z own_EL U.vm U.heap U'.vm U'.heap ∧ ReturnedEndW U o U' L room_1.cells room_1.slots) := by
  refine MetFree.of_bodySF (plainFor_of_name pn_com_example_prueba_prueba_MediaTypesIsJsonPinLaw) hisR ?_
  intro p e s m args below meth c s₁ Bd hml0 hP hK
  obtain ⟨rfl, hZ, hh, CH0⟩ := hP
  have hx := Bd.exec
  have hby := Bd.bytes
  have hml : c.maxLocals = 20 := hml0
  have hown : (s.setVm s.vm).vm.findClass "com/example/prueba/prueba/MediaTypesIsJsonPinLaw" = some m.cls := findClass_of_methodNamed Bd.named
  have hnm := (name_of_methodNamed Bd.named Bd.method).1
  have X0 : Stand p l e room_1 (s.setVm s.vm) m #[(.int x1), (.int x2), (.int x3), (.int x4), (.int x5), (.int x6)] below meth c s₁ [] 0 0 := Stand.of_body Bd
  have e0 : s₁.heap = h0 := by rw [← hh, Bd.state]; rfl
  have N0 := Fr.nil n0
  have K0 : Keep h0 h0 [] := Keep.refl _ _
  have pre0 : ∀ t, SF p e below s₁ m 0 #[vi x1, vi x2, vi x3, vi x4, vi x5, vi x6, un, un, un, un, un, un, un, un, un, un, un, un, un, un] [] t → Steps p.tables e below (s₁.setTop (entryFrame m #[(.int x1), (.int x2), (.int x3), (.int x4), (.int x5), (.int x6)] maxLocals)) t := fun t k => castTop (ef0 m x1 x2 x3 x4 x5 x6) k
  have hZa : Z.Warmed39 (s.setVm s.vm).vm := hZ
  have howna : (s.setVm s.vm).vm.findClass "com/example/prueba/prueba/MediaTypesIsJsonPinLaw" = some m.cls := hown
  have hS0 : s.Since s.vm h0.size := (State.WarmedH.refl s).since _
  have hk0 : h0.size ≤ h0.size := Nat.le_refl _
  have CR0 : CHr Z own_EL s.vm h0 s.vm h0 := CHr.refl CH0
  have C435 : Exa Z h0 st_ROOT "java/util/Locale" := EZ_st_ROOT.ext O0.2
  have F436 : Fld Z h0 st_ROOT "java/util/Locale" "baseLocale" "Lsun/util/locale/BaseLocale;" (.ref st_ROOT_baseLocale) := FZ_st_ROOT_baseLocale.ext O0.2
  have C437 : Exa Z h0 st_ROOT_baseLocale "sun/util/locale/BaseLocale" := EZ_st_ROOT_baseLocale.ext O0.2
  have F438 : Fld Z h0 st_ROOT_baseLocale "sun/util/locale/BaseLocale" "language" "Ljava/lang/String;" (.ref st_ROOT_baseLocale_language) := FZ_st_ROOT_baseLocale_language.ext O0.2
  have F439 : Fld Z h0 st_ROOT_baseLocale_language "java/lang/String" "value" "[B" (.ref st_ROOT_baseLocale_language_value) := FZ_st_ROOT_baseLocale_language_value.ext O0.2
  have V440 : Arv Z h0 st_ROOT_baseLocale_language_value k_st_ROOT_baseLocale_language_value .byte (0 : Int32) [] (.int (0 : Int32)) := VZ_st_ROOT_baseLocale_language_value.ext O0.2
  have C441 : Exa Z h0 st_instance "java/lang/CharacterDataLatin1" := EZ_st_instance.ext O0.2
  have pre442 := fun t (kt : SF p e below s₁ m 5 #[vi x1, vi x2, vi x3, vi x4, vi x5, vi x6, vi (x1 &&& (3 : Int32)), un, un, un, un, un, un, un, un, un, un, un, un, un] [] t) => pre0 t (by
    refine XS.iloadN X0.here hx rfl (hb hby at_0) rfl ?_
    refine XS.iconst X0.here hx rfl (hb hby at_1) ?_
    refine XS.iand X0.here hx rfl (hb hby at_2) rfl ?_
    refine XS.istore X0.here hx rfl (hb hby at_3) rfl (l' := #[vi x1, vi x2, vi x3, vi x4, vi x5, vi x6, vi (x1 &&& (3 : Int32)), un, un, un, un, un, un, un, un, un, un, un, un, un]) rfl ?_
    exact kt)
  obtain ⟨up_443, T443, L443, X443, e443, N443, J443_0, k443⟩ : ∃ (up_443 : Int32) (T443 : State) (L443 : List Loc), Stand p l e room_1 (s.setVm s.vm) m #[(.int x1), (.int x2), (.int x3), (.int x4), (.int x5), (.int x6)] below meth c T443 L443 0 0 ∧ T443.heap = h0 ∧ Fr n0 L443 ∧ (up_443 = (0 : Int32) ∨ up_443 = (1 : Int32)) ∧ ∀ t, SF p e below T443 m 16 #[vi x1, vi x2, vi x3, vi x4, vi x5, vi x6, vi (x1 &&& (3 : Int32)), un, un, un, un, un, un, un, un, un, un, un, un, un] [(.int up_443)] t → SF p e below s₁ m 5 #[vi x1, vi x2, vi x3, vi x4, vi x5, vi x6, vi (x1 &&& (3 : Int32)), un, un, un, un, un, un, un, un, un, un, un, un, un] [] t := by
    have pj443 : ∀ t, SF p e below s₁ m 5 #[vi x1, vi x2, vi x3, vi x4, vi x5, vi x6, vi (x1 &&& (3 : Int32)), un, un, un, un, un, un, un, un, un, un, un, un, un] [] t → SF p e below s₁ m 5 #[vi x1, vi x2, vi x3, vi x4, vi x5, vi x6, vi (x1 &&& (3 : Int32)), un, un, un, un, un, un, un, un, un, un, un, un, un] [] t := fun _ k => k
    have pre444 := fun t (kt : SF p e below s₁ m 8 #[vi x1, vi x2, vi x3, vi x4, vi x5, vi x6, vi (x1 &&& (3 : Int32)), un, un, un, un, un, un, un, un, un, un, un, un, un] [(.int (x1 &&& (4 : Int32)))] t) => pj443 t (by
      refine XS.iloadN X0.here hx rfl (hb hby at_5) rfl ?_
      refine XS.iconst X0.here hx rfl (hb hby at_6) ?_
      refine XS.iand X0.here hx rfl (hb hby at_7) rfl ?_
      exact kt)
    by_cases hc8 : (x1 &&& (4 : Int32)) = (0 : Int32)
    · skip
      have pre445 := fun t (kt : SF p e below s₁ m 16 #[vi x1, vi x2, vi x3, vi x4, vi x5, vi x6, vi (x1 &&& (3 : Int32)), un, un, un, un, un, un, un, un, un, un, un, un, un] [(.int (0 : Int32))] t) => pre444 t (by
        refine XS.ifYes X0.here hx rfl (pc0 := 8) (pc' := 15) rfl (hb hby at_8) rfl ((if0 _ _).trans (teq hc8).1) (by decide) (by decide) ?_
        refine XS.iconst X0.here hx rfl (hb hby at_15) ?_
        exact kt)
      exact ⟨(0 : Int32), s₁, _, X0, e0, N0, (Or.inl rfl), pre445⟩
    · skip
      have pre446 := fun t (kt : SF p e below s₁ m 16 #[vi x1, vi x2, vi x3, vi x4, vi x5, vi x6, vi (x1 &&& (3 : Int32)), un, un, un, un, un, un, un, un, un, un, un, un, un] [(.int (1 : Int32))] t) => pre444 t (by
        refine XS.ifNo X0.here hx rfl (hb hby at_8) rfl ((if0 _ _).trans (feq hc8).1) ?_
        refine XS.iconst X0.here hx rfl (hb hby at_11) ?_
        refine XS.goto X0.here hx rfl (pc0 := 12) (pc' := 16) rfl (hb hby at_12) (by decide) (by decide) ?_
        exact kt)
      exact ⟨(1 : Int32), s₁, _, X0, e0, N0, (Or.inr rfl), pre446⟩
  obtain ⟨ca, hca⟩ : ∃ c, c = ((x2 &&& (255 : Int32)).toUInt32.toUInt16.toUInt32.toInt32) := ⟨_, rfl⟩
  have rca : ¬ ca < 0 ∧ ¬ (255 : Int32) < ca := by rw [hca]; exact own_i2c255 _
  have rn447 : ((x2 &&& (255 : Int32)).toUInt32.toUInt16.toUInt32.toInt32) = ca := hca.symm
  obtain ⟨cz, hcz⟩ : ∃ c, c = ((x3 &&& (255 : Int32)).toUInt32.toUInt16.toUInt32.toInt32) := ⟨_, rfl⟩
  have rcz : ¬ cz < 0 ∧ ¬ (255 : Int32) < cz := by rw [hcz]; exact own_i2c255 _
  have rn448 : ((x3 &&& (255 : Int32)).toUInt32.toUInt16.toUInt32.toInt32) = cz := hcz.symm
  obtain ⟨cx, hcx⟩ : ∃ c, c = ((x4 &&& (255 : Int32)).toUInt32.toUInt16.toUInt32.toInt32) := ⟨_, rfl⟩
  have rcx : ¬ cx < 0 ∧ ¬ (255 : Int32) < cx := by rw [hcx]; exact own_i2c255 _
  have rn449 : ((x4 &&& (255 : Int32)).toUInt32.toUInt16.toUInt32.toInt32) = cx := hcx.symm
  obtain ⟨cy, hcy⟩ : ∃ c, c = ((x5 &&& (255 : Int32)).toUInt32.toUInt16.toUInt32.toInt32) := ⟨_, rfl⟩
  have rcy : ¬ cy < 0 ∧ ¬ (255 : Int32) < cy := by rw [hcy]; exact own_i2c255 _
  have rn450 : ((x5 &&& (255 : Int32)).toUInt32.toUInt16.toUInt32.toInt32) = cy := hcy.symm
  obtain ⟨cr, hcr⟩ : ∃ c, c = ((x6 &&& (255 : Int32)).toUInt32.toUInt16.toUInt32.toInt32) := ⟨_, rfl⟩
  have rcr : ¬ cr < 0 ∧ ¬ (255 : Int32) < cr := by rw [hcr]; exact own_i2c255 _
  have rn451 : ((x6 &&& (255 : Int32)).toUInt32.toUInt16.toUInt32.toInt32) = cr := hcr.symm
  have pre452 := fun t (kt : SF p e below T443 m 60 #[vi x1, vi x2, vi x3, vi x4, vi x5, vi x6, vi (x1 &&& (3 : Int32)), vi up_443, vi ca, vi cz, vi cx, vi cy, vi cr, un, un, un, un, un, un, un] [] t) => pre442 t (by
    refine k443 _ ?_
    refine XS.istore X443.here hx rfl (hb hby at_16) rfl (l' := #[vi x1, vi x2, vi x3, vi x4, vi x5, vi x6, vi (x1 &&& (3 : Int32)), vi up_443, un, un, un, un, un, un, un, un, un, un, un, un]) rfl ?_
    refine XS.iloadN X443.here hx rfl (hb hby at_18) rfl ?_
    refine XS.sipush X443.here hx rfl (hb hby at_19) ?_
    refine XS.iand X443.here hx rfl (hb hby at_22) rfl ?_
    refine XS.i2c X443.here hx rfl (hb hby at_23) rfl ?_
    refine XS.istore X443.here hx rfl (hb hby at_24) rfl (l' := #[vi x1, vi x2, vi x3, vi x4, vi x5, vi x6, vi (x1 &&& (3 : Int32)), vi up_443, vi ((x2 &&& (255 : Int32)).toUInt32.toUInt16.toUInt32.toInt32), un, un, un, un, un, un, un, un, un, un, un]) rfl ?_
    refine XS.iloadN X443.here hx rfl (hb hby at_26) rfl ?_
    refine XS.sipush X443.here hx rfl (hb hby at_27) ?_
    refine XS.iand X443.here hx rfl (hb hby at_30) rfl ?_
    refine XS.i2c X443.here hx rfl (hb hby at_31) rfl ?_
    refine XS.istore X443.here hx rfl (hb hby at_32) rfl (l' := #[vi x1, vi x2, vi x3, vi x4, vi x5, vi x6, vi (x1 &&& (3 : Int32)), vi up_443, vi ((x2 &&& (255 : Int32)).toUInt32.toUInt16.toUInt32.toInt32), vi ((x3 &&& (255 : Int32)).toUInt32.toUInt16.toUInt32.toInt32), un, un, un, un, un, un, un, un, un, un]) rfl ?_
    refine XS.iloadN X443.here hx rfl (hb hby at_34) rfl ?_
    refine XS.sipush X443.here hx rfl (hb hby at_35) ?_
    refine XS.iand X443.here hx rfl (hb hby at_38) rfl ?_
    refine XS.i2c X443.here hx rfl (hb hby at_39) rfl ?_
    refine XS.istore X443.here hx rfl (hb hby at_40) rfl (l' := #[vi x1, vi x2, vi x3, vi x4, vi x5, vi x6, vi (x1 &&& (3 : Int32)), vi up_443, vi ((x2 &&& (255 : Int32)).toUInt32.toUInt16.toUInt32.toInt32), vi ((x3 &&& (255 : Int32)).toUInt32.toUInt16.toUInt32.toInt32), vi ((x4 &&& (255 : Int32)).toUInt32.toUInt16.toUInt32.toInt32), un, un, un, un, un, un, un, un, un]) rfl ?_
    refine XS.iload X443.here hx rfl (hb hby at_42) rfl ?_
    show SF p e below T443 m 44 _ [(.int x5)] _
    refine XS.sipush X443.here hx rfl (hb hby at_44) ?_
    refine XS.iand X443.here hx rfl (hb hby at_47) rfl ?_
    refine XS.i2c X443.here hx rfl (hb hby at_48) rfl ?_
    refine XS.istore X443.here hx rfl (hb hby at_49) rfl (l' := #[vi x1, vi x2, vi x3, vi x4, vi x5, vi x6, vi (x1 &&& (3 : Int32)), vi up_443, vi ((x2 &&& (255 : Int32)).toUInt32.toUInt16.toUInt32.toInt32), vi ((x3 &&& (255 : Int32)).toUInt32.toUInt16.toUInt32.toInt32), vi ((x4 &&& (255 : Int32)).toUInt32.toUInt16.toUInt32.toInt32), vi ((x5 &&& (255 : Int32)).toUInt32.toUInt16.toUInt32.toInt32), un, un, un, un, un, un, un, un]) rfl ?_
    refine XS.iload X443.here hx rfl (hb hby at_51) rfl ?_
    refine XS.sipush X443.here hx rfl (hb hby at_53) ?_
    refine XS.iand X443.here hx rfl (hb hby at_56) rfl ?_
    refine XS.i2c X443.here hx rfl (hb hby at_57) rfl ?_
    refine XS.istore X443.here hx rfl (hb hby at_58) rfl (l' := #[vi x1, vi x2, vi x3, vi x4, vi x5, vi x6, vi (x1 &&& (3 : Int32)), vi up_443, vi ((x2 &&& (255 : Int32)).toUInt32.toUInt16.toUInt32.toInt32), vi ((x3 &&& (255 : Int32)).toUInt32.toUInt16.toUInt32.toInt32), vi ((x4 &&& (255 : Int32)).toUInt32.toUInt16.toUInt32.toInt32), vi ((x5 &&& (255 : Int32)).toUInt32.toUInt16.toUInt32.toInt32), vi ((x6 &&& (255 : Int32)).toUInt32.toUInt16.toUInt32.toInt32), un, un, un, un, un, un, un]) rfl ?_
    show SF p e below T443 m 60 _ [] _
    rw [rn447]
    show SF p e below T443 m 60 #[vi x1, vi x2, vi x3, vi x4, vi x5, vi x6, vi (x1 &&& (3 : Int32)), vi up_443, vi ca, vi ((x3 &&& (255 : Int32)).toUInt32.toUInt16.toUInt32.toInt32), vi ((x4 &&& (255 : Int32)).toUInt32.toUInt16.toUInt32.toInt32), vi ((x5 &&& (255 : Int32)).toUInt32.toUInt16.toUInt32.toInt32), vi ((x6 &&& (255 : Int32)).toUInt32.toUInt16.toUInt32.toInt32), un, un, un, un, un, un, un] [] _
    rw [rn448]
    show SF p e below T443 m 60 #[vi x1, vi x2, vi x3, vi x4, vi x5, vi x6, vi (x1 &&& (3 : Int32)), vi up_443, vi ca, vi cz, vi ((x4 &&& (255 : Int32)).toUInt32.toUInt16.toUInt32.toInt32), vi ((x5 &&& (255 : Int32)).toUInt32.toUInt16.toUInt32.toInt32), vi ((x6 &&& (255 : Int32)).toUInt32.toUInt16.toUInt32.toInt32), un, un, un, un, un, un, un] [] _
    rw [rn449]
    show SF p e below T443 m 60 #[vi x1, vi x2, vi x3, vi x4, vi x5, vi x6, vi (x1 &&& (3 : Int32)), vi up_443, vi ca, vi cz, vi cx, vi ((x5 &&& (255 : Int32)).toUInt32.toUInt16.toUInt32.toInt32), vi ((x6 &&& (255 : Int32)).toUInt32.toUInt16.toUInt32.toInt32), un, un, un, un, un, un, un] [] _
    rw [rn450]
    show SF p e below T443 m 60 #[vi x1, vi x2, vi x3, vi x4, vi x5, vi x6, vi (x1 &&& (3 : Int32)), vi up_443, vi ca, vi cz, vi cx, vi cy, vi ((x6 &&& (255 : Int32)).toUInt32.toUInt16.toUInt32.toInt32), un, un, un, un, un, un, un] [] _
    rw [rn451]
    exact kt)
  obtain ⟨sx_453, bx_453, stv_453, skb_453, sf_453, sn_453, T453, h453, L453, X453, e453, N453, KK453, J453_0, J453_1, J453_2, J453_3, J453_4, J453_5, J453_6, J453_7, J453_8, k453⟩ : ∃ (sx_453 : Addr) (bx_453 : Addr) (stv_453 : Addr) (skb_453 : ClassId) (sf_453 : Nat → Int32) (sn_453 : Nat) (T453 : State) (h453 : Heap) (L453 : List Loc), Stand p l e room_1 (s.setVm s.vm) m #[(.int x1), (.int x2), (.int x3), (.int x4), (.int x5), (.int x6)] below meth c T453 L453 3 52 ∧ T453.heap = h453 ∧ Fr n0 L453 ∧ Keep h0 h453 [] ∧ h0.size ≤ sx_453 ∧ h0.size ≤ stv_453 ∧ Exa Z h453 sx_453 "java/lang/String" ∧ Fld Z h453 sx_453 "java/lang/String" "value" "[B" (.ref stv_453) ∧ Fld Z h453 sx_453 "java/lang/String" "coder" "B" (.int (0 : Int32)) ∧ Arv Z h453 stv_453 skb_453 .byte (Int32.ofNat sn_453) (own_fv sf_453 sn_453) (.int 0) ∧ (sn_453 ≤ 24) ∧ (∀ j, ¬ sf_453 j < 0 ∧ ¬ (255 : Int32) < sf_453 j) ∧ (∀ ka ua ub, own_mt sf_453 sn_453 ka ua ub → (own_js (own_lw (own_sh sf_453 ua)) (ub - ua) ↔ own_ex (own_pr x1) ca cz cx cy cr)) ∧ ∀ t, SF p e below T453 m 250 #[vi x1, vi x2, vi x3, vi x4, vi x5, vi x6, vi (x1 &&& (3 : Int32)), vi up_443, vi ca, vi cz, vi cx, vi cy, vi cr, vr sx_453, vr bx_453, un, un, un, un, un] [] t → SF p e below T443 m 60 #[vi x1, vi x2, vi x3, vi x4, vi x5, vi x6, vi (x1 &&& (3 : Int32)), vi up_443, vi ca, vi cz, vi cx, vi cy, vi cr, un, un, un, un, un, un, un] [] t := by
    have pj453 : ∀ t, SF p e below T443 m 60 #[vi x1, vi x2, vi x3, vi x4, vi x5, vi x6, vi (x1 &&& (3 : Int32)), vi up_443, vi ca, vi cz, vi cx, vi cy, vi cr, un, un, un, un, un, un, un] [] t → SF p e below T443 m 60 #[vi x1, vi x2, vi x3, vi x4, vi x5, vi x6, vi (x1 &&& (3 : Int32)), vi up_443, vi ca, vi cz, vi cx, vi cy, vi cr, un, un, un, un, un, un, un] [] t := fun _ k => k
    have pre454 := fun t (kt : SF p e below T443 m 62 #[vi x1, vi x2, vi x3, vi x4, vi x5, vi x6, vi (x1 &&& (3 : Int32)), vi up_443, vi ca, vi cz, vi cx, vi cy, vi cr, un, un, un, un, un, un, un] [(.int (x1 &&& (3 : Int32)))] t) => pj453 t (by
      refine XS.iload X443.here hx rfl (hb hby at_60) rfl ?_
      exact kt)
    by_cases hc62 : (x1 &&& (3 : Int32)) = (0 : Int32)
    · skip
      obtain ⟨T455, h455, k455, X455, e455, E455, A455, st455⟩ := newP X443 hx hZa (own_wd hw 0 rfl) e443 (g := (mkF m 67 #[vi x1, vi x2, vi x3, vi x4, vi x5, vi x6, vi (x1 &&& (3 : Int32)), vi up_443, vi ca, vi cz, vi cx, vi cy, vi cr, un, un, un, un, un, un, un] [(.int (16 : Int32))])) rfl (hb hby at_67) rfl (by decide) (cap := 16) (by decide) (by decide) (by decide) (by decide)
      obtain ⟨b455, g455⟩ : ∃ z, z = h0.size := ⟨_, rfl⟩
      rw [← g455] at A455 st455
      have O455 : Old Z n0 h455 := O0.ext E455
      have Z455 : n0 ≤ h455.size := Nat.le_trans Z0 E455.1
      have K455 : Keep h0 h455 [] := K0.ext E455
      have CH455 : CHv Z own_EL s.vm h455 := CHv.ext E455 CH0
      have CR455 : CHr Z own_EL s.vm h0 s.vm h455 := CR0.trans (CHr.ext E455 CH0)
      have g_b455 : n0 ≤ b455 := Nat.le_trans Z0 (Nat.le_of_eq g455.symm)
      have sz_b455 : h0.size ≤ b455 := Nat.le_trans K0.1 (Nat.le_of_eq g455.symm)
      have V455 : Arv Z h455 b455 k455 .char (16 : Int32) [(.int (0 : Int32)), (.int (0 : Int32)), (.int (0 : Int32)), (.int (0 : Int32)), (.int (0 : Int32)), (.int (0 : Int32)), (.int (0 : Int32)), (.int (0 : Int32)), (.int (0 : Int32)), (.int (0 : Int32)), (.int (0 : Int32)), (.int (0 : Int32)), (.int (0 : Int32)), (.int (0 : Int32)), (.int (0 : Int32)), (.int (0 : Int32))] (.int (0 : Int32)) := (Arv.new A455 (by decide)).pad (pad_rep [] (.int (0 : Int32)) 16)
      have Vc455 : Arv Z h455 b455 k455 .char (Int32.ofNat 16) (own_cv own_zf 16) (.int (0 : Int32)) := V455
      obtain ⟨_, _, ⟨T456, L456, k456, n456⟩, -, X456, ⟨Lc456, hQ456, l456, y456, z456⟩, st456⟩ := Jvm.LawKit.callS X455 hx (y := (⟨"com/example/prueba/prueba/MediaTypesIsJsonPinLaw", "putCore", "([CICCCZ)V"⟩ : MethodName)) howna (mvT hZa (own_wd hw 1 rfl)) (mvT hZa (own_wd hw 2 rfl)) (mvT hZa (own_wd hw 3 rfl)) (mvT hZa (own_wd hw 4 rfl)) (by decide) (backOf (W := 0) (rm1 l Z a0 hw [] b455 cz cx cy up_443 k455 own_zf 0 16 h455 n0 Z455 O455 Vc455 (by omega) (by omega) g_b455) hZa (own_wd hw 4 rfl) (own_wd hw 3 rfl) (by decide) (by decide)) (g := (mkF m 82 #[vi x1, vi x2, vi x3, vi x4, vi x5, vi x6, vi (x1 &&& (3 : Int32)), vi up_443, vi ca, vi cz, vi cx, vi cy, vi cr, un, vr b455, un, un, un, un, un] [(.int up_443), (.int cy), (.int cx), (.int cz), (.int (0 : Int32)), (.ref b455)])) rfl (by rw [hml]; rfl) (argsL := [(.ref b455), (.int (0 : Int32)), (.int cz), (.int cx), (.int cy), (.int up_443)]) (rest := []) (lenOf pd_25 rfl) rfl (by show 2 * 0 + _ ≤ _; exact Nat.le_of_eq rfl) (hb hby at_82) (fun _ _ => ⟨rfl, e455, (by decide : 1 + 0 ≤ _), (by decide : 16 + 0 ≤ _)⟩)
      dsimp only [Pt.U, Pt.locs, Pt.cells, Pt.slots] at X456 l456 y456 z456 st456 hQ456
      subst y456 z456
      obtain ⟨rfl, N456q, KK456, Q456_0⟩ := hQ456
      have N456 : Fr n0 L456 := by rw [l456]; exact Fr.app N443 N456q
      have O456 : Old Z n0 T456.heap := O455.keep KK456 (allS g_b455 all0)
      have Z456 : n0 ≤ T456.heap.size := Nat.le_trans Z455 KK456.1
      have K456 : Keep h0 T456.heap [] := K455.trans KK456 (allS (Or.inr sz_b455) all0)
      have CH456 : CHv Z own_EL s.vm T456.heap := CHv.keep KK456 (sfS (Safe.arv hZa.alike Vc455 (by decide)) sf0) CH455
      have CR456 : CHr Z own_EL s.vm h0 s.vm T456.heap := CR455.trans (CHr.keep KK456 (sfS (Safe.arv hZa.alike Vc455 (by decide)) sf0) CH455)
      obtain ⟨T457, h457, X457, e457, E457, A457, D457, U457, st457⟩ := newO X456 hx hZa howna (own_wd hw 8 rfl) (own_wd hw 9 rfl) (own_wd hw 10 rfl) rfl (g := (mkF m 85 #[vi x1, vi x2, vi x3, vi x4, vi x5, vi x6, vi (x1 &&& (3 : Int32)), vi up_443, vi ca, vi cz, vi cx, vi cy, vi cr, un, vr b455, un, un, un, un, un] [])) rfl (hb hby at_85) (by decide) (by decide)
      obtain ⟨b457, g457⟩ : ∃ z, z = T456.heap.size := ⟨_, rfl⟩
      rw [← g457] at A457 D457 st457
      have O457 : Old Z n0 h457 := O456.ext E457
      have Z457 : n0 ≤ h457.size := Nat.le_trans Z456 E457.1
      have K457 : Keep h0 h457 [] := K456.ext E457
      have CH457 : CHv Z own_EL s.vm h457 := CHv.ext E457 CH456
      have CR457 : CHr Z own_EL s.vm h0 s.vm h457 := CR456.trans (CHr.ext E457 CH456)
      have g_b457 : n0 ≤ b457 := Nat.le_trans Z456 (Nat.le_of_eq g457.symm)
      have sz_b457 : h0.size ≤ b457 := Nat.le_trans K456.1 (Nat.le_of_eq g457.symm)
      have F_b457_coder : Fld Z h457 b457 "java/lang/String" "coder" "B" (.int (0 : Int32)) := D457 (Or.inr (own_wd hw 34 rfl)) (ty := .byte) (by decide)
      have F_b457_value : Fld Z h457 b457 "java/lang/String" "value" "[B" .null := D457 (Or.inr (own_wd hw 36 rfl)) (ty := (.array .byte)) (by decide)
      have V458 : Arv Z h457 b455 k455 .char (Int32.ofNat 16) (own_cv (own_put own_zf cz cx cy up_443 0 16) 16) (.int (0 : Int32)) := (Q456_0.ext E457)
      have hp459 : ∀ j, ¬ (own_put own_zf cz cx cy up_443 0 16) j < 0 ∧ ¬ (255 : Int32) < (own_put own_zf cz cx cy up_443 0 16) j := (own_rput own_rzf rcz rcx rcy J443_0)
      obtain ⟨_, _, ⟨T460, L460, k460, n460⟩, -, X460, ⟨Lc460, hQ460, l460, y460, z460⟩, st460⟩ := X457.specialBack hx (y := (⟨"java/lang/String", "<init>", "([C)V"⟩ : MethodName)) rfl howna (mvT hZa (own_wd hw 11 rfl)) (mvT hZa (own_wd hw 12 rfl)) (mvT hZa (own_wd hw 13 rfl)) (by decide) (StrChars.Road.backV (W := 1) hZa (own_hws hw) (kI := 4) (own_wd hw 9 rfl) (cs := ((List.range 16).map (own_put own_zf cz cx cy up_443 0 16))) (bs := ((List.range 16).map (own_put own_zf cz cx cy up_443 0 16)).map (fun c => c.toInt8.toInt32)) (n := 16) g_b457 Z457 A457 F_b457_value F_b457_coder V458 (S_COMPACT_STRINGS.ext O457.2) hcomp rfl rfl (by decide) (by decide) (own_hpL hp459) rfl (by decide) (by decide)) (g := (mkF m 91 #[vi x1, vi x2, vi x3, vi x4, vi x5, vi x6, vi (x1 &&& (3 : Int32)), vi up_443, vi ca, vi cz, vi cx, vi cy, vi cr, un, vr b455, un, un, un, un, un] [(.ref b455), (.ref b457), (.ref b457)])) rfl (by rw [hml]; rfl) (Steps.refl _) (a := b457) (argsL := [(.ref b455)]) (rest := [(.ref b457)]) (lenOf pd_26 rfl) rfl (by show 2 * 0 + _ ≤ _; exact Nat.le_of_eq rfl) (hb hby at_91) (fun _ _ => ⟨rfl, e457, (by decide : 2 + 1 ≤ _), (by decide : 20 + 16 ≤ _)⟩)
      dsimp only [Pt.U, Pt.locs, Pt.cells, Pt.slots] at X460 l460 y460 z460 st460 hQ460
      subst y460 z460
      obtain ⟨rfl, N460q, KK460, E460, C460, t460, kb460, g_t460, s460, ne460, V460, A460⟩ := hQ460
      have N460 : Fr n0 L460 := by rw [l460]; exact Fr.app N456 N460q
      have sf461 : Safe Z own_EL s.vm h457 b457 := (Safe.ext E457 CH456 (Safe.new (Nat.le_of_eq g457.symm)))
      have O460 : Old Z n0 T460.heap := O457.keep KK460 (allS g_b457 all0)
      have Z460 : n0 ≤ T460.heap.size := Nat.le_trans Z457 KK460.1
      have K460 : Keep h0 T460.heap [] := K457.trans KK460 (allS (Or.inr sz_b457) all0)
      have CH460 : CHv Z own_EL s.vm T460.heap := CHv.keep KK460 (sfS sf461 sf0) CH457
      have CR460 : CHr Z own_EL s.vm h0 s.vm T460.heap := CR457.trans (CHr.keep KK460 (sfS sf461 sf0) CH457)
      have sz_t460 : h0.size ≤ t460 := Nat.le_trans K457.1 s460
      have Ae460 : Arv Z T460.heap t460 kb460 .byte (Int32.ofNat 16) (own_fv (own_put own_zf cz cx cy up_443 0 16) 16) (.int 0) := A460
      have pre462 := fun t (kt : SF p e below T460 m 250 #[vi x1, vi x2, vi x3, vi x4, vi x5, vi x6, vi (x1 &&& (3 : Int32)), vi up_443, vi ca, vi cz, vi cx, vi cy, vi cr, vr b457, vr b455, un, un, un, un, un] [] t) => pre454 t (by
        refine XS.ifNo X443.here hx rfl (hb hby at_62) rfl ((if0 _ _).trans (teq hc62).2) ?_
        refine XS.bipush X443.here hx rfl (hb hby at_65) ?_
        show SF p e below T443 m 67 _ [(.int (16 : Int32))] _
        refine st455 _ ?_
        show SF p e below T455 m 69 #[vi x1, vi x2, vi x3, vi x4, vi x5, vi x6, vi (x1 &&& (3 : Int32)), vi up_443, vi ca, vi cz, vi cx, vi cy, vi cr, un, un, un, un, un, un, un] [(.ref b455)] _
        refine XS.astore X455.here hx rfl (hb hby at_69) rfl rfl (l' := #[vi x1, vi x2, vi x3, vi x4, vi x5, vi x6, vi (x1 &&& (3 : Int32)), vi up_443, vi ca, vi cz, vi cx, vi cy, vi cr, un, vr b455, un, un, un, un, un]) rfl ?_
        refine XS.aload X455.here hx rfl (hb hby at_71) rfl rfl ?_
        refine XS.iconst X455.here hx rfl (hb hby at_73) ?_
        refine XS.iload X455.here hx rfl (hb hby at_74) rfl ?_
        refine XS.iload X455.here hx rfl (hb hby at_76) rfl ?_
        refine XS.iload X455.here hx rfl (hb hby at_78) rfl ?_
        refine XS.iload X455.here hx rfl (hb hby at_80) rfl ?_
        show SF p e below T455 m 82 _ [(.int up_443), (.int cy), (.int cx), (.int cz), (.int (0 : Int32)), (.ref b455)] _
        refine st456 _ ?_
        show SF p e below T456 m 85 #[vi x1, vi x2, vi x3, vi x4, vi x5, vi x6, vi (x1 &&& (3 : Int32)), vi up_443, vi ca, vi cz, vi cx, vi cy, vi cr, un, vr b455, un, un, un, un, un] [] _
        refine st457 _ ?_
        show SF p e below T457 m 88 #[vi x1, vi x2, vi x3, vi x4, vi x5, vi x6, vi (x1 &&& (3 : Int32)), vi up_443, vi ca, vi cz, vi cx, vi cy, vi cr, un, vr b455, un, un, un, un, un] [(.ref b457)] _
        refine XS.dup X457.here hx rfl (hb hby at_88) rfl rfl ?_
        refine XS.aload X457.here hx rfl (hb hby at_89) rfl rfl ?_
        show SF p e below T457 m 91 _ [(.ref b455), (.ref b457), (.ref b457)] _
        refine st460.trans ?_
        show SF p e below T460 m 94 #[vi x1, vi x2, vi x3, vi x4, vi x5, vi x6, vi (x1 &&& (3 : Int32)), vi up_443, vi ca, vi cz, vi cx, vi cy, vi cr, un, vr b455, un, un, un, un, un] [(.ref b457)] _
        refine XS.astore X460.here hx rfl (hb hby at_94) rfl rfl (l' := #[vi x1, vi x2, vi x3, vi x4, vi x5, vi x6, vi (x1 &&& (3 : Int32)), vi up_443, vi ca, vi cz, vi cx, vi cy, vi cr, vr b457, vr b455, un, un, un, un, un]) rfl ?_
        refine XS.goto X460.here hx rfl (pc0 := 96) (pc' := 250) rfl (hb hby at_96) (by decide) (by decide) ?_
        exact kt)
      exact ⟨b457, b455, t460, kb460, (own_put own_zf cz cx cy up_443 0 16), 16, T460, T460.heap, _, (X460.more (by decide) (by decide)), rfl, N460, (((((Keep.refl h0 []).ext E455).trans KK456 (allS (Or.inr (Nat.le_of_eq g455.symm)) all0)).ext E457).trans KK460 (allS (Or.inr (Nat.le_trans E455.1 (Nat.le_trans KK456.1 (Nat.le_of_eq g457.symm)))) all0)), (Nat.le_trans E455.1 (Nat.le_trans KK456.1 (Nat.le_of_eq g457.symm))), (Nat.le_trans E455.1 (Nat.le_trans KK456.1 (Nat.le_trans E457.1 s460))), E460, V460, C460, Ae460, (by decide), hp459, (fun _ _ _ mt => (own_js0 mt hp459 (by decide) J443_0 rcz rcx rcy own_k0_c (Or.inl rfl)).trans (own_exF (fun q => q.elim (fun q => absurd (hc62.symm.trans q) (by decide)) (fun q => absurd (hc62.symm.trans q) (by decide))))), pre462⟩
    · skip
      have pre463 := fun t (kt : SF p e below T443 m 102 #[vi x1, vi x2, vi x3, vi x4, vi x5, vi x6, vi (x1 &&& (3 : Int32)), vi up_443, vi ca, vi cz, vi cx, vi cy, vi cr, un, un, un, un, un, un, un] [(.int (1 : Int32)), (.int (x1 &&& (3 : Int32)))] t) => pre454 t (by
        refine XS.ifYes X443.here hx rfl (pc0 := 62) (pc' := 99) rfl (hb hby at_62) rfl ((if0 _ _).trans (feq hc62).2) (by decide) (by decide) ?_
        refine XS.iload X443.here hx rfl (hb hby at_99) rfl ?_
        refine XS.iconst X443.here hx rfl (hb hby at_101) ?_
        exact kt)
      by_cases hc102 : (x1 &&& (3 : Int32)) = (1 : Int32)
      · skip
        obtain ⟨T464, h464, k464, X464, e464, E464, A464, st464⟩ := newP X443 hx hZa (own_wd hw 0 rfl) e443 (g := (mkF m 107 #[vi x1, vi x2, vi x3, vi x4, vi x5, vi x6, vi (x1 &&& (3 : Int32)), vi up_443, vi ca, vi cz, vi cx, vi cy, vi cr, un, un, un, un, un, un, un] [(.int (18 : Int32))])) rfl (hb hby at_107) rfl (by decide) (cap := 18) (by decide) (by decide) (by decide) (by decide)
        obtain ⟨b464, g464⟩ : ∃ z, z = h0.size := ⟨_, rfl⟩
        rw [← g464] at A464 st464
        have O464 : Old Z n0 h464 := O0.ext E464
        have Z464 : n0 ≤ h464.size := Nat.le_trans Z0 E464.1
        have K464 : Keep h0 h464 [] := K0.ext E464
        have CH464 : CHv Z own_EL s.vm h464 := CHv.ext E464 CH0
        have CR464 : CHr Z own_EL s.vm h0 s.vm h464 := CR0.trans (CHr.ext E464 CH0)
        have g_b464 : n0 ≤ b464 := Nat.le_trans Z0 (Nat.le_of_eq g464.symm)
        have sz_b464 : h0.size ≤ b464 := Nat.le_trans K0.1 (Nat.le_of_eq g464.symm)
        have V464 : Arv Z h464 b464 k464 .char (18 : Int32) [(.int (0 : Int32)), (.int (0 : Int32)), (.int (0 : Int32)), (.int (0 : Int32)), (.int (0 : Int32)), (.int (0 : Int32)), (.int (0 : Int32)), (.int (0 : Int32)), (.int (0 : Int32)), (.int (0 : Int32)), (.int (0 : Int32)), (.int (0 : Int32)), (.int (0 : Int32)), (.int (0 : Int32)), (.int (0 : Int32)), (.int (0 : Int32)), (.int (0 : Int32)), (.int (0 : Int32))] (.int (0 : Int32)) := (Arv.new A464 (by decide)).pad (pad_rep [] (.int (0 : Int32)) 18)
        have Vc464 : Arv Z h464 b464 k464 .char (Int32.ofNat 18) (own_cv own_zf 18) (.int (0 : Int32)) := V464
        obtain ⟨cl_a465, Ar_a465, q_a465, S_a465, N_a465, H_a465, G_a465⟩ := id Vc464
        have ej_a465 : (0 : Int32) = Int32.ofNat 0 := rfl
        have hin_a465 : ¬ ((0 : Int32) < 0 ∨ cl_a465.slots.size ≤ ((0 : Int32)).toNatClampNeg) := by rw [ej_a465]; exact own_in (n := 18) S_a465 (by omega) (by omega)
        obtain ⟨T466, h466, X466, e466, W466, st466⟩ := stC X464 hx hZa e464 Ar_a465 (j := (0 : Int32)) hin_a465 (g := (mkF m 116 #[vi x1, vi x2, vi x3, vi x4, vi x5, vi x6, vi (x1 &&& (3 : Int32)), vi up_443, vi ca, vi cz, vi cx, vi cy, vi cr, un, vr b464, un, un, un, un, un] [(.int ca), (.int (0 : Int32)), (.ref b464)])) rfl rfl (hb hby at_116)
        have O466 : Old Z n0 h466 := O464.wr W466 g_b464
        have Z466 : n0 ≤ h466.size := Nat.le_trans Z464 (Keep.of_wr W466).1
        have K466 : Keep h0 h466 [] := K464.wr W466 (Or.inr sz_b464)
        have N466 := Fr.snoc X466 N443 g_b464
        have CH466 : CHv Z own_EL s.vm h466 := CHv.wr W466 (Safe.arv hZa.alike Vc464 (by decide)) CH464
        have CR466 : CHr Z own_EL s.vm h0 s.vm h466 := CR464.trans (CHr.wr W466 (Safe.arv hZa.alike Vc464 (by decide)) CH464)
        have V466 : Arv Z h466 b464 k464 .char (Int32.ofNat 18) (own_cv (own_set own_zf 0 (own_n16 ca)) 18) (.int (0 : Int32)) := (Arv.set Ar_a465 q_a465 S_a465 N_a465 H_a465 G_a465 (fits_nar_char _) W466 0 (by rw [ej_a465]; exact own_nat (by omega)) (by rw [own_cvlen]; omega)).pad (own_setcv (own_seti _ _ _) (own_seto _ _ _))
        obtain ⟨_, _, ⟨T467, L467, k467, n467⟩, -, X467, ⟨Lc467, hQ467, l467, y467, z467⟩, st467⟩ := Jvm.LawKit.callS X466 hx (y := (⟨"com/example/prueba/prueba/MediaTypesIsJsonPinLaw", "putCore", "([CICCCZ)V"⟩ : MethodName)) howna (mvT hZa (own_wd hw 1 rfl)) (mvT hZa (own_wd hw 2 rfl)) (mvT hZa (own_wd hw 3 rfl)) (mvT hZa (own_wd hw 4 rfl)) (by decide) (backOf (W := 0) (rm1 l Z a0 hw [] b464 cz cx cy up_443 k464 (own_set own_zf 0 (own_n16 ca)) 1 18 h466 n0 Z466 O466 V466 (by omega) (by omega) g_b464) hZa (own_wd hw 4 rfl) (own_wd hw 3 rfl) (by decide) (by decide)) (g := (mkF m 128 #[vi x1, vi x2, vi x3, vi x4, vi x5, vi x6, vi (x1 &&& (3 : Int32)), vi up_443, vi ca, vi cz, vi cx, vi cy, vi cr, un, vr b464, un, un, un, un, un] [(.int up_443), (.int cy), (.int cx), (.int cz), (.int (1 : Int32)), (.ref b464)])) rfl (by rw [hml]; rfl) (argsL := [(.ref b464), (.int (1 : Int32)), (.int cz), (.int cx), (.int cy), (.int up_443)]) (rest := []) (lenOf pd_25 rfl) rfl (by show 2 * 0 + _ ≤ _; exact Nat.le_of_eq rfl) (hb hby at_128) (fun _ _ => ⟨rfl, e466, (by decide : 1 + 0 ≤ _), (by decide : 18 + 0 ≤ _)⟩)
        dsimp only [Pt.U, Pt.locs, Pt.cells, Pt.slots] at X467 l467 y467 z467 st467 hQ467
        subst y467 z467
        obtain ⟨rfl, N467q, KK467, Q467_0⟩ := hQ467
        have N467 : Fr n0 L467 := by rw [l467]; exact Fr.app N466 N467q
        have O467 : Old Z n0 T467.heap := O466.keep KK467 (allS g_b464 all0)
        have Z467 : n0 ≤ T467.heap.size := Nat.le_trans Z466 KK467.1
        have K467 : Keep h0 T467.heap [] := K466.trans KK467 (allS (Or.inr sz_b464) all0)
        have CH467 : CHv Z own_EL s.vm T467.heap := CHv.keep KK467 (sfS (Safe.arv hZa.alike V466 (by decide)) sf0) CH466
        have CR467 : CHr Z own_EL s.vm h0 s.vm T467.heap := CR466.trans (CHr.keep KK467 (sfS (Safe.arv hZa.alike V466 (by decide)) sf0) CH466)
        obtain ⟨cl_a468, Ar_a468, q_a468, S_a468, N_a468, H_a468, G_a468⟩ := id Q467_0
        have ej_a468 : (17 : Int32) = Int32.ofNat 17 := rfl
        have hin_a468 : ¬ ((17 : Int32) < 0 ∨ cl_a468.slots.size ≤ ((17 : Int32)).toNatClampNeg) := by rw [ej_a468]; exact own_in (n := 18) S_a468 (by omega) (by omega)
        obtain ⟨T469, h469, X469, e469, W469, st469⟩ := stC X467 hx hZa rfl Ar_a468 (j := (17 : Int32)) hin_a468 (g := (mkF m 137 #[vi x1, vi x2, vi x3, vi x4, vi x5, vi x6, vi (x1 &&& (3 : Int32)), vi up_443, vi ca, vi cz, vi cx, vi cy, vi cr, un, vr b464, un, un, un, un, un] [(.int cr), (.int (17 : Int32)), (.ref b464)])) rfl rfl (hb hby at_137)
        have O469 : Old Z n0 h469 := O467.wr W469 g_b464
        have Z469 : n0 ≤ h469.size := Nat.le_trans Z467 (Keep.of_wr W469).1
        have K469 : Keep h0 h469 [] := K467.wr W469 (Or.inr sz_b464)
        have N469 := Fr.snoc X469 N467 g_b464
        have CH469 : CHv Z own_EL s.vm h469 := CHv.wr W469 (Safe.arv hZa.alike Q467_0 (by decide)) CH467
        have CR469 : CHr Z own_EL s.vm h0 s.vm h469 := CR467.trans (CHr.wr W469 (Safe.arv hZa.alike Q467_0 (by decide)) CH467)
        have V469 : Arv Z h469 b464 k464 .char (Int32.ofNat 18) (own_cv (own_set (own_put (own_set own_zf 0 (own_n16 ca)) cz cx cy up_443 1 16) 17 (own_n16 cr)) 18) (.int (0 : Int32)) := (Arv.set Ar_a468 q_a468 S_a468 N_a468 H_a468 G_a468 (fits_nar_char _) W469 17 (by rw [ej_a468]; exact own_nat (by omega)) (by rw [own_cvlen]; omega)).pad (own_setcv (own_seti _ _ _) (own_seto _ _ _))
        obtain ⟨T470, h470, X470, e470, E470, A470, D470, U470, st470⟩ := newO X469 hx hZa howna (own_wd hw 8 rfl) (own_wd hw 9 rfl) (own_wd hw 10 rfl) e469 (g := (mkF m 138 #[vi x1, vi x2, vi x3, vi x4, vi x5, vi x6, vi (x1 &&& (3 : Int32)), vi up_443, vi ca, vi cz, vi cx, vi cy, vi cr, un, vr b464, un, un, un, un, un] [])) rfl (hb hby at_138) (by decide) (by decide)
        obtain ⟨b470, g470⟩ : ∃ z, z = h469.size := ⟨_, rfl⟩
        rw [← g470] at A470 D470 st470
        have O470 : Old Z n0 h470 := O469.ext E470
        have Z470 : n0 ≤ h470.size := Nat.le_trans Z469 E470.1
        have K470 : Keep h0 h470 [] := K469.ext E470
        have CH470 : CHv Z own_EL s.vm h470 := CHv.ext E470 CH469
        have CR470 : CHr Z own_EL s.vm h0 s.vm h470 := CR469.trans (CHr.ext E470 CH469)
        have g_b470 : n0 ≤ b470 := Nat.le_trans Z469 (Nat.le_of_eq g470.symm)
        have sz_b470 : h0.size ≤ b470 := Nat.le_trans K469.1 (Nat.le_of_eq g470.symm)
        have F_b470_coder : Fld Z h470 b470 "java/lang/String" "coder" "B" (.int (0 : Int32)) := D470 (Or.inr (own_wd hw 34 rfl)) (ty := .byte) (by decide)
        have F_b470_value : Fld Z h470 b470 "java/lang/String" "value" "[B" .null := D470 (Or.inr (own_wd hw 36 rfl)) (ty := (.array .byte)) (by decide)
        have V471 : Arv Z h470 b464 k464 .char (Int32.ofNat 18) (own_cv (own_set (own_put (own_set own_zf 0 (own_n16 ca)) cz cx cy up_443 1 16) 17 (own_n16 cr)) 18) (.int (0 : Int32)) := (V469.ext E470)
        have hp472 : ∀ j, ¬ (own_set (own_put (own_set own_zf 0 (own_n16 ca)) cz cx cy up_443 1 16) 17 (own_n16 cr)) j < 0 ∧ ¬ (255 : Int32) < (own_set (own_put (own_set own_zf 0 (own_n16 ca)) cz cx cy up_443 1 16) 17 (own_n16 cr)) j := (own_rset (own_rput (own_rset own_rzf rca) rcz rcx rcy J443_0) rcr)
        obtain ⟨_, _, ⟨T473, L473, k473, n473⟩, -, X473, ⟨Lc473, hQ473, l473, y473, z473⟩, st473⟩ := X470.specialBack hx (y := (⟨"java/lang/String", "<init>", "([C)V"⟩ : MethodName)) rfl howna (mvT hZa (own_wd hw 11 rfl)) (mvT hZa (own_wd hw 12 rfl)) (mvT hZa (own_wd hw 13 rfl)) (by decide) (StrChars.Road.backV (W := 1) hZa (own_hws hw) (kI := 4) (own_wd hw 9 rfl) (cs := ((List.range 18).map (own_set (own_put (own_set own_zf 0 (own_n16 ca)) cz cx cy up_443 1 16) 17 (own_n16 cr)))) (bs := ((List.range 18).map (own_set (own_put (own_set own_zf 0 (own_n16 ca)) cz cx cy up_443 1 16) 17 (own_n16 cr))).map (fun c => c.toInt8.toInt32)) (n := 18) g_b470 Z470 A470 F_b470_value F_b470_coder V471 (S_COMPACT_STRINGS.ext O470.2) hcomp rfl rfl (by decide) (by decide) (own_hpL hp472) rfl (by decide) (by decide)) (g := (mkF m 144 #[vi x1, vi x2, vi x3, vi x4, vi x5, vi x6, vi (x1 &&& (3 : Int32)), vi up_443, vi ca, vi cz, vi cx, vi cy, vi cr, un, vr b464, un, un, un, un, un] [(.ref b464), (.ref b470), (.ref b470)])) rfl (by rw [hml]; rfl) (Steps.refl _) (a := b470) (argsL := [(.ref b464)]) (rest := [(.ref b470)]) (lenOf pd_26 rfl) rfl (by show 2 * 0 + _ ≤ _; exact Nat.le_of_eq rfl) (hb hby at_144) (fun _ _ => ⟨rfl, e470, (by decide : 2 + 1 ≤ _), (by decide : 22 + 18 ≤ _)⟩)
        dsimp only [Pt.U, Pt.locs, Pt.cells, Pt.slots] at X473 l473 y473 z473 st473 hQ473
        subst y473 z473
        obtain ⟨rfl, N473q, KK473, E473, C473, t473, kb473, g_t473, s473, ne473, V473, A473⟩ := hQ473
        have N473 : Fr n0 L473 := by rw [l473]; exact Fr.app N469 N473q
        have sf474 : Safe Z own_EL s.vm h470 b470 := (Safe.ext E470 CH469 (Safe.new (Nat.le_of_eq g470.symm)))
        have O473 : Old Z n0 T473.heap := O470.keep KK473 (allS g_b470 all0)
        have Z473 : n0 ≤ T473.heap.size := Nat.le_trans Z470 KK473.1
        have K473 : Keep h0 T473.heap [] := K470.trans KK473 (allS (Or.inr sz_b470) all0)
        have CH473 : CHv Z own_EL s.vm T473.heap := CHv.keep KK473 (sfS sf474 sf0) CH470
        have CR473 : CHr Z own_EL s.vm h0 s.vm T473.heap := CR470.trans (CHr.keep KK473 (sfS sf474 sf0) CH470)
        have sz_t473 : h0.size ≤ t473 := Nat.le_trans K470.1 s473
        have Ae473 : Arv Z T473.heap t473 kb473 .byte (Int32.ofNat 18) (own_fv (own_set (own_put (own_set own_zf 0 (own_n16 ca)) cz cx cy up_443 1 16) 17 (own_n16 cr)) 18) (.int 0) := A473
        have pre475 := fun t (kt : SF p e below T473 m 250 #[vi x1, vi x2, vi x3, vi x4, vi x5, vi x6, vi (x1 &&& (3 : Int32)), vi up_443, vi ca, vi cz, vi cx, vi cy, vi cr, vr b470, vr b464, un, un, un, un, un] [] t) => pre463 t (by
          refine XS.icmpNo X443.here hx rfl (hb hby at_102) rfl (teq hc102).2 ?_
          refine XS.bipush X443.here hx rfl (hb hby at_105) ?_
          show SF p e below T443 m 107 _ [(.int (18 : Int32))] _
          refine st464 _ ?_
          show SF p e below T464 m 109 #[vi x1, vi x2, vi x3, vi x4, vi x5, vi x6, vi (x1 &&& (3 : Int32)), vi up_443, vi ca, vi cz, vi cx, vi cy, vi cr, un, un, un, un, un, un, un] [(.ref b464)] _
          refine XS.astore X464.here hx rfl (hb hby at_109) rfl rfl (l' := #[vi x1, vi x2, vi x3, vi x4, vi x5, vi x6, vi (x1 &&& (3 : Int32)), vi up_443, vi ca, vi cz, vi cx, vi cy, vi cr, un, vr b464, un, un, un, un, un]) rfl ?_
          refine XS.aload X464.here hx rfl (hb hby at_111) rfl rfl ?_
          refine XS.iconst X464.here hx rfl (hb hby at_113) ?_
          refine XS.iload X464.here hx rfl (hb hby at_114) rfl ?_
          show SF p e below T464 m 116 _ [(.int ca), (.int (0 : Int32)), (.ref b464)] _
          refine st466 _ ?_
          show SF p e below T466 m 117 #[vi x1, vi x2, vi x3, vi x4, vi x5, vi x6, vi (x1 &&& (3 : Int32)), vi up_443, vi ca, vi cz, vi cx, vi cy, vi cr, un, vr b464, un, un, un, un, un] [] _
          refine XS.aload X466.here hx rfl (hb hby at_117) rfl rfl ?_
          refine XS.iconst X466.here hx rfl (hb hby at_119) ?_
          refine XS.iload X466.here hx rfl (hb hby at_120) rfl ?_
          refine XS.iload X466.here hx rfl (hb hby at_122) rfl ?_
          refine XS.iload X466.here hx rfl (hb hby at_124) rfl ?_
          refine XS.iload X466.here hx rfl (hb hby at_126) rfl ?_
          show SF p e below T466 m 128 _ [(.int up_443), (.int cy), (.int cx), (.int cz), (.int (1 : Int32)), (.ref b464)] _
          refine st467 _ ?_
          show SF p e below T467 m 131 #[vi x1, vi x2, vi x3, vi x4, vi x5, vi x6, vi (x1 &&& (3 : Int32)), vi up_443, vi ca, vi cz, vi cx, vi cy, vi cr, un, vr b464, un, un, un, un, un] [] _
          refine XS.aload X467.here hx rfl (hb hby at_131) rfl rfl ?_
          refine XS.bipush X467.here hx rfl (hb hby at_133) ?_
          refine XS.iload X467.here hx rfl (hb hby at_135) rfl ?_
          show SF p e below T467 m 137 _ [(.int cr), (.int (17 : Int32)), (.ref b464)] _
          refine st469 _ ?_
          show SF p e below T469 m 138 #[vi x1, vi x2, vi x3, vi x4, vi x5, vi x6, vi (x1 &&& (3 : Int32)), vi up_443, vi ca, vi cz, vi cx, vi cy, vi cr, un, vr b464, un, un, un, un, un] [] _
          refine st470 _ ?_
          show SF p e below T470 m 141 #[vi x1, vi x2, vi x3, vi x4, vi x5, vi x6, vi (x1 &&& (3 : Int32)), vi up_443, vi ca, vi cz, vi cx, vi cy, vi cr, un, vr b464, un, un, un, un, un] [(.ref b470)] _
          refine XS.dup X470.here hx rfl (hb hby at_141) rfl rfl ?_
          refine XS.aload X470.here hx rfl (hb hby at_142) rfl rfl ?_
          show SF p e below T470 m 144 _ [(.ref b464), (.ref b470), (.ref b470)] _
          refine st473.trans ?_
          show SF p e below T473 m 147 #[vi x1, vi x2, vi x3, vi x4, vi x5, vi x6, vi (x1 &&& (3 : Int32)), vi up_443, vi ca, vi cz, vi cx, vi cy, vi cr, un, vr b464, un, un, un, un, un] [(.ref b470)] _
          refine XS.astore X473.here hx rfl (hb hby at_147) rfl rfl (l' := #[vi x1, vi x2, vi x3, vi x4, vi x5, vi x6, vi (x1 &&& (3 : Int32)), vi up_443, vi ca, vi cz, vi cx, vi cy, vi cr, vr b470, vr b464, un, un, un, un, un]) rfl ?_
          refine XS.goto X473.here hx rfl (pc0 := 149) (pc' := 250) rfl (hb hby at_149) (by decide) (by decide) ?_
          exact kt)
        exact ⟨b470, b464, t473, kb473, (own_set (own_put (own_set own_zf 0 (own_n16 ca)) cz cx cy up_443 1 16) 17 (own_n16 cr)), 18, T473, T473.heap, _, (X473.more (by decide) (by decide)), rfl, N473, (((((((Keep.refl h0 []).ext E464).wr W466 (Or.inr (Nat.le_of_eq g464.symm))).trans KK467 (allS (Or.inr (Nat.le_of_eq g464.symm)) all0)).wr W469 (Or.inr (Nat.le_of_eq g464.symm))).ext E470).trans KK473 (allS (Or.inr (Nat.le_trans E464.1 (Nat.le_trans (Keep.of_wr W466).1 (Nat.le_trans KK467.1 (Nat.le_trans (Keep.of_wr W469).1 (Nat.le_of_eq g470.symm)))))) all0)), (Nat.le_trans E464.1 (Nat.le_trans (Keep.of_wr W466).1 (Nat.le_trans KK467.1 (Nat.le_trans (Keep.of_wr W469).1 (Nat.le_of_eq g470.symm))))), (Nat.le_trans E464.1 (Nat.le_trans (Keep.of_wr W466).1 (Nat.le_trans KK467.1 (Nat.le_trans (Keep.of_wr W469).1 (Nat.le_trans E470.1 s473))))), E473, V473, C473, Ae473, (by decide), hp472, (fun _ _ _ mt => (own_js1 mt hp472 (by decide) J443_0 rcz rcx rcy (own_k1_0 rca) own_k1_c (own_k1_17 rcr) (Or.inl rfl)).trans (own_exT (Or.inl hc102))), pre475⟩
      · skip
        have pre476 := fun t (kt : SF p e below T443 m 155 #[vi x1, vi x2, vi x3, vi x4, vi x5, vi x6, vi (x1 &&& (3 : Int32)), vi up_443, vi ca, vi cz, vi cx, vi cy, vi cr, un, un, un, un, un, un, un] [(.int (2 : Int32)), (.int (x1 &&& (3 : Int32)))] t) => pre463 t (by
          refine XS.icmpYes X443.here hx rfl (pc0 := 102) (pc' := 152) rfl (hb hby at_102) rfl (feq hc102).2 (by decide) (by decide) ?_
          refine XS.iload X443.here hx rfl (hb hby at_152) rfl ?_
          refine XS.iconst X443.here hx rfl (hb hby at_154) ?_
          exact kt)
        by_cases hc155 : (x1 &&& (3 : Int32)) = (2 : Int32)
        · skip
          obtain ⟨T477, h477, k477, X477, e477, E477, A477, st477⟩ := newP X443 hx hZa (own_wd hw 0 rfl) e443 (g := (mkF m 160 #[vi x1, vi x2, vi x3, vi x4, vi x5, vi x6, vi (x1 &&& (3 : Int32)), vi up_443, vi ca, vi cz, vi cx, vi cy, vi cr, un, un, un, un, un, un, un] [(.int (24 : Int32))])) rfl (hb hby at_160) rfl (by decide) (cap := 24) (by decide) (by decide) (by decide) (by decide)
          obtain ⟨b477, g477⟩ : ∃ z, z = h0.size := ⟨_, rfl⟩
          rw [← g477] at A477 st477
          have O477 : Old Z n0 h477 := O0.ext E477
          have Z477 : n0 ≤ h477.size := Nat.le_trans Z0 E477.1
          have K477 : Keep h0 h477 [] := K0.ext E477
          have CH477 : CHv Z own_EL s.vm h477 := CHv.ext E477 CH0
          have CR477 : CHr Z own_EL s.vm h0 s.vm h477 := CR0.trans (CHr.ext E477 CH0)
          have g_b477 : n0 ≤ b477 := Nat.le_trans Z0 (Nat.le_of_eq g477.symm)
          have sz_b477 : h0.size ≤ b477 := Nat.le_trans K0.1 (Nat.le_of_eq g477.symm)
          have V477 : Arv Z h477 b477 k477 .char (24 : Int32) [(.int (0 : Int32)), (.int (0 : Int32)), (.int (0 : Int32)), (.int (0 : Int32)), (.int (0 : Int32)), (.int (0 : Int32)), (.int (0 : Int32)), (.int (0 : Int32)), (.int (0 : Int32)), (.int (0 : Int32)), (.int (0 : Int32)), (.int (0 : Int32)), (.int (0 : Int32)), (.int (0 : Int32)), (.int (0 : Int32)), (.int (0 : Int32)), (.int (0 : Int32)), (.int (0 : Int32)), (.int (0 : Int32)), (.int (0 : Int32)), (.int (0 : Int32)), (.int (0 : Int32)), (.int (0 : Int32)), (.int (0 : Int32))] (.int (0 : Int32)) := (Arv.new A477 (by decide)).pad (pad_rep [] (.int (0 : Int32)) 24)
          have Vc477 : Arv Z h477 b477 k477 .char (Int32.ofNat 24) (own_cv own_zf 24) (.int (0 : Int32)) := V477
          obtain ⟨cl_a478, Ar_a478, q_a478, S_a478, N_a478, H_a478, G_a478⟩ := id Vc477
          have ej_a478 : (0 : Int32) = Int32.ofNat 0 := rfl
          have hin_a478 : ¬ ((0 : Int32) < 0 ∨ cl_a478.slots.size ≤ ((0 : Int32)).toNatClampNeg) := by rw [ej_a478]; exact own_in (n := 24) S_a478 (by omega) (by omega)
          obtain ⟨T479, h479, X479, e479, W479, st479⟩ := stC X477 hx hZa e477 Ar_a478 (j := (0 : Int32)) hin_a478 (g := (mkF m 169 #[vi x1, vi x2, vi x3, vi x4, vi x5, vi x6, vi (x1 &&& (3 : Int32)), vi up_443, vi ca, vi cz, vi cx, vi cy, vi cr, un, vr b477, un, un, un, un, un] [(.int ca), (.int (0 : Int32)), (.ref b477)])) rfl rfl (hb hby at_169)
          have O479 : Old Z n0 h479 := O477.wr W479 g_b477
          have Z479 : n0 ≤ h479.size := Nat.le_trans Z477 (Keep.of_wr W479).1
          have K479 : Keep h0 h479 [] := K477.wr W479 (Or.inr sz_b477)
          have N479 := Fr.snoc X479 N443 g_b477
          have CH479 : CHv Z own_EL s.vm h479 := CHv.wr W479 (Safe.arv hZa.alike Vc477 (by decide)) CH477
          have CR479 : CHr Z own_EL s.vm h0 s.vm h479 := CR477.trans (CHr.wr W479 (Safe.arv hZa.alike Vc477 (by decide)) CH477)
          have V479 : Arv Z h479 b477 k477 .char (Int32.ofNat 24) (own_cv (own_set own_zf 0 (own_n16 ca)) 24) (.int (0 : Int32)) := (Arv.set Ar_a478 q_a478 S_a478 N_a478 H_a478 G_a478 (fits_nar_char _) W479 0 (by rw [ej_a478]; exact own_nat (by omega)) (by rw [own_cvlen]; omega)).pad (own_setcv (own_seti _ _ _) (own_seto _ _ _))
          obtain ⟨_, _, ⟨T480, L480, k480, n480⟩, -, X480, ⟨Lc480, hQ480, l480, y480, z480⟩, st480⟩ := Jvm.LawKit.callS X479 hx (y := (⟨"com/example/prueba/prueba/MediaTypesIsJsonPinLaw", "putCore", "([CICCCZ)V"⟩ : MethodName)) howna (mvT hZa (own_wd hw 1 rfl)) (mvT hZa (own_wd hw 2 rfl)) (mvT hZa (own_wd hw 3 rfl)) (mvT hZa (own_wd hw 4 rfl)) (by decide) (backOf (W := 0) (rm1 l Z a0 hw [] b477 cz cx cy up_443 k477 (own_set own_zf 0 (own_n16 ca)) 1 24 h479 n0 Z479 O479 V479 (by omega) (by omega) g_b477) hZa (own_wd hw 4 rfl) (own_wd hw 3 rfl) (by decide) (by decide)) (g := (mkF m 181 #[vi x1, vi x2, vi x3, vi x4, vi x5, vi x6, vi (x1 &&& (3 : Int32)), vi up_443, vi ca, vi cz, vi cx, vi cy, vi cr, un, vr b477, un, un, un, un, un] [(.int up_443), (.int cy), (.int cx), (.int cz), (.int (1 : Int32)), (.ref b477)])) rfl (by rw [hml]; rfl) (argsL := [(.ref b477), (.int (1 : Int32)), (.int cz), (.int cx), (.int cy), (.int up_443)]) (rest := []) (lenOf pd_25 rfl) rfl (by show 2 * 0 + _ ≤ _; exact Nat.le_of_eq rfl) (hb hby at_181) (fun _ _ => ⟨rfl, e479, (by decide : 1 + 0 ≤ _), (by decide : 24 + 0 ≤ _)⟩)
          dsimp only [Pt.U, Pt.locs, Pt.cells, Pt.slots] at X480 l480 y480 z480 st480 hQ480
          subst y480 z480
          obtain ⟨rfl, N480q, KK480, Q480_0⟩ := hQ480
          have N480 : Fr n0 L480 := by rw [l480]; exact Fr.app N479 N480q
          have O480 : Old Z n0 T480.heap := O479.keep KK480 (allS g_b477 all0)
          have Z480 : n0 ≤ T480.heap.size := Nat.le_trans Z479 KK480.1
          have K480 : Keep h0 T480.heap [] := K479.trans KK480 (allS (Or.inr sz_b477) all0)
          have CH480 : CHv Z own_EL s.vm T480.heap := CHv.keep KK480 (sfS (Safe.arv hZa.alike V479 (by decide)) sf0) CH479
          have CR480 : CHr Z own_EL s.vm h0 s.vm T480.heap := CR479.trans (CHr.keep KK480 (sfS (Safe.arv hZa.alike V479 (by decide)) sf0) CH479)
          obtain ⟨cl_a481, Ar_a481, q_a481, S_a481, N_a481, H_a481, G_a481⟩ := id Q480_0
          have ej_a481 : (17 : Int32) = Int32.ofNat 17 := rfl
          have hin_a481 : ¬ ((17 : Int32) < 0 ∨ cl_a481.slots.size ≤ ((17 : Int32)).toNatClampNeg) := by rw [ej_a481]; exact own_in (n := 24) S_a481 (by omega) (by omega)
          obtain ⟨T482, h482, X482, e482, W482, st482⟩ := stC X480 hx hZa rfl Ar_a481 (j := (17 : Int32)) hin_a481 (g := (mkF m 190 #[vi x1, vi x2, vi x3, vi x4, vi x5, vi x6, vi (x1 &&& (3 : Int32)), vi up_443, vi ca, vi cz, vi cx, vi cy, vi cr, un, vr b477, un, un, un, un, un] [(.int cr), (.int (17 : Int32)), (.ref b477)])) rfl rfl (hb hby at_190)
          have O482 : Old Z n0 h482 := O480.wr W482 g_b477
          have Z482 : n0 ≤ h482.size := Nat.le_trans Z480 (Keep.of_wr W482).1
          have K482 : Keep h0 h482 [] := K480.wr W482 (Or.inr sz_b477)
          have N482 := Fr.snoc X482 N480 g_b477
          have CH482 : CHv Z own_EL s.vm h482 := CHv.wr W482 (Safe.arv hZa.alike Q480_0 (by decide)) CH480
          have CR482 : CHr Z own_EL s.vm h0 s.vm h482 := CR480.trans (CHr.wr W482 (Safe.arv hZa.alike Q480_0 (by decide)) CH480)
          have V482 : Arv Z h482 b477 k477 .char (Int32.ofNat 24) (own_cv (own_set (own_put (own_set own_zf 0 (own_n16 ca)) cz cx cy up_443 1 16) 17 (own_n16 cr)) 24) (.int (0 : Int32)) := (Arv.set Ar_a481 q_a481 S_a481 N_a481 H_a481 G_a481 (fits_nar_char _) W482 17 (by rw [ej_a481]; exact own_nat (by omega)) (by rw [own_cvlen]; omega)).pad (own_setcv (own_seti _ _ _) (own_seto _ _ _))
          obtain ⟨_, _, ⟨T483, L483, k483, n483⟩, -, X483, ⟨Lc483, hQ483, l483, y483, z483⟩, st483⟩ := Jvm.LawKit.callS X482 hx (y := (⟨"com/example/prueba/prueba/MediaTypesIsJsonPinLaw", "putTail", "([CI)V"⟩ : MethodName)) howna (mvT hZa (own_wd hw 194 rfl)) (mvT hZa (own_wd hw 195 rfl)) (mvT hZa (own_wd hw 3 rfl)) (mvT hZa (own_wd hw 196 rfl)) (by decide) (backOf (W := 0) (rm41 l Z a0 hw [] b477 k477 (own_set (own_put (own_set own_zf 0 (own_n16 ca)) cz cx cy up_443 1 16) 17 (own_n16 cr)) 18 24 h482 n0 Z482 O482 V482 (by omega) (by omega) g_b477) hZa (own_wd hw 196 rfl) (own_wd hw 3 rfl) (by decide) (by decide)) (g := (mkF m 195 #[vi x1, vi x2, vi x3, vi x4, vi x5, vi x6, vi (x1 &&& (3 : Int32)), vi up_443, vi ca, vi cz, vi cx, vi cy, vi cr, un, vr b477, un, un, un, un, un] [(.int (18 : Int32)), (.ref b477)])) rfl (by rw [hml]; rfl) (argsL := [(.ref b477), (.int (18 : Int32))]) (rest := []) (lenOf pd_27 rfl) rfl (by show 2 * 0 + _ ≤ _; exact Nat.le_of_eq rfl) (hb hby at_195) (fun _ _ => ⟨rfl, e482, (by decide : 1 + 0 ≤ _), (by decide : 24 + 0 ≤ _)⟩)
          dsimp only [Pt.U, Pt.locs, Pt.cells, Pt.slots] at X483 l483 y483 z483 st483 hQ483
          subst y483 z483
          obtain ⟨rfl, N483q, KK483, Q483_0⟩ := hQ483
          have N483 : Fr n0 L483 := by rw [l483]; exact Fr.app N482 N483q
          have O483 : Old Z n0 T483.heap := O482.keep KK483 (allS g_b477 all0)
          have Z483 : n0 ≤ T483.heap.size := Nat.le_trans Z482 KK483.1
          have K483 : Keep h0 T483.heap [] := K482.trans KK483 (allS (Or.inr sz_b477) all0)
          have CH483 : CHv Z own_EL s.vm T483.heap := CHv.keep KK483 (sfS (Safe.arv hZa.alike V482 (by decide)) sf0) CH482
          have CR483 : CHr Z own_EL s.vm h0 s.vm T483.heap := CR482.trans (CHr.keep KK483 (sfS (Safe.arv hZa.alike V482 (by decide)) sf0) CH482)
          obtain ⟨T484, h484, X484, e484, E484, A484, D484, U484, st484⟩ := newO X483 hx hZa howna (own_wd hw 8 rfl) (own_wd hw 9 rfl) (own_wd hw 10 rfl) rfl (g := (mkF m 198 #[vi x1, vi x2, vi x3, vi x4, vi x5, vi x6, vi (x1 &&& (3 : Int32)), vi up_443, vi ca, vi cz, vi cx, vi cy, vi cr, un, vr b477, un, un, un, un, un] [])) rfl (hb hby at_198) (by decide) (by decide)
          obtain ⟨b484, g484⟩ : ∃ z, z = T483.heap.size := ⟨_, rfl⟩
          rw [← g484] at A484 D484 st484
          have O484 : Old Z n0 h484 := O483.ext E484
          have Z484 : n0 ≤ h484.size := Nat.le_trans Z483 E484.1
          have K484 : Keep h0 h484 [] := K483.ext E484
          have CH484 : CHv Z own_EL s.vm h484 := CHv.ext E484 CH483
          have CR484 : CHr Z own_EL s.vm h0 s.vm h484 := CR483.trans (CHr.ext E484 CH483)
          have g_b484 : n0 ≤ b484 := Nat.le_trans Z483 (Nat.le_of_eq g484.symm)
          have sz_b484 : h0.size ≤ b484 := Nat.le_trans K483.1 (Nat.le_of_eq g484.symm)
          have F_b484_coder : Fld Z h484 b484 "java/lang/String" "coder" "B" (.int (0 : Int32)) := D484 (Or.inr (own_wd hw 34 rfl)) (ty := .byte) (by decide)
          have F_b484_value : Fld Z h484 b484 "java/lang/String" "value" "[B" .null := D484 (Or.inr (own_wd hw 36 rfl)) (ty := (.array .byte)) (by decide)
          have V485 : Arv Z h484 b477 k477 .char (Int32.ofNat 24) (own_cv (own_tl (own_set (own_put (own_set own_zf 0 (own_n16 ca)) cz cx cy up_443 1 16) 17 (own_n16 cr)) 18 6) 24) (.int (0 : Int32)) := (Q483_0.ext E484)
          have hp486 : ∀ j, ¬ (own_tl (own_set (own_put (own_set own_zf 0 (own_n16 ca)) cz cx cy up_443 1 16) 17 (own_n16 cr)) 18 6) j < 0 ∧ ¬ (255 : Int32) < (own_tl (own_set (own_put (own_set own_zf 0 (own_n16 ca)) cz cx cy up_443 1 16) 17 (own_n16 cr)) 18 6) j := (own_rtl (own_rset (own_rput (own_rset own_rzf rca) rcz rcx rcy J443_0) rcr))
          obtain ⟨_, _, ⟨T487, L487, k487, n487⟩, -, X487, ⟨Lc487, hQ487, l487, y487, z487⟩, st487⟩ := X484.specialBack hx (y := (⟨"java/lang/String", "<init>", "([C)V"⟩ : MethodName)) rfl howna (mvT hZa (own_wd hw 11 rfl)) (mvT hZa (own_wd hw 12 rfl)) (mvT hZa (own_wd hw 13 rfl)) (by decide) (StrChars.Road.backV (W := 1) hZa (own_hws hw) (kI := 4) (own_wd hw 9 rfl) (cs := ((List.range 24).map (own_tl (own_set (own_put (own_set own_zf 0 (own_n16 ca)) cz cx cy up_443 1 16) 17 (own_n16 cr)) 18 6))) (bs := ((List.range 24).map (own_tl (own_set (own_put (own_set own_zf 0 (own_n16 ca)) cz cx cy up_443 1 16) 17 (own_n16 cr)) 18 6)).map (fun c => c.toInt8.toInt32)) (n := 24) g_b484 Z484 A484 F_b484_value F_b484_coder V485 (S_COMPACT_STRINGS.ext O484.2) hcomp rfl rfl (by decide) (by decide) (own_hpL hp486) rfl (by decide) (by decide)) (g := (mkF m 204 #[vi x1, vi x2, vi x3, vi x4, vi x5, vi x6, vi (x1 &&& (3 : Int32)), vi up_443, vi ca, vi cz, vi cx, vi cy, vi cr, un, vr b477, un, un, un, un, un] [(.ref b477), (.ref b484), (.ref b484)])) rfl (by rw [hml]; rfl) (Steps.refl _) (a := b484) (argsL := [(.ref b477)]) (rest := [(.ref b484)]) (lenOf pd_26 rfl) rfl (by show 2 * 0 + _ ≤ _; exact Nat.le_of_eq rfl) (hb hby at_204) (fun _ _ => ⟨rfl, e484, (by decide : 2 + 1 ≤ _), (by decide : 28 + 24 ≤ _)⟩)
          dsimp only [Pt.U, Pt.locs, Pt.cells, Pt.slots] at X487 l487 y487 z487 st487 hQ487
          subst y487 z487
          obtain ⟨rfl, N487q, KK487, E487, C487, t487, kb487, g_t487, s487, ne487, V487, A487⟩ := hQ487
          have N487 : Fr n0 L487 := by rw [l487]; exact Fr.app N483 N487q
          have sf488 : Safe Z own_EL s.vm h484 b484 := (Safe.ext E484 CH483 (Safe.new (Nat.le_of_eq g484.symm)))
          have O487 : Old Z n0 T487.heap := O484.keep KK487 (allS g_b484 all0)
          have Z487 : n0 ≤ T487.heap.size := Nat.le_trans Z484 KK487.1
          have K487 : Keep h0 T487.heap [] := K484.trans KK487 (allS (Or.inr sz_b484) all0)
          have CH487 : CHv Z own_EL s.vm T487.heap := CHv.keep KK487 (sfS sf488 sf0) CH484
          have CR487 : CHr Z own_EL s.vm h0 s.vm T487.heap := CR484.trans (CHr.keep KK487 (sfS sf488 sf0) CH484)
          have sz_t487 : h0.size ≤ t487 := Nat.le_trans K484.1 s487
          have Ae487 : Arv Z T487.heap t487 kb487 .byte (Int32.ofNat 24) (own_fv (own_tl (own_set (own_put (own_set own_zf 0 (own_n16 ca)) cz cx cy up_443 1 16) 17 (own_n16 cr)) 18 6) 24) (.int 0) := A487
          have pre489 := fun t (kt : SF p e below T487 m 250 #[vi x1, vi x2, vi x3, vi x4, vi x5, vi x6, vi (x1 &&& (3 : Int32)), vi up_443, vi ca, vi cz, vi cx, vi cy, vi cr, vr b484, vr b477, un, un, un, un, un] [] t) => pre476 t (by
            refine XS.icmpNo X443.here hx rfl (hb hby at_155) rfl (teq hc155).2 ?_
            refine XS.bipush X443.here hx rfl (hb hby at_158) ?_
            show SF p e below T443 m 160 _ [(.int (24 : Int32))] _
            refine st477 _ ?_
            show SF p e below T477 m 162 #[vi x1, vi x2, vi x3, vi x4, vi x5, vi x6, vi (x1 &&& (3 : Int32)), vi up_443, vi ca, vi cz, vi cx, vi cy, vi cr, un, un, un, un, un, un, un] [(.ref b477)] _
            refine XS.astore X477.here hx rfl (hb hby at_162) rfl rfl (l' := #[vi x1, vi x2, vi x3, vi x4, vi x5, vi x6, vi (x1 &&& (3 : Int32)), vi up_443, vi ca, vi cz, vi cx, vi cy, vi cr, un, vr b477, un, un, un, un, un]) rfl ?_
            refine XS.aload X477.here hx rfl (hb hby at_164) rfl rfl ?_
            refine XS.iconst X477.here hx rfl (hb hby at_166) ?_
            refine XS.iload X477.here hx rfl (hb hby at_167) rfl ?_
            show SF p e below T477 m 169 _ [(.int ca), (.int (0 : Int32)), (.ref b477)] _
            refine st479 _ ?_
            show SF p e below T479 m 170 #[vi x1, vi x2, vi x3, vi x4, vi x5, vi x6, vi (x1 &&& (3 : Int32)), vi up_443, vi ca, vi cz, vi cx, vi cy, vi cr, un, vr b477, un, un, un, un, un] [] _
            refine XS.aload X479.here hx rfl (hb hby at_170) rfl rfl ?_
            refine XS.iconst X479.here hx rfl (hb hby at_172) ?_
            refine XS.iload X479.here hx rfl (hb hby at_173) rfl ?_
            refine XS.iload X479.here hx rfl (hb hby at_175) rfl ?_
            refine XS.iload X479.here hx rfl (hb hby at_177) rfl ?_
            refine XS.iload X479.here hx rfl (hb hby at_179) rfl ?_
            show SF p e below T479 m 181 _ [(.int up_443), (.int cy), (.int cx), (.int cz), (.int (1 : Int32)), (.ref b477)] _
            refine st480 _ ?_
            show SF p e below T480 m 184 #[vi x1, vi x2, vi x3, vi x4, vi x5, vi x6, vi (x1 &&& (3 : Int32)), vi up_443, vi ca, vi cz, vi cx, vi cy, vi cr, un, vr b477, un, un, un, un, un] [] _
            refine XS.aload X480.here hx rfl (hb hby at_184) rfl rfl ?_
            refine XS.bipush X480.here hx rfl (hb hby at_186) ?_
            refine XS.iload X480.here hx rfl (hb hby at_188) rfl ?_
            show SF p e below T480 m 190 _ [(.int cr), (.int (17 : Int32)), (.ref b477)] _
            refine st482 _ ?_
            show SF p e below T482 m 191 #[vi x1, vi x2, vi x3, vi x4, vi x5, vi x6, vi (x1 &&& (3 : Int32)), vi up_443, vi ca, vi cz, vi cx, vi cy, vi cr, un, vr b477, un, un, un, un, un] [] _
            refine XS.aload X482.here hx rfl (hb hby at_191) rfl rfl ?_
            refine XS.bipush X482.here hx rfl (hb hby at_193) ?_
            show SF p e below T482 m 195 _ [(.int (18 : Int32)), (.ref b477)] _
            refine st483 _ ?_
            show SF p e below T483 m 198 #[vi x1, vi x2, vi x3, vi x4, vi x5, vi x6, vi (x1 &&& (3 : Int32)), vi up_443, vi ca, vi cz, vi cx, vi cy, vi cr, un, vr b477, un, un, un, un, un] [] _
            refine st484 _ ?_
            show SF p e below T484 m 201 #[vi x1, vi x2, vi x3, vi x4, vi x5, vi x6, vi (x1 &&& (3 : Int32)), vi up_443, vi ca, vi cz, vi cx, vi cy, vi cr, un, vr b477, un, un, un, un, un] [(.ref b484)] _
            refine XS.dup X484.here hx rfl (hb hby at_201) rfl rfl ?_
            refine XS.aload X484.here hx rfl (hb hby at_202) rfl rfl ?_
            show SF p e below T484 m 204 _ [(.ref b477), (.ref b484), (.ref b484)] _
            refine st487.trans ?_
            show SF p e below T487 m 207 #[vi x1, vi x2, vi x3, vi x4, vi x5, vi x6, vi (x1 &&& (3 : Int32)), vi up_443, vi ca, vi cz, vi cx, vi cy, vi cr, un, vr b477, un, un, un, un, un] [(.ref b484)] _
            refine XS.astore X487.here hx rfl (hb hby at_207) rfl rfl (l' := #[vi x1, vi x2, vi x3, vi x4, vi x5, vi x6, vi (x1 &&& (3 : Int32)), vi up_443, vi ca, vi cz, vi cx, vi cy, vi cr, vr b484, vr b477, un, un, un, un, un]) rfl ?_
            refine XS.goto X487.here hx rfl (pc0 := 209) (pc' := 250) rfl (hb hby at_209) (by decide) (by decide) ?_
            exact kt)
          exact ⟨b484, b477, t487, kb487, (own_tl (own_set (own_put (own_set own_zf 0 (own_n16 ca)) cz cx cy up_443 1 16) 17 (own_n16 cr)) 18 6), 24, T487, T487.heap, _, (X487.more (by decide) (by decide)), rfl, N487, ((((((((Keep.refl h0 []).ext E477).wr W479 (Or.inr (Nat.le_of_eq g477.symm))).trans KK480 (allS (Or.inr (Nat.le_of_eq g477.symm)) all0)).wr W482 (Or.inr (Nat.le_of_eq g477.symm))).trans KK483 (allS (Or.inr (Nat.le_of_eq g477.symm)) all0)).ext E484).trans KK487 (allS (Or.inr (Nat.le_trans E477.1 (Nat.le_trans (Keep.of_wr W479).1 (Nat.le_trans KK480.1 (Nat.le_trans (Keep.of_wr W482).1 (Nat.le_trans KK483.1 (Nat.le_of_eq g484.symm))))))) all0)), (Nat.le_trans E477.1 (Nat.le_trans (Keep.of_wr W479).1 (Nat.le_trans KK480.1 (Nat.le_trans (Keep.of_wr W482).1 (Nat.le_trans KK483.1 (Nat.le_of_eq g484.symm)))))), (Nat.le_trans E477.1 (Nat.le_trans (Keep.of_wr W479).1 (Nat.le_trans KK480.1 (Nat.le_trans (Keep.of_wr W482).1 (Nat.le_trans KK483.1 (Nat.le_trans E484.1 s487)))))), E487, V487, C487, Ae487, (by decide), hp486, (fun _ _ _ mt => (own_js1 mt hp486 (by decide) J443_0 rcz rcx rcy (own_tlo (by decide) (own_k1_0 rca)) (fun i hi => own_tlo (by omega) (own_k1_c i hi)) (own_tlo (by decide) (own_k1_17 rcr)) (Or.inr rfl)).trans (own_exT (Or.inr hc155))), pre489⟩
        · skip
          obtain ⟨T490, h490, k490, X490, e490, E490, A490, st490⟩ := newP X443 hx hZa (own_wd hw 0 rfl) e443 (g := (mkF m 214 #[vi x1, vi x2, vi x3, vi x4, vi x5, vi x6, vi (x1 &&& (3 : Int32)), vi up_443, vi ca, vi cz, vi cx, vi cy, vi cr, un, un, un, un, un, un, un] [(.int (22 : Int32))])) rfl (hb hby at_214) rfl (by decide) (cap := 22) (by decide) (by decide) (by decide) (by decide)
          obtain ⟨b490, g490⟩ : ∃ z, z = h0.size := ⟨_, rfl⟩
          rw [← g490] at A490 st490
          have O490 : Old Z n0 h490 := O0.ext E490
          have Z490 : n0 ≤ h490.size := Nat.le_trans Z0 E490.1
          have K490 : Keep h0 h490 [] := K0.ext E490
          have CH490 : CHv Z own_EL s.vm h490 := CHv.ext E490 CH0
          have CR490 : CHr Z own_EL s.vm h0 s.vm h490 := CR0.trans (CHr.ext E490 CH0)
          have g_b490 : n0 ≤ b490 := Nat.le_trans Z0 (Nat.le_of_eq g490.symm)
          have sz_b490 : h0.size ≤ b490 := Nat.le_trans K0.1 (Nat.le_of_eq g490.symm)
          have V490 : Arv Z h490 b490 k490 .char (22 : Int32) [(.int (0 : Int32)), (.int (0 : Int32)), (.int (0 : Int32)), (.int (0 : Int32)), (.int (0 : Int32)), (.int (0 : Int32)), (.int (0 : Int32)), (.int (0 : Int32)), (.int (0 : Int32)), (.int (0 : Int32)), (.int (0 : Int32)), (.int (0 : Int32)), (.int (0 : Int32)), (.int (0 : Int32)), (.int (0 : Int32)), (.int (0 : Int32)), (.int (0 : Int32)), (.int (0 : Int32)), (.int (0 : Int32)), (.int (0 : Int32)), (.int (0 : Int32)), (.int (0 : Int32))] (.int (0 : Int32)) := (Arv.new A490 (by decide)).pad (pad_rep [] (.int (0 : Int32)) 22)
          have Vc490 : Arv Z h490 b490 k490 .char (Int32.ofNat 22) (own_cv own_zf 22) (.int (0 : Int32)) := V490
          obtain ⟨_, _, ⟨T491, L491, k491, n491⟩, -, X491, ⟨Lc491, hQ491, l491, y491, z491⟩, st491⟩ := Jvm.LawKit.callS X490 hx (y := (⟨"com/example/prueba/prueba/MediaTypesIsJsonPinLaw", "putCore", "([CICCCZ)V"⟩ : MethodName)) howna (mvT hZa (own_wd hw 1 rfl)) (mvT hZa (own_wd hw 2 rfl)) (mvT hZa (own_wd hw 3 rfl)) (mvT hZa (own_wd hw 4 rfl)) (by decide) (backOf (W := 0) (rm1 l Z a0 hw [] b490 cz cx cy up_443 k490 own_zf 0 22 h490 n0 Z490 O490 Vc490 (by omega) (by omega) g_b490) hZa (own_wd hw 4 rfl) (own_wd hw 3 rfl) (by decide) (by decide)) (g := (mkF m 229 #[vi x1, vi x2, vi x3, vi x4, vi x5, vi x6, vi (x1 &&& (3 : Int32)), vi up_443, vi ca, vi cz, vi cx, vi cy, vi cr, un, vr b490, un, un, un, un, un] [(.int up_443), (.int cy), (.int cx), (.int cz), (.int (0 : Int32)), (.ref b490)])) rfl (by rw [hml]; rfl) (argsL := [(.ref b490), (.int (0 : Int32)), (.int cz), (.int cx), (.int cy), (.int up_443)]) (rest := []) (lenOf pd_25 rfl) rfl (by show 2 * 0 + _ ≤ _; exact Nat.le_of_eq rfl) (hb hby at_229) (fun _ _ => ⟨rfl, e490, (by decide : 1 + 0 ≤ _), (by decide : 22 + 0 ≤ _)⟩)
          dsimp only [Pt.U, Pt.locs, Pt.cells, Pt.slots] at X491 l491 y491 z491 st491 hQ491
          subst y491 z491
          obtain ⟨rfl, N491q, KK491, Q491_0⟩ := hQ491
          have N491 : Fr n0 L491 := by rw [l491]; exact Fr.app N443 N491q
          have O491 : Old Z n0 T491.heap := O490.keep KK491 (allS g_b490 all0)
          have Z491 : n0 ≤ T491.heap.size := Nat.le_trans Z490 KK491.1
          have K491 : Keep h0 T491.heap [] := K490.trans KK491 (allS (Or.inr sz_b490) all0)
          have CH491 : CHv Z own_EL s.vm T491.heap := CHv.keep KK491 (sfS (Safe.arv hZa.alike Vc490 (by decide)) sf0) CH490
          have CR491 : CHr Z own_EL s.vm h0 s.vm T491.heap := CR490.trans (CHr.keep KK491 (sfS (Safe.arv hZa.alike Vc490 (by decide)) sf0) CH490)
          obtain ⟨_, _, ⟨T492, L492, k492, n492⟩, -, X492, ⟨Lc492, hQ492, l492, y492, z492⟩, st492⟩ := Jvm.LawKit.callS X491 hx (y := (⟨"com/example/prueba/prueba/MediaTypesIsJsonPinLaw", "putTail", "([CI)V"⟩ : MethodName)) howna (mvT hZa (own_wd hw 194 rfl)) (mvT hZa (own_wd hw 195 rfl)) (mvT hZa (own_wd hw 3 rfl)) (mvT hZa (own_wd hw 196 rfl)) (by decide) (backOf (W := 0) (rm41 l Z a0 hw [] b490 k490 (own_put own_zf cz cx cy up_443 0 16) 16 22 T491.heap n0 Z491 O491 Q491_0 (by omega) (by omega) g_b490) hZa (own_wd hw 196 rfl) (own_wd hw 3 rfl) (by decide) (by decide)) (g := (mkF m 236 #[vi x1, vi x2, vi x3, vi x4, vi x5, vi x6, vi (x1 &&& (3 : Int32)), vi up_443, vi ca, vi cz, vi cx, vi cy, vi cr, un, vr b490, un, un, un, un, un] [(.int (16 : Int32)), (.ref b490)])) rfl (by rw [hml]; rfl) (argsL := [(.ref b490), (.int (16 : Int32))]) (rest := []) (lenOf pd_27 rfl) rfl (by show 2 * 0 + _ ≤ _; exact Nat.le_of_eq rfl) (hb hby at_236) (fun _ _ => ⟨rfl, rfl, (by decide : 1 + 0 ≤ _), (by decide : 22 + 0 ≤ _)⟩)
          dsimp only [Pt.U, Pt.locs, Pt.cells, Pt.slots] at X492 l492 y492 z492 st492 hQ492
          subst y492 z492
          obtain ⟨rfl, N492q, KK492, Q492_0⟩ := hQ492
          have N492 : Fr n0 L492 := by rw [l492]; exact Fr.app N491 N492q
          have O492 : Old Z n0 T492.heap := O491.keep KK492 (allS g_b490 all0)
          have Z492 : n0 ≤ T492.heap.size := Nat.le_trans Z491 KK492.1
          have K492 : Keep h0 T492.heap [] := K491.trans KK492 (allS (Or.inr sz_b490) all0)
          have CH492 : CHv Z own_EL s.vm T492.heap := CHv.keep KK492 (sfS (Safe.arv hZa.alike Q491_0 (by decide)) sf0) CH491
          have CR492 : CHr Z own_EL s.vm h0 s.vm T492.heap := CR491.trans (CHr.keep KK492 (sfS (Safe.arv hZa.alike Q491_0 (by decide)) sf0) CH491)
          obtain ⟨T493, h493, X493, e493, E493, A493, D493, U493, st493⟩ := newO X492 hx hZa howna (own_wd hw 8 rfl) (own_wd hw 9 rfl) (own_wd hw 10 rfl) rfl (g := (mkF m 239 #[vi x1, vi x2, vi x3, vi x4, vi x5, vi x6, vi (x1 &&& (3 : Int32)), vi up_443, vi ca, vi cz, vi cx, vi cy, vi cr, un, vr b490, un, un, un, un, un] [])) rfl (hb hby at_239) (by decide) (by decide)
          obtain ⟨b493, g493⟩ : ∃ z, z = T492.heap.size := ⟨_, rfl⟩
          rw [← g493] at A493 D493 st493
          have O493 : Old Z n0 h493 := O492.ext E493
          have Z493 : n0 ≤ h493.size := Nat.le_trans Z492 E493.1
          have K493 : Keep h0 h493 [] := K492.ext E493
          have CH493 : CHv Z own_EL s.vm h493 := CHv.ext E493 CH492
          have CR493 : CHr Z own_EL s.vm h0 s.vm h493 := CR492.trans (CHr.ext E493 CH492)
          have g_b493 : n0 ≤ b493 := Nat.le_trans Z492 (Nat.le_of_eq g493.symm)
          have sz_b493 : h0.size ≤ b493 := Nat.le_trans K492.1 (Nat.le_of_eq g493.symm)
          have F_b493_coder : Fld Z h493 b493 "java/lang/String" "coder" "B" (.int (0 : Int32)) := D493 (Or.inr (own_wd hw 34 rfl)) (ty := .byte) (by decide)
          have F_b493_value : Fld Z h493 b493 "java/lang/String" "value" "[B" .null := D493 (Or.inr (own_wd hw 36 rfl)) (ty := (.array .byte)) (by decide)
          have V494 : Arv Z h493 b490 k490 .char (Int32.ofNat 22) (own_cv (own_tl (own_put own_zf cz cx cy up_443 0 16) 16 6) 22) (.int (0 : Int32)) := (Q492_0.ext E493)
          have hp495 : ∀ j, ¬ (own_tl (own_put own_zf cz cx cy up_443 0 16) 16 6) j < 0 ∧ ¬ (255 : Int32) < (own_tl (own_put own_zf cz cx cy up_443 0 16) 16 6) j := (own_rtl (own_rput own_rzf rcz rcx rcy J443_0))
          obtain ⟨_, _, ⟨T496, L496, k496, n496⟩, -, X496, ⟨Lc496, hQ496, l496, y496, z496⟩, st496⟩ := X493.specialBack hx (y := (⟨"java/lang/String", "<init>", "([C)V"⟩ : MethodName)) rfl howna (mvT hZa (own_wd hw 11 rfl)) (mvT hZa (own_wd hw 12 rfl)) (mvT hZa (own_wd hw 13 rfl)) (by decide) (StrChars.Road.backV (W := 1) hZa (own_hws hw) (kI := 4) (own_wd hw 9 rfl) (cs := ((List.range 22).map (own_tl (own_put own_zf cz cx cy up_443 0 16) 16 6))) (bs := ((List.range 22).map (own_tl (own_put own_zf cz cx cy up_443 0 16) 16 6)).map (fun c => c.toInt8.toInt32)) (n := 22) g_b493 Z493 A493 F_b493_value F_b493_coder V494 (S_COMPACT_STRINGS.ext O493.2) hcomp rfl rfl (by decide) (by decide) (own_hpL hp495) rfl (by decide) (by decide)) (g := (mkF m 245 #[vi x1, vi x2, vi x3, vi x4, vi x5, vi x6, vi (x1 &&& (3 : Int32)), vi up_443, vi ca, vi cz, vi cx, vi cy, vi cr, un, vr b490, un, un, un, un, un] [(.ref b490), (.ref b493), (.ref b493)])) rfl (by rw [hml]; rfl) (Steps.refl _) (a := b493) (argsL := [(.ref b490)]) (rest := [(.ref b493)]) (lenOf pd_26 rfl) rfl (by show 2 * 0 + _ ≤ _; exact Nat.le_of_eq rfl) (hb hby at_245) (fun _ _ => ⟨rfl, e493, (by decide : 2 + 1 ≤ _), (by decide : 26 + 22 ≤ _)⟩)
          dsimp only [Pt.U, Pt.locs, Pt.cells, Pt.slots] at X496 l496 y496 z496 st496 hQ496
          subst y496 z496
          obtain ⟨rfl, N496q, KK496, E496, C496, t496, kb496, g_t496, s496, ne496, V496, A496⟩ := hQ496
          have N496 : Fr n0 L496 := by rw [l496]; exact Fr.app N492 N496q
          have sf497 : Safe Z own_EL s.vm h493 b493 := (Safe.ext E493 CH492 (Safe.new (Nat.le_of_eq g493.symm)))
          have O496 : Old Z n0 T496.heap := O493.keep KK496 (allS g_b493 all0)
          have Z496 : n0 ≤ T496.heap.size := Nat.le_trans Z493 KK496.1
          have K496 : Keep h0 T496.heap [] := K493.trans KK496 (allS (Or.inr sz_b493) all0)
          have CH496 : CHv Z own_EL s.vm T496.heap := CHv.keep KK496 (sfS sf497 sf0) CH493
          have CR496 : CHr Z own_EL s.vm h0 s.vm T496.heap := CR493.trans (CHr.keep KK496 (sfS sf497 sf0) CH493)
          have sz_t496 : h0.size ≤ t496 := Nat.le_trans K493.1 s496
          have Ae496 : Arv Z T496.heap t496 kb496 .byte (Int32.ofNat 22) (own_fv (own_tl (own_put own_zf cz cx cy up_443 0 16) 16 6) 22) (.int 0) := A496
          have pre498 := fun t (kt : SF p e below T496 m 250 #[vi x1, vi x2, vi x3, vi x4, vi x5, vi x6, vi (x1 &&& (3 : Int32)), vi up_443, vi ca, vi cz, vi cx, vi cy, vi cr, vr b493, vr b490, un, un, un, un, un] [] t) => pre476 t (by
            refine XS.icmpYes X443.here hx rfl (pc0 := 155) (pc' := 212) rfl (hb hby at_155) rfl (feq hc155).2 (by decide) (by decide) ?_
            refine XS.bipush X443.here hx rfl (hb hby at_212) ?_
            show SF p e below T443 m 214 _ [(.int (22 : Int32))] _
            refine st490 _ ?_
            show SF p e below T490 m 216 #[vi x1, vi x2, vi x3, vi x4, vi x5, vi x6, vi (x1 &&& (3 : Int32)), vi up_443, vi ca, vi cz, vi cx, vi cy, vi cr, un, un, un, un, un, un, un] [(.ref b490)] _
            refine XS.astore X490.here hx rfl (hb hby at_216) rfl rfl (l' := #[vi x1, vi x2, vi x3, vi x4, vi x5, vi x6, vi (x1 &&& (3 : Int32)), vi up_443, vi ca, vi cz, vi cx, vi cy, vi cr, un, vr b490, un, un, un, un, un]) rfl ?_
            refine XS.aload X490.here hx rfl (hb hby at_218) rfl rfl ?_
            refine XS.iconst X490.here hx rfl (hb hby at_220) ?_
            refine XS.iload X490.here hx rfl (hb hby at_221) rfl ?_
            refine XS.iload X490.here hx rfl (hb hby at_223) rfl ?_
            refine XS.iload X490.here hx rfl (hb hby at_225) rfl ?_
            refine XS.iload X490.here hx rfl (hb hby at_227) rfl ?_
            show SF p e below T490 m 229 _ [(.int up_443), (.int cy), (.int cx), (.int cz), (.int (0 : Int32)), (.ref b490)] _
            refine st491 _ ?_
            show SF p e below T491 m 232 #[vi x1, vi x2, vi x3, vi x4, vi x5, vi x6, vi (x1 &&& (3 : Int32)), vi up_443, vi ca, vi cz, vi cx, vi cy, vi cr, un, vr b490, un, un, un, un, un] [] _
            refine XS.aload X491.here hx rfl (hb hby at_232) rfl rfl ?_
            refine XS.bipush X491.here hx rfl (hb hby at_234) ?_
            show SF p e below T491 m 236 _ [(.int (16 : Int32)), (.ref b490)] _
            refine st492 _ ?_
            show SF p e below T492 m 239 #[vi x1, vi x2, vi x3, vi x4, vi x5, vi x6, vi (x1 &&& (3 : Int32)), vi up_443, vi ca, vi cz, vi cx, vi cy, vi cr, un, vr b490, un, un, un, un, un] [] _
            refine st493 _ ?_
            show SF p e below T493 m 242 #[vi x1, vi x2, vi x3, vi x4, vi x5, vi x6, vi (x1 &&& (3 : Int32)), vi up_443, vi ca, vi cz, vi cx, vi cy, vi cr, un, vr b490, un, un, un, un, un] [(.ref b493)] _
            refine XS.dup X493.here hx rfl (hb hby at_242) rfl rfl ?_
            refine XS.aload X493.here hx rfl (hb hby at_243) rfl rfl ?_
            show SF p e below T493 m 245 _ [(.ref b490), (.ref b493), (.ref b493)] _
            refine st496.trans ?_
            show SF p e below T496 m 248 #[vi x1, vi x2, vi x3, vi x4, vi x5, vi x6, vi (x1 &&& (3 : Int32)), vi up_443, vi ca, vi cz, vi cx, vi cy, vi cr, un, vr b490, un, un, un, un, un] [(.ref b493)] _
            refine XS.astore X496.here hx rfl (hb hby at_248) rfl rfl (l' := #[vi x1, vi x2, vi x3, vi x4, vi x5, vi x6, vi (x1 &&& (3 : Int32)), vi up_443, vi ca, vi cz, vi cx, vi cy, vi cr, vr b493, vr b490, un, un, un, un, un]) rfl ?_
            exact kt)
          exact ⟨b493, b490, t496, kb496, (own_tl (own_put own_zf cz cx cy up_443 0 16) 16 6), 22, T496, T496.heap, _, (X496.more (by decide) (by decide)), rfl, N496, ((((((Keep.refl h0 []).ext E490).trans KK491 (allS (Or.inr (Nat.le_of_eq g490.symm)) all0)).trans KK492 (allS (Or.inr (Nat.le_of_eq g490.symm)) all0)).ext E493).trans KK496 (allS (Or.inr (Nat.le_trans E490.1 (Nat.le_trans KK491.1 (Nat.le_trans KK492.1 (Nat.le_of_eq g493.symm))))) all0)), (Nat.le_trans E490.1 (Nat.le_trans KK491.1 (Nat.le_trans KK492.1 (Nat.le_of_eq g493.symm)))), (Nat.le_trans E490.1 (Nat.le_trans KK491.1 (Nat.le_trans KK492.1 (Nat.le_trans E493.1 s496)))), E496, V496, C496, Ae496, (by decide), hp495, (fun _ _ _ mt => (own_js0 mt hp495 (by decide) J443_0 rcz rcx rcy own_k3_c (Or.inr rfl)).trans (own_exF (fun q => q.elim hc102 hc155))), pre498⟩
  have O453 : Old Z n0 h453 := O0.keep KK453 all0
  have Z453 : n0 ≤ h453.size := Nat.le_trans Z0 KK453.1
  have K453 : Keep h0 h453 [] := K0.trans KK453 all0
  have CH453 : CHv Z own_EL s.vm h453 := CHv.keep KK453 sf0 CH0
  have CR453 : CHr Z own_EL s.vm h0 s.vm h453 := CR0.trans (CHr.keep KK453 sf0 CH0)
  have g_sx_453 : n0 ≤ sx_453 := Nat.le_trans Z0 J453_0
  have sz_sx_453 : h0.size ≤ sx_453 := Nat.le_trans K0.1 J453_0
  have g_stv_453 : n0 ≤ stv_453 := Nat.le_trans Z0 J453_1
  have sz_stv_453 : h0.size ≤ stv_453 := Nat.le_trans K0.1 J453_1
  have pre499 := fun t (kt : SF p e below T453 m 250 #[vi x1, vi x2, vi x3, vi x4, vi x5, vi x6, vi (x1 &&& (3 : Int32)), vi up_443, vi ca, vi cz, vi cx, vi cy, vi cr, vr sx_453, vr bx_453, un, un, un, un, un] [] t) => pre452 t (by
    refine k453 _ ?_
    exact kt)
  obtain ⟨jv250_500, T500, L500, X500, e500, N500, J500_0, k500⟩ : ∃ (jv250_500 : Int32) (T500 : State) (L500 : List Loc), Stand p l e room_1 (s.setVm s.vm) m #[(.int x1), (.int x2), (.int x3), (.int x4), (.int x5), (.int x6)] below meth c T500 L500 3 52 ∧ T500.heap = h453 ∧ Fr n0 L500 ∧ (jv250_500 = (own_b (own_pr x1))) ∧ ∀ t, SF p e below T500 m 267 #[vi x1, vi x2, vi x3, vi x4, vi x5, vi x6, vi (x1 &&& (3 : Int32)), vi up_443, vi ca, vi cz, vi cx, vi cy, vi cr, vr sx_453, vr bx_453, un, un, un, un, un] [(.int jv250_500)] t → SF p e below T453 m 250 #[vi x1, vi x2, vi x3, vi x4, vi x5, vi x6, vi (x1 &&& (3 : Int32)), vi up_443, vi ca, vi cz, vi cx, vi cy, vi cr, vr sx_453, vr bx_453, un, un, un, un, un] [] t := by
    have pj500 : ∀ t, SF p e below T453 m 250 #[vi x1, vi x2, vi x3, vi x4, vi x5, vi x6, vi (x1 &&& (3 : Int32)), vi up_443, vi ca, vi cz, vi cx, vi cy, vi cr, vr sx_453, vr bx_453, un, un, un, un, un] [] t → SF p e below T453 m 250 #[vi x1, vi x2, vi x3, vi x4, vi x5, vi x6, vi (x1 &&& (3 : Int32)), vi up_443, vi ca, vi cz, vi cx, vi cy, vi cr, vr sx_453, vr bx_453, un, un, un, un, un] [] t := fun _ k => k
    have pre501 := fun t (kt : SF p e below T453 m 253 #[vi x1, vi x2, vi x3, vi x4, vi x5, vi x6, vi (x1 &&& (3 : Int32)), vi up_443, vi ca, vi cz, vi cx, vi cy, vi cr, vr sx_453, vr bx_453, un, un, un, un, un] [(.int (1 : Int32)), (.int (x1 &&& (3 : Int32)))] t) => pj500 t (by
      refine XS.iload X453.here hx rfl (hb hby at_250) rfl ?_
      refine XS.iconst X453.here hx rfl (hb hby at_252) ?_
      exact kt)
    by_cases hc253 : (x1 &&& (3 : Int32)) = (1 : Int32)
    · skip
      have pre502 := fun t (kt : SF p e below T453 m 267 #[vi x1, vi x2, vi x3, vi x4, vi x5, vi x6, vi (x1 &&& (3 : Int32)), vi up_443, vi ca, vi cz, vi cx, vi cy, vi cr, vr sx_453, vr bx_453, un, un, un, un, un] [(.int (1 : Int32))] t) => pre501 t (by
        refine XS.icmpYes X453.here hx rfl (pc0 := 253) (pc' := 262) rfl (hb hby at_253) rfl (teq hc253).1 (by decide) (by decide) ?_
        refine XS.iconst X453.here hx rfl (hb hby at_262) ?_
        refine XS.goto X453.here hx rfl (pc0 := 263) (pc' := 267) rfl (hb hby at_263) (by decide) (by decide) ?_
        exact kt)
      exact ⟨(1 : Int32), T453, _, X453, e453, N453, (own_bt (Or.inl hc253)).symm, pre502⟩
    · skip
      have pre503 := fun t (kt : SF p e below T453 m 259 #[vi x1, vi x2, vi x3, vi x4, vi x5, vi x6, vi (x1 &&& (3 : Int32)), vi up_443, vi ca, vi cz, vi cx, vi cy, vi cr, vr sx_453, vr bx_453, un, un, un, un, un] [(.int (2 : Int32)), (.int (x1 &&& (3 : Int32)))] t) => pre501 t (by
        refine XS.icmpNo X453.here hx rfl (hb hby at_253) rfl (feq hc253).1 ?_
        refine XS.iload X453.here hx rfl (hb hby at_256) rfl ?_
        refine XS.iconst X453.here hx rfl (hb hby at_258) ?_
        exact kt)
      by_cases hc259 : (x1 &&& (3 : Int32)) = (2 : Int32)
      · skip
        have pre504 := fun t (kt : SF p e below T453 m 267 #[vi x1, vi x2, vi x3, vi x4, vi x5, vi x6, vi (x1 &&& (3 : Int32)), vi up_443, vi ca, vi cz, vi cx, vi cy, vi cr, vr sx_453, vr bx_453, un, un, un, un, un] [(.int (1 : Int32))] t) => pre503 t (by
          refine XS.icmpNo X453.here hx rfl (hb hby at_259) rfl (teq hc259).2 ?_
          refine XS.iconst X453.here hx rfl (hb hby at_262) ?_
          refine XS.goto X453.here hx rfl (pc0 := 263) (pc' := 267) rfl (hb hby at_263) (by decide) (by decide) ?_
          exact kt)
        exact ⟨(1 : Int32), T453, _, X453, e453, N453, (own_bt (Or.inr hc259)).symm, pre504⟩
      · skip
        have pre505 := fun t (kt : SF p e below T453 m 267 #[vi x1, vi x2, vi x3, vi x4, vi x5, vi x6, vi (x1 &&& (3 : Int32)), vi up_443, vi ca, vi cz, vi cx, vi cy, vi cr, vr sx_453, vr bx_453, un, un, un, un, un] [(.int (0 : Int32))] t) => pre503 t (by
          refine XS.icmpYes X453.here hx rfl (pc0 := 259) (pc' := 266) rfl (hb hby at_259) rfl (feq hc259).2 (by decide) (by decide) ?_
          refine XS.iconst X453.here hx rfl (hb hby at_266) ?_
          exact kt)
        exact ⟨(0 : Int32), T453, _, X453, e453, N453, (own_bf (fun q => q.elim hc253 hc259)).symm, pre505⟩
  subst J500_0
  have pre506 := fun t (kt : SF p e below T500 m 269 #[vi x1, vi x2, vi x3, vi x4, vi x5, vi x6, vi (x1 &&& (3 : Int32)), vi up_443, vi ca, vi cz, vi cx, vi cy, vi cr, vr sx_453, vi (own_b (own_pr x1)), un, un, un, un, un] [] t) => pre499 t (by
    refine k500 _ ?_
    refine XS.istore X500.here hx rfl (hb hby at_267) rfl (l' := #[vi x1, vi x2, vi x3, vi x4, vi x5, vi x6, vi (x1 &&& (3 : Int32)), vi up_443, vi ca, vi cz, vi cx, vi cy, vi cr, vr sx_453, vi (own_b (own_pr x1)), un, un, un, un, un]) rfl ?_
    exact kt)
  obtain ⟨jv269_507, T507, L507, X507, e507, N507, J507_0, k507⟩ : ∃ (jv269_507 : Int32) (T507 : State) (L507 : List Loc), Stand p l e room_1 (s.setVm s.vm) m #[(.int x1), (.int x2), (.int x3), (.int x4), (.int x5), (.int x6)] below meth c T507 L507 3 52 ∧ T507.heap = h453 ∧ Fr n0 L507 ∧ (jv269_507 = (own_b (own_pr x1))) ∧ ∀ t, SF p e below T507 m 286 #[vi x1, vi x2, vi x3, vi x4, vi x5, vi x6, vi (x1 &&& (3 : Int32)), vi up_443, vi ca, vi cz, vi cx, vi cy, vi cr, vr sx_453, vi (own_b (own_pr x1)), un, un, un, un, un] [(.int jv269_507)] t → SF p e below T500 m 269 #[vi x1, vi x2, vi x3, vi x4, vi x5, vi x6, vi (x1 &&& (3 : Int32)), vi up_443, vi ca, vi cz, vi cx, vi cy, vi cr, vr sx_453, vi (own_b (own_pr x1)), un, un, un, un, un] [] t := by
    have pj507 : ∀ t, SF p e below T500 m 269 #[vi x1, vi x2, vi x3, vi x4, vi x5, vi x6, vi (x1 &&& (3 : Int32)), vi up_443, vi ca, vi cz, vi cx, vi cy, vi cr, vr sx_453, vi (own_b (own_pr x1)), un, un, un, un, un] [] t → SF p e below T500 m 269 #[vi x1, vi x2, vi x3, vi x4, vi x5, vi x6, vi (x1 &&& (3 : Int32)), vi up_443, vi ca, vi cz, vi cx, vi cy, vi cr, vr sx_453, vi (own_b (own_pr x1)), un, un, un, un, un] [] t := fun _ k => k
    have pre508 := fun t (kt : SF p e below T500 m 272 #[vi x1, vi x2, vi x3, vi x4, vi x5, vi x6, vi (x1 &&& (3 : Int32)), vi up_443, vi ca, vi cz, vi cx, vi cy, vi cr, vr sx_453, vi (own_b (own_pr x1)), un, un, un, un, un] [(.int (1 : Int32)), (.int (x1 &&& (3 : Int32)))] t) => pj507 t (by
      refine XS.iload X500.here hx rfl (hb hby at_269) rfl ?_
      refine XS.iconst X500.here hx rfl (hb hby at_271) ?_
      exact kt)
    by_cases hc272 : (x1 &&& (3 : Int32)) = (1 : Int32)
    · skip
      have pre509 := fun t (kt : SF p e below T500 m 286 #[vi x1, vi x2, vi x3, vi x4, vi x5, vi x6, vi (x1 &&& (3 : Int32)), vi up_443, vi ca, vi cz, vi cx, vi cy, vi cr, vr sx_453, vi (own_b (own_pr x1)), un, un, un, un, un] [(.int (1 : Int32))] t) => pre508 t (by
        refine XS.icmpYes X500.here hx rfl (pc0 := 272) (pc' := 281) rfl (hb hby at_272) rfl (teq hc272).1 (by decide) (by decide) ?_
        refine XS.iconst X500.here hx rfl (hb hby at_281) ?_
        refine XS.goto X500.here hx rfl (pc0 := 282) (pc' := 286) rfl (hb hby at_282) (by decide) (by decide) ?_
        exact kt)
      exact ⟨(1 : Int32), T500, _, X500, e500, N500, (own_bt (Or.inl hc272)).symm, pre509⟩
    · skip
      have pre510 := fun t (kt : SF p e below T500 m 278 #[vi x1, vi x2, vi x3, vi x4, vi x5, vi x6, vi (x1 &&& (3 : Int32)), vi up_443, vi ca, vi cz, vi cx, vi cy, vi cr, vr sx_453, vi (own_b (own_pr x1)), un, un, un, un, un] [(.int (2 : Int32)), (.int (x1 &&& (3 : Int32)))] t) => pre508 t (by
        refine XS.icmpNo X500.here hx rfl (hb hby at_272) rfl (feq hc272).1 ?_
        refine XS.iload X500.here hx rfl (hb hby at_275) rfl ?_
        refine XS.iconst X500.here hx rfl (hb hby at_277) ?_
        exact kt)
      by_cases hc278 : (x1 &&& (3 : Int32)) = (2 : Int32)
      · skip
        have pre511 := fun t (kt : SF p e below T500 m 286 #[vi x1, vi x2, vi x3, vi x4, vi x5, vi x6, vi (x1 &&& (3 : Int32)), vi up_443, vi ca, vi cz, vi cx, vi cy, vi cr, vr sx_453, vi (own_b (own_pr x1)), un, un, un, un, un] [(.int (1 : Int32))] t) => pre510 t (by
          refine XS.icmpNo X500.here hx rfl (hb hby at_278) rfl (teq hc278).2 ?_
          refine XS.iconst X500.here hx rfl (hb hby at_281) ?_
          refine XS.goto X500.here hx rfl (pc0 := 282) (pc' := 286) rfl (hb hby at_282) (by decide) (by decide) ?_
          exact kt)
        exact ⟨(1 : Int32), T500, _, X500, e500, N500, (own_bt (Or.inr hc278)).symm, pre511⟩
      · skip
        have pre512 := fun t (kt : SF p e below T500 m 286 #[vi x1, vi x2, vi x3, vi x4, vi x5, vi x6, vi (x1 &&& (3 : Int32)), vi up_443, vi ca, vi cz, vi cx, vi cy, vi cr, vr sx_453, vi (own_b (own_pr x1)), un, un, un, un, un] [(.int (0 : Int32))] t) => pre510 t (by
          refine XS.icmpYes X500.here hx rfl (pc0 := 278) (pc' := 285) rfl (hb hby at_278) rfl (feq hc278).2 (by decide) (by decide) ?_
          refine XS.iconst X500.here hx rfl (hb hby at_285) ?_
          exact kt)
        exact ⟨(0 : Int32), T500, _, X500, e500, N500, (own_bf (fun q => q.elim hc272 hc278)).symm, pre512⟩
  subst J507_0
  have pre513 := fun t (kt : SF p e below T507 m 288 #[vi x1, vi x2, vi x3, vi x4, vi x5, vi x6, vi (x1 &&& (3 : Int32)), vi up_443, vi ca, vi cz, vi cx, vi cy, vi cr, vr sx_453, vi (own_b (own_pr x1)), vi (own_b (own_pr x1)), un, un, un, un] [] t) => pre506 t (by
    refine k507 _ ?_
    refine XS.istore X507.here hx rfl (hb hby at_286) rfl (l' := #[vi x1, vi x2, vi x3, vi x4, vi x5, vi x6, vi (x1 &&& (3 : Int32)), vi up_443, vi ca, vi cz, vi cx, vi cy, vi cr, vr sx_453, vi (own_b (own_pr x1)), vi (own_b (own_pr x1)), un, un, un, un]) rfl ?_
    exact kt)
  obtain ⟨jv288_514, T514, L514, X514, e514, N514, J514_0, k514⟩ : ∃ (jv288_514 : Int32) (T514 : State) (L514 : List Loc), Stand p l e room_1 (s.setVm s.vm) m #[(.int x1), (.int x2), (.int x3), (.int x4), (.int x5), (.int x6)] below meth c T514 L514 3 52 ∧ T514.heap = h453 ∧ Fr n0 L514 ∧ (jv288_514 = (own_b (own_yj cy))) ∧ ∀ t, SF p e below T514 m 307 #[vi x1, vi x2, vi x3, vi x4, vi x5, vi x6, vi (x1 &&& (3 : Int32)), vi up_443, vi ca, vi cz, vi cx, vi cy, vi cr, vr sx_453, vi (own_b (own_pr x1)), vi (own_b (own_pr x1)), un, un, un, un] [(.int jv288_514)] t → SF p e below T507 m 288 #[vi x1, vi x2, vi x3, vi x4, vi x5, vi x6, vi (x1 &&& (3 : Int32)), vi up_443, vi ca, vi cz, vi cx, vi cy, vi cr, vr sx_453, vi (own_b (own_pr x1)), vi (own_b (own_pr x1)), un, un, un, un] [] t := by
    have pj514 : ∀ t, SF p e below T507 m 288 #[vi x1, vi x2, vi x3, vi x4, vi x5, vi x6, vi (x1 &&& (3 : Int32)), vi up_443, vi ca, vi cz, vi cx, vi cy, vi cr, vr sx_453, vi (own_b (own_pr x1)), vi (own_b (own_pr x1)), un, un, un, un] [] t → SF p e below T507 m 288 #[vi x1, vi x2, vi x3, vi x4, vi x5, vi x6, vi (x1 &&& (3 : Int32)), vi up_443, vi ca, vi cz, vi cx, vi cy, vi cr, vr sx_453, vi (own_b (own_pr x1)), vi (own_b (own_pr x1)), un, un, un, un] [] t := fun _ k => k
    have pre515 := fun t (kt : SF p e below T507 m 292 #[vi x1, vi x2, vi x3, vi x4, vi x5, vi x6, vi (x1 &&& (3 : Int32)), vi up_443, vi ca, vi cz, vi cx, vi cy, vi cr, vr sx_453, vi (own_b (own_pr x1)), vi (own_b (own_pr x1)), un, un, un, un] [(.int (106 : Int32)), (.int cy)] t) => pj514 t (by
      refine XS.iload X507.here hx rfl (hb hby at_288) rfl ?_
      refine XS.bipush X507.here hx rfl (hb hby at_290) ?_
      exact kt)
    by_cases hc292 : cy = (106 : Int32)
    · skip
      have pre516 := fun t (kt : SF p e below T507 m 307 #[vi x1, vi x2, vi x3, vi x4, vi x5, vi x6, vi (x1 &&& (3 : Int32)), vi up_443, vi ca, vi cz, vi cx, vi cy, vi cr, vr sx_453, vi (own_b (own_pr x1)), vi (own_b (own_pr x1)), un, un, un, un] [(.int (1 : Int32))] t) => pre515 t (by
        refine XS.icmpYes X507.here hx rfl (pc0 := 292) (pc' := 302) rfl (hb hby at_292) rfl (teq hc292).1 (by decide) (by decide) ?_
        refine XS.iconst X507.here hx rfl (hb hby at_302) ?_
        refine XS.goto X507.here hx rfl (pc0 := 303) (pc' := 307) rfl (hb hby at_303) (by decide) (by decide) ?_
        exact kt)
      exact ⟨(1 : Int32), T507, _, X507, e507, N507, (own_bt (Or.inl hc292)).symm, pre516⟩
    · skip
      have pre517 := fun t (kt : SF p e below T507 m 299 #[vi x1, vi x2, vi x3, vi x4, vi x5, vi x6, vi (x1 &&& (3 : Int32)), vi up_443, vi ca, vi cz, vi cx, vi cy, vi cr, vr sx_453, vi (own_b (own_pr x1)), vi (own_b (own_pr x1)), un, un, un, un] [(.int (74 : Int32)), (.int cy)] t) => pre515 t (by
        refine XS.icmpNo X507.here hx rfl (hb hby at_292) rfl (feq hc292).1 ?_
        refine XS.iload X507.here hx rfl (hb hby at_295) rfl ?_
        refine XS.bipush X507.here hx rfl (hb hby at_297) ?_
        exact kt)
      by_cases hc299 : cy = (74 : Int32)
      · skip
        have pre518 := fun t (kt : SF p e below T507 m 307 #[vi x1, vi x2, vi x3, vi x4, vi x5, vi x6, vi (x1 &&& (3 : Int32)), vi up_443, vi ca, vi cz, vi cx, vi cy, vi cr, vr sx_453, vi (own_b (own_pr x1)), vi (own_b (own_pr x1)), un, un, un, un] [(.int (1 : Int32))] t) => pre517 t (by
          refine XS.icmpNo X507.here hx rfl (hb hby at_299) rfl (teq hc299).2 ?_
          refine XS.iconst X507.here hx rfl (hb hby at_302) ?_
          refine XS.goto X507.here hx rfl (pc0 := 303) (pc' := 307) rfl (hb hby at_303) (by decide) (by decide) ?_
          exact kt)
        exact ⟨(1 : Int32), T507, _, X507, e507, N507, (own_bt (Or.inr hc299)).symm, pre518⟩
      · skip
        have pre519 := fun t (kt : SF p e below T507 m 307 #[vi x1, vi x2, vi x3, vi x4, vi x5, vi x6, vi (x1 &&& (3 : Int32)), vi up_443, vi ca, vi cz, vi cx, vi cy, vi cr, vr sx_453, vi (own_b (own_pr x1)), vi (own_b (own_pr x1)), un, un, un, un] [(.int (0 : Int32))] t) => pre517 t (by
          refine XS.icmpYes X507.here hx rfl (pc0 := 299) (pc' := 306) rfl (hb hby at_299) rfl (feq hc299).2 (by decide) (by decide) ?_
          refine XS.iconst X507.here hx rfl (hb hby at_306) ?_
          exact kt)
        exact ⟨(0 : Int32), T507, _, X507, e507, N507, (own_bf (fun q => q.elim hc292 hc299)).symm, pre519⟩
  subst J514_0
  have pre520 := fun t (kt : SF p e below T514 m 309 #[vi x1, vi x2, vi x3, vi x4, vi x5, vi x6, vi (x1 &&& (3 : Int32)), vi up_443, vi ca, vi cz, vi cx, vi cy, vi cr, vr sx_453, vi (own_b (own_pr x1)), vi (own_b (own_pr x1)), vi (own_b (own_yj cy)), un, un, un] [] t) => pre513 t (by
    refine k514 _ ?_
    refine XS.istore X514.here hx rfl (hb hby at_307) rfl (l' := #[vi x1, vi x2, vi x3, vi x4, vi x5, vi x6, vi (x1 &&& (3 : Int32)), vi up_443, vi ca, vi cz, vi cx, vi cy, vi cr, vr sx_453, vi (own_b (own_pr x1)), vi (own_b (own_pr x1)), vi (own_b (own_yj cy)), un, un, un]) rfl ?_
    exact kt)
  obtain ⟨jv309_521, T521, L521, X521, e521, N521, J521_0, k521⟩ : ∃ (jv309_521 : Int32) (T521 : State) (L521 : List Loc), Stand p l e room_1 (s.setVm s.vm) m #[(.int x1), (.int x2), (.int x3), (.int x4), (.int x5), (.int x6)] below meth c T521 L521 3 52 ∧ T521.heap = h453 ∧ Fr n0 L521 ∧ (jv309_521 = (own_b (own_za cz))) ∧ ∀ t, SF p e below T521 m 328 #[vi x1, vi x2, vi x3, vi x4, vi x5, vi x6, vi (x1 &&& (3 : Int32)), vi up_443, vi ca, vi cz, vi cx, vi cy, vi cr, vr sx_453, vi (own_b (own_pr x1)), vi (own_b (own_pr x1)), vi (own_b (own_yj cy)), un, un, un] [(.int jv309_521)] t → SF p e below T514 m 309 #[vi x1, vi x2, vi x3, vi x4, vi x5, vi x6, vi (x1 &&& (3 : Int32)), vi up_443, vi ca, vi cz, vi cx, vi cy, vi cr, vr sx_453, vi (own_b (own_pr x1)), vi (own_b (own_pr x1)), vi (own_b (own_yj cy)), un, un, un] [] t := by
    have pj521 : ∀ t, SF p e below T514 m 309 #[vi x1, vi x2, vi x3, vi x4, vi x5, vi x6, vi (x1 &&& (3 : Int32)), vi up_443, vi ca, vi cz, vi cx, vi cy, vi cr, vr sx_453, vi (own_b (own_pr x1)), vi (own_b (own_pr x1)), vi (own_b (own_yj cy)), un, un, un] [] t → SF p e below T514 m 309 #[vi x1, vi x2, vi x3, vi x4, vi x5, vi x6, vi (x1 &&& (3 : Int32)), vi up_443, vi ca, vi cz, vi cx, vi cy, vi cr, vr sx_453, vi (own_b (own_pr x1)), vi (own_b (own_pr x1)), vi (own_b (own_yj cy)), un, un, un] [] t := fun _ k => k
    have pre522 := fun t (kt : SF p e below T514 m 313 #[vi x1, vi x2, vi x3, vi x4, vi x5, vi x6, vi (x1 &&& (3 : Int32)), vi up_443, vi ca, vi cz, vi cx, vi cy, vi cr, vr sx_453, vi (own_b (own_pr x1)), vi (own_b (own_pr x1)), vi (own_b (own_yj cy)), un, un, un] [(.int (97 : Int32)), (.int cz)] t) => pj521 t (by
      refine XS.iload X514.here hx rfl (hb hby at_309) rfl ?_
      refine XS.bipush X514.here hx rfl (hb hby at_311) ?_
      exact kt)
    by_cases hc313 : cz = (97 : Int32)
    · skip
      have pre523 := fun t (kt : SF p e below T514 m 328 #[vi x1, vi x2, vi x3, vi x4, vi x5, vi x6, vi (x1 &&& (3 : Int32)), vi up_443, vi ca, vi cz, vi cx, vi cy, vi cr, vr sx_453, vi (own_b (own_pr x1)), vi (own_b (own_pr x1)), vi (own_b (own_yj cy)), un, un, un] [(.int (1 : Int32))] t) => pre522 t (by
        refine XS.icmpYes X514.here hx rfl (pc0 := 313) (pc' := 323) rfl (hb hby at_313) rfl (teq hc313).1 (by decide) (by decide) ?_
        refine XS.iconst X514.here hx rfl (hb hby at_323) ?_
        refine XS.goto X514.here hx rfl (pc0 := 324) (pc' := 328) rfl (hb hby at_324) (by decide) (by decide) ?_
        exact kt)
      exact ⟨(1 : Int32), T514, _, X514, e514, N514, (own_bt (Or.inl hc313)).symm, pre523⟩
    · skip
      have pre524 := fun t (kt : SF p e below T514 m 320 #[vi x1, vi x2, vi x3, vi x4, vi x5, vi x6, vi (x1 &&& (3 : Int32)), vi up_443, vi ca, vi cz, vi cx, vi cy, vi cr, vr sx_453, vi (own_b (own_pr x1)), vi (own_b (own_pr x1)), vi (own_b (own_yj cy)), un, un, un] [(.int (65 : Int32)), (.int cz)] t) => pre522 t (by
        refine XS.icmpNo X514.here hx rfl (hb hby at_313) rfl (feq hc313).1 ?_
        refine XS.iload X514.here hx rfl (hb hby at_316) rfl ?_
        refine XS.bipush X514.here hx rfl (hb hby at_318) ?_
        exact kt)
      by_cases hc320 : cz = (65 : Int32)
      · skip
        have pre525 := fun t (kt : SF p e below T514 m 328 #[vi x1, vi x2, vi x3, vi x4, vi x5, vi x6, vi (x1 &&& (3 : Int32)), vi up_443, vi ca, vi cz, vi cx, vi cy, vi cr, vr sx_453, vi (own_b (own_pr x1)), vi (own_b (own_pr x1)), vi (own_b (own_yj cy)), un, un, un] [(.int (1 : Int32))] t) => pre524 t (by
          refine XS.icmpNo X514.here hx rfl (hb hby at_320) rfl (teq hc320).2 ?_
          refine XS.iconst X514.here hx rfl (hb hby at_323) ?_
          refine XS.goto X514.here hx rfl (pc0 := 324) (pc' := 328) rfl (hb hby at_324) (by decide) (by decide) ?_
          exact kt)
        exact ⟨(1 : Int32), T514, _, X514, e514, N514, (own_bt (Or.inr hc320)).symm, pre525⟩
      · skip
        have pre526 := fun t (kt : SF p e below T514 m 328 #[vi x1, vi x2, vi x3, vi x4, vi x5, vi x6, vi (x1 &&& (3 : Int32)), vi up_443, vi ca, vi cz, vi cx, vi cy, vi cr, vr sx_453, vi (own_b (own_pr x1)), vi (own_b (own_pr x1)), vi (own_b (own_yj cy)), un, un, un] [(.int (0 : Int32))] t) => pre524 t (by
          refine XS.icmpYes X514.here hx rfl (pc0 := 320) (pc' := 327) rfl (hb hby at_320) rfl (feq hc320).2 (by decide) (by decide) ?_
          refine XS.iconst X514.here hx rfl (hb hby at_327) ?_
          exact kt)
        exact ⟨(0 : Int32), T514, _, X514, e514, N514, (own_bf (fun q => q.elim hc313 hc320)).symm, pre526⟩
  subst J521_0
  have pre527 := fun t (kt : SF p e below T521 m 330 #[vi x1, vi x2, vi x3, vi x4, vi x5, vi x6, vi (x1 &&& (3 : Int32)), vi up_443, vi ca, vi cz, vi cx, vi cy, vi cr, vr sx_453, vi (own_b (own_pr x1)), vi (own_b (own_pr x1)), vi (own_b (own_yj cy)), vi (own_b (own_za cz)), un, un] [] t) => pre520 t (by
    refine k521 _ ?_
    refine XS.istore X521.here hx rfl (hb hby at_328) rfl (l' := #[vi x1, vi x2, vi x3, vi x4, vi x5, vi x6, vi (x1 &&& (3 : Int32)), vi up_443, vi ca, vi cz, vi cx, vi cy, vi cr, vr sx_453, vi (own_b (own_pr x1)), vi (own_b (own_pr x1)), vi (own_b (own_yj cy)), vi (own_b (own_za cz)), un, un]) rfl ?_
    exact kt)
  obtain ⟨jv330_528, T528, L528, X528, e528, N528, J528_0, k528⟩ : ∃ (jv330_528 : Int32) (T528 : State) (L528 : List Loc), Stand p l e room_1 (s.setVm s.vm) m #[(.int x1), (.int x2), (.int x3), (.int x4), (.int x5), (.int x6)] below meth c T528 L528 3 52 ∧ T528.heap = h453 ∧ Fr n0 L528 ∧ (jv330_528 = (own_b (own_pr x1 ∧ (32 : Int32) < ca))) ∧ ∀ t, SF p e below T528 m 347 #[vi x1, vi x2, vi x3, vi x4, vi x5, vi x6, vi (x1 &&& (3 : Int32)), vi up_443, vi ca, vi cz, vi cx, vi cy, vi cr, vr sx_453, vi (own_b (own_pr x1)), vi (own_b (own_pr x1)), vi (own_b (own_yj cy)), vi (own_b (own_za cz)), un, un] [(.int jv330_528)] t → SF p e below T521 m 330 #[vi x1, vi x2, vi x3, vi x4, vi x5, vi x6, vi (x1 &&& (3 : Int32)), vi up_443, vi ca, vi cz, vi cx, vi cy, vi cr, vr sx_453, vi (own_b (own_pr x1)), vi (own_b (own_pr x1)), vi (own_b (own_yj cy)), vi (own_b (own_za cz)), un, un] [] t := by
    have pj528 : ∀ t, SF p e below T521 m 330 #[vi x1, vi x2, vi x3, vi x4, vi x5, vi x6, vi (x1 &&& (3 : Int32)), vi up_443, vi ca, vi cz, vi cx, vi cy, vi cr, vr sx_453, vi (own_b (own_pr x1)), vi (own_b (own_pr x1)), vi (own_b (own_yj cy)), vi (own_b (own_za cz)), un, un] [] t → SF p e below T521 m 330 #[vi x1, vi x2, vi x3, vi x4, vi x5, vi x6, vi (x1 &&& (3 : Int32)), vi up_443, vi ca, vi cz, vi cx, vi cy, vi cr, vr sx_453, vi (own_b (own_pr x1)), vi (own_b (own_pr x1)), vi (own_b (own_yj cy)), vi (own_b (own_za cz)), un, un] [] t := fun _ k => k
    have pre529 := fun t (kt : SF p e below T521 m 332 #[vi x1, vi x2, vi x3, vi x4, vi x5, vi x6, vi (x1 &&& (3 : Int32)), vi up_443, vi ca, vi cz, vi cx, vi cy, vi cr, vr sx_453, vi (own_b (own_pr x1)), vi (own_b (own_pr x1)), vi (own_b (own_yj cy)), vi (own_b (own_za cz)), un, un] [(.int (own_b (own_pr x1)))] t) => pj528 t (by
      refine XS.iload X521.here hx rfl (hb hby at_330) rfl ?_
      exact kt)
    by_cases hc332 : (own_b (own_pr x1)) = (0 : Int32)
    · skip
      have hq530 : ¬ (own_pr x1) := own_b_not hc332
      have pre531 := fun t (kt : SF p e below T521 m 347 #[vi x1, vi x2, vi x3, vi x4, vi x5, vi x6, vi (x1 &&& (3 : Int32)), vi up_443, vi ca, vi cz, vi cx, vi cy, vi cr, vr sx_453, vi (own_b (own_pr x1)), vi (own_b (own_pr x1)), vi (own_b (own_yj cy)), vi (own_b (own_za cz)), un, un] [(.int (0 : Int32))] t) => pre529 t (by
        refine XS.ifYes X521.here hx rfl (pc0 := 332) (pc' := 346) rfl (hb hby at_332) rfl ((if0 _ _).trans (teq hc332).1) (by decide) (by decide) ?_
        refine XS.iconst X521.here hx rfl (hb hby at_346) ?_
        exact kt)
      exact ⟨(0 : Int32), T521, _, X521, e521, N521, (own_bf (fun q => hq530 q.1)).symm, pre531⟩
    · skip
      have hq532 : own_pr x1 := own_b_of hc332
      have pre533 := fun t (kt : SF p e below T521 m 339 #[vi x1, vi x2, vi x3, vi x4, vi x5, vi x6, vi (x1 &&& (3 : Int32)), vi up_443, vi ca, vi cz, vi cx, vi cy, vi cr, vr sx_453, vi (own_b (own_pr x1)), vi (own_b (own_pr x1)), vi (own_b (own_yj cy)), vi (own_b (own_za cz)), un, un] [(.int (32 : Int32)), (.int ca)] t) => pre529 t (by
        refine XS.ifNo X521.here hx rfl (hb hby at_332) rfl ((if0 _ _).trans (feq hc332).1) ?_
        refine XS.iload X521.here hx rfl (hb hby at_335) rfl ?_
        refine XS.bipush X521.here hx rfl (hb hby at_337) ?_
        exact kt)
      by_cases hc339 : (32 : Int32) < ca
      · skip
        have pre534 := fun t (kt : SF p e below T521 m 347 #[vi x1, vi x2, vi x3, vi x4, vi x5, vi x6, vi (x1 &&& (3 : Int32)), vi up_443, vi ca, vi cz, vi cx, vi cy, vi cr, vr sx_453, vi (own_b (own_pr x1)), vi (own_b (own_pr x1)), vi (own_b (own_yj cy)), vi (own_b (own_za cz)), un, un] [(.int (1 : Int32))] t) => pre533 t (by
          refine XS.icmpNo X521.here hx rfl (hb hby at_339) rfl (tlt hc339).2.2.2 ?_
          refine XS.iconst X521.here hx rfl (hb hby at_342) ?_
          refine XS.goto X521.here hx rfl (pc0 := 343) (pc' := 347) rfl (hb hby at_343) (by decide) (by decide) ?_
          exact kt)
        exact ⟨(1 : Int32), T521, _, X521, e521, N521, (own_bt ⟨hq532, hc339⟩).symm, pre534⟩
      · skip
        have pre535 := fun t (kt : SF p e below T521 m 347 #[vi x1, vi x2, vi x3, vi x4, vi x5, vi x6, vi (x1 &&& (3 : Int32)), vi up_443, vi ca, vi cz, vi cx, vi cy, vi cr, vr sx_453, vi (own_b (own_pr x1)), vi (own_b (own_pr x1)), vi (own_b (own_yj cy)), vi (own_b (own_za cz)), un, un] [(.int (0 : Int32))] t) => pre533 t (by
          refine XS.icmpYes X521.here hx rfl (pc0 := 339) (pc' := 346) rfl (hb hby at_339) rfl (flt hc339).2.2.2 (by decide) (by decide) ?_
          refine XS.iconst X521.here hx rfl (hb hby at_346) ?_
          exact kt)
        exact ⟨(0 : Int32), T521, _, X521, e521, N521, (own_bf (fun q => hc339 q.2)).symm, pre535⟩
  subst J528_0
  have pre536 := fun t (kt : SF p e below T528 m 349 #[vi x1, vi x2, vi x3, vi x4, vi x5, vi x6, vi (x1 &&& (3 : Int32)), vi up_443, vi ca, vi cz, vi cx, vi cy, vi cr, vr sx_453, vi (own_b (own_pr x1)), vi (own_b (own_pr x1)), vi (own_b (own_yj cy)), vi (own_b (own_za cz)), vi (own_b (own_pr x1 ∧ (32 : Int32) < ca)), un] [] t) => pre527 t (by
    refine k528 _ ?_
    refine XS.istore X528.here hx rfl (hb hby at_347) rfl (l' := #[vi x1, vi x2, vi x3, vi x4, vi x5, vi x6, vi (x1 &&& (3 : Int32)), vi up_443, vi ca, vi cz, vi cx, vi cy, vi cr, vr sx_453, vi (own_b (own_pr x1)), vi (own_b (own_pr x1)), vi (own_b (own_yj cy)), vi (own_b (own_za cz)), vi (own_b (own_pr x1 ∧ (32 : Int32) < ca)), un]) rfl ?_
    exact kt)
  obtain ⟨j14_537, j15_537, j16_537, j17_537, j18_537, j19_537, T537, L537, X537, e537, N537, J537_0, k537⟩ : ∃ (j14_537 : Int32) (j15_537 : Int32) (j16_537 : Int32) (j17_537 : Int32) (j18_537 : Int32) (j19_537 : Int32) (T537 : State) (L537 : List Loc), Stand p l e room_1 (s.setVm s.vm) m #[(.int x1), (.int x2), (.int x3), (.int x4), (.int x5), (.int x6)] below meth c T537 L537 3 52 ∧ T537.heap = h453 ∧ Fr n0 L537 ∧ (j19_537 = own_b (own_ex (own_pr x1) ca cz cx cy cr)) ∧ ∀ t, SF p e below T537 m 446 #[vi x1, vi x2, vi x3, vi x4, vi x5, vi x6, vi (x1 &&& (3 : Int32)), vi up_443, vi ca, vi cz, vi cx, vi cy, vi cr, vr sx_453, vi j14_537, vi j15_537, vi j16_537, vi j17_537, vi j18_537, vi j19_537] [] t → SF p e below T528 m 349 #[vi x1, vi x2, vi x3, vi x4, vi x5, vi x6, vi (x1 &&& (3 : Int32)), vi up_443, vi ca, vi cz, vi cx, vi cy, vi cr, vr sx_453, vi (own_b (own_pr x1)), vi (own_b (own_pr x1)), vi (own_b (own_yj cy)), vi (own_b (own_za cz)), vi (own_b (own_pr x1 ∧ (32 : Int32) < ca)), un] [] t := by
    have pj537 : ∀ t, SF p e below T528 m 349 #[vi x1, vi x2, vi x3, vi x4, vi x5, vi x6, vi (x1 &&& (3 : Int32)), vi up_443, vi ca, vi cz, vi cx, vi cy, vi cr, vr sx_453, vi (own_b (own_pr x1)), vi (own_b (own_pr x1)), vi (own_b (own_yj cy)), vi (own_b (own_za cz)), vi (own_b (own_pr x1 ∧ (32 : Int32) < ca)), un] [] t → SF p e below T528 m 349 #[vi x1, vi x2, vi x3, vi x4, vi x5, vi x6, vi (x1 &&& (3 : Int32)), vi up_443, vi ca, vi cz, vi cx, vi cy, vi cr, vr sx_453, vi (own_b (own_pr x1)), vi (own_b (own_pr x1)), vi (own_b (own_yj cy)), vi (own_b (own_za cz)), vi (own_b (own_pr x1 ∧ (32 : Int32) < ca)), un] [] t := fun _ k => k
    have pre538 := fun t (kt : SF p e below T528 m 351 #[vi x1, vi x2, vi x3, vi x4, vi x5, vi x6, vi (x1 &&& (3 : Int32)), vi up_443, vi ca, vi cz, vi cx, vi cy, vi cr, vr sx_453, vi (own_b (own_pr x1)), vi (own_b (own_pr x1)), vi (own_b (own_yj cy)), vi (own_b (own_za cz)), vi (own_b (own_pr x1 ∧ (32 : Int32) < ca)), un] [(.int (own_b (own_pr x1)))] t) => pj537 t (by
      refine XS.iload X528.here hx rfl (hb hby at_349) rfl ?_
      exact kt)
    by_cases hc351 : (own_b (own_pr x1)) = (0 : Int32)
    · skip
      have hq539 : ¬ (own_pr x1) := own_b_not hc351
      have pre540 := fun t (kt : SF p e below T528 m 371 #[vi x1, vi x2, vi x3, vi x4, vi x5, vi x6, vi (x1 &&& (3 : Int32)), vi up_443, vi ca, vi cz, vi cx, vi cy, vi cr, vr sx_453, vi (own_b (own_pr x1)), vi (own_b (own_pr x1)), vi (own_b (own_yj cy)), vi (own_b (own_za cz)), vi (own_b (own_pr x1 ∧ (32 : Int32) < ca)), un] [(.int (59 : Int32)), (.int cz)] t) => pre538 t (by
        refine XS.ifYes X528.here hx rfl (pc0 := 351) (pc' := 367) rfl (hb hby at_351) rfl ((if0 _ _).trans (teq hc351).1) (by decide) (by decide) ?_
        refine XS.iload X528.here hx rfl (hb hby at_367) rfl ?_
        refine XS.bipush X528.here hx rfl (hb hby at_369) ?_
        exact kt)
      by_cases hc371 : cz = (59 : Int32)
      · skip
        have pre541 := fun t (kt : SF p e below T528 m 446 #[vi x1, vi x2, vi x3, vi x4, vi x5, vi x6, vi (x1 &&& (3 : Int32)), vi up_443, vi ca, vi cz, vi cx, vi cy, vi cr, vr sx_453, vi (own_b (own_pr x1)), vi (own_b (own_pr x1)), vi (own_b (own_yj cy)), vi (own_b (own_za cz)), vi (own_b (own_pr x1 ∧ (32 : Int32) < ca)), vi (0 : Int32)] [] t) => pre540 t (by
          refine XS.icmpNo X528.here hx rfl (hb hby at_371) rfl (teq hc371).2 ?_
          refine XS.iconst X528.here hx rfl (hb hby at_374) ?_
          refine XS.istore X528.here hx rfl (hb hby at_375) rfl (l' := #[vi x1, vi x2, vi x3, vi x4, vi x5, vi x6, vi (x1 &&& (3 : Int32)), vi up_443, vi ca, vi cz, vi cx, vi cy, vi cr, vr sx_453, vi (own_b (own_pr x1)), vi (own_b (own_pr x1)), vi (own_b (own_yj cy)), vi (own_b (own_za cz)), vi (own_b (own_pr x1 ∧ (32 : Int32) < ca)), vi (0 : Int32)]) rfl ?_
          refine XS.goto X528.here hx rfl (pc0 := 377) (pc' := 446) rfl (hb hby at_377) (by decide) (by decide) ?_
          exact kt)
        exact ⟨(own_b (own_pr x1)), (own_b (own_pr x1)), (own_b (own_yj cy)), (own_b (own_za cz)), (own_b (own_pr x1 ∧ (32 : Int32) < ca)), (0 : Int32), T528, _, X528, e528, N528, (own_bf (fun q => q.2.1 hc371)).symm, pre541⟩
      · skip
        have pre542 := fun t (kt : SF p e below T528 m 409 #[vi x1, vi x2, vi x3, vi x4, vi x5, vi x6, vi (x1 &&& (3 : Int32)), vi up_443, vi ca, vi cz, vi cx, vi cy, vi cr, vr sx_453, vi (own_b (own_pr x1)), vi (own_b (own_pr x1)), vi (own_b (own_yj cy)), vi (own_b (own_za cz)), vi (own_b (own_pr x1 ∧ (32 : Int32) < ca)), un] [(.int (43 : Int32)), (.int cx)] t) => pre540 t (by
          refine XS.icmpYes X528.here hx rfl (pc0 := 371) (pc' := 380) rfl (hb hby at_371) rfl (feq hc371).2 (by decide) (by decide) ?_
          refine XS.iload X528.here hx rfl (hb hby at_380) rfl ?_
          refine XS.ifYes X528.here hx rfl (pc0 := 382) (pc' := 405) rfl (hb hby at_382) rfl ((if0 _ _).trans (teq hc351).1) (by decide) (by decide) ?_
          refine XS.iload X528.here hx rfl (hb hby at_405) rfl ?_
          refine XS.bipush X528.here hx rfl (hb hby at_407) ?_
          exact kt)
        by_cases hc409 : cx = (43 : Int32)
        · skip
          have pre543 := fun t (kt : SF p e below T528 m 414 #[vi x1, vi x2, vi x3, vi x4, vi x5, vi x6, vi (x1 &&& (3 : Int32)), vi up_443, vi ca, vi cz, vi cx, vi cy, vi cr, vr sx_453, vi (own_b (own_pr x1)), vi (own_b (own_pr x1)), vi (own_b (own_yj cy)), vi (own_b (own_za cz)), vi (own_b (own_pr x1 ∧ (32 : Int32) < ca)), un] [(.int (own_b (own_yj cy)))] t) => pre542 t (by
            refine XS.icmpNo X528.here hx rfl (hb hby at_409) rfl (teq hc409).2 ?_
            refine XS.iload X528.here hx rfl (hb hby at_412) rfl ?_
            exact kt)
          by_cases hc414 : (own_b (own_yj cy)) = (0 : Int32)
          · skip
            have hq544 : ¬ (own_yj cy) := own_b_not hc414
            have pre545 := fun t (kt : SF p e below T528 m 421 #[vi x1, vi x2, vi x3, vi x4, vi x5, vi x6, vi (x1 &&& (3 : Int32)), vi up_443, vi ca, vi cz, vi cx, vi cy, vi cr, vr sx_453, vi (own_b (own_pr x1)), vi (own_b (own_pr x1)), vi (own_b (own_yj cy)), vi (own_b (own_za cz)), vi (own_b (own_pr x1 ∧ (32 : Int32) < ca)), un] [(.int (47 : Int32)), (.int cx)] t) => pre543 t (by
              refine XS.ifNo X528.here hx rfl (hb hby at_414) rfl ((if0 _ _).trans (teq hc414).2) ?_
              refine XS.iload X528.here hx rfl (hb hby at_417) rfl ?_
              refine XS.bipush X528.here hx rfl (hb hby at_419) ?_
              exact kt)
            by_cases hc421 : cx = (47 : Int32)
            · skip
              have pre546 := fun t (kt : SF p e below T528 m 446 #[vi x1, vi x2, vi x3, vi x4, vi x5, vi x6, vi (x1 &&& (3 : Int32)), vi up_443, vi ca, vi cz, vi cx, vi cy, vi cr, vr sx_453, vi (own_b (own_pr x1)), vi (own_b (own_pr x1)), vi (own_b (own_yj cy)), vi (own_b (own_za cz)), vi (own_b (own_pr x1 ∧ (32 : Int32) < ca)), vi (0 : Int32)] [] t) => pre545 t (by
                refine XS.icmpNo X528.here hx rfl (hb hby at_421) rfl (teq hc421).2 ?_
                refine XS.iload X528.here hx rfl (hb hby at_424) rfl ?_
                refine XS.ifYes X528.here hx rfl (pc0 := 426) (pc' := 443) rfl (hb hby at_426) rfl ((if0 _ _).trans (teq hc414).1) (by decide) (by decide) ?_
                refine XS.iconst X528.here hx rfl (hb hby at_443) ?_
                refine XS.istore X528.here hx rfl (hb hby at_444) rfl (l' := #[vi x1, vi x2, vi x3, vi x4, vi x5, vi x6, vi (x1 &&& (3 : Int32)), vi up_443, vi ca, vi cz, vi cx, vi cy, vi cr, vr sx_453, vi (own_b (own_pr x1)), vi (own_b (own_pr x1)), vi (own_b (own_yj cy)), vi (own_b (own_za cz)), vi (own_b (own_pr x1 ∧ (32 : Int32) < ca)), vi (0 : Int32)]) rfl ?_
                exact kt)
              exact ⟨(own_b (own_pr x1)), (own_b (own_pr x1)), (own_b (own_yj cy)), (own_b (own_za cz)), (own_b (own_pr x1 ∧ (32 : Int32) < ca)), (0 : Int32), T528, _, X528, e528, N528, (own_bf (fun q => q.2.2.2.elim (fun w => hq544 w.2) (fun w => hq544 w.2.1))).symm, pre546⟩
            · skip
              have pre547 := fun t (kt : SF p e below T528 m 446 #[vi x1, vi x2, vi x3, vi x4, vi x5, vi x6, vi (x1 &&& (3 : Int32)), vi up_443, vi ca, vi cz, vi cx, vi cy, vi cr, vr sx_453, vi (own_b (own_pr x1)), vi (own_b (own_pr x1)), vi (own_b (own_yj cy)), vi (own_b (own_za cz)), vi (own_b (own_pr x1 ∧ (32 : Int32) < ca)), vi (0 : Int32)] [] t) => pre545 t (by
                refine XS.icmpYes X528.here hx rfl (pc0 := 421) (pc' := 443) rfl (hb hby at_421) rfl (feq hc421).2 (by decide) (by decide) ?_
                refine XS.iconst X528.here hx rfl (hb hby at_443) ?_
                refine XS.istore X528.here hx rfl (hb hby at_444) rfl (l' := #[vi x1, vi x2, vi x3, vi x4, vi x5, vi x6, vi (x1 &&& (3 : Int32)), vi up_443, vi ca, vi cz, vi cx, vi cy, vi cr, vr sx_453, vi (own_b (own_pr x1)), vi (own_b (own_pr x1)), vi (own_b (own_yj cy)), vi (own_b (own_za cz)), vi (own_b (own_pr x1 ∧ (32 : Int32) < ca)), vi (0 : Int32)]) rfl ?_
                exact kt)
              exact ⟨(own_b (own_pr x1)), (own_b (own_pr x1)), (own_b (own_yj cy)), (own_b (own_za cz)), (own_b (own_pr x1 ∧ (32 : Int32) < ca)), (0 : Int32), T528, _, X528, e528, N528, (own_bf (fun q => q.2.2.2.elim (fun w => hq544 w.2) (fun w => hc421 w.1))).symm, pre547⟩
          · skip
            have hq548 : own_yj cy := own_b_of hc414
            have pre549 := fun t (kt : SF p e below T528 m 446 #[vi x1, vi x2, vi x3, vi x4, vi x5, vi x6, vi (x1 &&& (3 : Int32)), vi up_443, vi ca, vi cz, vi cx, vi cy, vi cr, vr sx_453, vi (own_b (own_pr x1)), vi (own_b (own_pr x1)), vi (own_b (own_yj cy)), vi (own_b (own_za cz)), vi (own_b (own_pr x1 ∧ (32 : Int32) < ca)), vi (1 : Int32)] [] t) => pre543 t (by
              refine XS.ifYes X528.here hx rfl (pc0 := 414) (pc' := 439) rfl (hb hby at_414) rfl ((if0 _ _).trans (feq hc414).2) (by decide) (by decide) ?_
              refine XS.iconst X528.here hx rfl (hb hby at_439) ?_
              refine XS.goto X528.here hx rfl (pc0 := 440) (pc' := 444) rfl (hb hby at_440) (by decide) (by decide) ?_
              refine XS.istore X528.here hx rfl (hb hby at_444) rfl (l' := #[vi x1, vi x2, vi x3, vi x4, vi x5, vi x6, vi (x1 &&& (3 : Int32)), vi up_443, vi ca, vi cz, vi cx, vi cy, vi cr, vr sx_453, vi (own_b (own_pr x1)), vi (own_b (own_pr x1)), vi (own_b (own_yj cy)), vi (own_b (own_za cz)), vi (own_b (own_pr x1 ∧ (32 : Int32) < ca)), vi (1 : Int32)]) rfl ?_
              exact kt)
            exact ⟨(own_b (own_pr x1)), (own_b (own_pr x1)), (own_b (own_yj cy)), (own_b (own_za cz)), (own_b (own_pr x1 ∧ (32 : Int32) < ca)), (1 : Int32), T528, _, X528, e528, N528, (own_bt ⟨fun q => hq539 q.1, hc371, fun q => hq539 q.1, Or.inl ⟨hc409, hq548⟩⟩).symm, pre549⟩
        · skip
          have pre550 := fun t (kt : SF p e below T528 m 421 #[vi x1, vi x2, vi x3, vi x4, vi x5, vi x6, vi (x1 &&& (3 : Int32)), vi up_443, vi ca, vi cz, vi cx, vi cy, vi cr, vr sx_453, vi (own_b (own_pr x1)), vi (own_b (own_pr x1)), vi (own_b (own_yj cy)), vi (own_b (own_za cz)), vi (own_b (own_pr x1 ∧ (32 : Int32) < ca)), un] [(.int (47 : Int32)), (.int cx)] t) => pre542 t (by
            refine XS.icmpYes X528.here hx rfl (pc0 := 409) (pc' := 417) rfl (hb hby at_409) rfl (feq hc409).2 (by decide) (by decide) ?_
            refine XS.iload X528.here hx rfl (hb hby at_417) rfl ?_
            refine XS.bipush X528.here hx rfl (hb hby at_419) ?_
            exact kt)
          by_cases hc421 : cx = (47 : Int32)
          · skip
            have pre551 := fun t (kt : SF p e below T528 m 426 #[vi x1, vi x2, vi x3, vi x4, vi x5, vi x6, vi (x1 &&& (3 : Int32)), vi up_443, vi ca, vi cz, vi cx, vi cy, vi cr, vr sx_453, vi (own_b (own_pr x1)), vi (own_b (own_pr x1)), vi (own_b (own_yj cy)), vi (own_b (own_za cz)), vi (own_b (own_pr x1 ∧ (32 : Int32) < ca)), un] [(.int (own_b (own_yj cy)))] t) => pre550 t (by
              refine XS.icmpNo X528.here hx rfl (hb hby at_421) rfl (teq hc421).2 ?_
              refine XS.iload X528.here hx rfl (hb hby at_424) rfl ?_
              exact kt)
            by_cases hc426 : (own_b (own_yj cy)) = (0 : Int32)
            · skip
              have hq552 : ¬ (own_yj cy) := own_b_not hc426
              have pre553 := fun t (kt : SF p e below T528 m 446 #[vi x1, vi x2, vi x3, vi x4, vi x5, vi x6, vi (x1 &&& (3 : Int32)), vi up_443, vi ca, vi cz, vi cx, vi cy, vi cr, vr sx_453, vi (own_b (own_pr x1)), vi (own_b (own_pr x1)), vi (own_b (own_yj cy)), vi (own_b (own_za cz)), vi (own_b (own_pr x1 ∧ (32 : Int32) < ca)), vi (0 : Int32)] [] t) => pre551 t (by
                refine XS.ifYes X528.here hx rfl (pc0 := 426) (pc' := 443) rfl (hb hby at_426) rfl ((if0 _ _).trans (teq hc426).1) (by decide) (by decide) ?_
                refine XS.iconst X528.here hx rfl (hb hby at_443) ?_
                refine XS.istore X528.here hx rfl (hb hby at_444) rfl (l' := #[vi x1, vi x2, vi x3, vi x4, vi x5, vi x6, vi (x1 &&& (3 : Int32)), vi up_443, vi ca, vi cz, vi cx, vi cy, vi cr, vr sx_453, vi (own_b (own_pr x1)), vi (own_b (own_pr x1)), vi (own_b (own_yj cy)), vi (own_b (own_za cz)), vi (own_b (own_pr x1 ∧ (32 : Int32) < ca)), vi (0 : Int32)]) rfl ?_
                exact kt)
              exact ⟨(own_b (own_pr x1)), (own_b (own_pr x1)), (own_b (own_yj cy)), (own_b (own_za cz)), (own_b (own_pr x1 ∧ (32 : Int32) < ca)), (0 : Int32), T528, _, X528, e528, N528, (own_bf (fun q => q.2.2.2.elim (fun w => hc409 w.1) (fun w => hq552 w.2.1))).symm, pre553⟩
            · skip
              have hq554 : own_yj cy := own_b_of hc426
              have pre555 := fun t (kt : SF p e below T528 m 431 #[vi x1, vi x2, vi x3, vi x4, vi x5, vi x6, vi (x1 &&& (3 : Int32)), vi up_443, vi ca, vi cz, vi cx, vi cy, vi cr, vr sx_453, vi (own_b (own_pr x1)), vi (own_b (own_pr x1)), vi (own_b (own_yj cy)), vi (own_b (own_za cz)), vi (own_b (own_pr x1 ∧ (32 : Int32) < ca)), un] [(.int (own_b (own_za cz)))] t) => pre551 t (by
                refine XS.ifNo X528.here hx rfl (hb hby at_426) rfl ((if0 _ _).trans (feq hc426).1) ?_
                refine XS.iload X528.here hx rfl (hb hby at_429) rfl ?_
                exact kt)
              by_cases hc431 : (own_b (own_za cz)) = (0 : Int32)
              · skip
                have hq556 : ¬ (own_za cz) := own_b_not hc431
                have pre557 := fun t (kt : SF p e below T528 m 446 #[vi x1, vi x2, vi x3, vi x4, vi x5, vi x6, vi (x1 &&& (3 : Int32)), vi up_443, vi ca, vi cz, vi cx, vi cy, vi cr, vr sx_453, vi (own_b (own_pr x1)), vi (own_b (own_pr x1)), vi (own_b (own_yj cy)), vi (own_b (own_za cz)), vi (own_b (own_pr x1 ∧ (32 : Int32) < ca)), vi (0 : Int32)] [] t) => pre555 t (by
                  refine XS.ifYes X528.here hx rfl (pc0 := 431) (pc' := 443) rfl (hb hby at_431) rfl ((if0 _ _).trans (teq hc431).1) (by decide) (by decide) ?_
                  refine XS.iconst X528.here hx rfl (hb hby at_443) ?_
                  refine XS.istore X528.here hx rfl (hb hby at_444) rfl (l' := #[vi x1, vi x2, vi x3, vi x4, vi x5, vi x6, vi (x1 &&& (3 : Int32)), vi up_443, vi ca, vi cz, vi cx, vi cy, vi cr, vr sx_453, vi (own_b (own_pr x1)), vi (own_b (own_pr x1)), vi (own_b (own_yj cy)), vi (own_b (own_za cz)), vi (own_b (own_pr x1 ∧ (32 : Int32) < ca)), vi (0 : Int32)]) rfl ?_
                  exact kt)
                exact ⟨(own_b (own_pr x1)), (own_b (own_pr x1)), (own_b (own_yj cy)), (own_b (own_za cz)), (own_b (own_pr x1 ∧ (32 : Int32) < ca)), (0 : Int32), T528, _, X528, e528, N528, (own_bf (fun q => q.2.2.2.elim (fun w => hc409 w.1) (fun w => hq556 w.2.2.1))).symm, pre557⟩
              · skip
                have hq558 : own_za cz := own_b_of hc431
                have pre559 := fun t (kt : SF p e below T528 m 436 #[vi x1, vi x2, vi x3, vi x4, vi x5, vi x6, vi (x1 &&& (3 : Int32)), vi up_443, vi ca, vi cz, vi cx, vi cy, vi cr, vr sx_453, vi (own_b (own_pr x1)), vi (own_b (own_pr x1)), vi (own_b (own_yj cy)), vi (own_b (own_za cz)), vi (own_b (own_pr x1 ∧ (32 : Int32) < ca)), un] [(.int (own_b (own_pr x1 ∧ (32 : Int32) < ca)))] t) => pre555 t (by
                  refine XS.ifNo X528.here hx rfl (hb hby at_431) rfl ((if0 _ _).trans (feq hc431).1) ?_
                  refine XS.iload X528.here hx rfl (hb hby at_434) rfl ?_
                  exact kt)
                by_cases hc436 : (own_b (own_pr x1 ∧ (32 : Int32) < ca)) = (0 : Int32)
                · skip
                  have hq560 : ¬ (own_pr x1 ∧ (32 : Int32) < ca) := own_b_not hc436
                  have pre561 := fun t (kt : SF p e below T528 m 446 #[vi x1, vi x2, vi x3, vi x4, vi x5, vi x6, vi (x1 &&& (3 : Int32)), vi up_443, vi ca, vi cz, vi cx, vi cy, vi cr, vr sx_453, vi (own_b (own_pr x1)), vi (own_b (own_pr x1)), vi (own_b (own_yj cy)), vi (own_b (own_za cz)), vi (own_b (own_pr x1 ∧ (32 : Int32) < ca)), vi (1 : Int32)] [] t) => pre559 t (by
                    refine XS.ifNo X528.here hx rfl (hb hby at_436) rfl ((if0 _ _).trans (teq hc436).2) ?_
                    refine XS.iconst X528.here hx rfl (hb hby at_439) ?_
                    refine XS.goto X528.here hx rfl (pc0 := 440) (pc' := 444) rfl (hb hby at_440) (by decide) (by decide) ?_
                    show SF p e below T528 m 444 _ [(.int (1 : Int32))] _
                    refine XS.istore X528.here hx rfl (hb hby at_444) rfl (l' := #[vi x1, vi x2, vi x3, vi x4, vi x5, vi x6, vi (x1 &&& (3 : Int32)), vi up_443, vi ca, vi cz, vi cx, vi cy, vi cr, vr sx_453, vi (own_b (own_pr x1)), vi (own_b (own_pr x1)), vi (own_b (own_yj cy)), vi (own_b (own_za cz)), vi (own_b (own_pr x1 ∧ (32 : Int32) < ca)), vi (1 : Int32)]) rfl ?_
                    exact kt)
                  exact ⟨(own_b (own_pr x1)), (own_b (own_pr x1)), (own_b (own_yj cy)), (own_b (own_za cz)), (own_b (own_pr x1 ∧ (32 : Int32) < ca)), (1 : Int32), T528, _, X528, e528, N528, (own_bt ⟨fun q => hq539 q.1, hc371, fun q => hq539 q.1, Or.inr ⟨hc421, hq554, hq558, hq560⟩⟩).symm, pre561⟩
                · skip
                  have hq562 : own_pr x1 ∧ (32 : Int32) < ca := own_b_of hc436
                  have pre563 := fun t (kt : SF p e below T528 m 446 #[vi x1, vi x2, vi x3, vi x4, vi x5, vi x6, vi (x1 &&& (3 : Int32)), vi up_443, vi ca, vi cz, vi cx, vi cy, vi cr, vr sx_453, vi (own_b (own_pr x1)), vi (own_b (own_pr x1)), vi (own_b (own_yj cy)), vi (own_b (own_za cz)), vi (own_b (own_pr x1 ∧ (32 : Int32) < ca)), vi (0 : Int32)] [] t) => pre559 t (by
                    refine XS.ifYes X528.here hx rfl (pc0 := 436) (pc' := 443) rfl (hb hby at_436) rfl ((if0 _ _).trans (feq hc436).2) (by decide) (by decide) ?_
                    refine XS.iconst X528.here hx rfl (hb hby at_443) ?_
                    refine XS.istore X528.here hx rfl (hb hby at_444) rfl (l' := #[vi x1, vi x2, vi x3, vi x4, vi x5, vi x6, vi (x1 &&& (3 : Int32)), vi up_443, vi ca, vi cz, vi cx, vi cy, vi cr, vr sx_453, vi (own_b (own_pr x1)), vi (own_b (own_pr x1)), vi (own_b (own_yj cy)), vi (own_b (own_za cz)), vi (own_b (own_pr x1 ∧ (32 : Int32) < ca)), vi (0 : Int32)]) rfl ?_
                    exact kt)
                  exact ⟨(own_b (own_pr x1)), (own_b (own_pr x1)), (own_b (own_yj cy)), (own_b (own_za cz)), (own_b (own_pr x1 ∧ (32 : Int32) < ca)), (0 : Int32), T528, _, X528, e528, N528, (own_bf (fun q => q.2.2.2.elim (fun w => hc409 w.1) (fun w => w.2.2.2 hq562))).symm, pre563⟩
          · skip
            have pre564 := fun t (kt : SF p e below T528 m 446 #[vi x1, vi x2, vi x3, vi x4, vi x5, vi x6, vi (x1 &&& (3 : Int32)), vi up_443, vi ca, vi cz, vi cx, vi cy, vi cr, vr sx_453, vi (own_b (own_pr x1)), vi (own_b (own_pr x1)), vi (own_b (own_yj cy)), vi (own_b (own_za cz)), vi (own_b (own_pr x1 ∧ (32 : Int32) < ca)), vi (0 : Int32)] [] t) => pre550 t (by
              refine XS.icmpYes X528.here hx rfl (pc0 := 421) (pc' := 443) rfl (hb hby at_421) rfl (feq hc421).2 (by decide) (by decide) ?_
              refine XS.iconst X528.here hx rfl (hb hby at_443) ?_
              refine XS.istore X528.here hx rfl (hb hby at_444) rfl (l' := #[vi x1, vi x2, vi x3, vi x4, vi x5, vi x6, vi (x1 &&& (3 : Int32)), vi up_443, vi ca, vi cz, vi cx, vi cy, vi cr, vr sx_453, vi (own_b (own_pr x1)), vi (own_b (own_pr x1)), vi (own_b (own_yj cy)), vi (own_b (own_za cz)), vi (own_b (own_pr x1 ∧ (32 : Int32) < ca)), vi (0 : Int32)]) rfl ?_
              exact kt)
            exact ⟨(own_b (own_pr x1)), (own_b (own_pr x1)), (own_b (own_yj cy)), (own_b (own_za cz)), (own_b (own_pr x1 ∧ (32 : Int32) < ca)), (0 : Int32), T528, _, X528, e528, N528, (own_bf (fun q => q.2.2.2.elim (fun w => hc409 w.1) (fun w => hc421 w.1))).symm, pre564⟩
    · skip
      have hq565 : own_pr x1 := own_b_of hc351
      have pre566 := fun t (kt : SF p e below T528 m 358 #[vi x1, vi x2, vi x3, vi x4, vi x5, vi x6, vi (x1 &&& (3 : Int32)), vi up_443, vi ca, vi cz, vi cx, vi cy, vi cr, vr sx_453, vi (own_b (own_pr x1)), vi (own_b (own_pr x1)), vi (own_b (own_yj cy)), vi (own_b (own_za cz)), vi (own_b (own_pr x1 ∧ (32 : Int32) < ca)), un] [(.int (59 : Int32)), (.int ca)] t) => pre538 t (by
        refine XS.ifNo X528.here hx rfl (hb hby at_351) rfl ((if0 _ _).trans (feq hc351).1) ?_
        refine XS.iload X528.here hx rfl (hb hby at_354) rfl ?_
        refine XS.bipush X528.here hx rfl (hb hby at_356) ?_
        exact kt)
      by_cases hc358 : ca = (59 : Int32)
      · skip
        have pre567 := fun t (kt : SF p e below T528 m 446 #[vi x1, vi x2, vi x3, vi x4, vi x5, vi x6, vi (x1 &&& (3 : Int32)), vi up_443, vi ca, vi cz, vi cx, vi cy, vi cr, vr sx_453, vi (own_b (own_pr x1)), vi (own_b (own_pr x1)), vi (own_b (own_yj cy)), vi (own_b (own_za cz)), vi (own_b (own_pr x1 ∧ (32 : Int32) < ca)), vi (0 : Int32)] [] t) => pre566 t (by
          refine XS.icmpNo X528.here hx rfl (hb hby at_358) rfl (teq hc358).2 ?_
          refine XS.iconst X528.here hx rfl (hb hby at_361) ?_
          refine XS.istore X528.here hx rfl (hb hby at_362) rfl (l' := #[vi x1, vi x2, vi x3, vi x4, vi x5, vi x6, vi (x1 &&& (3 : Int32)), vi up_443, vi ca, vi cz, vi cx, vi cy, vi cr, vr sx_453, vi (own_b (own_pr x1)), vi (own_b (own_pr x1)), vi (own_b (own_yj cy)), vi (own_b (own_za cz)), vi (own_b (own_pr x1 ∧ (32 : Int32) < ca)), vi (0 : Int32)]) rfl ?_
          refine XS.goto X528.here hx rfl (pc0 := 364) (pc' := 446) rfl (hb hby at_364) (by decide) (by decide) ?_
          exact kt)
        exact ⟨(own_b (own_pr x1)), (own_b (own_pr x1)), (own_b (own_yj cy)), (own_b (own_za cz)), (own_b (own_pr x1 ∧ (32 : Int32) < ca)), (0 : Int32), T528, _, X528, e528, N528, (own_bf (fun q => q.1 ⟨hq565, hc358⟩)).symm, pre567⟩
      · skip
        have pre568 := fun t (kt : SF p e below T528 m 371 #[vi x1, vi x2, vi x3, vi x4, vi x5, vi x6, vi (x1 &&& (3 : Int32)), vi up_443, vi ca, vi cz, vi cx, vi cy, vi cr, vr sx_453, vi (own_b (own_pr x1)), vi (own_b (own_pr x1)), vi (own_b (own_yj cy)), vi (own_b (own_za cz)), vi (own_b (own_pr x1 ∧ (32 : Int32) < ca)), un] [(.int (59 : Int32)), (.int cz)] t) => pre566 t (by
          refine XS.icmpYes X528.here hx rfl (pc0 := 358) (pc' := 367) rfl (hb hby at_358) rfl (feq hc358).2 (by decide) (by decide) ?_
          refine XS.iload X528.here hx rfl (hb hby at_367) rfl ?_
          refine XS.bipush X528.here hx rfl (hb hby at_369) ?_
          exact kt)
        by_cases hc371 : cz = (59 : Int32)
        · skip
          have pre569 := fun t (kt : SF p e below T528 m 446 #[vi x1, vi x2, vi x3, vi x4, vi x5, vi x6, vi (x1 &&& (3 : Int32)), vi up_443, vi ca, vi cz, vi cx, vi cy, vi cr, vr sx_453, vi (own_b (own_pr x1)), vi (own_b (own_pr x1)), vi (own_b (own_yj cy)), vi (own_b (own_za cz)), vi (own_b (own_pr x1 ∧ (32 : Int32) < ca)), vi (0 : Int32)] [] t) => pre568 t (by
            refine XS.icmpNo X528.here hx rfl (hb hby at_371) rfl (teq hc371).2 ?_
            refine XS.iconst X528.here hx rfl (hb hby at_374) ?_
            refine XS.istore X528.here hx rfl (hb hby at_375) rfl (l' := #[vi x1, vi x2, vi x3, vi x4, vi x5, vi x6, vi (x1 &&& (3 : Int32)), vi up_443, vi ca, vi cz, vi cx, vi cy, vi cr, vr sx_453, vi (own_b (own_pr x1)), vi (own_b (own_pr x1)), vi (own_b (own_yj cy)), vi (own_b (own_za cz)), vi (own_b (own_pr x1 ∧ (32 : Int32) < ca)), vi (0 : Int32)]) rfl ?_
            refine XS.goto X528.here hx rfl (pc0 := 377) (pc' := 446) rfl (hb hby at_377) (by decide) (by decide) ?_
            exact kt)
          exact ⟨(own_b (own_pr x1)), (own_b (own_pr x1)), (own_b (own_yj cy)), (own_b (own_za cz)), (own_b (own_pr x1 ∧ (32 : Int32) < ca)), (0 : Int32), T528, _, X528, e528, N528, (own_bf (fun q => q.2.1 hc371)).symm, pre569⟩
        · skip
          have pre570 := fun t (kt : SF p e below T528 m 389 #[vi x1, vi x2, vi x3, vi x4, vi x5, vi x6, vi (x1 &&& (3 : Int32)), vi up_443, vi ca, vi cz, vi cx, vi cy, vi cr, vr sx_453, vi (own_b (own_pr x1)), vi (own_b (own_pr x1)), vi (own_b (own_yj cy)), vi (own_b (own_za cz)), vi (own_b (own_pr x1 ∧ (32 : Int32) < ca)), un] [(.int (32 : Int32)), (.int cr)] t) => pre568 t (by
            refine XS.icmpYes X528.here hx rfl (pc0 := 371) (pc' := 380) rfl (hb hby at_371) rfl (feq hc371).2 (by decide) (by decide) ?_
            refine XS.iload X528.here hx rfl (hb hby at_380) rfl ?_
            refine XS.ifNo X528.here hx rfl (hb hby at_382) rfl ((if0 _ _).trans (feq hc351).1) ?_
            refine XS.iload X528.here hx rfl (hb hby at_385) rfl ?_
            refine XS.bipush X528.here hx rfl (hb hby at_387) ?_
            exact kt)
          by_cases hc389 : (32 : Int32) < cr
          · skip
            have pre571 := fun t (kt : SF p e below T528 m 396 #[vi x1, vi x2, vi x3, vi x4, vi x5, vi x6, vi (x1 &&& (3 : Int32)), vi up_443, vi ca, vi cz, vi cx, vi cy, vi cr, vr sx_453, vi (own_b (own_pr x1)), vi (own_b (own_pr x1)), vi (own_b (own_yj cy)), vi (own_b (own_za cz)), vi (own_b (own_pr x1 ∧ (32 : Int32) < ca)), un] [(.int (59 : Int32)), (.int cr)] t) => pre570 t (by
              refine XS.icmpNo X528.here hx rfl (hb hby at_389) rfl (tlt hc389).2.2.2 ?_
              refine XS.iload X528.here hx rfl (hb hby at_392) rfl ?_
              refine XS.bipush X528.here hx rfl (hb hby at_394) ?_
              exact kt)
            by_cases hc396 : cr = (59 : Int32)
            · skip
              have pre572 := fun t (kt : SF p e below T528 m 409 #[vi x1, vi x2, vi x3, vi x4, vi x5, vi x6, vi (x1 &&& (3 : Int32)), vi up_443, vi ca, vi cz, vi cx, vi cy, vi cr, vr sx_453, vi (own_b (own_pr x1)), vi (own_b (own_pr x1)), vi (own_b (own_yj cy)), vi (own_b (own_za cz)), vi (own_b (own_pr x1 ∧ (32 : Int32) < ca)), un] [(.int (43 : Int32)), (.int cx)] t) => pre571 t (by
                refine XS.icmpYes X528.here hx rfl (pc0 := 396) (pc' := 405) rfl (hb hby at_396) rfl (teq hc396).1 (by decide) (by decide) ?_
                refine XS.iload X528.here hx rfl (hb hby at_405) rfl ?_
                refine XS.bipush X528.here hx rfl (hb hby at_407) ?_
                exact kt)
              by_cases hc409 : cx = (43 : Int32)
              · skip
                have pre573 := fun t (kt : SF p e below T528 m 414 #[vi x1, vi x2, vi x3, vi x4, vi x5, vi x6, vi (x1 &&& (3 : Int32)), vi up_443, vi ca, vi cz, vi cx, vi cy, vi cr, vr sx_453, vi (own_b (own_pr x1)), vi (own_b (own_pr x1)), vi (own_b (own_yj cy)), vi (own_b (own_za cz)), vi (own_b (own_pr x1 ∧ (32 : Int32) < ca)), un] [(.int (own_b (own_yj cy)))] t) => pre572 t (by
                  refine XS.icmpNo X528.here hx rfl (hb hby at_409) rfl (teq hc409).2 ?_
                  refine XS.iload X528.here hx rfl (hb hby at_412) rfl ?_
                  exact kt)
                by_cases hc414 : (own_b (own_yj cy)) = (0 : Int32)
                · skip
                  have hq574 : ¬ (own_yj cy) := own_b_not hc414
                  have pre575 := fun t (kt : SF p e below T528 m 421 #[vi x1, vi x2, vi x3, vi x4, vi x5, vi x6, vi (x1 &&& (3 : Int32)), vi up_443, vi ca, vi cz, vi cx, vi cy, vi cr, vr sx_453, vi (own_b (own_pr x1)), vi (own_b (own_pr x1)), vi (own_b (own_yj cy)), vi (own_b (own_za cz)), vi (own_b (own_pr x1 ∧ (32 : Int32) < ca)), un] [(.int (47 : Int32)), (.int cx)] t) => pre573 t (by
                    refine XS.ifNo X528.here hx rfl (hb hby at_414) rfl ((if0 _ _).trans (teq hc414).2) ?_
                    show SF p e below T528 m 417 _ [] _
                    refine XS.iload X528.here hx rfl (hb hby at_417) rfl ?_
                    refine XS.bipush X528.here hx rfl (hb hby at_419) ?_
                    exact kt)
                  by_cases hc421 : cx = (47 : Int32)
                  · skip
                    have pre576 := fun t (kt : SF p e below T528 m 446 #[vi x1, vi x2, vi x3, vi x4, vi x5, vi x6, vi (x1 &&& (3 : Int32)), vi up_443, vi ca, vi cz, vi cx, vi cy, vi cr, vr sx_453, vi (own_b (own_pr x1)), vi (own_b (own_pr x1)), vi (own_b (own_yj cy)), vi (own_b (own_za cz)), vi (own_b (own_pr x1 ∧ (32 : Int32) < ca)), vi (0 : Int32)] [] t) => pre575 t (by
                      refine XS.icmpNo X528.here hx rfl (hb hby at_421) rfl (teq hc421).2 ?_
                      refine XS.iload X528.here hx rfl (hb hby at_424) rfl ?_
                      refine XS.ifYes X528.here hx rfl (pc0 := 426) (pc' := 443) rfl (hb hby at_426) rfl ((if0 _ _).trans (teq hc414).1) (by decide) (by decide) ?_
                      refine XS.iconst X528.here hx rfl (hb hby at_443) ?_
                      refine XS.istore X528.here hx rfl (hb hby at_444) rfl (l' := #[vi x1, vi x2, vi x3, vi x4, vi x5, vi x6, vi (x1 &&& (3 : Int32)), vi up_443, vi ca, vi cz, vi cx, vi cy, vi cr, vr sx_453, vi (own_b (own_pr x1)), vi (own_b (own_pr x1)), vi (own_b (own_yj cy)), vi (own_b (own_za cz)), vi (own_b (own_pr x1 ∧ (32 : Int32) < ca)), vi (0 : Int32)]) rfl ?_
                      exact kt)
                    exact ⟨(own_b (own_pr x1)), (own_b (own_pr x1)), (own_b (own_yj cy)), (own_b (own_za cz)), (own_b (own_pr x1 ∧ (32 : Int32) < ca)), (0 : Int32), T528, _, X528, e528, N528, (own_bf (fun q => q.2.2.2.elim (fun w => hq574 w.2) (fun w => hq574 w.2.1))).symm, pre576⟩
                  · skip
                    have pre577 := fun t (kt : SF p e below T528 m 446 #[vi x1, vi x2, vi x3, vi x4, vi x5, vi x6, vi (x1 &&& (3 : Int32)), vi up_443, vi ca, vi cz, vi cx, vi cy, vi cr, vr sx_453, vi (own_b (own_pr x1)), vi (own_b (own_pr x1)), vi (own_b (own_yj cy)), vi (own_b (own_za cz)), vi (own_b (own_pr x1 ∧ (32 : Int32) < ca)), vi (0 : Int32)] [] t) => pre575 t (by
                      refine XS.icmpYes X528.here hx rfl (pc0 := 421) (pc' := 443) rfl (hb hby at_421) rfl (feq hc421).2 (by decide) (by decide) ?_
                      refine XS.iconst X528.here hx rfl (hb hby at_443) ?_
                      refine XS.istore X528.here hx rfl (hb hby at_444) rfl (l' := #[vi x1, vi x2, vi x3, vi x4, vi x5, vi x6, vi (x1 &&& (3 : Int32)), vi up_443, vi ca, vi cz, vi cx, vi cy, vi cr, vr sx_453, vi (own_b (own_pr x1)), vi (own_b (own_pr x1)), vi (own_b (own_yj cy)), vi (own_b (own_za cz)), vi (own_b (own_pr x1 ∧ (32 : Int32) < ca)), vi (0 : Int32)]) rfl ?_
                      exact kt)
                    exact ⟨(own_b (own_pr x1)), (own_b (own_pr x1)), (own_b (own_yj cy)), (own_b (own_za cz)), (own_b (own_pr x1 ∧ (32 : Int32) < ca)), (0 : Int32), T528, _, X528, e528, N528, (own_bf (fun q => q.2.2.2.elim (fun w => hq574 w.2) (fun w => hc421 w.1))).symm, pre577⟩
                · skip
                  have hq578 : own_yj cy := own_b_of hc414
                  have pre579 := fun t (kt : SF p e below T528 m 446 #[vi x1, vi x2, vi x3, vi x4, vi x5, vi x6, vi (x1 &&& (3 : Int32)), vi up_443, vi ca, vi cz, vi cx, vi cy, vi cr, vr sx_453, vi (own_b (own_pr x1)), vi (own_b (own_pr x1)), vi (own_b (own_yj cy)), vi (own_b (own_za cz)), vi (own_b (own_pr x1 ∧ (32 : Int32) < ca)), vi (1 : Int32)] [] t) => pre573 t (by
                    refine XS.ifYes X528.here hx rfl (pc0 := 414) (pc' := 439) rfl (hb hby at_414) rfl ((if0 _ _).trans (feq hc414).2) (by decide) (by decide) ?_
                    show SF p e below T528 m 439 _ [] _
                    refine XS.iconst X528.here hx rfl (hb hby at_439) ?_
                    refine XS.goto X528.here hx rfl (pc0 := 440) (pc' := 444) rfl (hb hby at_440) (by decide) (by decide) ?_
                    refine XS.istore X528.here hx rfl (hb hby at_444) rfl (l' := #[vi x1, vi x2, vi x3, vi x4, vi x5, vi x6, vi (x1 &&& (3 : Int32)), vi up_443, vi ca, vi cz, vi cx, vi cy, vi cr, vr sx_453, vi (own_b (own_pr x1)), vi (own_b (own_pr x1)), vi (own_b (own_yj cy)), vi (own_b (own_za cz)), vi (own_b (own_pr x1 ∧ (32 : Int32) < ca)), vi (1 : Int32)]) rfl ?_
                    exact kt)
                  exact ⟨(own_b (own_pr x1)), (own_b (own_pr x1)), (own_b (own_yj cy)), (own_b (own_za cz)), (own_b (own_pr x1 ∧ (32 : Int32) < ca)), (1 : Int32), T528, _, X528, e528, N528, (own_bt ⟨fun q => hc358 q.2, hc371, fun q => q.2.2 hc396, Or.inl ⟨hc409, hq578⟩⟩).symm, pre579⟩
              · skip
                have pre580 := fun t (kt : SF p e below T528 m 421 #[vi x1, vi x2, vi x3, vi x4, vi x5, vi x6, vi (x1 &&& (3 : Int32)), vi up_443, vi ca, vi cz, vi cx, vi cy, vi cr, vr sx_453, vi (own_b (own_pr x1)), vi (own_b (own_pr x1)), vi (own_b (own_yj cy)), vi (own_b (own_za cz)), vi (own_b (own_pr x1 ∧ (32 : Int32) < ca)), un] [(.int (47 : Int32)), (.int cx)] t) => pre572 t (by
                  refine XS.icmpYes X528.here hx rfl (pc0 := 409) (pc' := 417) rfl (hb hby at_409) rfl (feq hc409).2 (by decide) (by decide) ?_
                  refine XS.iload X528.here hx rfl (hb hby at_417) rfl ?_
                  refine XS.bipush X528.here hx rfl (hb hby at_419) ?_
                  exact kt)
                by_cases hc421 : cx = (47 : Int32)
                · skip
                  have pre581 := fun t (kt : SF p e below T528 m 426 #[vi x1, vi x2, vi x3, vi x4, vi x5, vi x6, vi (x1 &&& (3 : Int32)), vi up_443, vi ca, vi cz, vi cx, vi cy, vi cr, vr sx_453, vi (own_b (own_pr x1)), vi (own_b (own_pr x1)), vi (own_b (own_yj cy)), vi (own_b (own_za cz)), vi (own_b (own_pr x1 ∧ (32 : Int32) < ca)), un] [(.int (own_b (own_yj cy)))] t) => pre580 t (by
                    refine XS.icmpNo X528.here hx rfl (hb hby at_421) rfl (teq hc421).2 ?_
                    refine XS.iload X528.here hx rfl (hb hby at_424) rfl ?_
                    exact kt)
                  by_cases hc426 : (own_b (own_yj cy)) = (0 : Int32)
                  · skip
                    have hq582 : ¬ (own_yj cy) := own_b_not hc426
                    have pre583 := fun t (kt : SF p e below T528 m 446 #[vi x1, vi x2, vi x3, vi x4, vi x5, vi x6, vi (x1 &&& (3 : Int32)), vi up_443, vi ca, vi cz, vi cx, vi cy, vi cr, vr sx_453, vi (own_b (own_pr x1)), vi (own_b (own_pr x1)), vi (own_b (own_yj cy)), vi (own_b (own_za cz)), vi (own_b (own_pr x1 ∧ (32 : Int32) < ca)), vi (0 : Int32)] [] t) => pre581 t (by
                      refine XS.ifYes X528.here hx rfl (pc0 := 426) (pc' := 443) rfl (hb hby at_426) rfl ((if0 _ _).trans (teq hc426).1) (by decide) (by decide) ?_
                      refine XS.iconst X528.here hx rfl (hb hby at_443) ?_
                      refine XS.istore X528.here hx rfl (hb hby at_444) rfl (l' := #[vi x1, vi x2, vi x3, vi x4, vi x5, vi x6, vi (x1 &&& (3 : Int32)), vi up_443, vi ca, vi cz, vi cx, vi cy, vi cr, vr sx_453, vi (own_b (own_pr x1)), vi (own_b (own_pr x1)), vi (own_b (own_yj cy)), vi (own_b (own_za cz)), vi (own_b (own_pr x1 ∧ (32 : Int32) < ca)), vi (0 : Int32)]) rfl ?_
                      exact kt)
                    exact ⟨(own_b (own_pr x1)), (own_b (own_pr x1)), (own_b (own_yj cy)), (own_b (own_za cz)), (own_b (own_pr x1 ∧ (32 : Int32) < ca)), (0 : Int32), T528, _, X528, e528, N528, (own_bf (fun q => q.2.2.2.elim (fun w => hc409 w.1) (fun w => hq582 w.2.1))).symm, pre583⟩
                  · skip
                    have hq584 : own_yj cy := own_b_of hc426
                    have pre585 := fun t (kt : SF p e below T528 m 431 #[vi x1, vi x2, vi x3, vi x4, vi x5, vi x6, vi (x1 &&& (3 : Int32)), vi up_443, vi ca, vi cz, vi cx, vi cy, vi cr, vr sx_453, vi (own_b (own_pr x1)), vi (own_b (own_pr x1)), vi (own_b (own_yj cy)), vi (own_b (own_za cz)), vi (own_b (own_pr x1 ∧ (32 : Int32) < ca)), un] [(.int (own_b (own_za cz)))] t) => pre581 t (by
                      refine XS.ifNo X528.here hx rfl (hb hby at_426) rfl ((if0 _ _).trans (feq hc426).1) ?_
                      refine XS.iload X528.here hx rfl (hb hby at_429) rfl ?_
                      exact kt)
                    by_cases hc431 : (own_b (own_za cz)) = (0 : Int32)
                    · skip
                      have hq586 : ¬ (own_za cz) := own_b_not hc431
                      have pre587 := fun t (kt : SF p e below T528 m 446 #[vi x1, vi x2, vi x3, vi x4, vi x5, vi x6, vi (x1 &&& (3 : Int32)), vi up_443, vi ca, vi cz, vi cx, vi cy, vi cr, vr sx_453, vi (own_b (own_pr x1)), vi (own_b (own_pr x1)), vi (own_b (own_yj cy)), vi (own_b (own_za cz)), vi (own_b (own_pr x1 ∧ (32 : Int32) < ca)), vi (0 : Int32)] [] t) => pre585 t (by
                        refine XS.ifYes X528.here hx rfl (pc0 := 431) (pc' := 443) rfl (hb hby at_431) rfl ((if0 _ _).trans (teq hc431).1) (by decide) (by decide) ?_
                        refine XS.iconst X528.here hx rfl (hb hby at_443) ?_
                        refine XS.istore X528.here hx rfl (hb hby at_444) rfl (l' := #[vi x1, vi x2, vi x3, vi x4, vi x5, vi x6, vi (x1 &&& (3 : Int32)), vi up_443, vi ca, vi cz, vi cx, vi cy, vi cr, vr sx_453, vi (own_b (own_pr x1)), vi (own_b (own_pr x1)), vi (own_b (own_yj cy)), vi (own_b (own_za cz)), vi (own_b (own_pr x1 ∧ (32 : Int32) < ca)), vi (0 : Int32)]) rfl ?_
                        exact kt)
                      exact ⟨(own_b (own_pr x1)), (own_b (own_pr x1)), (own_b (own_yj cy)), (own_b (own_za cz)), (own_b (own_pr x1 ∧ (32 : Int32) < ca)), (0 : Int32), T528, _, X528, e528, N528, (own_bf (fun q => q.2.2.2.elim (fun w => hc409 w.1) (fun w => hq586 w.2.2.1))).symm, pre587⟩
                    · skip
                      have hq588 : own_za cz := own_b_of hc431
                      have pre589 := fun t (kt : SF p e below T528 m 436 #[vi x1, vi x2, vi x3, vi x4, vi x5, vi x6, vi (x1 &&& (3 : Int32)), vi up_443, vi ca, vi cz, vi cx, vi cy, vi cr, vr sx_453, vi (own_b (own_pr x1)), vi (own_b (own_pr x1)), vi (own_b (own_yj cy)), vi (own_b (own_za cz)), vi (own_b (own_pr x1 ∧ (32 : Int32) < ca)), un] [(.int (own_b (own_pr x1 ∧ (32 : Int32) < ca)))] t) => pre585 t (by
                        refine XS.ifNo X528.here hx rfl (hb hby at_431) rfl ((if0 _ _).trans (feq hc431).1) ?_
                        refine XS.iload X528.here hx rfl (hb hby at_434) rfl ?_
                        exact kt)
                      by_cases hc436 : (own_b (own_pr x1 ∧ (32 : Int32) < ca)) = (0 : Int32)
                      · skip
                        have hq590 : ¬ (own_pr x1 ∧ (32 : Int32) < ca) := own_b_not hc436
                        have pre591 := fun t (kt : SF p e below T528 m 446 #[vi x1, vi x2, vi x3, vi x4, vi x5, vi x6, vi (x1 &&& (3 : Int32)), vi up_443, vi ca, vi cz, vi cx, vi cy, vi cr, vr sx_453, vi (own_b (own_pr x1)), vi (own_b (own_pr x1)), vi (own_b (own_yj cy)), vi (own_b (own_za cz)), vi (own_b (own_pr x1 ∧ (32 : Int32) < ca)), vi (1 : Int32)] [] t) => pre589 t (by
                          refine XS.ifNo X528.here hx rfl (hb hby at_436) rfl ((if0 _ _).trans (teq hc436).2) ?_
                          refine XS.iconst X528.here hx rfl (hb hby at_439) ?_
                          refine XS.goto X528.here hx rfl (pc0 := 440) (pc' := 444) rfl (hb hby at_440) (by decide) (by decide) ?_
                          refine XS.istore X528.here hx rfl (hb hby at_444) rfl (l' := #[vi x1, vi x2, vi x3, vi x4, vi x5, vi x6, vi (x1 &&& (3 : Int32)), vi up_443, vi ca, vi cz, vi cx, vi cy, vi cr, vr sx_453, vi (own_b (own_pr x1)), vi (own_b (own_pr x1)), vi (own_b (own_yj cy)), vi (own_b (own_za cz)), vi (own_b (own_pr x1 ∧ (32 : Int32) < ca)), vi (1 : Int32)]) rfl ?_
                          exact kt)
                        exact ⟨(own_b (own_pr x1)), (own_b (own_pr x1)), (own_b (own_yj cy)), (own_b (own_za cz)), (own_b (own_pr x1 ∧ (32 : Int32) < ca)), (1 : Int32), T528, _, X528, e528, N528, (own_bt ⟨fun q => hc358 q.2, hc371, fun q => q.2.2 hc396, Or.inr ⟨hc421, hq584, hq588, hq590⟩⟩).symm, pre591⟩
                      · skip
                        have hq592 : own_pr x1 ∧ (32 : Int32) < ca := own_b_of hc436
                        have pre593 := fun t (kt : SF p e below T528 m 446 #[vi x1, vi x2, vi x3, vi x4, vi x5, vi x6, vi (x1 &&& (3 : Int32)), vi up_443, vi ca, vi cz, vi cx, vi cy, vi cr, vr sx_453, vi (own_b (own_pr x1)), vi (own_b (own_pr x1)), vi (own_b (own_yj cy)), vi (own_b (own_za cz)), vi (own_b (own_pr x1 ∧ (32 : Int32) < ca)), vi (0 : Int32)] [] t) => pre589 t (by
                          refine XS.ifYes X528.here hx rfl (pc0 := 436) (pc' := 443) rfl (hb hby at_436) rfl ((if0 _ _).trans (feq hc436).2) (by decide) (by decide) ?_
                          refine XS.iconst X528.here hx rfl (hb hby at_443) ?_
                          refine XS.istore X528.here hx rfl (hb hby at_444) rfl (l' := #[vi x1, vi x2, vi x3, vi x4, vi x5, vi x6, vi (x1 &&& (3 : Int32)), vi up_443, vi ca, vi cz, vi cx, vi cy, vi cr, vr sx_453, vi (own_b (own_pr x1)), vi (own_b (own_pr x1)), vi (own_b (own_yj cy)), vi (own_b (own_za cz)), vi (own_b (own_pr x1 ∧ (32 : Int32) < ca)), vi (0 : Int32)]) rfl ?_
                          exact kt)
                        exact ⟨(own_b (own_pr x1)), (own_b (own_pr x1)), (own_b (own_yj cy)), (own_b (own_za cz)), (own_b (own_pr x1 ∧ (32 : Int32) < ca)), (0 : Int32), T528, _, X528, e528, N528, (own_bf (fun q => q.2.2.2.elim (fun w => hc409 w.1) (fun w => w.2.2.2 hq592))).symm, pre593⟩
                · skip
                  have pre594 := fun t (kt : SF p e below T528 m 446 #[vi x1, vi x2, vi x3, vi x4, vi x5, vi x6, vi (x1 &&& (3 : Int32)), vi up_443, vi ca, vi cz, vi cx, vi cy, vi cr, vr sx_453, vi (own_b (own_pr x1)), vi (own_b (own_pr x1)), vi (own_b (own_yj cy)), vi (own_b (own_za cz)), vi (own_b (own_pr x1 ∧ (32 : Int32) < ca)), vi (0 : Int32)] [] t) => pre580 t (by
                    refine XS.icmpYes X528.here hx rfl (pc0 := 421) (pc' := 443) rfl (hb hby at_421) rfl (feq hc421).2 (by decide) (by decide) ?_
                    refine XS.iconst X528.here hx rfl (hb hby at_443) ?_
                    refine XS.istore X528.here hx rfl (hb hby at_444) rfl (l' := #[vi x1, vi x2, vi x3, vi x4, vi x5, vi x6, vi (x1 &&& (3 : Int32)), vi up_443, vi ca, vi cz, vi cx, vi cy, vi cr, vr sx_453, vi (own_b (own_pr x1)), vi (own_b (own_pr x1)), vi (own_b (own_yj cy)), vi (own_b (own_za cz)), vi (own_b (own_pr x1 ∧ (32 : Int32) < ca)), vi (0 : Int32)]) rfl ?_
                    exact kt)
                  exact ⟨(own_b (own_pr x1)), (own_b (own_pr x1)), (own_b (own_yj cy)), (own_b (own_za cz)), (own_b (own_pr x1 ∧ (32 : Int32) < ca)), (0 : Int32), T528, _, X528, e528, N528, (own_bf (fun q => q.2.2.2.elim (fun w => hc409 w.1) (fun w => hc421 w.1))).symm, pre594⟩
            · skip
              have pre595 := fun t (kt : SF p e below T528 m 446 #[vi x1, vi x2, vi x3, vi x4, vi x5, vi x6, vi (x1 &&& (3 : Int32)), vi up_443, vi ca, vi cz, vi cx, vi cy, vi cr, vr sx_453, vi (own_b (own_pr x1)), vi (own_b (own_pr x1)), vi (own_b (own_yj cy)), vi (own_b (own_za cz)), vi (own_b (own_pr x1 ∧ (32 : Int32) < ca)), vi (0 : Int32)] [] t) => pre571 t (by
                refine XS.icmpNo X528.here hx rfl (hb hby at_396) rfl (feq hc396).1 ?_
                refine XS.iconst X528.here hx rfl (hb hby at_399) ?_
                refine XS.istore X528.here hx rfl (hb hby at_400) rfl (l' := #[vi x1, vi x2, vi x3, vi x4, vi x5, vi x6, vi (x1 &&& (3 : Int32)), vi up_443, vi ca, vi cz, vi cx, vi cy, vi cr, vr sx_453, vi (own_b (own_pr x1)), vi (own_b (own_pr x1)), vi (own_b (own_yj cy)), vi (own_b (own_za cz)), vi (own_b (own_pr x1 ∧ (32 : Int32) < ca)), vi (0 : Int32)]) rfl ?_
                refine XS.goto X528.here hx rfl (pc0 := 402) (pc' := 446) rfl (hb hby at_402) (by decide) (by decide) ?_
                exact kt)
              exact ⟨(own_b (own_pr x1)), (own_b (own_pr x1)), (own_b (own_yj cy)), (own_b (own_za cz)), (own_b (own_pr x1 ∧ (32 : Int32) < ca)), (0 : Int32), T528, _, X528, e528, N528, (own_bf (fun q => q.2.2.1 ⟨hq565, hc389, hc396⟩)).symm, pre595⟩
          · skip
            have pre596 := fun t (kt : SF p e below T528 m 409 #[vi x1, vi x2, vi x3, vi x4, vi x5, vi x6, vi (x1 &&& (3 : Int32)), vi up_443, vi ca, vi cz, vi cx, vi cy, vi cr, vr sx_453, vi (own_b (own_pr x1)), vi (own_b (own_pr x1)), vi (own_b (own_yj cy)), vi (own_b (own_za cz)), vi (own_b (own_pr x1 ∧ (32 : Int32) < ca)), un] [(.int (43 : Int32)), (.int cx)] t) => pre570 t (by
              refine XS.icmpYes X528.here hx rfl (pc0 := 389) (pc' := 405) rfl (hb hby at_389) rfl (flt hc389).2.2.2 (by decide) (by decide) ?_
              refine XS.iload X528.here hx rfl (hb hby at_405) rfl ?_
              refine XS.bipush X528.here hx rfl (hb hby at_407) ?_
              exact kt)
            by_cases hc409 : cx = (43 : Int32)
            · skip
              have pre597 := fun t (kt : SF p e below T528 m 414 #[vi x1, vi x2, vi x3, vi x4, vi x5, vi x6, vi (x1 &&& (3 : Int32)), vi up_443, vi ca, vi cz, vi cx, vi cy, vi cr, vr sx_453, vi (own_b (own_pr x1)), vi (own_b (own_pr x1)), vi (own_b (own_yj cy)), vi (own_b (own_za cz)), vi (own_b (own_pr x1 ∧ (32 : Int32) < ca)), un] [(.int (own_b (own_yj cy)))] t) => pre596 t (by
                refine XS.icmpNo X528.here hx rfl (hb hby at_409) rfl (teq hc409).2 ?_
                refine XS.iload X528.here hx rfl (hb hby at_412) rfl ?_
                exact kt)
              by_cases hc414 : (own_b (own_yj cy)) = (0 : Int32)
              · skip
                have hq598 : ¬ (own_yj cy) := own_b_not hc414
                have pre599 := fun t (kt : SF p e below T528 m 421 #[vi x1, vi x2, vi x3, vi x4, vi x5, vi x6, vi (x1 &&& (3 : Int32)), vi up_443, vi ca, vi cz, vi cx, vi cy, vi cr, vr sx_453, vi (own_b (own_pr x1)), vi (own_b (own_pr x1)), vi (own_b (own_yj cy)), vi (own_b (own_za cz)), vi (own_b (own_pr x1 ∧ (32 : Int32) < ca)), un] [(.int (47 : Int32)), (.int cx)] t) => pre597 t (by
                  refine XS.ifNo X528.here hx rfl (hb hby at_414) rfl ((if0 _ _).trans (teq hc414).2) ?_
                  refine XS.iload X528.here hx rfl (hb hby at_417) rfl ?_
                  refine XS.bipush X528.here hx rfl (hb hby at_419) ?_
                  exact kt)
                by_cases hc421 : cx = (47 : Int32)
                · skip
                  have pre600 := fun t (kt : SF p e below T528 m 446 #[vi x1, vi x2, vi x3, vi x4, vi x5, vi x6, vi (x1 &&& (3 : Int32)), vi up_443, vi ca, vi cz, vi cx, vi cy, vi cr, vr sx_453, vi (own_b (own_pr x1)), vi (own_b (own_pr x1)), vi (own_b (own_yj cy)), vi (own_b (own_za cz)), vi (own_b (own_pr x1 ∧ (32 : Int32) < ca)), vi (0 : Int32)] [] t) => pre599 t (by
                    refine XS.icmpNo X528.here hx rfl (hb hby at_421) rfl (teq hc421).2 ?_
                    show SF p e below T528 m 424 _ [] _
                    refine XS.iload X528.here hx rfl (hb hby at_424) rfl ?_
                    refine XS.ifYes X528.here hx rfl (pc0 := 426) (pc' := 443) rfl (hb hby at_426) rfl ((if0 _ _).trans (teq hc414).1) (by decide) (by decide) ?_
                    refine XS.iconst X528.here hx rfl (hb hby at_443) ?_
                    refine XS.istore X528.here hx rfl (hb hby at_444) rfl (l' := #[vi x1, vi x2, vi x3, vi x4, vi x5, vi x6, vi (x1 &&& (3 : Int32)), vi up_443, vi ca, vi cz, vi cx, vi cy, vi cr, vr sx_453, vi (own_b (own_pr x1)), vi (own_b (own_pr x1)), vi (own_b (own_yj cy)), vi (own_b (own_za cz)), vi (own_b (own_pr x1 ∧ (32 : Int32) < ca)), vi (0 : Int32)]) rfl ?_
                    exact kt)
                  exact ⟨(own_b (own_pr x1)), (own_b (own_pr x1)), (own_b (own_yj cy)), (own_b (own_za cz)), (own_b (own_pr x1 ∧ (32 : Int32) < ca)), (0 : Int32), T528, _, X528, e528, N528, (own_bf (fun q => q.2.2.2.elim (fun w => hq598 w.2) (fun w => hq598 w.2.1))).symm, pre600⟩
                · skip
                  have pre601 := fun t (kt : SF p e below T528 m 446 #[vi x1, vi x2, vi x3, vi x4, vi x5, vi x6, vi (x1 &&& (3 : Int32)), vi up_443, vi ca, vi cz, vi cx, vi cy, vi cr, vr sx_453, vi (own_b (own_pr x1)), vi (own_b (own_pr x1)), vi (own_b (own_yj cy)), vi (own_b (own_za cz)), vi (own_b (own_pr x1 ∧ (32 : Int32) < ca)), vi (0 : Int32)] [] t) => pre599 t (by
                    refine XS.icmpYes X528.here hx rfl (pc0 := 421) (pc' := 443) rfl (hb hby at_421) rfl (feq hc421).2 (by decide) (by decide) ?_
                    show SF p e below T528 m 443 _ [] _
                    refine XS.iconst X528.here hx rfl (hb hby at_443) ?_
                    refine XS.istore X528.here hx rfl (hb hby at_444) rfl (l' := #[vi x1, vi x2, vi x3, vi x4, vi x5, vi x6, vi (x1 &&& (3 : Int32)), vi up_443, vi ca, vi cz, vi cx, vi cy, vi cr, vr sx_453, vi (own_b (own_pr x1)), vi (own_b (own_pr x1)), vi (own_b (own_yj cy)), vi (own_b (own_za cz)), vi (own_b (own_pr x1 ∧ (32 : Int32) < ca)), vi (0 : Int32)]) rfl ?_
                    exact kt)
                  exact ⟨(own_b (own_pr x1)), (own_b (own_pr x1)), (own_b (own_yj cy)), (own_b (own_za cz)), (own_b (own_pr x1 ∧ (32 : Int32) < ca)), (0 : Int32), T528, _, X528, e528, N528, (own_bf (fun q => q.2.2.2.elim (fun w => hq598 w.2) (fun w => hc421 w.1))).symm, pre601⟩
              · skip
                have hq602 : own_yj cy := own_b_of hc414
                have pre603 := fun t (kt : SF p e below T528 m 446 #[vi x1, vi x2, vi x3, vi x4, vi x5, vi x6, vi (x1 &&& (3 : Int32)), vi up_443, vi ca, vi cz, vi cx, vi cy, vi cr, vr sx_453, vi (own_b (own_pr x1)), vi (own_b (own_pr x1)), vi (own_b (own_yj cy)), vi (own_b (own_za cz)), vi (own_b (own_pr x1 ∧ (32 : Int32) < ca)), vi (1 : Int32)] [] t) => pre597 t (by
                  refine XS.ifYes X528.here hx rfl (pc0 := 414) (pc' := 439) rfl (hb hby at_414) rfl ((if0 _ _).trans (feq hc414).2) (by decide) (by decide) ?_
                  refine XS.iconst X528.here hx rfl (hb hby at_439) ?_
                  refine XS.goto X528.here hx rfl (pc0 := 440) (pc' := 444) rfl (hb hby at_440) (by decide) (by decide) ?_
                  refine XS.istore X528.here hx rfl (hb hby at_444) rfl (l' := #[vi x1, vi x2, vi x3, vi x4, vi x5, vi x6, vi (x1 &&& (3 : Int32)), vi up_443, vi ca, vi cz, vi cx, vi cy, vi cr, vr sx_453, vi (own_b (own_pr x1)), vi (own_b (own_pr x1)), vi (own_b (own_yj cy)), vi (own_b (own_za cz)), vi (own_b (own_pr x1 ∧ (32 : Int32) < ca)), vi (1 : Int32)]) rfl ?_
                  exact kt)
                exact ⟨(own_b (own_pr x1)), (own_b (own_pr x1)), (own_b (own_yj cy)), (own_b (own_za cz)), (own_b (own_pr x1 ∧ (32 : Int32) < ca)), (1 : Int32), T528, _, X528, e528, N528, (own_bt ⟨fun q => hc358 q.2, hc371, fun q => hc389 q.2.1, Or.inl ⟨hc409, hq602⟩⟩).symm, pre603⟩
            · skip
              have pre604 := fun t (kt : SF p e below T528 m 421 #[vi x1, vi x2, vi x3, vi x4, vi x5, vi x6, vi (x1 &&& (3 : Int32)), vi up_443, vi ca, vi cz, vi cx, vi cy, vi cr, vr sx_453, vi (own_b (own_pr x1)), vi (own_b (own_pr x1)), vi (own_b (own_yj cy)), vi (own_b (own_za cz)), vi (own_b (own_pr x1 ∧ (32 : Int32) < ca)), un] [(.int (47 : Int32)), (.int cx)] t) => pre596 t (by
                refine XS.icmpYes X528.here hx rfl (pc0 := 409) (pc' := 417) rfl (hb hby at_409) rfl (feq hc409).2 (by decide) (by decide) ?_
                refine XS.iload X528.here hx rfl (hb hby at_417) rfl ?_
                refine XS.bipush X528.here hx rfl (hb hby at_419) ?_
                exact kt)
              by_cases hc421 : cx = (47 : Int32)
              · skip
                have pre605 := fun t (kt : SF p e below T528 m 426 #[vi x1, vi x2, vi x3, vi x4, vi x5, vi x6, vi (x1 &&& (3 : Int32)), vi up_443, vi ca, vi cz, vi cx, vi cy, vi cr, vr sx_453, vi (own_b (own_pr x1)), vi (own_b (own_pr x1)), vi (own_b (own_yj cy)), vi (own_b (own_za cz)), vi (own_b (own_pr x1 ∧ (32 : Int32) < ca)), un] [(.int (own_b (own_yj cy)))] t) => pre604 t (by
                  refine XS.icmpNo X528.here hx rfl (hb hby at_421) rfl (teq hc421).2 ?_
                  refine XS.iload X528.here hx rfl (hb hby at_424) rfl ?_
                  exact kt)
                by_cases hc426 : (own_b (own_yj cy)) = (0 : Int32)
                · skip
                  have hq606 : ¬ (own_yj cy) := own_b_not hc426
                  have pre607 := fun t (kt : SF p e below T528 m 446 #[vi x1, vi x2, vi x3, vi x4, vi x5, vi x6, vi (x1 &&& (3 : Int32)), vi up_443, vi ca, vi cz, vi cx, vi cy, vi cr, vr sx_453, vi (own_b (own_pr x1)), vi (own_b (own_pr x1)), vi (own_b (own_yj cy)), vi (own_b (own_za cz)), vi (own_b (own_pr x1 ∧ (32 : Int32) < ca)), vi (0 : Int32)] [] t) => pre605 t (by
                    refine XS.ifYes X528.here hx rfl (pc0 := 426) (pc' := 443) rfl (hb hby at_426) rfl ((if0 _ _).trans (teq hc426).1) (by decide) (by decide) ?_
                    show SF p e below T528 m 443 _ [] _
                    refine XS.iconst X528.here hx rfl (hb hby at_443) ?_
                    refine XS.istore X528.here hx rfl (hb hby at_444) rfl (l' := #[vi x1, vi x2, vi x3, vi x4, vi x5, vi x6, vi (x1 &&& (3 : Int32)), vi up_443, vi ca, vi cz, vi cx, vi cy, vi cr, vr sx_453, vi (own_b (own_pr x1)), vi (own_b (own_pr x1)), vi (own_b (own_yj cy)), vi (own_b (own_za cz)), vi (own_b (own_pr x1 ∧ (32 : Int32) < ca)), vi (0 : Int32)]) rfl ?_
                    exact kt)
                  exact ⟨(own_b (own_pr x1)), (own_b (own_pr x1)), (own_b (own_yj cy)), (own_b (own_za cz)), (own_b (own_pr x1 ∧ (32 : Int32) < ca)), (0 : Int32), T528, _, X528, e528, N528, (own_bf (fun q => q.2.2.2.elim (fun w => hc409 w.1) (fun w => hq606 w.2.1))).symm, pre607⟩
                · skip
                  have hq608 : own_yj cy := own_b_of hc426
                  have pre609 := fun t (kt : SF p e below T528 m 431 #[vi x1, vi x2, vi x3, vi x4, vi x5, vi x6, vi (x1 &&& (3 : Int32)), vi up_443, vi ca, vi cz, vi cx, vi cy, vi cr, vr sx_453, vi (own_b (own_pr x1)), vi (own_b (own_pr x1)), vi (own_b (own_yj cy)), vi (own_b (own_za cz)), vi (own_b (own_pr x1 ∧ (32 : Int32) < ca)), un] [(.int (own_b (own_za cz)))] t) => pre605 t (by
                    refine XS.ifNo X528.here hx rfl (hb hby at_426) rfl ((if0 _ _).trans (feq hc426).1) ?_
                    show SF p e below T528 m 429 _ [] _
                    refine XS.iload X528.here hx rfl (hb hby at_429) rfl ?_
                    exact kt)
                  by_cases hc431 : (own_b (own_za cz)) = (0 : Int32)
                  · skip
                    have hq610 : ¬ (own_za cz) := own_b_not hc431
                    have pre611 := fun t (kt : SF p e below T528 m 446 #[vi x1, vi x2, vi x3, vi x4, vi x5, vi x6, vi (x1 &&& (3 : Int32)), vi up_443, vi ca, vi cz, vi cx, vi cy, vi cr, vr sx_453, vi (own_b (own_pr x1)), vi (own_b (own_pr x1)), vi (own_b (own_yj cy)), vi (own_b (own_za cz)), vi (own_b (own_pr x1 ∧ (32 : Int32) < ca)), vi (0 : Int32)] [] t) => pre609 t (by
                      refine XS.ifYes X528.here hx rfl (pc0 := 431) (pc' := 443) rfl (hb hby at_431) rfl ((if0 _ _).trans (teq hc431).1) (by decide) (by decide) ?_
                      refine XS.iconst X528.here hx rfl (hb hby at_443) ?_
                      refine XS.istore X528.here hx rfl (hb hby at_444) rfl (l' := #[vi x1, vi x2, vi x3, vi x4, vi x5, vi x6, vi (x1 &&& (3 : Int32)), vi up_443, vi ca, vi cz, vi cx, vi cy, vi cr, vr sx_453, vi (own_b (own_pr x1)), vi (own_b (own_pr x1)), vi (own_b (own_yj cy)), vi (own_b (own_za cz)), vi (own_b (own_pr x1 ∧ (32 : Int32) < ca)), vi (0 : Int32)]) rfl ?_
                      exact kt)
                    exact ⟨(own_b (own_pr x1)), (own_b (own_pr x1)), (own_b (own_yj cy)), (own_b (own_za cz)), (own_b (own_pr x1 ∧ (32 : Int32) < ca)), (0 : Int32), T528, _, X528, e528, N528, (own_bf (fun q => q.2.2.2.elim (fun w => hc409 w.1) (fun w => hq610 w.2.2.1))).symm, pre611⟩
                  · skip
                    have hq612 : own_za cz := own_b_of hc431
                    have pre613 := fun t (kt : SF p e below T528 m 436 #[vi x1, vi x2, vi x3, vi x4, vi x5, vi x6, vi (x1 &&& (3 : Int32)), vi up_443, vi ca, vi cz, vi cx, vi cy, vi cr, vr sx_453, vi (own_b (own_pr x1)), vi (own_b (own_pr x1)), vi (own_b (own_yj cy)), vi (own_b (own_za cz)), vi (own_b (own_pr x1 ∧ (32 : Int32) < ca)), un] [(.int (own_b (own_pr x1 ∧ (32 : Int32) < ca)))] t) => pre609 t (by
                      refine XS.ifNo X528.here hx rfl (hb hby at_431) rfl ((if0 _ _).trans (feq hc431).1) ?_
                      refine XS.iload X528.here hx rfl (hb hby at_434) rfl ?_
                      exact kt)
                    by_cases hc436 : (own_b (own_pr x1 ∧ (32 : Int32) < ca)) = (0 : Int32)
                    · skip
                      have hq614 : ¬ (own_pr x1 ∧ (32 : Int32) < ca) := own_b_not hc436
                      have pre615 := fun t (kt : SF p e below T528 m 446 #[vi x1, vi x2, vi x3, vi x4, vi x5, vi x6, vi (x1 &&& (3 : Int32)), vi up_443, vi ca, vi cz, vi cx, vi cy, vi cr, vr sx_453, vi (own_b (own_pr x1)), vi (own_b (own_pr x1)), vi (own_b (own_yj cy)), vi (own_b (own_za cz)), vi (own_b (own_pr x1 ∧ (32 : Int32) < ca)), vi (1 : Int32)] [] t) => pre613 t (by
                        refine XS.ifNo X528.here hx rfl (hb hby at_436) rfl ((if0 _ _).trans (teq hc436).2) ?_
                        refine XS.iconst X528.here hx rfl (hb hby at_439) ?_
                        refine XS.goto X528.here hx rfl (pc0 := 440) (pc' := 444) rfl (hb hby at_440) (by decide) (by decide) ?_
                        refine XS.istore X528.here hx rfl (hb hby at_444) rfl (l' := #[vi x1, vi x2, vi x3, vi x4, vi x5, vi x6, vi (x1 &&& (3 : Int32)), vi up_443, vi ca, vi cz, vi cx, vi cy, vi cr, vr sx_453, vi (own_b (own_pr x1)), vi (own_b (own_pr x1)), vi (own_b (own_yj cy)), vi (own_b (own_za cz)), vi (own_b (own_pr x1 ∧ (32 : Int32) < ca)), vi (1 : Int32)]) rfl ?_
                        exact kt)
                      exact ⟨(own_b (own_pr x1)), (own_b (own_pr x1)), (own_b (own_yj cy)), (own_b (own_za cz)), (own_b (own_pr x1 ∧ (32 : Int32) < ca)), (1 : Int32), T528, _, X528, e528, N528, (own_bt ⟨fun q => hc358 q.2, hc371, fun q => hc389 q.2.1, Or.inr ⟨hc421, hq608, hq612, hq614⟩⟩).symm, pre615⟩
                    · skip
                      have hq616 : own_pr x1 ∧ (32 : Int32) < ca := own_b_of hc436
                      have pre617 := fun t (kt : SF p e below T528 m 446 #[vi x1, vi x2, vi x3, vi x4, vi x5, vi x6, vi (x1 &&& (3 : Int32)), vi up_443, vi ca, vi cz, vi cx, vi cy, vi cr, vr sx_453, vi (own_b (own_pr x1)), vi (own_b (own_pr x1)), vi (own_b (own_yj cy)), vi (own_b (own_za cz)), vi (own_b (own_pr x1 ∧ (32 : Int32) < ca)), vi (0 : Int32)] [] t) => pre613 t (by
                        refine XS.ifYes X528.here hx rfl (pc0 := 436) (pc' := 443) rfl (hb hby at_436) rfl ((if0 _ _).trans (feq hc436).2) (by decide) (by decide) ?_
                        refine XS.iconst X528.here hx rfl (hb hby at_443) ?_
                        refine XS.istore X528.here hx rfl (hb hby at_444) rfl (l' := #[vi x1, vi x2, vi x3, vi x4, vi x5, vi x6, vi (x1 &&& (3 : Int32)), vi up_443, vi ca, vi cz, vi cx, vi cy, vi cr, vr sx_453, vi (own_b (own_pr x1)), vi (own_b (own_pr x1)), vi (own_b (own_yj cy)), vi (own_b (own_za cz)), vi (own_b (own_pr x1 ∧ (32 : Int32) < ca)), vi (0 : Int32)]) rfl ?_
                        exact kt)
                      exact ⟨(own_b (own_pr x1)), (own_b (own_pr x1)), (own_b (own_yj cy)), (own_b (own_za cz)), (own_b (own_pr x1 ∧ (32 : Int32) < ca)), (0 : Int32), T528, _, X528, e528, N528, (own_bf (fun q => q.2.2.2.elim (fun w => hc409 w.1) (fun w => w.2.2.2 hq616))).symm, pre617⟩
              · skip
                have pre618 := fun t (kt : SF p e below T528 m 446 #[vi x1, vi x2, vi x3, vi x4, vi x5, vi x6, vi (x1 &&& (3 : Int32)), vi up_443, vi ca, vi cz, vi cx, vi cy, vi cr, vr sx_453, vi (own_b (own_pr x1)), vi (own_b (own_pr x1)), vi (own_b (own_yj cy)), vi (own_b (own_za cz)), vi (own_b (own_pr x1 ∧ (32 : Int32) < ca)), vi (0 : Int32)] [] t) => pre604 t (by
                  refine XS.icmpYes X528.here hx rfl (pc0 := 421) (pc' := 443) rfl (hb hby at_421) rfl (feq hc421).2 (by decide) (by decide) ?_
                  refine XS.iconst X528.here hx rfl (hb hby at_443) ?_
                  refine XS.istore X528.here hx rfl (hb hby at_444) rfl (l' := #[vi x1, vi x2, vi x3, vi x4, vi x5, vi x6, vi (x1 &&& (3 : Int32)), vi up_443, vi ca, vi cz, vi cx, vi cy, vi cr, vr sx_453, vi (own_b (own_pr x1)), vi (own_b (own_pr x1)), vi (own_b (own_yj cy)), vi (own_b (own_za cz)), vi (own_b (own_pr x1 ∧ (32 : Int32) < ca)), vi (0 : Int32)]) rfl ?_
                  exact kt)
                exact ⟨(own_b (own_pr x1)), (own_b (own_pr x1)), (own_b (own_yj cy)), (own_b (own_za cz)), (own_b (own_pr x1 ∧ (32 : Int32) < ca)), (0 : Int32), T528, _, X528, e528, N528, (own_bf (fun q => q.2.2.2.elim (fun w => hc409 w.1) (fun w => hc421 w.1))).symm, pre618⟩
  have F619 : Fld Z h453 st_ROOT "java/util/Locale" "baseLocale" "Lsun/util/locale/BaseLocale;" (.ref st_ROOT_baseLocale) := (FZ_st_ROOT_baseLocale.ext O453.2)
  have F620 : Fld Z h453 st_ROOT_baseLocale "sun/util/locale/BaseLocale" "language" "Ljava/lang/String;" (.ref st_ROOT_baseLocale_language) := (FZ_st_ROOT_baseLocale_language.ext O453.2)
  have F621 : Fld Z h453 st_ROOT_baseLocale_language "java/lang/String" "value" "[B" (.ref st_ROOT_baseLocale_language_value) := (FZ_st_ROOT_baseLocale_language_value.ext O453.2)
  have C622 : Exa Z h453 st_ROOT "java/util/Locale" := (EZ_st_ROOT.ext O453.2)
  have C623 : Exa Z h453 st_ROOT_baseLocale "sun/util/locale/BaseLocale" := (EZ_st_ROOT_baseLocale.ext O453.2)
  have V624 : Arv Z h453 st_ROOT_baseLocale_language_value k_st_ROOT_baseLocale_language_value .byte (0 : Int32) [] (.int (0 : Int32)) := (VZ_st_ROOT_baseLocale_language_value.ext O453.2)
  have C625 : Exa Z h453 st_instance "java/lang/CharacterDataLatin1" := (EZ_st_instance.ext O453.2)
  obtain ⟨_, _, ⟨T626, L626, k626, n626⟩, -, X626, hS626, hg626, ⟨Lc626, hQ626, l626, y626, z626, R626⟩, st626⟩ := callSS X537 hx (y := (⟨"com/example/prueba/prueba/MediaTypes", "isJson", "(Ljava/lang/String;)Z"⟩ : MethodName)) howna (mvT hZa (own_wd hw 37 rfl)) (mvT hZa (own_wd hw 38 rfl)) (mvT hZa (own_wd hw 39 rfl)) (mvT hZa (own_wd hw 40 rfl)) (by decide) (backOfSH (s := s) (vm0 := s.vm) (W := 0) (rm9 l Z a0 hw [] sx_453 stv_453 skb_453 sf_453 sn_453 st_ROOT_baseLocale st_ROOT_baseLocale_language st_ROOT_baseLocale_language_value k_st_ROOT_baseLocale_language_value st_instance st_ROOT st_COMPACT_STRINGS st_fm h453 n0 Z453 O453 J453_2 J453_3 J453_4 J453_5 (fun j _ => J453_7 j) (by omega) S_ROOT C622 F619 C623 F620 F621 V624 S_instance C625 S_COMPACT_STRINGS hcomp S_fm hfm) hZa (own_wd hw 40 rfl) (own_wd hw 39 rfl) (by decide) (by decide) (own_EW hw) CH453) (g := (mkF m 448 #[vi x1, vi x2, vi x3, vi x4, vi x5, vi x6, vi (x1 &&& (3 : Int32)), vi up_443, vi ca, vi cz, vi cx, vi cy, vi cr, vr sx_453, vi j14_537, vi j15_537, vi j16_537, vi j17_537, vi j18_537, vi j19_537] [(.ref sx_453)])) rfl (by rw [hml]; rfl) (argsL := [(.ref sx_453)]) (rest := []) (lenOf pd_23 rfl) rfl (by show 2 * 0 + _ ≤ _; exact Nat.le_of_eq rfl) (hb hby at_448) (fun _ _ => ⟨rfl, e537, (by decide : 3 + 16 ≤ _), (by decide : 52 + 212 ≤ _)⟩)
  dsimp only [Pt.U, Pt.locs, Pt.cells, Pt.slots] at X626 l626 y626 z626 st626 hQ626 hS626 hg626 R626
  subst y626 z626
  obtain ⟨X626, hS626, hZ626, hown626⟩ := rebS hS0 (Nat.le_trans hk0 KK453.1) X626 hS626 (by rw [← e537]; exact hg626) hZa howna
  obtain ⟨rr_626, ka_626, ua_626, ub_626, rfl, N626q, KK626, Q626_0, Q626_1⟩ := hQ626
  have N626 : Fr n0 L626 := by rw [l626]; exact Fr.app N537 N626q
  have O626 : Old Z n0 T626.heap := O453.keep KK626 all0
  have Z626 : n0 ≤ T626.heap.size := Nat.le_trans Z453 KK626.1
  have K626 : Keep h0 T626.heap [] := K453.trans KK626 all0
  have CH626 : CHv Z own_EL T626.vm T626.heap := R626.1
  have CR626 : CHr Z own_EL s.vm h0 T626.vm T626.heap := CR453.trans R626
  have pre627 := fun t (kt : SF p e below T626 m 451 #[vi x1, vi x2, vi x3, vi x4, vi x5, vi x6, vi (x1 &&& (3 : Int32)), vi up_443, vi ca, vi cz, vi cx, vi cy, vi cr, vr sx_453, vi j14_537, vi j15_537, vi j16_537, vi j17_537, vi j18_537, vi j19_537] [(.int rr_626)] t) => pre536 t (by
    refine k537 _ ?_
    refine XS.aload X537.here hx rfl (hb hby at_446) rfl rfl ?_
    show SF p e below T537 m 448 #[vi x1, vi x2, vi x3, vi x4, vi x5, vi x6, vi (x1 &&& (3 : Int32)), vi up_443, vi ca, vi cz, vi cx, vi cy, vi cr, vr sx_453, vi j14_537, vi j15_537, vi j16_537, vi j17_537, vi j18_537, vi j19_537] [(.ref sx_453)] _
    refine st626.trans ?_
    exact kt)
  rcases Q626_1 with ⟨hr, hE⟩ | ⟨hr, hE⟩
  · skip
    subst hr
    obtain ⟨fs, hr, hrun, hended, hW, hsame⟩ := X626.leave (v := some (.int (1 : Int32))) (fun h => by rw [Bd.returns] at h; cases h)
    have hend := hS626.ended hW (show _ ≤ T626.heap.size from (Nat.le_refl _)) hsame
    have hcr : CHr Z own_EL s.vm s.heap T626.vm T626.heap := by
      rw [hh]
      exact CR626.trans (CHv.at X626 hZ626 (own_EW hw) CH626)
    refine ⟨_, _, pre627 _ ?_, hrun, hended, _, _, rfl, ?_, hcr, ⟨_, rfl⟩, hend.1, hend.2.1, hend.2.2.mono (by decide) (by decide)⟩
    · show SF p e below T626 m 451 #[vi x1, vi x2, vi x3, vi x4, vi x5, vi x6, vi (x1 &&& (3 : Int32)), vi up_443, vi ca, vi cz, vi cx, vi cy, vi cr, vr sx_453, vi j14_537, vi j15_537, vi j16_537, vi j17_537, vi j18_537, vi j19_537] [(.int (1 : Int32))] _
      refine XS.iload X626.here hx rfl (hb hby at_451) rfl ?_
      refine XS.icmpNo X626.here hx rfl (hb hby at_453) rfl (teq ((own_bt ((J453_8 _ _ _ Q626_0).mp hE)).symm.trans J537_0.symm)).2 ?_
      refine XS.iconst X626.here hx rfl (hb hby at_456) ?_
      refine XS.goto X626.here hx rfl (pc0 := 457) (pc' := 461) rfl (hb hby at_457) (by decide) (by decide) ?_
      show SF p e below T626 m 461 _ [(.int (1 : Int32))] _
      exact retN X626 hx (t := .boolean) Bd.returns (by simp) (hb hby at_461) hr
    · show Q0 Z x1 x2 x3 x4 x5 x6 st_ROOT st_ROOT_baseLocale st_ROOT_baseLocale_language st_ROOT_baseLocale_language_value k_st_ROOT_baseLocale_language_value st_instance st_COMPACT_STRINGS st_fm h0 n0 _ T626.heap _
      exact ⟨rfl, N626, K626⟩
  · skip
    subst hr
    obtain ⟨fs, hr, hrun, hended, hW, hsame⟩ := X626.leave (v := some (.int (1 : Int32))) (fun h => by rw [Bd.returns] at h; cases h)
    have hend := hS626.ended hW (show _ ≤ T626.heap.size from (Nat.le_refl _)) hsame
    have hcr : CHr Z own_EL s.vm s.heap T626.vm T626.heap := by
      rw [hh]
      exact CR626.trans (CHv.at X626 hZ626 (own_EW hw) CH626)
    refine ⟨_, _, pre627 _ ?_, hrun, hended, _, _, rfl, ?_, hcr, ⟨_, rfl⟩, hend.1, hend.2.1, hend.2.2.mono (by decide) (by decide)⟩
    · show SF p e below T626 m 451 #[vi x1, vi x2, vi x3, vi x4, vi x5, vi x6, vi (x1 &&& (3 : Int32)), vi up_443, vi ca, vi cz, vi cx, vi cy, vi cr, vr sx_453, vi j14_537, vi j15_537, vi j16_537, vi j17_537, vi j18_537, vi j19_537] [(.int (0 : Int32))] _
      refine XS.iload X626.here hx rfl (hb hby at_451) rfl ?_
      refine XS.icmpNo X626.here hx rfl (hb hby at_453) rfl (teq ((own_bf (fun q => hE ((J453_8 _ _ _ Q626_0).mpr q))).symm.trans J537_0.symm)).2 ?_
      refine XS.iconst X626.here hx rfl (hb hby at_456) ?_
      refine XS.goto X626.here hx rfl (pc0 := 457) (pc' := 461) rfl (hb hby at_457) (by decide) (by decide) ?_
      show SF p e below T626 m 461 _ [(.int (1 : Int32))] _
      exact retN X626 hx (t := .boolean) Bd.returns (by simp) (hb hby at_461) hr
    · show Q0 Z x1 x2 x3 x4 x5 x6 st_ROOT st_ROOT_baseLocale st_ROOT_baseLocale_language st_ROOT_baseLocale_language_value k_st_ROOT_baseLocale_language_value st_instance st_COMPACT_STRINGS st_fm h0 n0 _ T626.heap _
      exact ⟨rfl, N626, K626⟩
set_option maxRecDepth 65536 in
set_option maxHeartbeats 40000000 in
theorem comes_1 {Post : Tables → Env → Array Value → State → Outcome → State → Prop} (hpost : ∀ tb e args s v u, (limb_1_1.after args s (.returned v) u = true ∧ limb_1_2.after args s (.returned v) u = true ∧ True) → ReturnedEndW s (.returned v) u (Jvm.fieldLocs frame_1_writes args s ++ Jvm.arrayLocs frame_1_arrays args s ++ Jvm.staticLocs frame_1_statics s) 40 6464 → Post tb e args s (.returned v) u) :
    ArmFor flags0 classFile x code maxLocals ret World_1 tables_1 room_1 Calls_1 rest_1 Pre_1 Post := by
  intro l hfl _ _ p e ha hc hk s m args below hf hA hF happ hP
  obtain ⟨hcalls, hrest, hpre⟩ := hP
  obtain ⟨-, -, -, hnamed, -, -, -, hat⟩ := (Spec.applies_iff hf).mp happ
  obtain ⟨hg, hn⟩ := and_e (Cond.before_iff.mp (show (Jvm.Cond.and given_1 narrow_1).before args s = true from hpre))
  obtain ⟨gg1, gg2⟩ := and_e hg
  obtain ⟨gg3, gg4⟩ := and_e gg2
  obtain ⟨gg5, gg6⟩ := and_e gg4
  obtain ⟨gg7, gg8⟩ := and_e gg6
  obtain ⟨gg9, gg10⟩ := and_e gg8
  obtain ⟨gg11, gg12⟩ := and_e gg10
  obtain ⟨w0, w1, w2, w3, w4, w5, rfl⟩ : ∃ w0 w1 w2 w3 w4 w5 : Value, args = #[w0, w1, w2, w3, w4, w5] := by
    have hs : args.size = 6 := by simpa [Cond.value, given_1] using gg1
    obtain ⟨L⟩ := args
    match L, hs with
    | [w0, w1, w2, w3, w4, w5], _ => exact ⟨w0, w1, w2, w3, w4, w5, rfl⟩
  have hw := fun d (hd : d ∈ tables_1) => atoms_spec (ws := Jvm.Cond.code x code maxLocals ret :: tables_1) hat d (List.mem_cons_of_mem _ hd)
  have hfit : Fit s := fun {y c} hc i hi => by
    obtain ⟨ha, rfl⟩ := Array.getElem?_eq_some_iff.mp hc
    have q := List.all_eq_true.mp ((Array.all_eq_true_iff_forall_mem.mp hF) _ (Array.getElem_mem ha)) i (List.mem_range.mpr hi)
    simpa [Array.getElem?_eq_getElem hi] using q
  obtain ⟨hsets, hown0⟩ := atoms_of _ (rest_1_c_eq ▸ (show rest_1_c.before _ s = true from hrest))
  have hr0 := Cond.before_iff.mp hown0
  obtain ⟨i0, ei0⟩ := is_v gg3
  obtain rfl : w0 = (.int i0) := Option.some.inj ei0
  obtain ⟨i1, ei1⟩ := is_v gg5
  obtain rfl : w1 = (.int i1) := Option.some.inj ei1
  obtain ⟨i2, ei2⟩ := is_v gg7
  obtain rfl : w2 = (.int i2) := Option.some.inj ei2
  obtain ⟨i3, ei3⟩ := is_v gg9
  obtain rfl : w3 = (.int i3) := Option.some.inj ei3
  obtain ⟨i4, ei4⟩ := is_v gg11
  obtain rfl : w4 = (.int i4) := Option.some.inj ei4
  obtain ⟨i5, ei5⟩ := is_v gg12
  obtain rfl : w5 = (.int i5) := Option.some.inj ei5
  obtain ⟨st_COMPACT_STRINGS, ev_comp⟩ := is_v (Cond.before_iff.mp (hsets _ (List.mem_of_getElem? (i := 1) rfl)))
  have S_COMPACT_STRINGS : Sta s s.heap "java/lang/String" "COMPACT_STRINGS" "Z" (.int st_COMPACT_STRINGS) := Sta.start ev_comp (Or.inl (hsets _ (List.mem_of_getElem? (i := 0) rfl)))
  have hcomp : ¬ (st_COMPACT_STRINGS = (0 : Int32)) := gotF (Cond.eq_ints ev_comp (Term.int_eval 0)) (not_v (Cond.before_iff.mp (hsets _ (List.mem_of_getElem? (i := 2) rfl))))
  obtain ⟨st_fm, ev_fm, hfm⟩ := isR_v (Cond.before_iff.mp (hsets _ (List.mem_of_getElem? (i := 8) rfl)))
  have S_fm : Sta s s.heap "jdk/internal/util/Preconditions" "SIOOBE_FORMATTER" "Ljava/util/function/BiFunction;" st_fm := Sta.start ev_fm (Or.inl (hsets _ (List.mem_of_getElem? (i := 7) rfl)))
  obtain ⟨st_ROOT, ev_st_ROOT⟩ := exa_v (Cond.before_iff.mp (hsets _ (List.mem_of_getElem? (i := 11) rfl)))
  have S_ROOT : Sta s s.heap "java/util/Locale" "ROOT" "Ljava/util/Locale;" (.ref st_ROOT) := Sta.start ev_st_ROOT (Or.inl (hsets _ (List.mem_of_getElem? (i := 10) rfl)))
  have EZ_st_ROOT : Exa s s.heap st_ROOT "java/util/Locale" := Exa.start ev_st_ROOT (Cond.before_iff.mp (hsets _ (List.mem_of_getElem? (i := 11) rfl)))
  obtain ⟨st_ROOT_baseLocale, ev_st_ROOT_baseLocale⟩ := exa_v (Cond.before_iff.mp (hsets _ (List.mem_of_getElem? (i := 12) rfl)))
  have FZ_st_ROOT_baseLocale : Fld s s.heap st_ROOT "java/util/Locale" "baseLocale" "Lsun/util/locale/BaseLocale;" (.ref st_ROOT_baseLocale) := Fld.start ((fld_at ev_st_ROOT).symm.trans ev_st_ROOT_baseLocale)
  have EZ_st_ROOT_baseLocale : Exa s s.heap st_ROOT_baseLocale "sun/util/locale/BaseLocale" := Exa.start ev_st_ROOT_baseLocale (Cond.before_iff.mp (hsets _ (List.mem_of_getElem? (i := 12) rfl)))
  obtain ⟨st_ROOT_baseLocale_language, ev_st_ROOT_baseLocale_language⟩ := exa_v (Cond.before_iff.mp (hsets _ (List.mem_of_getElem? (i := 13) rfl)))
  have FZ_st_ROOT_baseLocale_language : Fld s s.heap st_ROOT_baseLocale "sun/util/locale/BaseLocale" "language" "Ljava/lang/String;" (.ref st_ROOT_baseLocale_language) := Fld.start ((fld_at ev_st_ROOT_baseLocale).symm.trans ev_st_ROOT_baseLocale_language)
  have EZ_st_ROOT_baseLocale_language : Exa s s.heap st_ROOT_baseLocale_language "java/lang/String" := Exa.start ev_st_ROOT_baseLocale_language (Cond.before_iff.mp (hsets _ (List.mem_of_getElem? (i := 13) rfl)))
  have FZ_st_ROOT_baseLocale_language_coder : Fld s s.heap st_ROOT_baseLocale_language "java/lang/String" "coder" "B" (.int (0 : Int32)) := Fld.start ((fld_at ev_st_ROOT_baseLocale_language).symm.trans (own_eqI (Cond.before_iff.mp (hsets _ (List.mem_of_getElem? (i := 14) rfl)))))
  obtain ⟨st_ROOT_baseLocale_language_value, ev_st_ROOT_baseLocale_language_value⟩ := arr_v (Cond.before_iff.mp (hsets _ (List.mem_of_getElem? (i := 15) rfl)))
  have FZ_st_ROOT_baseLocale_language_value : Fld s s.heap st_ROOT_baseLocale_language "java/lang/String" "value" "[B" (.ref st_ROOT_baseLocale_language_value) := Fld.start ((fld_at ev_st_ROOT_baseLocale_language).symm.trans ev_st_ROOT_baseLocale_language_value)
  obtain ⟨cl_st_ROOT_baseLocale_language_value, Ar_st_ROOT_baseLocale_language_value⟩ := Arr.start ev_st_ROOT_baseLocale_language_value (Cond.before_iff.mp (hsets _ (List.mem_of_getElem? (i := 15) rfl)))
  have EZ_st_ROOT_baseLocale_language_value : Exa s s.heap st_ROOT_baseLocale_language_value "[B" := Exa.start ev_st_ROOT_baseLocale_language_value (Cond.before_iff.mp (hsets _ (List.mem_of_getElem? (i := 16) rfl)))
  obtain ⟨ln_st_ROOT_baseLocale_language_value, lz_st_ROOT_baseLocale_language_value⟩ := own_len ev_st_ROOT_baseLocale_language_value Ar_st_ROOT_baseLocale_language_value (own_eqI (Cond.before_iff.mp (hsets _ (List.mem_of_getElem? (i := 17) rfl))))
  obtain ⟨st_instance, ev_st_instance⟩ := exa_v (Cond.before_iff.mp (hsets _ (List.mem_of_getElem? (i := 20) rfl)))
  have S_instance : Sta s s.heap "java/lang/CharacterDataLatin1" "instance" "Ljava/lang/CharacterDataLatin1;" (.ref st_instance) := Sta.start ev_st_instance (Or.inl (hsets _ (List.mem_of_getElem? (i := 19) rfl)))
  have EZ_st_instance : Exa s s.heap st_instance "java/lang/CharacterDataLatin1" := Exa.start ev_st_instance (Cond.before_iff.mp (hsets _ (List.mem_of_getElem? (i := 20) rfl)))
  have VZ_st_ROOT_baseLocale_language_value : Arv s s.heap st_ROOT_baseLocale_language_value cl_st_ROOT_baseLocale_language_value.cls .byte (0 : Int32) [] (.int (0 : Int32)) := Arv.start hfit Ar_st_ROOT_baseLocale_language_value ln_st_ROOT_baseLocale_language_value lz_st_ROOT_baseLocale_language_value (by decide) (show (0 : Int32).toNatClampNeg = 0 by decide) trivial
  have hch : CHv s own_EL s.vm s.heap := CHv.start (own_EW hw) (fun p hp => hcalls.1 p hp) (hsets _ (List.mem_of_getElem? (i := 2) rfl)) (own_wd hw 26 rfl) (own_wd hw 9 rfl)
  obtain ⟨n, o, h1, h2, h3, _, L, rfl, ⟨rfl, N, -⟩, -, hq⟩ := rm0 l s _ hw tables_1 i0 i1 i2 i3 i4 i5 st_ROOT st_ROOT_baseLocale st_ROOT_baseLocale_language st_ROOT_baseLocale_language_value cl_st_ROOT_baseLocale_language_value.cls st_instance st_COMPACT_STRINGS st_fm s.heap s.heap.size (Nat.le_refl _) (Old.start s) S_ROOT EZ_st_ROOT FZ_st_ROOT_baseLocale EZ_st_ROOT_baseLocale FZ_st_ROOT_baseLocale_language FZ_st_ROOT_baseLocale_language_value VZ_st_ROOT_baseLocale_language_value S_instance EZ_st_instance S_COMPACT_STRINGS hcomp S_fm hfm p e ha hc hk s m _ below hf ((Spec.applies_iff_loose hf).mp happ).1 ⟨rfl, State.Warmed39.refl s, rfl, hch⟩ trivial
  refine ⟨n, _, h1, h2, h3, hpost _ _ _ _ _ _ ⟨Cond.after_iff.mpr rfl, Cond.after_iff.mpr (eq_i res_at (Term.int_eval (1)) rfl), trivial⟩ ⟨hq.1, hq.2.1, hq.2.2.1, (hq.2.2.2.sift fun y hy => Or.inr (N y hy)).mono (by decide) (by decide)⟩⟩
theorem main_1_1 : Claimed_1_1 := comes_1 fun _ _ _ _ _ _ h hF => ⟨h.1, hF⟩
theorem main_1_2 : Claimed_1_2 := comes_1 fun _ _ _ _ _ _ h hF => ⟨h.2.1, hF⟩
end Jvm.Pilot.@@N@@
namespace Jvm.Pilot.@@N@@
open Jvm Jvm.ClassFile Sem Op Lib Jvm.Free Jvm.Stand Jvm.Pilot.@@N@@.Jvm.D
/-! MADE BY PROGRAM (witnessworld.py) out of the Statement's table words and the real class files: 27 classes; the members and pool entries that the words name. The judged class is class 1, her method 4. -/
namespace start1
open Jvm.ClassFile
def u (s : String) : CpInfo := .utf8 (stringToUtf16 s)
/-- a pool by its gaps: so many unusable entries, then the entry; so many at the end -/
def gap : Nat → List CpInfo → List CpInfo
  | 0, r => r
  | n + 1, r => .unusable :: gap n r
def poolList (es : List (Nat × CpInfo)) (last : Nat) : List CpInfo := es.foldr (fun e r => gap e.1 (e.2 :: r)) (gap last [])
def pool (es : List (Nat × CpInfo)) (last : Nat) : Array CpInfo := ⟨poolList es last⟩
def fileOf (pool : Array CpInfo) (this : Nat) (attrs : Array Attribute := #[]) (ms : Array MethodInfo := #[]) (fl : Nat := 33) (sup : Nat := 0) (ifs : Array Nat := #[]) (fds : Array FieldInfo := #[]) : ClassFile where
  minorVersion := 0
  majorVersion := 65
  constantPool := pool
  accessFlags := fl
  thisClass := this
  superClass := sup
  interfaces := ifs
  fields := fds
  methods := ms
  attributes := attrs
def plain (name : String) (sup : Option ClassId) : Class where
  name := name
  kind := .ordinary
  loader := none
  accessFlags := 33
  super := sup
  interfaces := #[]
  cf := none
  fields := #[]
  methods := #[]
  instanceTypes := #[]
  staticTypes := #[]
  resolved := #[]
  callSites := []
  init := .initialized
  statics := none
  mirror := none

def pool0 : Array CpInfo := pool [(5, u "<init>"), (0, u "()V"), (1, .class_ 10), (1, u "java/lang/Object")] 113

def k0c0 : Code := { maxStack := 0, maxLocals := 1, code := object_method_1_code, exceptionTable := #[], attributes := #[] }
def k0m0 : Method := { name := "<init>", desc := "()V", sig := { parameters := [], returnType := none }, accessFlags := 1, code := some k0c0 }
/-- java/lang/Object -/
def k0 : Class := { plain "java/lang/Object" none with
  accessFlags := 33
  interfaces := #[]
  cf := some (fileOf pool0 8 #[] #[{ accessFlags := 1, nameIndex := 5, descriptorIndex := 6, attributes := #[] }] 33 0 #[] #[])
  fields := #[]
  methods := #[k0m0]
  instanceTypes := #[]
  staticTypes := #[]
  resolved := Array.replicate 124 none
  statics := none }

def pool1 : Array CpInfo := pool [(2, .class_ 4), (1, u "java/lang/Object"), (0, u "<init>"), (0, u "()V"), (0, .methodref 8 9), (0, .class_ 10), (0, .nameAndType 11 12), (0, u "com/example/prueba/prueba/MediaTypesIsJsonPinLaw"), (0, u "cased"), (0, u "(CZ)C"), (0, .methodref 8 14), (0, .nameAndType 15 16), (0, u "putCore"), (0, u "([CICCCZ)V"), (0, .class_ 18), (0, u "java/lang/String"), (0, .methodref 17 20), (0, .nameAndType 5 21), (0, u "([C)V"), (0, .methodref 8 23), (0, .nameAndType 24 25), (0, u "putTail"), (0, u "([CI)V"), (0, .methodref 27 28), (0, .class_ 29), (0, .nameAndType 30 31), (0, u "com/example/prueba/prueba/MediaTypes"), (0, u "isJson"), (0, u "(Ljava/lang/String;)Z"), (3, u "law"), (0, u "(IIIIII)Z")] 2

def k1m0 : Method := { name := "<init>", desc := "()V", sig := { parameters := [], returnType := none }, accessFlags := 2, code := none }
def k1c1 : Code := { maxStack := 2, maxLocals := 2, code := method_2_code, exceptionTable := #[], attributes := #[] }
def k1m1 : Method := { name := "cased", desc := "(CZ)C", sig := { parameters := [.char, .boolean], returnType := some .char }, accessFlags := 10, code := some k1c1 }
def k1c2 : Code := { maxStack := 4, maxLocals := 6, code := method_3_code, exceptionTable := #[], attributes := #[] }
def k1m2 : Method := { name := "putCore", desc := "([CICCCZ)V", sig := { parameters := [(.array .char), .int, .char, .char, .char, .boolean], returnType := none }, accessFlags := 10, code := some k1c2 }
def k1c3 : Code := { maxStack := 3, maxLocals := 2, code := method_4_code, exceptionTable := #[], attributes := #[] }
def k1m3 : Method := { name := "putTail", desc := "([CI)V", sig := { parameters := [(.array .char), .int], returnType := none }, accessFlags := 10, code := some k1c3 }
def k1c4 : Code := { maxStack := 6, maxLocals := 20, code := code, exceptionTable := #[], attributes := #[] }
def k1m4 : Method := { name := "law", desc := "(IIIIII)Z", sig := { parameters := [.int, .int, .int, .int, .int, .int], returnType := some .boolean }, accessFlags := 9, code := some k1c4 }
/-- com/example/prueba/prueba/MediaTypesIsJsonPinLaw -/
def k1 : Class := { plain "com/example/prueba/prueba/MediaTypesIsJsonPinLaw" (some 0) with
  accessFlags := 49
  interfaces := #[]
  cf := some (fileOf pool1 8 #[] #[{ accessFlags := 2, nameIndex := 5, descriptorIndex := 6, attributes := #[] }, { accessFlags := 10, nameIndex := 11, descriptorIndex := 12, attributes := #[] }, { accessFlags := 10, nameIndex := 15, descriptorIndex := 16, attributes := #[] }, { accessFlags := 10, nameIndex := 24, descriptorIndex := 25, attributes := #[] }, { accessFlags := 9, nameIndex := 35, descriptorIndex := 36, attributes := #[] }] 49 2 #[] #[])
  fields := #[]
  methods := #[k1m0, k1m1, k1m2, k1m3, k1m4]
  instanceTypes := #[]
  staticTypes := #[]
  resolved := Array.replicate 39 none
  statics := none }

def pool2 : Array CpInfo := pool [(1, .class_ 2), (0, u "java/io/Serializable"), (0, .class_ 4), (0, u "java/lang/Object")] 2

/-- java/io/Serializable -/
def k2 : Class := { plain "java/io/Serializable" (some 0) with
  accessFlags := 1537
  interfaces := #[]
  cf := some (fileOf pool2 1 #[] #[] 1537 3 #[] #[])
  fields := #[]
  methods := #[]
  instanceTypes := #[]
  staticTypes := #[]
  resolved := Array.replicate 7 none
  statics := none }

def pool3 : Array CpInfo := pool [(1, .class_ 2), (0, u "java/lang/Comparable"), (0, .class_ 4), (0, u "java/lang/Object")] 7

/-- java/lang/Comparable -/
def k3 : Class := { plain "java/lang/Comparable" (some 0) with
  accessFlags := 1537
  interfaces := #[]
  cf := some (fileOf pool3 1 #[] #[] 1537 3 #[] #[])
  fields := #[]
  methods := #[]
  instanceTypes := #[]
  staticTypes := #[]
  resolved := Array.replicate 12 none
  statics := none }

def pool4 : Array CpInfo := pool [(2, .class_ 4), (1, u "java/lang/CharSequence"), (42, .class_ 48), (0, u "java/lang/CharSequence$1CodePointIterator"), (10, .class_ 60), (0, u "java/lang/CharSequence$1CharIterator"), (5, .class_ 67), (0, u "java/lang/Object")] 63

/-- java/lang/CharSequence -/
def k4 : Class := { plain "java/lang/CharSequence" (some 0) with
  accessFlags := 1537
  interfaces := #[]
  cf := some (fileOf pool4 2 #[.nestMembers #[47, 59]] #[] 1537 66 #[] #[])
  fields := #[]
  methods := #[]
  instanceTypes := #[]
  staticTypes := #[]
  resolved := Array.replicate 131 none
  statics := none }

def pool5 : Array CpInfo := pool [(1, .class_ 2), (0, u "java/lang/constant/Constable"), (0, .class_ 4), (0, u "java/lang/Object")] 6

/-- java/lang/constant/Constable -/
def k5 : Class := { plain "java/lang/constant/Constable" (some 0) with
  accessFlags := 1537
  interfaces := #[]
  cf := some (fileOf pool5 1 #[] #[] 1537 3 #[] #[])
  fields := #[]
  methods := #[]
  instanceTypes := #[]
  staticTypes := #[]
  resolved := Array.replicate 11 none
  statics := none }

def pool6 : Array CpInfo := pool [(1, .class_ 2), (0, u "java/lang/constant/ConstantDesc"), (0, .class_ 4), (0, u "java/lang/Object")] 32

/-- java/lang/constant/ConstantDesc -/
def k6 : Class := { plain "java/lang/constant/ConstantDesc" (some 0) with
  accessFlags := 1537
  interfaces := #[]
  cf := some (fileOf pool6 1 #[] #[] 1537 3 #[] #[])
  fields := #[]
  methods := #[]
  instanceTypes := #[]
  staticTypes := #[]
  resolved := Array.replicate 37 none
  statics := none }

def pool7 : Array CpInfo := pool [(1, .methodref 2 3), (0, .class_ 4), (0, .nameAndType 5 6), (0, u "java/lang/Object"), (0, u "<init>"), (0, u "()V"), (2, .fieldref 10 11), (0, .class_ 12), (0, .nameAndType 13 14), (0, u "java/lang/String"), (0, u "value"), (0, u "[B"), (0, .fieldref 10 16), (0, .nameAndType 17 18), (0, u "coder"), (0, u "B"), (2, u "hash"), (0, u "I"), (2, u "hashIsZero"), (0, u "Z"), (0, .methodref 10 28), (0, .nameAndType 5 29), (0, u "([CIILjava/lang/Void;)V"), (8, .fieldref 10 39), (0, .nameAndType 40 26), (0, u "COMPACT_STRINGS"), (1, .class_ 44), (1, u "java/lang/StringUTF16"), (0, u "compress"), (1, .methodref 42 48), (0, .nameAndType 49 50), (0, u "coderFromArrayLen"), (0, u "([BI)B"), (56, .class_ 109), (1, u "java/lang/StringLatin1"), (32, u "()Z"), (34, .methodref 42 178), (0, .nameAndType 45 179), (0, u "([CII)[B"), (31, u "([BB)V"), (122, u "()I"), (0, .methodref 10 336), (0, .nameAndType 17 337), (0, u "()B"), (38, u "([BI[BII)I"), (87, u "()Ljava/lang/String;"), (27, .methodref 10 493), (0, .nameAndType 494 142), (0, u "isLatin1"), (10, .methodref 10 506), (0, .nameAndType 507 334), (0, u "length"), (5, u "checkFromToIndex"), (7, .methodref 10 522), (0, .nameAndType 523 524), (0, u "checkBoundsBeginEnd"), (0, u "(III)V"), (16, .methodref 107 542), (0, .nameAndType 543 544), (0, u "equals"), (0, u "([B[B)Z"), (14, .class_ 561), (1, u "jdk/internal/util/ArraysSupport"), (0, u "mismatch"), (10, u "(Ljava/lang/Object;)Z"), (1, .class_ 576), (0, u "java/lang/CharSequence"), (22, u "CASE_INSENSITIVE_ORDER"), (0, u "Ljava/util/Comparator;"), (6, .methodref 559 608), (0, .nameAndType 562 376), (15, .methodref 10 625), (0, .nameAndType 626 627), (0, u "startsWith"), (0, u "(Ljava/lang/String;I)Z"), (5, .methodref 10 634), (0, .nameAndType 635 636), (0, u "indexOf"), (0, u "(II)I"), (0, .methodref 107 638), (0, .nameAndType 635 639), (0, u "([BIII)I"), (43, u "substring"), (0, u "(II)Ljava/lang/String;"), (0, .methodref 107 686), (0, .nameAndType 687 688), (0, u "newString"), (0, u "([BII)Ljava/lang/String;"), (76, u "(I)I"), (73, .methodref 107 840), (0, .nameAndType 841 842), (0, u "toLowerCase"), (0, u "(Ljava/lang/String;[BLjava/util/Locale;)Ljava/lang/String;"), (9, u "(Ljava/util/Locale;)Ljava/lang/String;"), (6, .methodref 107 860), (0, .nameAndType 861 862), (0, u "trim"), (0, u "([B)Ljava/lang/String;"), (147, u "([C)V"), (42, .fieldref 1054 1055), (0, .class_ 1056), (0, .nameAndType 1057 1058), (0, u "jdk/internal/util/Preconditions"), (0, u "SIOOBE_FORMATTER"), (0, u "Ljava/util/function/BiFunction;"), (3, .methodref 1054 1063), (0, .nameAndType 513 1064), (0, u "(IIILjava/util/function/BiFunction;)I"), (36, u "serialPersistentFields"), (0, u "[Ljava/io/ObjectStreamField;"), (0, .class_ 1104), (0, u "java/lang/String$CaseInsensitiveComparator"), (1, .class_ 1107), (0, u "java/io/Serializable"), (0, .class_ 1109), (0, u "java/lang/Comparable"), (0, .class_ 1111), (0, u "java/lang/constant/Constable"), (0, .class_ 1113), (0, u "java/lang/constant/ConstantDesc"), (2, u "serialVersionUID"), (0, u "J"), (3, u "REPL"), (0, u "C"), (2, u "LATIN1"), (1, u "UTF16"), (129, u "(Ljava/lang/String;)Z"), (14, u "endsWith")] 178

def k7m0 : Method := { name := "<init>", desc := "()V", sig := { parameters := [], returnType := none }, accessFlags := 1, code := none }
def k7c1 : Code := { maxStack := 5, maxLocals := 2, code := jdk_42_method_3_code, exceptionTable := #[], attributes := #[] }
def k7m1 : Method := { name := "<init>", desc := "([C)V", sig := { parameters := [(.array .char)], returnType := none }, accessFlags := 1, code := some k7c1 }
def k7c2 : Code := { maxStack := 2, maxLocals := 1, code := jdk_42_method_54_code, exceptionTable := #[], attributes := #[] }
def k7m2 : Method := { name := "length", desc := "()I", sig := { parameters := [], returnType := some .int }, accessFlags := 1, code := some k7c2 }
def k7c3 : Code := { maxStack := 2, maxLocals := 3, code := jdk_42_method_66_code, exceptionTable := #[], attributes := #[] }
def k7m3 : Method := { name := "equals", desc := "(Ljava/lang/Object;)Z", sig := { parameters := [(.object "java/lang/Object")], returnType := some .boolean }, accessFlags := 1, code := some k7c3 }
def k7c4 : Code := { maxStack := 5, maxLocals := 8, code := jdk_42_method_75_code, exceptionTable := #[], attributes := #[] }
def k7m4 : Method := { name := "startsWith", desc := "(Ljava/lang/String;I)Z", sig := { parameters := [(.object "java/lang/String"), .int], returnType := some .boolean }, accessFlags := 1, code := some k7c4 }
def k7c5 : Code := { maxStack := 4, maxLocals := 2, code := jdk_42_method_77_code, exceptionTable := #[], attributes := #[] }
def k7m5 : Method := { name := "endsWith", desc := "(Ljava/lang/String;)Z", sig := { parameters := [(.object "java/lang/String")], returnType := some .boolean }, accessFlags := 1, code := some k7c5 }
def k7c6 : Code := { maxStack := 3, maxLocals := 2, code := jdk_42_method_79_code, exceptionTable := #[], attributes := #[] }
def k7m6 : Method := { name := "indexOf", desc := "(I)I", sig := { parameters := [.int], returnType := some .int }, accessFlags := 1, code := some k7c6 }
def k7c7 : Code := { maxStack := 4, maxLocals := 3, code := jdk_42_method_80_code, exceptionTable := #[], attributes := #[] }
def k7m7 : Method := { name := "indexOf", desc := "(II)I", sig := { parameters := [.int, .int], returnType := some .int }, accessFlags := 1, code := some k7c7 }
def k7c8 : Code := { maxStack := 3, maxLocals := 5, code := jdk_42_method_92_code, exceptionTable := #[], attributes := #[] }
def k7m8 : Method := { name := "substring", desc := "(II)Ljava/lang/String;", sig := { parameters := [.int, .int], returnType := some (.object "java/lang/String") }, accessFlags := 1, code := some k7c8 }
def k7c9 : Code := { maxStack := 3, maxLocals := 2, code := jdk_42_method_109_code, exceptionTable := #[], attributes := #[] }
def k7m9 : Method := { name := "toLowerCase", desc := "(Ljava/util/Locale;)Ljava/lang/String;", sig := { parameters := [(.object "java/util/Locale")], returnType := some (.object "java/lang/String") }, accessFlags := 1, code := some k7c9 }
def k7c10 : Code := { maxStack := 1, maxLocals := 2, code := jdk_42_method_113_code, exceptionTable := #[], attributes := #[] }
def k7m10 : Method := { name := "trim", desc := "()Ljava/lang/String;", sig := { parameters := [], returnType := some (.object "java/lang/String") }, accessFlags := 1, code := some k7c10 }
def k7c11 : Code := { maxStack := 4, maxLocals := 6, code := jdk_42_method_149_code, exceptionTable := #[], attributes := #[] }
def k7m11 : Method := { name := "<init>", desc := "([CIILjava/lang/Void;)V", sig := { parameters := [(.array .char), .int, .int, (.object "java/lang/Void")], returnType := none }, accessFlags := 2, code := some k7c11 }
def k7c12 : Code := { maxStack := 2, maxLocals := 3, code := jdk_42_method_151_code, exceptionTable := #[], attributes := #[] }
def k7m12 : Method := { name := "<init>", desc := "([BB)V", sig := { parameters := [(.array .byte), .byte], returnType := none }, accessFlags := 0, code := some k7c12 }
def k7c13 : Code := { maxStack := 1, maxLocals := 1, code := jdk_42_method_152_code, exceptionTable := #[], attributes := #[] }
def k7m13 : Method := { name := "coder", desc := "()B", sig := { parameters := [], returnType := some .byte }, accessFlags := 0, code := some k7c13 }
def k7c14 : Code := { maxStack := 1, maxLocals := 1, code := jdk_42_method_154_code, exceptionTable := #[], attributes := #[] }
def k7m14 : Method := { name := "isLatin1", desc := "()Z", sig := { parameters := [], returnType := some .boolean }, accessFlags := 0, code := some k7c14 }
def k7c15 : Code := { maxStack := 4, maxLocals := 3, code := jdk_42_method_158_code, exceptionTable := #[], attributes := #[] }
def k7m15 : Method := { name := "checkBoundsBeginEnd", desc := "(III)V", sig := { parameters := [.int, .int, .int], returnType := none }, accessFlags := 8, code := some k7c15 }
/-- java/lang/String -/
def k7 : Class := { plain "java/lang/String" (some 0) with
  accessFlags := 49
  interfaces := #[2, 3, 4, 5, 6]
  cf := some (fileOf pool7 10 #[.nestMembers #[1103]] #[{ accessFlags := 1, nameIndex := 5, descriptorIndex := 6, attributes := #[] }, { accessFlags := 1, nameIndex := 5, descriptorIndex := 1010, attributes := #[] }, { accessFlags := 1, nameIndex := 507, descriptorIndex := 334, attributes := #[] }, { accessFlags := 1, nameIndex := 543, descriptorIndex := 573, attributes := #[] }, { accessFlags := 1, nameIndex := 626, descriptorIndex := 627, attributes := #[] }, { accessFlags := 1, nameIndex := 1272, descriptorIndex := 1257, attributes := #[] }, { accessFlags := 1, nameIndex := 635, descriptorIndex := 765, attributes := #[] }, { accessFlags := 1, nameIndex := 635, descriptorIndex := 636, attributes := #[] }, { accessFlags := 1, nameIndex := 683, descriptorIndex := 684, attributes := #[] }, { accessFlags := 1, nameIndex := 841, descriptorIndex := 852, attributes := #[] }, { accessFlags := 1, nameIndex := 861, descriptorIndex := 464, attributes := #[] }, { accessFlags := 2, nameIndex := 5, descriptorIndex := 29, attributes := #[] }, { accessFlags := 0, nameIndex := 5, descriptorIndex := 211, attributes := #[] }, { accessFlags := 0, nameIndex := 17, descriptorIndex := 337, attributes := #[] }, { accessFlags := 0, nameIndex := 494, descriptorIndex := 142, attributes := #[] }, { accessFlags := 8, nameIndex := 523, descriptorIndex := 524, attributes := #[] }] 49 2 #[1106, 1108, 575, 1110, 1112] #[{ accessFlags := 18, nameIndex := 13, descriptorIndex := 14, attributes := #[] }, { accessFlags := 18, nameIndex := 17, descriptorIndex := 18, attributes := #[] }, { accessFlags := 2, nameIndex := 21, descriptorIndex := 22, attributes := #[] }, { accessFlags := 2, nameIndex := 25, descriptorIndex := 26, attributes := #[] }, { accessFlags := 26, nameIndex := 1116, descriptorIndex := 1117, attributes := #[] }, { accessFlags := 24, nameIndex := 40, descriptorIndex := 26, attributes := #[] }, { accessFlags := 26, nameIndex := 1101, descriptorIndex := 1102, attributes := #[] }, { accessFlags := 26, nameIndex := 1121, descriptorIndex := 1122, attributes := #[] }, { accessFlags := 25, nameIndex := 599, descriptorIndex := 600, attributes := #[] }, { accessFlags := 24, nameIndex := 1125, descriptorIndex := 18, attributes := #[] }, { accessFlags := 24, nameIndex := 1127, descriptorIndex := 18, attributes := #[] }])
  fields := #[{ name := "value", type := (.array .byte), accessFlags := 18, slot := 0, constantValue := 0 }, { name := "coder", type := .byte, accessFlags := 18, slot := 1, constantValue := 0 }, { name := "hash", type := .int, accessFlags := 2, slot := 2, constantValue := 0 }, { name := "hashIsZero", type := .boolean, accessFlags := 2, slot := 3, constantValue := 0 }, { name := "serialVersionUID", type := .long, accessFlags := 26, slot := 0, constantValue := 0 }, { name := "COMPACT_STRINGS", type := .boolean, accessFlags := 24, slot := 1, constantValue := 0 }, { name := "serialPersistentFields", type := (.array (.object "java/io/ObjectStreamField")), accessFlags := 26, slot := 2, constantValue := 0 }, { name := "REPL", type := .char, accessFlags := 26, slot := 3, constantValue := 0 }, { name := "CASE_INSENSITIVE_ORDER", type := (.object "java/util/Comparator"), accessFlags := 25, slot := 4, constantValue := 0 }, { name := "LATIN1", type := .byte, accessFlags := 24, slot := 5, constantValue := 0 }, { name := "UTF16", type := .byte, accessFlags := 24, slot := 6, constantValue := 0 }]
  methods := #[k7m0, k7m1, k7m2, k7m3, k7m4, k7m5, k7m6, k7m7, k7m8, k7m9, k7m10, k7m11, k7m12, k7m13, k7m14, k7m15]
  instanceTypes := #[(.array .byte), .byte, .int, .boolean]
  staticTypes := #[.long, .boolean, (.array (.object "java/io/ObjectStreamField")), .char, (.object "java/util/Comparator"), .byte, .byte]
  resolved := Array.replicate 1451 none
  statics := some 0 }

def pool8 : Array CpInfo := pool [(6, .class_ 8), (1, u "java/lang/Object"), (0, u "<init>"), (0, u "()V"), (1, .class_ 14), (1, u "java/lang/StringUTF16"), (31, u "$assertionsDisabled"), (0, u "Z"), (13, u "HI_BYTE_SHIFT"), (0, u "I"), (2, u "LO_BYTE_SHIFT"), (49, .methodref 12 116), (0, .nameAndType 117 118), (0, u "compress"), (0, u "([CI[BII)I"), (3, u "([CII)[B"), (138, u "coderFromArrayLen"), (0, u "([BI)B"), (106, .class_ 371), (1, u "java/lang/StringUTF16$LinesSpliterator"), (58, u "MAX_LENGTH"), (196, .class_ 628), (0, u "java/lang/StringUTF16$CodePointsSpliterator"), (0, .class_ 630), (0, u "java/lang/StringUTF16$CharsSpliterator")] 4

def k8m0 : Method := { name := "<init>", desc := "()V", sig := { parameters := [], returnType := none }, accessFlags := 0, code := none }
def k8c1 : Code := { maxStack := 2, maxLocals := 2, code := jdk_52_method_15_code, exceptionTable := #[], attributes := #[] }
def k8m1 : Method := { name := "coderFromArrayLen", desc := "([BI)B", sig := { parameters := [(.array .byte), .int], returnType := some .byte }, accessFlags := 8, code := some k8c1 }
def k8c2 : Code := { maxStack := 5, maxLocals := 6, code := jdk_52_method_16_code, exceptionTable := #[], attributes := #[] }
def k8m2 : Method := { name := "compress", desc := "([CII)[B", sig := { parameters := [(.array .char), .int, .int], returnType := some (.array .byte) }, accessFlags := 9, code := some k8c2 }
def k8c3 : Code := { maxStack := 3, maxLocals := 7, code := jdk_52_method_21_code, exceptionTable := #[], attributes := #[] }
def k8m3 : Method := { name := "compress", desc := "([CI[BII)I", sig := { parameters := [(.array .char), .int, (.array .byte), .int, .int], returnType := some .int }, accessFlags := 9, code := some k8c3 }
/-- java/lang/StringUTF16 -/
def k8 : Class := { plain "java/lang/StringUTF16" (some 0) with
  accessFlags := 48
  interfaces := #[]
  cf := some (fileOf pool8 12 #[.nestMembers #[627, 629, 369]] #[{ accessFlags := 0, nameIndex := 9, descriptorIndex := 10, attributes := #[] }, { accessFlags := 8, nameIndex := 261, descriptorIndex := 262, attributes := #[] }, { accessFlags := 9, nameIndex := 117, descriptorIndex := 122, attributes := #[] }, { accessFlags := 9, nameIndex := 117, descriptorIndex := 118, attributes := #[] }] 48 6 #[] #[{ accessFlags := 26, nameIndex := 61, descriptorIndex := 62, attributes := #[] }, { accessFlags := 26, nameIndex := 65, descriptorIndex := 62, attributes := #[] }, { accessFlags := 24, nameIndex := 430, descriptorIndex := 62, attributes := #[] }, { accessFlags := 4120, nameIndex := 46, descriptorIndex := 47, attributes := #[] }])
  fields := #[{ name := "HI_BYTE_SHIFT", type := .int, accessFlags := 26, slot := 0, constantValue := 0 }, { name := "LO_BYTE_SHIFT", type := .int, accessFlags := 26, slot := 1, constantValue := 0 }, { name := "MAX_LENGTH", type := .int, accessFlags := 24, slot := 2, constantValue := 0 }, { name := "$assertionsDisabled", type := .boolean, accessFlags := 4120, slot := 3, constantValue := 0 }]
  methods := #[k8m0, k8m1, k8m2, k8m3]
  instanceTypes := #[]
  staticTypes := #[.int, .int, .int, .boolean]
  resolved := Array.replicate 635 none
  statics := none }

def pool9 : Array CpInfo := pool [(2, .class_ 4), (1, u "java/lang/Object"), (0, u "<init>"), (0, u "()V"), (1, .class_ 10), (1, u "com/example/prueba/prueba/MediaTypes"), (0, u "CHARSET"), (0, u "Ljava/util/regex/Pattern;"), (43, .class_ 57), (0, u "java/lang/String"), (11, .methodref 8 70), (0, .nameAndType 71 72), (0, u "mediaType"), (0, u "(Ljava/lang/String;)Ljava/lang/String;"), (0, .string 74), (0, u "application/json"), (0, .methodref 56 76), (0, .nameAndType 77 78), (0, u "equals"), (0, u "(Ljava/lang/Object;)Z"), (0, .string 80), (0, u "+json"), (0, .methodref 56 82), (0, .nameAndType 83 84), (0, u "endsWith"), (0, u "(Ljava/lang/String;)Z"), (0, .methodref 56 86), (0, .nameAndType 87 88), (0, u "indexOf"), (0, u "(I)I"), (0, .methodref 56 90), (0, .nameAndType 91 92), (0, u "substring"), (0, u "(II)Ljava/lang/String;"), (0, .methodref 56 94), (0, .nameAndType 95 96), (0, u "trim"), (0, u "()Ljava/lang/String;"), (0, .fieldref 98 99), (0, .class_ 100), (0, .nameAndType 101 102), (0, u "java/util/Locale"), (0, u "ROOT"), (0, u "Ljava/util/Locale;"), (0, .methodref 56 104), (0, .nameAndType 105 106), (0, u "toLowerCase"), (0, u "(Ljava/util/Locale;)Ljava/lang/String;"), (15, u "isJson")] 3

def k9m0 : Method := { name := "<init>", desc := "()V", sig := { parameters := [], returnType := none }, accessFlags := 2, code := none }
def k9c1 : Code := { maxStack := 2, maxLocals := 2, code := prog_13_method_4_code, exceptionTable := #[], attributes := #[] }
def k9m1 : Method := { name := "isJson", desc := "(Ljava/lang/String;)Z", sig := { parameters := [(.object "java/lang/String")], returnType := some .boolean }, accessFlags := 8, code := some k9c1 }
def k9c2 : Code := { maxStack := 3, maxLocals := 3, code := prog_13_method_5_code, exceptionTable := #[], attributes := #[] }
def k9m2 : Method := { name := "mediaType", desc := "(Ljava/lang/String;)Ljava/lang/String;", sig := { parameters := [(.object "java/lang/String")], returnType := some (.object "java/lang/String") }, accessFlags := 8, code := some k9c2 }
/-- com/example/prueba/prueba/MediaTypes -/
def k9 : Class := { plain "com/example/prueba/prueba/MediaTypes" (some 0) with
  accessFlags := 32
  interfaces := #[]
  cf := some (fileOf pool9 8 #[] #[{ accessFlags := 2, nameIndex := 5, descriptorIndex := 6, attributes := #[] }, { accessFlags := 8, nameIndex := 122, descriptorIndex := 84, attributes := #[] }, { accessFlags := 8, nameIndex := 71, descriptorIndex := 72, attributes := #[] }] 32 2 #[] #[{ accessFlags := 26, nameIndex := 11, descriptorIndex := 12, attributes := #[] }])
  fields := #[{ name := "CHARSET", type := (.object "java/util/regex/Pattern"), accessFlags := 26, slot := 0, constantValue := 0 }]
  methods := #[k9m0, k9m1, k9m2]
  instanceTypes := #[]
  staticTypes := #[(.object "java/util/regex/Pattern")]
  resolved := Array.replicate 126 none
  statics := none }

def pool10 : Array CpInfo := pool [(1, .class_ 2), (0, u "java/lang/String"), (1, .class_ 6), (1, u "java/lang/Object"), (0, u "<init>"), (0, u "()V"), (5, .class_ 16), (1, u "java/lang/StringLatin1"), (11, .methodref 29 30), (0, .class_ 31), (0, .nameAndType 32 33), (0, u "java/lang/System"), (0, u "arraycopy"), (0, u "(Ljava/lang/Object;ILjava/lang/Object;II)V"), (4, .methodref 39 40), (0, .class_ 41), (0, .nameAndType 42 43), (0, u "java/lang/Math"), (0, u "min"), (0, u "(II)I"), (22, .fieldref 67 68), (0, .class_ 69), (0, .nameAndType 70 71), (0, u "java/lang/CharacterDataLatin1"), (0, u "instance"), (0, u "Ljava/lang/CharacterDataLatin1;"), (3, u "(I)I"), (4, u "toLowerCase"), (7, .methodref 14 89), (0, .nameAndType 90 91), (0, u "canEncode"), (0, u "(I)Z"), (0, .methodref 39 93), (0, .nameAndType 94 43), (0, u "max"), (0, .methodref 14 96), (0, .nameAndType 97 98), (0, u "indexOfChar"), (0, u "([BIII)I"), (2, u "indexOf"), (10, .methodref 1 113), (0, .nameAndType 7 114), (0, u "([BB)V"), (6, u "$assertionsDisabled"), (0, u "Z"), (8, .class_ 133), (1, u "java/util/Arrays"), (17, .string 152), (0, u ""), (7, .methodref 67 161), (0, .nameAndType 80 75), (0, .methodref 163 164), (0, .class_ 165), (0, .nameAndType 166 167), (0, u "java/util/Locale"), (0, u "getLanguage"), (0, u "()Ljava/lang/String;"), (0, .string 169), (0, u "tr"), (0, .string 171), (0, u "az"), (0, .string 173), (0, u "lt"), (21, .nameAndType 196 197), (0, u "newString"), (0, u "([BII)Ljava/lang/String;"), (12, .methodref 14 195), (10, .class_ 223), (1, u "java/lang/StringLatin1$LinesSpliterator"), (8, .methodref 131 233), (0, .nameAndType 234 235), (0, u "copyOfRange"), (0, u "([BII)[B"), (45, u "equals"), (0, u "([B[B)Z"), (67, u "(Ljava/lang/String;[BLjava/util/Locale;)Ljava/lang/String;"), (15, u "trim"), (0, u "([B)Ljava/lang/String;"), (22, .class_ 391), (0, u "java/lang/StringLatin1$CharsSpliterator")] 3

def k10m0 : Method := { name := "<init>", desc := "()V", sig := { parameters := [], returnType := none }, accessFlags := 0, code := none }
def k10c1 : Code := { maxStack := 2, maxLocals := 1, code := jdk_43_method_4_code, exceptionTable := #[], attributes := #[] }
def k10m1 : Method := { name := "canEncode", desc := "(I)Z", sig := { parameters := [.int], returnType := some .boolean }, accessFlags := 9, code := some k10c1 }
def k10c2 : Code := { maxStack := 3, maxLocals := 3, code := jdk_43_method_13_code, exceptionTable := #[], attributes := #[] }
def k10m2 : Method := { name := "equals", desc := "([B[B)Z", sig := { parameters := [(.array .byte), (.array .byte)], returnType := some .boolean }, accessFlags := 9, code := some k10c2 }
def k10c3 : Code := { maxStack := 4, maxLocals := 4, code := jdk_43_method_22_code, exceptionTable := #[], attributes := #[] }
def k10m3 : Method := { name := "indexOf", desc := "([BIII)I", sig := { parameters := [(.array .byte), .int, .int, .int], returnType := some .int }, accessFlags := 9, code := some k10c3 }
def k10c4 : Code := { maxStack := 2, maxLocals := 6, code := jdk_43_method_23_code, exceptionTable := #[], attributes := #[] }
def k10m4 : Method := { name := "indexOfChar", desc := "([BIII)I", sig := { parameters := [(.array .byte), .int, .int, .int], returnType := some .int }, accessFlags := 10, code := some k10c4 }
def k10c5 : Code := { maxStack := 5, maxLocals := 9, code := jdk_43_method_32_code, exceptionTable := #[], attributes := #[] }
def k10m5 : Method := { name := "toLowerCase", desc := "(Ljava/lang/String;[BLjava/util/Locale;)Ljava/lang/String;", sig := { parameters := [(.object "java/lang/String"), (.array .byte), (.object "java/util/Locale")], returnType := some (.object "java/lang/String") }, accessFlags := 9, code := some k10c5 }
def k10c6 : Code := { maxStack := 4, maxLocals := 3, code := jdk_43_method_36_code, exceptionTable := #[], attributes := #[] }
def k10m6 : Method := { name := "trim", desc := "([B)Ljava/lang/String;", sig := { parameters := [(.array .byte)], returnType := some (.object "java/lang/String") }, accessFlags := 9, code := some k10c6 }
def k10c7 : Code := { maxStack := 6, maxLocals := 3, code := jdk_43_method_47_code, exceptionTable := #[], attributes := #[] }
def k10m7 : Method := { name := "newString", desc := "([BII)Ljava/lang/String;", sig := { parameters := [(.array .byte), .int, .int], returnType := some (.object "java/lang/String") }, accessFlags := 9, code := some k10c7 }
/-- java/lang/StringLatin1 -/
def k10 : Class := { plain "java/lang/StringLatin1" (some 0) with
  accessFlags := 48
  interfaces := #[]
  cf := some (fileOf pool10 14 #[.nestMembers #[390, 221]] #[{ accessFlags := 0, nameIndex := 7, descriptorIndex := 8, attributes := #[] }, { accessFlags := 9, nameIndex := 90, descriptorIndex := 91, attributes := #[] }, { accessFlags := 9, nameIndex := 281, descriptorIndex := 282, attributes := #[] }, { accessFlags := 9, nameIndex := 101, descriptorIndex := 98, attributes := #[] }, { accessFlags := 10, nameIndex := 97, descriptorIndex := 98, attributes := #[] }, { accessFlags := 9, nameIndex := 80, descriptorIndex := 350, attributes := #[] }, { accessFlags := 9, nameIndex := 366, descriptorIndex := 367, attributes := #[] }, { accessFlags := 9, nameIndex := 196, descriptorIndex := 197, attributes := #[] }] 48 4 #[] #[{ accessFlags := 4120, nameIndex := 121, descriptorIndex := 122, attributes := #[] }])
  fields := #[{ name := "$assertionsDisabled", type := .boolean, accessFlags := 4120, slot := 0, constantValue := 0 }]
  methods := #[k10m0, k10m1, k10m2, k10m3, k10m4, k10m5, k10m6, k10m7]
  instanceTypes := #[]
  staticTypes := #[.boolean]
  resolved := Array.replicate 395 none
  statics := none }

def pool11 : Array CpInfo := pool [(1, .class_ 2), (0, u "java/lang/Math"), (1, .class_ 6), (1, u "java/lang/Object"), (0, u "<init>"), (0, u "()V"), (89, .class_ 100), (1, u "java/lang/Math$RandomNumberGeneratorHolder"), (71, u "negativeZeroFloatBits"), (0, u "J"), (2, u "negativeZeroDoubleBits"), (21, u "max"), (2, u "min"), (43, u "$assertionsDisabled"), (0, u "Z"), (88, u "(II)I"), (2, u "twoToTheDoubleScaleDown"), (0, u "D"), (4, u "twoToTheDoubleScaleUp"), (9, u "E"), (3, u "PI"), (2, u "TAU"), (2, u "DEGREES_TO_RADIANS"), (0, u "RADIANS_TO_DEGREES")] 94

def k11m0 : Method := { name := "<init>", desc := "()V", sig := { parameters := [], returnType := none }, accessFlags := 2, code := none }
def k11c1 : Code := { maxStack := 2, maxLocals := 2, code := jdk_29_method_65_code, exceptionTable := #[], attributes := #[] }
def k11m1 : Method := { name := "max", desc := "(II)I", sig := { parameters := [.int, .int], returnType := some .int }, accessFlags := 9, code := some k11c1 }
def k11c2 : Code := { maxStack := 2, maxLocals := 2, code := jdk_29_method_69_code, exceptionTable := #[], attributes := #[] }
def k11m2 : Method := { name := "min", desc := "(II)I", sig := { parameters := [.int, .int], returnType := some .int }, accessFlags := 9, code := some k11c2 }
/-- java/lang/Math -/
def k11 : Class := { plain "java/lang/Math" (some 0) with
  accessFlags := 49
  interfaces := #[]
  cf := some (fileOf pool11 1 #[.nestMembers #[98]] #[{ accessFlags := 2, nameIndex := 7, descriptorIndex := 8, attributes := #[] }, { accessFlags := 9, nameIndex := 198, descriptorIndex := 335, attributes := #[] }, { accessFlags := 9, nameIndex := 201, descriptorIndex := 335, attributes := #[] }] 49 4 #[] #[{ accessFlags := 25, nameIndex := 354, descriptorIndex := 339, attributes := #[] }, { accessFlags := 25, nameIndex := 358, descriptorIndex := 339, attributes := #[] }, { accessFlags := 25, nameIndex := 361, descriptorIndex := 339, attributes := #[] }, { accessFlags := 26, nameIndex := 364, descriptorIndex := 339, attributes := #[] }, { accessFlags := 26, nameIndex := 365, descriptorIndex := 339, attributes := #[] }, { accessFlags := 26, nameIndex := 172, descriptorIndex := 173, attributes := #[] }, { accessFlags := 26, nameIndex := 176, descriptorIndex := 173, attributes := #[] }, { accessFlags := 8, nameIndex := 344, descriptorIndex := 339, attributes := #[] }, { accessFlags := 8, nameIndex := 338, descriptorIndex := 339, attributes := #[] }, { accessFlags := 4120, nameIndex := 245, descriptorIndex := 246, attributes := #[] }])
  fields := #[{ name := "E", type := .double, accessFlags := 25, slot := 0, constantValue := 0 }, { name := "PI", type := .double, accessFlags := 25, slot := 1, constantValue := 0 }, { name := "TAU", type := .double, accessFlags := 25, slot := 2, constantValue := 0 }, { name := "DEGREES_TO_RADIANS", type := .double, accessFlags := 26, slot := 3, constantValue := 0 }, { name := "RADIANS_TO_DEGREES", type := .double, accessFlags := 26, slot := 4, constantValue := 0 }, { name := "negativeZeroFloatBits", type := .long, accessFlags := 26, slot := 5, constantValue := 0 }, { name := "negativeZeroDoubleBits", type := .long, accessFlags := 26, slot := 6, constantValue := 0 }, { name := "twoToTheDoubleScaleUp", type := .double, accessFlags := 8, slot := 7, constantValue := 0 }, { name := "twoToTheDoubleScaleDown", type := .double, accessFlags := 8, slot := 8, constantValue := 0 }, { name := "$assertionsDisabled", type := .boolean, accessFlags := 4120, slot := 9, constantValue := 0 }]
  methods := #[k11m0, k11m1, k11m2]
  instanceTypes := #[]
  staticTypes := #[.double, .double, .double, .double, .double, .long, .long, .double, .double, .boolean]
  resolved := Array.replicate 460 none
  statics := none }

def pool12 : Array CpInfo := pool [(2, .class_ 4), (1, u "java/lang/Object"), (0, u "<init>"), (0, u "()V"), (7, .class_ 16), (1, u "java/util/Arrays"), (57, .class_ 76), (1, u "java/util/Arrays$NaturalOrder"), (36, .class_ 115), (1, u "java/util/Arrays$LegacyMergeSort"), (1, u "Z"), (21, u "copyOfRange"), (10, .methodref 151 152), (0, .class_ 153), (0, .nameAndType 154 155), (0, u "java/lang/System"), (0, u "arraycopy"), (0, u "(Ljava/lang/Object;ILjava/lang/Object;II)V"), (148, .methodref 305 306), (0, .class_ 307), (0, .nameAndType 308 309), (0, u "java/lang/Math"), (0, u "min"), (0, u "(II)I"), (29, .methodref 14 340), (0, .nameAndType 341 342), (0, u "copyOfRangeByte"), (0, u "([BII)[B"), (0, .methodref 14 344), (0, .nameAndType 345 346), (0, u "checkLength"), (0, u "(II)V"), (28, .class_ 376), (0, u "java/util/Arrays$ArrayList"), (68, u "$assertionsDisabled"), (269, u "MIN_ARRAY_SORT_GRAN"), (0, u "I"), (2, u "INSERTIONSORT_THRESHOLD"), (255, .class_ 976), (0, u "java/util/Arrays$ArrayItr")] 52

def k12m0 : Method := { name := "<init>", desc := "()V", sig := { parameters := [], returnType := none }, accessFlags := 2, code := none }
def k12c1 : Code := { maxStack := 4, maxLocals := 2, code := jdk_65_method_131_code, exceptionTable := #[], attributes := #[] }
def k12m1 : Method := { name := "checkLength", desc := "(II)V", sig := { parameters := [.int, .int], returnType := none }, accessFlags := 10, code := some k12c1 }
def k12c2 : Code := { maxStack := 3, maxLocals := 3, code := jdk_65_method_132_code, exceptionTable := #[], attributes := #[] }
def k12m2 : Method := { name := "copyOfRange", desc := "([BII)[B", sig := { parameters := [(.array .byte), .int, .int], returnType := some (.array .byte) }, accessFlags := 9, code := some k12c2 }
def k12c3 : Code := { maxStack := 6, maxLocals := 5, code := jdk_65_method_133_code, exceptionTable := #[], attributes := #[] }
def k12m3 : Method := { name := "copyOfRangeByte", desc := "([BII)[B", sig := { parameters := [(.array .byte), .int, .int], returnType := some (.array .byte) }, accessFlags := 10, code := some k12c3 }
/-- java/util/Arrays -/
def k12 : Class := { plain "java/util/Arrays" (some 0) with
  accessFlags := 49
  interfaces := #[]
  cf := some (fileOf pool12 14 #[.nestMembers #[975, 375, 113, 74]] #[{ accessFlags := 2, nameIndex := 5, descriptorIndex := 6, attributes := #[] }, { accessFlags := 10, nameIndex := 345, descriptorIndex := 346, attributes := #[] }, { accessFlags := 9, nameIndex := 139, descriptorIndex := 342, attributes := #[] }, { accessFlags := 10, nameIndex := 341, descriptorIndex := 342, attributes := #[] }] 49 2 #[] #[{ accessFlags := 26, nameIndex := 715, descriptorIndex := 716, attributes := #[] }, { accessFlags := 26, nameIndex := 719, descriptorIndex := 716, attributes := #[] }, { accessFlags := 4120, nameIndex := 445, descriptorIndex := 117, attributes := #[] }])
  fields := #[{ name := "MIN_ARRAY_SORT_GRAN", type := .int, accessFlags := 26, slot := 0, constantValue := 0 }, { name := "INSERTIONSORT_THRESHOLD", type := .int, accessFlags := 26, slot := 1, constantValue := 0 }, { name := "$assertionsDisabled", type := .boolean, accessFlags := 4120, slot := 2, constantValue := 0 }]
  methods := #[k12m0, k12m1, k12m2, k12m3]
  instanceTypes := #[]
  staticTypes := #[.int, .int, .boolean]
  resolved := Array.replicate 1029 none
  statics := none }

def pool13 : Array CpInfo := pool [(2, .class_ 4), (1, u "java/lang/Object"), (0, u "<init>"), (0, u "()V"), (1, .class_ 10), (1, u "java/lang/System"), (0, u "allowSecurityManager"), (0, u "I"), (16, u "cons"), (0, u "Ljava/io/Console;"), (77, .class_ 110), (1, u "java/lang/System$CallersHolder"), (43, u "initialErrStream"), (0, u "Ljava/io/PrintStream;"), (19, u "security"), (0, u "Ljava/lang/SecurityManager;"), (31, .class_ 209), (0, u "java/lang/System$1"), (7, u "props"), (0, u "Ljava/util/Properties;"), (2, u "lineSeparator"), (0, u "Ljava/lang/String;"), (96, .class_ 321), (1, u "java/lang/System$LoggerFinder"), (5, .class_ 328), (0, u "java/lang/System$Logger"), (67, u "err"), (2, u "out"), (91, u "notSupportedJnuEncoding"), (15, u "in"), (17, u "initialIn"), (0, u "Ljava/io/InputStream;"), (35, u "bootLayer"), (0, u "Ljava/lang/ModuleLayer;"), (99, .class_ 664), (0, u "java/lang/System$2"), (9, u "NEVER"), (2, u "MAYBE"), (49, u "arraycopy"), (0, u "(Ljava/lang/Object;ILjava/lang/Object;II)V"), (72, .class_ 802), (0, u "java/lang/System$Logger$Level")] 31

def k13m0 : Method := { name := "<init>", desc := "()V", sig := { parameters := [], returnType := none }, accessFlags := 2, code := none }
def k13m1 : Method := { name := "arraycopy", desc := "(Ljava/lang/Object;ILjava/lang/Object;II)V", sig := { parameters := [(.object "java/lang/Object"), .int, (.object "java/lang/Object"), .int, .int], returnType := none }, accessFlags := 265, code := none }
/-- java/lang/System -/
def k13 : Class := { plain "java/lang/System" (some 0) with
  accessFlags := 49
  interfaces := #[]
  cf := some (fileOf pool13 8 #[.nestMembers #[319, 327, 801, 108, 663, 208]] #[{ accessFlags := 2, nameIndex := 5, descriptorIndex := 6, attributes := #[] }, { accessFlags := 265, nameIndex := 727, descriptorIndex := 728, attributes := #[] }] 49 2 #[] #[{ accessFlags := 25, nameIndex := 507, descriptorIndex := 526, attributes := #[] }, { accessFlags := 25, nameIndex := 399, descriptorIndex := 155, attributes := #[] }, { accessFlags := 25, nameIndex := 396, descriptorIndex := 155, attributes := #[] }, { accessFlags := 10, nameIndex := 525, descriptorIndex := 526, attributes := #[] }, { accessFlags := 26, nameIndex := 674, descriptorIndex := 12, attributes := #[] }, { accessFlags := 26, nameIndex := 677, descriptorIndex := 12, attributes := #[] }, { accessFlags := 10, nameIndex := 11, descriptorIndex := 12, attributes := #[] }, { accessFlags := 74, nameIndex := 175, descriptorIndex := 176, attributes := #[] }, { accessFlags := 10, nameIndex := 491, descriptorIndex := 222, attributes := #[] }, { accessFlags := 74, nameIndex := 29, descriptorIndex := 30, attributes := #[] }, { accessFlags := 74, nameIndex := 154, descriptorIndex := 155, attributes := #[] }, { accessFlags := 10, nameIndex := 217, descriptorIndex := 218, attributes := #[] }, { accessFlags := 10, nameIndex := 221, descriptorIndex := 222, attributes := #[] }, { accessFlags := 8, nameIndex := 562, descriptorIndex := 563, attributes := #[] }])
  fields := #[{ name := "in", type := (.object "java/io/InputStream"), accessFlags := 25, slot := 0, constantValue := 0 }, { name := "out", type := (.object "java/io/PrintStream"), accessFlags := 25, slot := 1, constantValue := 0 }, { name := "err", type := (.object "java/io/PrintStream"), accessFlags := 25, slot := 2, constantValue := 0 }, { name := "initialIn", type := (.object "java/io/InputStream"), accessFlags := 10, slot := 3, constantValue := 0 }, { name := "NEVER", type := .int, accessFlags := 26, slot := 4, constantValue := 0 }, { name := "MAYBE", type := .int, accessFlags := 26, slot := 5, constantValue := 0 }, { name := "allowSecurityManager", type := .int, accessFlags := 10, slot := 6, constantValue := 0 }, { name := "security", type := (.object "java/lang/SecurityManager"), accessFlags := 74, slot := 7, constantValue := 0 }, { name := "notSupportedJnuEncoding", type := (.object "java/lang/String"), accessFlags := 10, slot := 8, constantValue := 0 }, { name := "cons", type := (.object "java/io/Console"), accessFlags := 74, slot := 9, constantValue := 0 }, { name := "initialErrStream", type := (.object "java/io/PrintStream"), accessFlags := 74, slot := 10, constantValue := 0 }, { name := "props", type := (.object "java/util/Properties"), accessFlags := 10, slot := 11, constantValue := 0 }, { name := "lineSeparator", type := (.object "java/lang/String"), accessFlags := 10, slot := 12, constantValue := 0 }, { name := "bootLayer", type := (.object "java/lang/ModuleLayer"), accessFlags := 8, slot := 13, constantValue := 0 }]
  methods := #[k13m0, k13m1]
  instanceTypes := #[]
  staticTypes := #[(.object "java/io/InputStream"), (.object "java/io/PrintStream"), (.object "java/io/PrintStream"), (.object "java/io/InputStream"), .int, .int, .int, (.object "java/lang/SecurityManager"), (.object "java/lang/String"), (.object "java/io/Console"), (.object "java/io/PrintStream"), (.object "java/util/Properties"), (.object "java/lang/String"), (.object "java/lang/ModuleLayer")]
  resolved := Array.replicate 834 none
  statics := none }

def pool14 : Array CpInfo := pool [(1, .class_ 2), (0, u "java/lang/Cloneable"), (0, .class_ 4), (0, u "java/lang/Object")] 2

/-- java/lang/Cloneable -/
def k14 : Class := { plain "java/lang/Cloneable" (some 0) with
  accessFlags := 1537
  interfaces := #[]
  cf := some (fileOf pool14 1 #[] #[] 1537 3 #[] #[])
  fields := #[]
  methods := #[]
  instanceTypes := #[]
  staticTypes := #[]
  resolved := Array.replicate 7 none
  statics := none }

def pool15 : Array CpInfo := pool [(2, .class_ 4), (1, u "sun/util/locale/BaseLocale"), (2, .class_ 8), (0, u "java/util/Locale"), (6, u "CONSTANT_LOCALES"), (0, u "Ljava/util/Map;"), (7, .class_ 26), (1, u "java/lang/Object"), (1, .fieldref 7 29), (0, .nameAndType 30 31), (0, u "baseLocale"), (0, u "Lsun/util/locale/BaseLocale;"), (2, u "localeExtensions"), (0, u "Lsun/util/locale/LocaleExtensions;"), (31, .class_ 69), (1, u "java/util/Locale$Cache"), (3, .class_ 74), (0, u "java/util/Locale$LocaleKey"), (3, u "defaultLocale"), (0, u "Ljava/util/Locale;"), (6, .class_ 88), (1, u "java/util/Locale$Category"), (4, u "defaultDisplayLocale"), (6, u "$assertionsDisabled"), (0, u "Z"), (12, u "defaultFormatLocale"), (12, u "Ljava/lang/String;"), (131, u "isoCountries"), (0, u "[Ljava/lang/String;"), (15, .class_ 278), (1, u "java/util/Locale$IsoCountryCode"), (4, u "isoLanguages"), (9, .methodref 2 294), (0, .nameAndType 295 296), (0, u "getLanguage"), (0, u "()Ljava/lang/String;"), (78, u "languageTag"), (114, .class_ 492), (1, u "java/util/Locale$LocaleNameGetter"), (125, u "hashCodeValue"), (0, u "I"), (29, u "ROOT"), (129, .class_ 781), (1, u "java/util/Locale$FilteringMode"), (39, u "ENGLISH"), (2, u "FRENCH"), (2, u "GERMAN"), (2, u "ITALIAN"), (2, u "JAPANESE"), (2, u "KOREAN"), (2, u "CHINESE"), (2, u "SIMPLIFIED_CHINESE"), (2, u "TRADITIONAL_CHINESE"), (2, u "FRANCE"), (2, u "GERMANY"), (2, u "ITALY"), (2, u "JAPAN"), (2, u "KOREA"), (2, u "UK"), (2, u "US"), (2, u "CANADA"), (2, u "CANADA_FRENCH"), (2, u "CHINA"), (2, u "PRC"), (2, u "TAIWAN"), (13, u "serialPersistentFields"), (0, u "[Ljava/io/ObjectStreamField;"), (0, .class_ 898), (0, u "java/lang/Cloneable"), (0, .class_ 900), (0, u "java/io/Serializable"), (2, u "PRIVATE_USE_EXTENSION"), (0, u "C"), (2, u "UNICODE_LOCALE_EXTENSION"), (1, u "serialVersionUID"), (0, u "J"), (2, u "DISPLAY_LANGUAGE"), (1, u "DISPLAY_COUNTRY"), (1, u "DISPLAY_VARIANT"), (1, u "DISPLAY_SCRIPT"), (1, u "DISPLAY_UEXT_KEY"), (1, u "DISPLAY_UEXT_TYPE"), (174, .class_ 1099), (0, u "java/util/Locale$LanguageRange"), (0, .class_ 1101), (0, u "java/util/Locale$Builder"), (0, .class_ 1103), (0, u "java/util/Locale$IsoCountryCode$3"), (0, .class_ 1105), (0, u "java/util/Locale$IsoCountryCode$2"), (0, .class_ 1107), (0, u "java/util/Locale$IsoCountryCode$1")] 46

def k15c0 : Code := { maxStack := 1, maxLocals := 1, code := jdk_2628_method_27_code, exceptionTable := #[], attributes := #[] }
def k15m0 : Method := { name := "getLanguage", desc := "()Ljava/lang/String;", sig := { parameters := [], returnType := some (.object "java/lang/String") }, accessFlags := 1, code := some k15c0 }
/-- java/util/Locale -/
def k15 : Class := { plain "java/util/Locale" (some 0) with
  accessFlags := 49
  interfaces := #[14, 2]
  cf := some (fileOf pool15 7 #[.nestMembers #[1098, 779, 1100, 86, 490, 73, 67, 276, 1102, 1104, 1106]] #[{ accessFlags := 1, nameIndex := 295, descriptorIndex := 296, attributes := #[] }] 49 24 #[897, 899] #[{ accessFlags := 25, nameIndex := 821, descriptorIndex := 79, attributes := #[] }, { accessFlags := 25, nameIndex := 824, descriptorIndex := 79, attributes := #[] }, { accessFlags := 25, nameIndex := 827, descriptorIndex := 79, attributes := #[] }, { accessFlags := 25, nameIndex := 830, descriptorIndex := 79, attributes := #[] }, { accessFlags := 25, nameIndex := 833, descriptorIndex := 79, attributes := #[] }, { accessFlags := 25, nameIndex := 836, descriptorIndex := 79, attributes := #[] }, { accessFlags := 25, nameIndex := 839, descriptorIndex := 79, attributes := #[] }, { accessFlags := 25, nameIndex := 842, descriptorIndex := 79, attributes := #[] }, { accessFlags := 25, nameIndex := 845, descriptorIndex := 79, attributes := #[] }, { accessFlags := 25, nameIndex := 848, descriptorIndex := 79, attributes := #[] }, { accessFlags := 25, nameIndex := 851, descriptorIndex := 79, attributes := #[] }, { accessFlags := 25, nameIndex := 854, descriptorIndex := 79, attributes := #[] }, { accessFlags := 25, nameIndex := 857, descriptorIndex := 79, attributes := #[] }, { accessFlags := 25, nameIndex := 860, descriptorIndex := 79, attributes := #[] }, { accessFlags := 25, nameIndex := 863, descriptorIndex := 79, attributes := #[] }, { accessFlags := 25, nameIndex := 866, descriptorIndex := 79, attributes := #[] }, { accessFlags := 25, nameIndex := 869, descriptorIndex := 79, attributes := #[] }, { accessFlags := 25, nameIndex := 872, descriptorIndex := 79, attributes := #[] }, { accessFlags := 25, nameIndex := 649, descriptorIndex := 79, attributes := #[] }, { accessFlags := 26, nameIndex := 15, descriptorIndex := 16, attributes := #[] }, { accessFlags := 25, nameIndex := 875, descriptorIndex := 79, attributes := #[] }, { accessFlags := 25, nameIndex := 878, descriptorIndex := 79, attributes := #[] }, { accessFlags := 25, nameIndex := 881, descriptorIndex := 79, attributes := #[] }, { accessFlags := 25, nameIndex := 903, descriptorIndex := 904, attributes := #[] }, { accessFlags := 25, nameIndex := 907, descriptorIndex := 904, attributes := #[] }, { accessFlags := 24, nameIndex := 909, descriptorIndex := 910, attributes := #[] }, { accessFlags := 26, nameIndex := 913, descriptorIndex := 619, attributes := #[] }, { accessFlags := 26, nameIndex := 915, descriptorIndex := 619, attributes := #[] }, { accessFlags := 26, nameIndex := 917, descriptorIndex := 619, attributes := #[] }, { accessFlags := 26, nameIndex := 919, descriptorIndex := 619, attributes := #[] }, { accessFlags := 26, nameIndex := 921, descriptorIndex := 619, attributes := #[] }, { accessFlags := 26, nameIndex := 923, descriptorIndex := 619, attributes := #[] }, { accessFlags := 130, nameIndex := 30, descriptorIndex := 31, attributes := #[] }, { accessFlags := 130, nameIndex := 34, descriptorIndex := 35, attributes := #[] }, { accessFlags := 130, nameIndex := 618, descriptorIndex := 619, attributes := #[] }, { accessFlags := 74, nameIndex := 78, descriptorIndex := 79, attributes := #[] }, { accessFlags := 74, nameIndex := 93, descriptorIndex := 79, attributes := #[] }, { accessFlags := 74, nameIndex := 114, descriptorIndex := 79, attributes := #[] }, { accessFlags := 194, nameIndex := 375, descriptorIndex := 127, attributes := #[] }, { accessFlags := 26, nameIndex := 895, descriptorIndex := 896, attributes := #[] }, { accessFlags := 74, nameIndex := 283, descriptorIndex := 260, attributes := #[] }, { accessFlags := 74, nameIndex := 259, descriptorIndex := 260, attributes := #[] }, { accessFlags := 4120, nameIndex := 100, descriptorIndex := 101, attributes := #[] }])
  fields := #[{ name := "ENGLISH", type := (.object "java/util/Locale"), accessFlags := 25, slot := 0, constantValue := 0 }, { name := "FRENCH", type := (.object "java/util/Locale"), accessFlags := 25, slot := 1, constantValue := 0 }, { name := "GERMAN", type := (.object "java/util/Locale"), accessFlags := 25, slot := 2, constantValue := 0 }, { name := "ITALIAN", type := (.object "java/util/Locale"), accessFlags := 25, slot := 3, constantValue := 0 }, { name := "JAPANESE", type := (.object "java/util/Locale"), accessFlags := 25, slot := 4, constantValue := 0 }, { name := "KOREAN", type := (.object "java/util/Locale"), accessFlags := 25, slot := 5, constantValue := 0 }, { name := "CHINESE", type := (.object "java/util/Locale"), accessFlags := 25, slot := 6, constantValue := 0 }, { name := "SIMPLIFIED_CHINESE", type := (.object "java/util/Locale"), accessFlags := 25, slot := 7, constantValue := 0 }, { name := "TRADITIONAL_CHINESE", type := (.object "java/util/Locale"), accessFlags := 25, slot := 8, constantValue := 0 }, { name := "FRANCE", type := (.object "java/util/Locale"), accessFlags := 25, slot := 9, constantValue := 0 }, { name := "GERMANY", type := (.object "java/util/Locale"), accessFlags := 25, slot := 10, constantValue := 0 }, { name := "ITALY", type := (.object "java/util/Locale"), accessFlags := 25, slot := 11, constantValue := 0 }, { name := "JAPAN", type := (.object "java/util/Locale"), accessFlags := 25, slot := 12, constantValue := 0 }, { name := "KOREA", type := (.object "java/util/Locale"), accessFlags := 25, slot := 13, constantValue := 0 }, { name := "UK", type := (.object "java/util/Locale"), accessFlags := 25, slot := 14, constantValue := 0 }, { name := "US", type := (.object "java/util/Locale"), accessFlags := 25, slot := 15, constantValue := 0 }, { name := "CANADA", type := (.object "java/util/Locale"), accessFlags := 25, slot := 16, constantValue := 0 }, { name := "CANADA_FRENCH", type := (.object "java/util/Locale"), accessFlags := 25, slot := 17, constantValue := 0 }, { name := "ROOT", type := (.object "java/util/Locale"), accessFlags := 25, slot := 18, constantValue := 0 }, { name := "CONSTANT_LOCALES", type := (.object "java/util/Map"), accessFlags := 26, slot := 19, constantValue := 0 }, { name := "CHINA", type := (.object "java/util/Locale"), accessFlags := 25, slot := 20, constantValue := 0 }, { name := "PRC", type := (.object "java/util/Locale"), accessFlags := 25, slot := 21, constantValue := 0 }, { name := "TAIWAN", type := (.object "java/util/Locale"), accessFlags := 25, slot := 22, constantValue := 0 }, { name := "PRIVATE_USE_EXTENSION", type := .char, accessFlags := 25, slot := 23, constantValue := 0 }, { name := "UNICODE_LOCALE_EXTENSION", type := .char, accessFlags := 25, slot := 24, constantValue := 0 }, { name := "serialVersionUID", type := .long, accessFlags := 24, slot := 25, constantValue := 0 }, { name := "DISPLAY_LANGUAGE", type := .int, accessFlags := 26, slot := 26, constantValue := 0 }, { name := "DISPLAY_COUNTRY", type := .int, accessFlags := 26, slot := 27, constantValue := 0 }, { name := "DISPLAY_VARIANT", type := .int, accessFlags := 26, slot := 28, constantValue := 0 }, { name := "DISPLAY_SCRIPT", type := .int, accessFlags := 26, slot := 29, constantValue := 0 }, { name := "DISPLAY_UEXT_KEY", type := .int, accessFlags := 26, slot := 30, constantValue := 0 }, { name := "DISPLAY_UEXT_TYPE", type := .int, accessFlags := 26, slot := 31, constantValue := 0 }, { name := "baseLocale", type := (.object "sun/util/locale/BaseLocale"), accessFlags := 130, slot := 0, constantValue := 0 }, { name := "localeExtensions", type := (.object "sun/util/locale/LocaleExtensions"), accessFlags := 130, slot := 1, constantValue := 0 }, { name := "hashCodeValue", type := .int, accessFlags := 130, slot := 2, constantValue := 0 }, { name := "defaultLocale", type := (.object "java/util/Locale"), accessFlags := 74, slot := 32, constantValue := 0 }, { name := "defaultDisplayLocale", type := (.object "java/util/Locale"), accessFlags := 74, slot := 33, constantValue := 0 }, { name := "defaultFormatLocale", type := (.object "java/util/Locale"), accessFlags := 74, slot := 34, constantValue := 0 }, { name := "languageTag", type := (.object "java/lang/String"), accessFlags := 194, slot := 3, constantValue := 0 }, { name := "serialPersistentFields", type := (.array (.object "java/io/ObjectStreamField")), accessFlags := 26, slot := 35, constantValue := 0 }, { name := "isoLanguages", type := (.array (.object "java/lang/String")), accessFlags := 74, slot := 36, constantValue := 0 }, { name := "isoCountries", type := (.array (.object "java/lang/String")), accessFlags := 74, slot := 37, constantValue := 0 }, { name := "$assertionsDisabled", type := .boolean, accessFlags := 4120, slot := 38, constantValue := 0 }]
  methods := #[k15m0]
  instanceTypes := #[(.object "sun/util/locale/BaseLocale"), (.object "sun/util/locale/LocaleExtensions"), .int, (.object "java/lang/String")]
  staticTypes := #[(.object "java/util/Locale"), (.object "java/util/Locale"), (.object "java/util/Locale"), (.object "java/util/Locale"), (.object "java/util/Locale"), (.object "java/util/Locale"), (.object "java/util/Locale"), (.object "java/util/Locale"), (.object "java/util/Locale"), (.object "java/util/Locale"), (.object "java/util/Locale"), (.object "java/util/Locale"), (.object "java/util/Locale"), (.object "java/util/Locale"), (.object "java/util/Locale"), (.object "java/util/Locale"), (.object "java/util/Locale"), (.object "java/util/Locale"), (.object "java/util/Locale"), (.object "java/util/Map"), (.object "java/util/Locale"), (.object "java/util/Locale"), (.object "java/util/Locale"), .char, .char, .long, .int, .int, .int, .int, .int, .int, (.object "java/util/Locale"), (.object "java/util/Locale"), (.object "java/util/Locale"), (.array (.object "java/io/ObjectStreamField")), (.array (.object "java/lang/String")), (.array (.object "java/lang/String")), .boolean]
  resolved := Array.replicate 1154 none
  statics := some 1 }

def pool16 : Array CpInfo := pool [(2, .class_ 4), (1, u "java/lang/Object"), (0, u "<init>"), (0, u "()V"), (1, .class_ 10), (1, u "java/lang/CharacterData")] 75

def k16m0 : Method := { name := "<init>", desc := "()V", sig := { parameters := [], returnType := none }, accessFlags := 0, code := none }
/-- java/lang/CharacterData -/
def k16 : Class := { plain "java/lang/CharacterData" (some 0) with
  accessFlags := 1056
  interfaces := #[]
  cf := some (fileOf pool16 8 #[] #[{ accessFlags := 0, nameIndex := 5, descriptorIndex := 6, attributes := #[] }] 1056 2 #[] #[])
  fields := #[]
  methods := #[k16m0]
  instanceTypes := #[]
  staticTypes := #[]
  resolved := Array.replicate 86 none
  statics := none }

def pool17 : Array CpInfo := pool [(2, .class_ 4), (1, u "java/lang/CharacterDataLatin1"), (0, u "A"), (0, u "[I"), (2, u "B"), (0, u "[C"), (3, u "(I)I"), (12, u "DIGITS"), (0, u "[B"), (8, u "sharpsMap"), (1, .class_ 41), (1, u "java/lang/CharacterData"), (0, u "<init>"), (0, u "()V"), (3, u "instance"), (0, u "Ljava/lang/CharacterDataLatin1;"), (63, u "toLowerCase")] 28

def k17c0 : Code := { maxStack := 2, maxLocals := 3, code := jdk_116_method_20_code, exceptionTable := #[], attributes := #[] }
def k17m0 : Method := { name := "toLowerCase", desc := "(I)I", sig := { parameters := [.int], returnType := some .int }, accessFlags := 0, code := some k17c0 }
def k17m1 : Method := { name := "<init>", desc := "()V", sig := { parameters := [], returnType := none }, accessFlags := 2, code := none }
/-- java/lang/CharacterDataLatin1 -/
def k17 : Class := { plain "java/lang/CharacterDataLatin1" (some 16) with
  accessFlags := 32
  interfaces := #[]
  cf := some (fileOf pool17 2 #[] #[{ accessFlags := 0, nameIndex := 112, descriptorIndex := 14, attributes := #[] }, { accessFlags := 2, nameIndex := 42, descriptorIndex := 43, attributes := #[] }] 32 39 #[] #[{ accessFlags := 26, nameIndex := 27, descriptorIndex := 28, attributes := #[] }, { accessFlags := 8, nameIndex := 37, descriptorIndex := 10, attributes := #[] }, { accessFlags := 24, nameIndex := 47, descriptorIndex := 48, attributes := #[] }, { accessFlags := 24, nameIndex := 5, descriptorIndex := 6, attributes := #[] }, { accessFlags := 24, nameIndex := 9, descriptorIndex := 10, attributes := #[] }])
  fields := #[{ name := "DIGITS", type := (.array .byte), accessFlags := 26, slot := 0, constantValue := 0 }, { name := "sharpsMap", type := (.array .char), accessFlags := 8, slot := 1, constantValue := 0 }, { name := "instance", type := (.object "java/lang/CharacterDataLatin1"), accessFlags := 24, slot := 2, constantValue := 0 }, { name := "A", type := (.array .int), accessFlags := 24, slot := 3, constantValue := 0 }, { name := "B", type := (.array .char), accessFlags := 24, slot := 4, constantValue := 0 }]
  methods := #[k17m0, k17m1]
  instanceTypes := #[]
  staticTypes := #[(.array .byte), (.array .char), (.object "java/lang/CharacterDataLatin1"), (.array .int), (.array .char)]
  resolved := Array.replicate 141 none
  statics := some 2 }

def pool18 : Array CpInfo := pool [(9, u "<init>"), (6, .class_ 18), (1, u "java/lang/Object"), (0, u "()V"), (1, .class_ 23), (1, u "jdk/internal/util/ArraysSupport"), (0, u "LOG2_ARRAY_LONG_INDEX_SCALE"), (0, u "I"), (2, u "U"), (0, u "Ljdk/internal/misc/Unsafe;"), (8, u "BIG_ENDIAN"), (0, u "Z"), (8, u "LOG2_BYTE_BIT_SIZE"), (4, u "LOG2_ARRAY_INT_INDEX_SCALE"), (54, u "JLA"), (0, u "Ljdk/internal/access/JavaLangAccess;"), (11, u "LOG2_ARRAY_BOOLEAN_INDEX_SCALE"), (9, u "LOG2_ARRAY_BYTE_INDEX_SCALE"), (5, u "LOG2_ARRAY_CHAR_INDEX_SCALE"), (5, u "LOG2_ARRAY_SHORT_INDEX_SCALE"), (5, u "mismatch"), (12, u "LOG2_ARRAY_FLOAT_INDEX_SCALE"), (24, u "LOG2_ARRAY_DOUBLE_INDEX_SCALE"), (89, u "T_BOOLEAN"), (2, u "T_CHAR"), (1, u "T_FLOAT"), (1, u "T_DOUBLE"), (1, u "T_BYTE"), (1, u "T_SHORT"), (1, u "T_INT"), (1, u "T_LONG"), (1, u "SOFT_MAX_ARRAY_LENGTH"), (42, u "([BI[BII)I")] 40

def k18m0 : Method := { name := "<init>", desc := "()V", sig := { parameters := [], returnType := none }, accessFlags := 2, code := none }
def k18c1 : Code := { maxStack := 8, maxLocals := 8, code := jdk_48_method_14_code, exceptionTable := #[], attributes := #[] }
def k18m1 : Method := { name := "mismatch", desc := "([BI[BII)I", sig := { parameters := [(.array .byte), .int, (.array .byte), .int, .int], returnType := some .int }, accessFlags := 9, code := some k18c1 }
/-- jdk/internal/util/ArraysSupport -/
def k18 : Class := { plain "jdk/internal/util/ArraysSupport" (some 0) with
  accessFlags := 33
  interfaces := #[]
  cf := some (fileOf pool18 21 #[] #[{ accessFlags := 2, nameIndex := 9, descriptorIndex := 19, attributes := #[] }, { accessFlags := 9, nameIndex := 149, descriptorIndex := 337, attributes := #[] }] 33 16 #[] #[{ accessFlags := 24, nameIndex := 28, descriptorIndex := 29, attributes := #[] }, { accessFlags := 26, nameIndex := 38, descriptorIndex := 39, attributes := #[] }, { accessFlags := 25, nameIndex := 121, descriptorIndex := 25, attributes := #[] }, { accessFlags := 25, nameIndex := 131, descriptorIndex := 25, attributes := #[] }, { accessFlags := 25, nameIndex := 137, descriptorIndex := 25, attributes := #[] }, { accessFlags := 25, nameIndex := 143, descriptorIndex := 25, attributes := #[] }, { accessFlags := 25, nameIndex := 53, descriptorIndex := 25, attributes := #[] }, { accessFlags := 25, nameIndex := 24, descriptorIndex := 25, attributes := #[] }, { accessFlags := 25, nameIndex := 162, descriptorIndex := 25, attributes := #[] }, { accessFlags := 25, nameIndex := 187, descriptorIndex := 25, attributes := #[] }, { accessFlags := 26, nameIndex := 48, descriptorIndex := 25, attributes := #[] }, { accessFlags := 25, nameIndex := 277, descriptorIndex := 25, attributes := #[] }, { accessFlags := 25, nameIndex := 280, descriptorIndex := 25, attributes := #[] }, { accessFlags := 25, nameIndex := 282, descriptorIndex := 25, attributes := #[] }, { accessFlags := 25, nameIndex := 284, descriptorIndex := 25, attributes := #[] }, { accessFlags := 25, nameIndex := 286, descriptorIndex := 25, attributes := #[] }, { accessFlags := 25, nameIndex := 288, descriptorIndex := 25, attributes := #[] }, { accessFlags := 25, nameIndex := 290, descriptorIndex := 25, attributes := #[] }, { accessFlags := 25, nameIndex := 292, descriptorIndex := 25, attributes := #[] }, { accessFlags := 26, nameIndex := 108, descriptorIndex := 109, attributes := #[] }, { accessFlags := 25, nameIndex := 294, descriptorIndex := 25, attributes := #[] }])
  fields := #[{ name := "U", type := (.object "jdk/internal/misc/Unsafe"), accessFlags := 24, slot := 0, constantValue := 0 }, { name := "BIG_ENDIAN", type := .boolean, accessFlags := 26, slot := 1, constantValue := 0 }, { name := "LOG2_ARRAY_BOOLEAN_INDEX_SCALE", type := .int, accessFlags := 25, slot := 2, constantValue := 0 }, { name := "LOG2_ARRAY_BYTE_INDEX_SCALE", type := .int, accessFlags := 25, slot := 3, constantValue := 0 }, { name := "LOG2_ARRAY_CHAR_INDEX_SCALE", type := .int, accessFlags := 25, slot := 4, constantValue := 0 }, { name := "LOG2_ARRAY_SHORT_INDEX_SCALE", type := .int, accessFlags := 25, slot := 5, constantValue := 0 }, { name := "LOG2_ARRAY_INT_INDEX_SCALE", type := .int, accessFlags := 25, slot := 6, constantValue := 0 }, { name := "LOG2_ARRAY_LONG_INDEX_SCALE", type := .int, accessFlags := 25, slot := 7, constantValue := 0 }, { name := "LOG2_ARRAY_FLOAT_INDEX_SCALE", type := .int, accessFlags := 25, slot := 8, constantValue := 0 }, { name := "LOG2_ARRAY_DOUBLE_INDEX_SCALE", type := .int, accessFlags := 25, slot := 9, constantValue := 0 }, { name := "LOG2_BYTE_BIT_SIZE", type := .int, accessFlags := 26, slot := 10, constantValue := 0 }, { name := "T_BOOLEAN", type := .int, accessFlags := 25, slot := 11, constantValue := 0 }, { name := "T_CHAR", type := .int, accessFlags := 25, slot := 12, constantValue := 0 }, { name := "T_FLOAT", type := .int, accessFlags := 25, slot := 13, constantValue := 0 }, { name := "T_DOUBLE", type := .int, accessFlags := 25, slot := 14, constantValue := 0 }, { name := "T_BYTE", type := .int, accessFlags := 25, slot := 15, constantValue := 0 }, { name := "T_SHORT", type := .int, accessFlags := 25, slot := 16, constantValue := 0 }, { name := "T_INT", type := .int, accessFlags := 25, slot := 17, constantValue := 0 }, { name := "T_LONG", type := .int, accessFlags := 25, slot := 18, constantValue := 0 }, { name := "JLA", type := (.object "jdk/internal/access/JavaLangAccess"), accessFlags := 26, slot := 19, constantValue := 0 }, { name := "SOFT_MAX_ARRAY_LENGTH", type := .int, accessFlags := 25, slot := 20, constantValue := 0 }]
  methods := #[k18m0, k18m1]
  instanceTypes := #[]
  staticTypes := #[(.object "jdk/internal/misc/Unsafe"), .boolean, .int, .int, .int, .int, .int, .int, .int, .int, .int, .int, .int, .int, .int, .int, .int, .int, .int, (.object "jdk/internal/access/JavaLangAccess"), .int]
  resolved := Array.replicate 378 none
  statics := none }

def pool19 : Array CpInfo := pool [(2, .class_ 4), (1, u "java/lang/Object"), (13, u "()Ljava/lang/String;"), (0, .fieldref 20 21), (0, .class_ 22), (0, .nameAndType 23 24), (0, u "sun/util/locale/BaseLocale"), (0, u "language"), (0, u "Ljava/lang/String;"), (5, u "script"), (5, u "region"), (2, u "variant"), (11, u "constantBaseLocales"), (0, u "[Lsun/util/locale/BaseLocale;"), (2, u "getLanguage"), (10, .class_ 67), (0, u "sun/util/locale/BaseLocale$Key"), (2, .class_ 72), (1, u "sun/util/locale/BaseLocale$Cache"), (24, u "OLD_ISO_CODES"), (0, u "Z"), (32, u "hash"), (0, u "I"), (41, u "US"), (15, u "ENGLISH"), (0, u "B"), (2, u "FRENCH"), (1, u "GERMAN"), (1, u "ITALIAN"), (1, u "JAPANESE"), (1, u "KOREAN"), (1, u "CHINESE"), (1, u "SIMPLIFIED_CHINESE"), (1, u "TRADITIONAL_CHINESE"), (1, u "FRANCE"), (1, u "GERMANY"), (1, u "ITALY"), (1, u "JAPAN"), (1, u "KOREA"), (1, u "UK"), (2, u "CANADA"), (1, u "CANADA_FRENCH"), (1, u "ROOT"), (1, u "NUM_CONSTANTS"), (1, u "SEP")] 31

def k19c0 : Code := { maxStack := 1, maxLocals := 1, code := jdk_3003_method_5_code, exceptionTable := #[], attributes := #[] }
def k19m0 : Method := { name := "getLanguage", desc := "()Ljava/lang/String;", sig := { parameters := [], returnType := some (.object "java/lang/String") }, accessFlags := 1, code := some k19c0 }
/-- sun/util/locale/BaseLocale -/
def k19 : Class := { plain "sun/util/locale/BaseLocale" (some 0) with
  accessFlags := 49
  interfaces := #[]
  cf := some (fileOf pool19 20 #[.nestMembers #[70, 66]] #[{ accessFlags := 1, nameIndex := 55, descriptorIndex := 18, attributes := #[] }] 49 2 #[] #[{ accessFlags := 9, nameIndex := 51, descriptorIndex := 52, attributes := #[] }, { accessFlags := 25, nameIndex := 190, descriptorIndex := 191, attributes := #[] }, { accessFlags := 25, nameIndex := 194, descriptorIndex := 191, attributes := #[] }, { accessFlags := 25, nameIndex := 196, descriptorIndex := 191, attributes := #[] }, { accessFlags := 25, nameIndex := 198, descriptorIndex := 191, attributes := #[] }, { accessFlags := 25, nameIndex := 200, descriptorIndex := 191, attributes := #[] }, { accessFlags := 25, nameIndex := 202, descriptorIndex := 191, attributes := #[] }, { accessFlags := 25, nameIndex := 204, descriptorIndex := 191, attributes := #[] }, { accessFlags := 25, nameIndex := 206, descriptorIndex := 191, attributes := #[] }, { accessFlags := 25, nameIndex := 208, descriptorIndex := 191, attributes := #[] }, { accessFlags := 25, nameIndex := 210, descriptorIndex := 191, attributes := #[] }, { accessFlags := 25, nameIndex := 212, descriptorIndex := 191, attributes := #[] }, { accessFlags := 25, nameIndex := 214, descriptorIndex := 191, attributes := #[] }, { accessFlags := 25, nameIndex := 216, descriptorIndex := 191, attributes := #[] }, { accessFlags := 25, nameIndex := 218, descriptorIndex := 191, attributes := #[] }, { accessFlags := 25, nameIndex := 220, descriptorIndex := 191, attributes := #[] }, { accessFlags := 25, nameIndex := 174, descriptorIndex := 191, attributes := #[] }, { accessFlags := 25, nameIndex := 223, descriptorIndex := 191, attributes := #[] }, { accessFlags := 25, nameIndex := 225, descriptorIndex := 191, attributes := #[] }, { accessFlags := 25, nameIndex := 227, descriptorIndex := 191, attributes := #[] }, { accessFlags := 25, nameIndex := 229, descriptorIndex := 191, attributes := #[] }, { accessFlags := 25, nameIndex := 231, descriptorIndex := 24, attributes := #[] }, { accessFlags := 18, nameIndex := 23, descriptorIndex := 24, attributes := #[] }, { accessFlags := 18, nameIndex := 30, descriptorIndex := 24, attributes := #[] }, { accessFlags := 18, nameIndex := 36, descriptorIndex := 24, attributes := #[] }, { accessFlags := 18, nameIndex := 39, descriptorIndex := 24, attributes := #[] }, { accessFlags := 2, nameIndex := 131, descriptorIndex := 132, attributes := #[] }, { accessFlags := 26, nameIndex := 97, descriptorIndex := 98, attributes := #[] }])
  fields := #[{ name := "constantBaseLocales", type := (.array (.object "sun/util/locale/BaseLocale")), accessFlags := 9, slot := 0, constantValue := 0 }, { name := "ENGLISH", type := .byte, accessFlags := 25, slot := 1, constantValue := 0 }, { name := "FRENCH", type := .byte, accessFlags := 25, slot := 2, constantValue := 0 }, { name := "GERMAN", type := .byte, accessFlags := 25, slot := 3, constantValue := 0 }, { name := "ITALIAN", type := .byte, accessFlags := 25, slot := 4, constantValue := 0 }, { name := "JAPANESE", type := .byte, accessFlags := 25, slot := 5, constantValue := 0 }, { name := "KOREAN", type := .byte, accessFlags := 25, slot := 6, constantValue := 0 }, { name := "CHINESE", type := .byte, accessFlags := 25, slot := 7, constantValue := 0 }, { name := "SIMPLIFIED_CHINESE", type := .byte, accessFlags := 25, slot := 8, constantValue := 0 }, { name := "TRADITIONAL_CHINESE", type := .byte, accessFlags := 25, slot := 9, constantValue := 0 }, { name := "FRANCE", type := .byte, accessFlags := 25, slot := 10, constantValue := 0 }, { name := "GERMANY", type := .byte, accessFlags := 25, slot := 11, constantValue := 0 }, { name := "ITALY", type := .byte, accessFlags := 25, slot := 12, constantValue := 0 }, { name := "JAPAN", type := .byte, accessFlags := 25, slot := 13, constantValue := 0 }, { name := "KOREA", type := .byte, accessFlags := 25, slot := 14, constantValue := 0 }, { name := "UK", type := .byte, accessFlags := 25, slot := 15, constantValue := 0 }, { name := "US", type := .byte, accessFlags := 25, slot := 16, constantValue := 0 }, { name := "CANADA", type := .byte, accessFlags := 25, slot := 17, constantValue := 0 }, { name := "CANADA_FRENCH", type := .byte, accessFlags := 25, slot := 18, constantValue := 0 }, { name := "ROOT", type := .byte, accessFlags := 25, slot := 19, constantValue := 0 }, { name := "NUM_CONSTANTS", type := .byte, accessFlags := 25, slot := 20, constantValue := 0 }, { name := "SEP", type := (.object "java/lang/String"), accessFlags := 25, slot := 21, constantValue := 0 }, { name := "language", type := (.object "java/lang/String"), accessFlags := 18, slot := 0, constantValue := 0 }, { name := "script", type := (.object "java/lang/String"), accessFlags := 18, slot := 1, constantValue := 0 }, { name := "region", type := (.object "java/lang/String"), accessFlags := 18, slot := 2, constantValue := 0 }, { name := "variant", type := (.object "java/lang/String"), accessFlags := 18, slot := 3, constantValue := 0 }, { name := "hash", type := .int, accessFlags := 2, slot := 4, constantValue := 0 }, { name := "OLD_ISO_CODES", type := .boolean, accessFlags := 26, slot := 22, constantValue := 0 }]
  methods := #[k19m0]
  instanceTypes := #[(.object "java/lang/String"), (.object "java/lang/String"), (.object "java/lang/String"), (.object "java/lang/String"), .int]
  staticTypes := #[(.array (.object "sun/util/locale/BaseLocale")), .byte, .byte, .byte, .byte, .byte, .byte, .byte, .byte, .byte, .byte, .byte, .byte, .byte, .byte, .byte, .byte, .byte, .byte, .byte, .byte, (.object "java/lang/String"), .boolean]
  resolved := Array.replicate 263 none
  statics := none }

def pool20 : Array CpInfo := pool [(2, .class_ 4), (1, u "java/lang/Object"), (0, u "<init>"), (0, u "()V"), (17, .class_ 26), (1, u "jdk/internal/util/Preconditions"), (20, u "checkFromToIndex"), (7, .class_ 56), (0, u "jdk/internal/util/Preconditions$4"), (57, .class_ 115), (0, u "jdk/internal/util/Preconditions$1"), (7, u "SIOOBE_FORMATTER"), (0, u "Ljava/util/function/BiFunction;"), (0, .class_ 126), (0, u "jdk/internal/util/Preconditions$2"), (3, u "AIOOBE_FORMATTER"), (0, .class_ 132), (0, u "jdk/internal/util/Preconditions$3"), (3, u "IOOBE_FORMATTER"), (46, u "(IIILjava/util/function/BiFunction;)I")] 10

def k20m0 : Method := { name := "<init>", desc := "()V", sig := { parameters := [], returnType := none }, accessFlags := 1, code := none }
def k20c1 : Code := { maxStack := 4, maxLocals := 4, code := jdk_41_method_12_code, exceptionTable := #[], attributes := #[] }
def k20m1 : Method := { name := "checkFromToIndex", desc := "(IIILjava/util/function/BiFunction;)I", sig := { parameters := [.int, .int, .int, (.object "java/util/function/BiFunction")], returnType := some .int }, accessFlags := 9, code := some k20c1 }
/-- jdk/internal/util/Preconditions -/
def k20 : Class := { plain "jdk/internal/util/Preconditions" (some 0) with
  accessFlags := 33
  interfaces := #[]
  cf := some (fileOf pool20 24 #[.nestMembers #[55, 131, 125, 114]] #[{ accessFlags := 1, nameIndex := 5, descriptorIndex := 6, attributes := #[] }, { accessFlags := 9, nameIndex := 47, descriptorIndex := 183, attributes := #[] }] 33 2 #[] #[{ accessFlags := 25, nameIndex := 123, descriptorIndex := 124, attributes := #[] }, { accessFlags := 25, nameIndex := 130, descriptorIndex := 124, attributes := #[] }, { accessFlags := 25, nameIndex := 136, descriptorIndex := 124, attributes := #[] }])
  fields := #[{ name := "SIOOBE_FORMATTER", type := (.object "java/util/function/BiFunction"), accessFlags := 25, slot := 0, constantValue := 0 }, { name := "AIOOBE_FORMATTER", type := (.object "java/util/function/BiFunction"), accessFlags := 25, slot := 1, constantValue := 0 }, { name := "IOOBE_FORMATTER", type := (.object "java/util/function/BiFunction"), accessFlags := 25, slot := 2, constantValue := 0 }]
  methods := #[k20m0, k20m1]
  instanceTypes := #[]
  staticTypes := #[(.object "java/util/function/BiFunction"), (.object "java/util/function/BiFunction"), (.object "java/util/function/BiFunction")]
  resolved := Array.replicate 194 none
  statics := some 3 }

/-- the primitive byte -/
def k21 : Class := { plain "byte" none with kind := .primitive 'B', accessFlags := 0x411 }
/-- [B -/
def k22 : Class := { plain "[B" (some 0) with kind := .array 21 .byte, interfaces := #[14, 2], accessFlags := 1041 }

/-- the primitive char -/
def k23 : Class := { plain "char" none with kind := .primitive 'C', accessFlags := 0x411 }
/-- [C -/
def k24 : Class := { plain "[C" (some 0) with kind := .array 23 .char, interfaces := #[14, 2], accessFlags := 1041 }

/-- the primitive int -/
def k25 : Class := { plain "int" none with kind := .primitive 'I', accessFlags := 0x411 }
/-- [I -/
def k26 : Class := { plain "[I" (some 0) with kind := .array 25 .int, interfaces := #[14, 2], accessFlags := 1041 }

def heap : Heap := #[{ cls := 7, slots := #[.long 0, .int 1, .null, .int 0, .null, .int 0, .int 0], vm := .statics 7 },
  { cls := 15, slots := #[.null, .null, .null, .null, .null, .null, .null, .null, .null, .null, .null, .null, .null, .null, .null, .null, .null, .null, .ref 7, .null, .null, .null, .null, .int 0, .int 0, .long 0, .int 0, .int 0, .int 0, .int 0, .int 0, .int 0, .null, .null, .null, .null, .null, .null, .int 0], vm := .statics 15 },
  { cls := 17, slots := #[.null, .null, .ref 8, .null, .null], vm := .statics 17 },
  { cls := 20, slots := #[.null, .null, .null], vm := .statics 20 },
  { cls := 22, slots := #[], vm := .none },
  { cls := 7, slots := #[.ref 4, .int 0, .int 0, .int 0], vm := .none },
  { cls := 19, slots := #[.ref 5, .null, .null, .null, .int 0], vm := .none },
  { cls := 15, slots := #[.ref 6, .null, .int 0, .null], vm := .none },
  { cls := 17, slots := #[], vm := .none }]
def classes : Array Class := #[k0, k1, k2, k3, k4, k5, k6, k7, k8, k9, k10, k11, k12, k13, k14, k15, k16, k17, k18, k19, k20, k21, k22, k23, k24, k25, k26]
def interned : List (Array UInt16 × Addr) := []
def slotsUsed : Nat := 67
def theMethod : MethodId := ⟨1, 4⟩
def args0 : Array Value := #[.int 5, .int 5, .int 5, .int 5, .int 5, .int 5]
def aboutOver (below : List Frame) : State where
  vm := { classes := classes, interned := interned.toArray }
  heap := heap
  slotsUsed := slotsUsed
  threads := #[{ frames := .invoking theMethod args0 :: below }]
def below0 : List Frame := [.native { method := ⟨0, 0⟩, args := #[] }]
def about1 : State := aboutOver below0
def p0 : Program := .bare "" "" ""
def e0 : Env := launch0.env 0 0 0
theorem w_frames : about1.frames = Frame.invoking theMethod args0 :: below0 := rfl
set_option maxRecDepth 65536 in
theorem w_args : argsFit about1.vm theMethod args0 = true := by decide +kernel
set_option maxRecDepth 65536 in
theorem w_heap : heapFits about1 = true := by decide +kernel
set_option maxRecDepth 65536 in
theorem w_runnable : about1.curStatus? = some .runnable := by decide +kernel
set_option maxRecDepth 65536 in
theorem w_alone : about1.alone = true := by decide +kernel
set_option maxRecDepth 65536 in
theorem w_named : about1.methodNamed? x = some theMethod := by decide +kernel
set_option maxRecDepth 65536 in
theorem w_hears : about1.hears theMethod below0 = true := by decide +kernel
set_option maxRecDepth 65536 in
theorem w_ripe : about1.ripe theMethod args0 below0 = true := by decide +kernel
theorem w_running : about1.status = .running := rfl
set_option maxRecDepth 65536 in
theorem w_room : about1.hasRoom e0.platform room_1 = true :=
  launch0.hasRoom_least _ room_1 (by decide +kernel) (by decide +kernel) (by decide +kernel) (by decide +kernel) (by decide +kernel) (by decide +kernel)
theorem allAtoms_all (ts : List Jvm.Cond) (a : Array Jvm.Value) (st : Jvm.State) : (allAtoms ts).before a st = ts.all (fun c => c.before a st) := by
  induction ts with
  | nil => rfl
  | cons c t ih =>
    show (Jvm.Cond.and c (allAtoms t)).before a st = _
    rw [Jvm.Cond.before_and, ih, List.all_cons]
def words1 : List Jvm.Cond := Jvm.Cond.code x code maxLocals ret :: tables_1
/-- a 'code' word, met by the world's own term for the bytes: nothing is compared byte by byte -/
theorem code_word {y : MethodName} {bytes : ByteArray} {mx : Nat} {rt : Option FieldType} {a : Array Value} {s : State} {m : MethodId} {meth : Method} {c : Code} (h1 : s.methodNamed? y = some m) (h2 : s.vm.method? m = some meth) (h3 : meth.code = some c) (h4 : c.code = bytes)
    (h5 : (c.maxLocals == mx && c.exceptionTable.isEmpty && decide (c.maxStack ≤ mostOperands) && decide (meth.sig.returnType = rt) && !meth.locks && decide (parseMethodDescriptor y.desc = some meth.sig)) = true) : (Jvm.Cond.code y bytes mx rt).before a s = true := by
  simp only [Bool.and_eq_true, beq_iff_eq, Bool.not_eq_true', decide_eq_true_eq] at h5
  obtain ⟨⟨⟨⟨⟨g1, g2⟩, g3⟩, g4⟩, g5⟩, g6⟩ := h5
  simp [Cond.before, Cond.holds, Cond.value, h1, h2, h3, h4, g1, g2, g3, g4, g5, g6]
def isCode : Jvm.Cond → Bool
  | .code _ _ _ _ => true
  | _ => false
theorem all_split {L : List Jvm.Cond} {P : Jvm.Cond → Bool} (h1 : L.all (fun c => isCode c || P c) = true) (h2 : ∀ c ∈ L.filter isCode, P c = true) : L.all P = true := by
  refine List.all_eq_true.mpr fun c hc => ?_
  have h := List.all_eq_true.mp h1 c hc
  rcases Bool.eq_false_or_eq_true (isCode c) with hi | hi
  · exact h2 c (List.mem_filter.mpr ⟨hc, hi⟩)
  · simpa [hi] using h
set_option maxRecDepth 65536 in
theorem w_c0 : (Jvm.Cond.code x code maxLocals ret).before args0 about1 = true := code_word (m := ⟨1, 4⟩) (meth := k1m4) (c := k1c4) (by decide +kernel) rfl rfl rfl (by decide +kernel)
set_option maxRecDepth 65536 in
theorem w_c1 : (Jvm.Cond.code ({ cls := "com/example/prueba/prueba/MediaTypesIsJsonPinLaw", name := "putCore", desc := "([CICCCZ)V" } : Jvm.MethodName) method_3_code (6 : Nat) (Option.none : Option Jvm.ClassFile.FieldType)).before args0 about1 = true := code_word (m := ⟨1, 2⟩) (meth := k1m2) (c := k1c2) (by decide +kernel) rfl rfl rfl (by decide +kernel)
set_option maxRecDepth 65536 in
theorem w_c2 : (Jvm.Cond.code ({ cls := "com/example/prueba/prueba/MediaTypesIsJsonPinLaw", name := "cased", desc := "(CZ)C" } : Jvm.MethodName) method_2_code (2 : Nat) (Option.some Jvm.ClassFile.FieldType.char)).before args0 about1 = true := code_word (m := ⟨1, 1⟩) (meth := k1m1) (c := k1c1) (by decide +kernel) rfl rfl rfl (by decide +kernel)
set_option maxRecDepth 65536 in
theorem w_c3 : (Jvm.Cond.code ({ cls := "java/lang/String", name := "<init>", desc := "([C)V" } : Jvm.MethodName) jdk_42_method_3_code (2 : Nat) (Option.none : Option Jvm.ClassFile.FieldType)).before args0 about1 = true := code_word (m := ⟨7, 1⟩) (meth := k7m1) (c := k7c1) (by decide +kernel) rfl rfl rfl (by decide +kernel)
set_option maxRecDepth 65536 in
theorem w_c4 : (Jvm.Cond.code ({ cls := "java/lang/String", name := "<init>", desc := "([CIILjava/lang/Void;)V" } : Jvm.MethodName) jdk_42_method_149_code (6 : Nat) (Option.none : Option Jvm.ClassFile.FieldType)).before args0 about1 = true := code_word (m := ⟨7, 11⟩) (meth := k7m11) (c := k7c11) (by decide +kernel) rfl rfl rfl (by decide +kernel)
set_option maxRecDepth 65536 in
theorem w_c5 : (Jvm.Cond.code ({ cls := "java/lang/Object", name := "<init>", desc := "()V" } : Jvm.MethodName) object_method_1_code (1 : Nat) (Option.none : Option Jvm.ClassFile.FieldType)).before args0 about1 = true := code_word (m := ⟨0, 0⟩) (meth := k0m0) (c := k0c0) (by decide +kernel) rfl rfl rfl (by decide +kernel)
set_option maxRecDepth 65536 in
theorem w_c6 : (Jvm.Cond.code ({ cls := "java/lang/StringUTF16", name := "compress", desc := "([CII)[B" } : Jvm.MethodName) jdk_52_method_16_code (6 : Nat) (Option.some (Jvm.ClassFile.FieldType.array Jvm.ClassFile.FieldType.byte))).before args0 about1 = true := code_word (m := ⟨8, 2⟩) (meth := k8m2) (c := k8c2) (by decide +kernel) rfl rfl rfl (by decide +kernel)
set_option maxRecDepth 65536 in
theorem w_c7 : (Jvm.Cond.code ({ cls := "java/lang/StringUTF16", name := "compress", desc := "([CI[BII)I" } : Jvm.MethodName) jdk_52_method_21_code (7 : Nat) (Option.some Jvm.ClassFile.FieldType.int)).before args0 about1 = true := code_word (m := ⟨8, 3⟩) (meth := k8m3) (c := k8c3) (by decide +kernel) rfl rfl rfl (by decide +kernel)
set_option maxRecDepth 65536 in
theorem w_c8 : (Jvm.Cond.code ({ cls := "java/lang/StringUTF16", name := "coderFromArrayLen", desc := "([BI)B" } : Jvm.MethodName) jdk_52_method_15_code (2 : Nat) (Option.some Jvm.ClassFile.FieldType.byte)).before args0 about1 = true := code_word (m := ⟨8, 1⟩) (meth := k8m1) (c := k8c1) (by decide +kernel) rfl rfl rfl (by decide +kernel)
set_option maxRecDepth 65536 in
theorem w_c9 : (Jvm.Cond.code ({ cls := "com/example/prueba/prueba/MediaTypes", name := "isJson", desc := "(Ljava/lang/String;)Z" } : Jvm.MethodName) prog_13_method_4_code (2 : Nat) (Option.some Jvm.ClassFile.FieldType.boolean)).before args0 about1 = true := code_word (m := ⟨9, 1⟩) (meth := k9m1) (c := k9c1) (by decide +kernel) rfl rfl rfl (by decide +kernel)
set_option maxRecDepth 65536 in
theorem w_c10 : (Jvm.Cond.code ({ cls := "com/example/prueba/prueba/MediaTypes", name := "mediaType", desc := "(Ljava/lang/String;)Ljava/lang/String;" } : Jvm.MethodName) prog_13_method_5_code (3 : Nat) (Option.some (Jvm.ClassFile.FieldType.object "java/lang/String"))).before args0 about1 = true := code_word (m := ⟨9, 2⟩) (meth := k9m2) (c := k9c2) (by decide +kernel) rfl rfl rfl (by decide +kernel)
set_option maxRecDepth 65536 in
theorem w_c11 : (Jvm.Cond.code ({ cls := "java/lang/String", name := "indexOf", desc := "(I)I" } : Jvm.MethodName) jdk_42_method_79_code (2 : Nat) (Option.some Jvm.ClassFile.FieldType.int)).before args0 about1 = true := code_word (m := ⟨7, 6⟩) (meth := k7m6) (c := k7c6) (by decide +kernel) rfl rfl rfl (by decide +kernel)
set_option maxRecDepth 65536 in
theorem w_c12 : (Jvm.Cond.code ({ cls := "java/lang/String", name := "indexOf", desc := "(II)I" } : Jvm.MethodName) jdk_42_method_80_code (3 : Nat) (Option.some Jvm.ClassFile.FieldType.int)).before args0 about1 = true := code_word (m := ⟨7, 7⟩) (meth := k7m7) (c := k7c7) (by decide +kernel) rfl rfl rfl (by decide +kernel)
set_option maxRecDepth 65536 in
theorem w_c13 : (Jvm.Cond.code ({ cls := "java/lang/String", name := "isLatin1", desc := "()Z" } : Jvm.MethodName) jdk_42_method_154_code (1 : Nat) (Option.some Jvm.ClassFile.FieldType.boolean)).before args0 about1 = true := code_word (m := ⟨7, 14⟩) (meth := k7m14) (c := k7c14) (by decide +kernel) rfl rfl rfl (by decide +kernel)
set_option maxRecDepth 65536 in
theorem w_c14 : (Jvm.Cond.code ({ cls := "java/lang/String", name := "length", desc := "()I" } : Jvm.MethodName) jdk_42_method_54_code (1 : Nat) (Option.some Jvm.ClassFile.FieldType.int)).before args0 about1 = true := code_word (m := ⟨7, 2⟩) (meth := k7m2) (c := k7c2) (by decide +kernel) rfl rfl rfl (by decide +kernel)
set_option maxRecDepth 65536 in
theorem w_c15 : (Jvm.Cond.code ({ cls := "java/lang/String", name := "coder", desc := "()B" } : Jvm.MethodName) jdk_42_method_152_code (1 : Nat) (Option.some Jvm.ClassFile.FieldType.byte)).before args0 about1 = true := code_word (m := ⟨7, 13⟩) (meth := k7m13) (c := k7c13) (by decide +kernel) rfl rfl rfl (by decide +kernel)
set_option maxRecDepth 65536 in
theorem w_c16 : (Jvm.Cond.code ({ cls := "java/lang/StringLatin1", name := "indexOf", desc := "([BIII)I" } : Jvm.MethodName) jdk_43_method_22_code (4 : Nat) (Option.some Jvm.ClassFile.FieldType.int)).before args0 about1 = true := code_word (m := ⟨10, 3⟩) (meth := k10m3) (c := k10c3) (by decide +kernel) rfl rfl rfl (by decide +kernel)
set_option maxRecDepth 65536 in
theorem w_c17 : (Jvm.Cond.code ({ cls := "java/lang/StringLatin1", name := "canEncode", desc := "(I)Z" } : Jvm.MethodName) jdk_43_method_4_code (1 : Nat) (Option.some Jvm.ClassFile.FieldType.boolean)).before args0 about1 = true := code_word (m := ⟨10, 1⟩) (meth := k10m1) (c := k10c1) (by decide +kernel) rfl rfl rfl (by decide +kernel)
set_option maxRecDepth 65536 in
theorem w_c18 : (Jvm.Cond.code ({ cls := "java/lang/Math", name := "max", desc := "(II)I" } : Jvm.MethodName) jdk_29_method_65_code (2 : Nat) (Option.some Jvm.ClassFile.FieldType.int)).before args0 about1 = true := code_word (m := ⟨11, 1⟩) (meth := k11m1) (c := k11c1) (by decide +kernel) rfl rfl rfl (by decide +kernel)
set_option maxRecDepth 65536 in
theorem w_c19 : (Jvm.Cond.code ({ cls := "java/lang/Math", name := "min", desc := "(II)I" } : Jvm.MethodName) jdk_29_method_69_code (2 : Nat) (Option.some Jvm.ClassFile.FieldType.int)).before args0 about1 = true := code_word (m := ⟨11, 2⟩) (meth := k11m2) (c := k11c2) (by decide +kernel) rfl rfl rfl (by decide +kernel)
set_option maxRecDepth 65536 in
theorem w_c20 : (Jvm.Cond.code ({ cls := "java/lang/StringLatin1", name := "indexOfChar", desc := "([BIII)I" } : Jvm.MethodName) jdk_43_method_23_code (6 : Nat) (Option.some Jvm.ClassFile.FieldType.int)).before args0 about1 = true := code_word (m := ⟨10, 4⟩) (meth := k10m4) (c := k10c4) (by decide +kernel) rfl rfl rfl (by decide +kernel)
set_option maxRecDepth 65536 in
theorem w_c21 : (Jvm.Cond.code ({ cls := "java/lang/String", name := "trim", desc := "()Ljava/lang/String;" } : Jvm.MethodName) jdk_42_method_113_code (2 : Nat) (Option.some (Jvm.ClassFile.FieldType.object "java/lang/String"))).before args0 about1 = true := code_word (m := ⟨7, 10⟩) (meth := k7m10) (c := k7c10) (by decide +kernel) rfl rfl rfl (by decide +kernel)
set_option maxRecDepth 65536 in
theorem w_c22 : (Jvm.Cond.code ({ cls := "java/lang/StringLatin1", name := "trim", desc := "([B)Ljava/lang/String;" } : Jvm.MethodName) jdk_43_method_36_code (3 : Nat) (Option.some (Jvm.ClassFile.FieldType.object "java/lang/String"))).before args0 about1 = true := code_word (m := ⟨10, 6⟩) (meth := k10m6) (c := k10c6) (by decide +kernel) rfl rfl rfl (by decide +kernel)
set_option maxRecDepth 65536 in
theorem w_c23 : (Jvm.Cond.code ({ cls := "java/lang/StringLatin1", name := "newString", desc := "([BII)Ljava/lang/String;" } : Jvm.MethodName) jdk_43_method_47_code (3 : Nat) (Option.some (Jvm.ClassFile.FieldType.object "java/lang/String"))).before args0 about1 = true := code_word (m := ⟨10, 7⟩) (meth := k10m7) (c := k10c7) (by decide +kernel) rfl rfl rfl (by decide +kernel)
set_option maxRecDepth 65536 in
theorem w_c24 : (Jvm.Cond.code ({ cls := "java/util/Arrays", name := "copyOfRange", desc := "([BII)[B" } : Jvm.MethodName) jdk_65_method_132_code (3 : Nat) (Option.some (Jvm.ClassFile.FieldType.array Jvm.ClassFile.FieldType.byte))).before args0 about1 = true := code_word (m := ⟨12, 2⟩) (meth := k12m2) (c := k12c2) (by decide +kernel) rfl rfl rfl (by decide +kernel)
set_option maxRecDepth 65536 in
theorem w_c25 : (Jvm.Cond.code ({ cls := "java/util/Arrays", name := "copyOfRangeByte", desc := "([BII)[B" } : Jvm.MethodName) jdk_65_method_133_code (5 : Nat) (Option.some (Jvm.ClassFile.FieldType.array Jvm.ClassFile.FieldType.byte))).before args0 about1 = true := code_word (m := ⟨12, 3⟩) (meth := k12m3) (c := k12c3) (by decide +kernel) rfl rfl rfl (by decide +kernel)
set_option maxRecDepth 65536 in
theorem w_c26 : (Jvm.Cond.code ({ cls := "java/util/Arrays", name := "checkLength", desc := "(II)V" } : Jvm.MethodName) jdk_65_method_131_code (2 : Nat) (Option.none : Option Jvm.ClassFile.FieldType)).before args0 about1 = true := code_word (m := ⟨12, 1⟩) (meth := k12m1) (c := k12c1) (by decide +kernel) rfl rfl rfl (by decide +kernel)
set_option maxRecDepth 65536 in
theorem w_c27 : (Jvm.Cond.code ({ cls := "java/lang/String", name := "<init>", desc := "([BB)V" } : Jvm.MethodName) jdk_42_method_151_code (3 : Nat) (Option.none : Option Jvm.ClassFile.FieldType)).before args0 about1 = true := code_word (m := ⟨7, 12⟩) (meth := k7m12) (c := k7c12) (by decide +kernel) rfl rfl rfl (by decide +kernel)
set_option maxRecDepth 65536 in
theorem w_c28 : (Jvm.Cond.code ({ cls := "java/lang/String", name := "toLowerCase", desc := "(Ljava/util/Locale;)Ljava/lang/String;" } : Jvm.MethodName) jdk_42_method_109_code (2 : Nat) (Option.some (Jvm.ClassFile.FieldType.object "java/lang/String"))).before args0 about1 = true := code_word (m := ⟨7, 9⟩) (meth := k7m9) (c := k7c9) (by decide +kernel) rfl rfl rfl (by decide +kernel)
set_option maxRecDepth 65536 in
theorem w_c29 : (Jvm.Cond.code ({ cls := "java/lang/StringLatin1", name := "toLowerCase", desc := "(Ljava/lang/String;[BLjava/util/Locale;)Ljava/lang/String;" } : Jvm.MethodName) jdk_43_method_32_code (9 : Nat) (Option.some (Jvm.ClassFile.FieldType.object "java/lang/String"))).before args0 about1 = true := code_word (m := ⟨10, 5⟩) (meth := k10m5) (c := k10c5) (by decide +kernel) rfl rfl rfl (by decide +kernel)
set_option maxRecDepth 65536 in
theorem w_c30 : (Jvm.Cond.code ({ cls := "java/lang/CharacterDataLatin1", name := "toLowerCase", desc := "(I)I" } : Jvm.MethodName) jdk_116_method_20_code (3 : Nat) (Option.some Jvm.ClassFile.FieldType.int)).before args0 about1 = true := code_word (m := ⟨17, 0⟩) (meth := k17m0) (c := k17c0) (by decide +kernel) rfl rfl rfl (by decide +kernel)
set_option maxRecDepth 65536 in
theorem w_c31 : (Jvm.Cond.code ({ cls := "java/lang/String", name := "equals", desc := "(Ljava/lang/Object;)Z" } : Jvm.MethodName) jdk_42_method_66_code (3 : Nat) (Option.some Jvm.ClassFile.FieldType.boolean)).before args0 about1 = true := code_word (m := ⟨7, 3⟩) (meth := k7m3) (c := k7c3) (by decide +kernel) rfl rfl rfl (by decide +kernel)
set_option maxRecDepth 65536 in
theorem w_c32 : (Jvm.Cond.code ({ cls := "java/lang/StringLatin1", name := "equals", desc := "([B[B)Z" } : Jvm.MethodName) jdk_43_method_13_code (3 : Nat) (Option.some Jvm.ClassFile.FieldType.boolean)).before args0 about1 = true := code_word (m := ⟨10, 2⟩) (meth := k10m2) (c := k10c2) (by decide +kernel) rfl rfl rfl (by decide +kernel)
set_option maxRecDepth 65536 in
theorem w_c33 : (Jvm.Cond.code ({ cls := "java/lang/String", name := "endsWith", desc := "(Ljava/lang/String;)Z" } : Jvm.MethodName) jdk_42_method_77_code (2 : Nat) (Option.some Jvm.ClassFile.FieldType.boolean)).before args0 about1 = true := code_word (m := ⟨7, 5⟩) (meth := k7m5) (c := k7c5) (by decide +kernel) rfl rfl rfl (by decide +kernel)
set_option maxRecDepth 65536 in
theorem w_c34 : (Jvm.Cond.code ({ cls := "java/lang/String", name := "startsWith", desc := "(Ljava/lang/String;I)Z" } : Jvm.MethodName) jdk_42_method_75_code (8 : Nat) (Option.some Jvm.ClassFile.FieldType.boolean)).before args0 about1 = true := code_word (m := ⟨7, 4⟩) (meth := k7m4) (c := k7c4) (by decide +kernel) rfl rfl rfl (by decide +kernel)
set_option maxRecDepth 65536 in
theorem w_c35 : (Jvm.Cond.code ({ cls := "jdk/internal/util/ArraysSupport", name := "mismatch", desc := "([BI[BII)I" } : Jvm.MethodName) jdk_48_method_14_code (8 : Nat) (Option.some Jvm.ClassFile.FieldType.int)).before args0 about1 = true := code_word (m := ⟨18, 1⟩) (meth := k18m1) (c := k18c1) (by decide +kernel) rfl rfl rfl (by decide +kernel)
set_option maxRecDepth 65536 in
theorem w_c36 : (Jvm.Cond.code ({ cls := "java/util/Locale", name := "getLanguage", desc := "()Ljava/lang/String;" } : Jvm.MethodName) jdk_2628_method_27_code (1 : Nat) (Option.some (Jvm.ClassFile.FieldType.object "java/lang/String"))).before args0 about1 = true := code_word (m := ⟨15, 0⟩) (meth := k15m0) (c := k15c0) (by decide +kernel) rfl rfl rfl (by decide +kernel)
set_option maxRecDepth 65536 in
theorem w_c37 : (Jvm.Cond.code ({ cls := "sun/util/locale/BaseLocale", name := "getLanguage", desc := "()Ljava/lang/String;" } : Jvm.MethodName) jdk_3003_method_5_code (1 : Nat) (Option.some (Jvm.ClassFile.FieldType.object "java/lang/String"))).before args0 about1 = true := code_word (m := ⟨19, 0⟩) (meth := k19m0) (c := k19c0) (by decide +kernel) rfl rfl rfl (by decide +kernel)
set_option maxRecDepth 65536 in
theorem w_c38 : (Jvm.Cond.code ({ cls := "java/lang/String", name := "substring", desc := "(II)Ljava/lang/String;" } : Jvm.MethodName) jdk_42_method_92_code (5 : Nat) (Option.some (Jvm.ClassFile.FieldType.object "java/lang/String"))).before args0 about1 = true := code_word (m := ⟨7, 8⟩) (meth := k7m8) (c := k7c8) (by decide +kernel) rfl rfl rfl (by decide +kernel)
set_option maxRecDepth 65536 in
theorem w_c39 : (Jvm.Cond.code ({ cls := "java/lang/String", name := "checkBoundsBeginEnd", desc := "(III)V" } : Jvm.MethodName) jdk_42_method_158_code (3 : Nat) (Option.none : Option Jvm.ClassFile.FieldType)).before args0 about1 = true := code_word (m := ⟨7, 15⟩) (meth := k7m15) (c := k7c15) (by decide +kernel) rfl rfl rfl (by decide +kernel)
set_option maxRecDepth 65536 in
theorem w_c40 : (Jvm.Cond.code ({ cls := "jdk/internal/util/Preconditions", name := "checkFromToIndex", desc := "(IIILjava/util/function/BiFunction;)I" } : Jvm.MethodName) jdk_41_method_12_code (4 : Nat) (Option.some Jvm.ClassFile.FieldType.int)).before args0 about1 = true := code_word (m := ⟨20, 1⟩) (meth := k20m1) (c := k20c1) (by decide +kernel) rfl rfl rfl (by decide +kernel)
set_option maxRecDepth 65536 in
theorem w_c41 : (Jvm.Cond.code ({ cls := "com/example/prueba/prueba/MediaTypesIsJsonPinLaw", name := "putTail", desc := "([CI)V" } : Jvm.MethodName) method_4_code (2 : Nat) (Option.none : Option Jvm.ClassFile.FieldType)).before args0 about1 = true := code_word (m := ⟨1, 3⟩) (meth := k1m3) (c := k1c3) (by decide +kernel) rfl rfl rfl (by decide +kernel)
def codes1 : List Jvm.Cond := [Jvm.Cond.code x code maxLocals ret, Jvm.Cond.code ({ cls := "com/example/prueba/prueba/MediaTypesIsJsonPinLaw", name := "putCore", desc := "([CICCCZ)V" } : Jvm.MethodName) method_3_code (6 : Nat) (Option.none : Option Jvm.ClassFile.FieldType), Jvm.Cond.code ({ cls := "com/example/prueba/prueba/MediaTypesIsJsonPinLaw", name := "cased", desc := "(CZ)C" } : Jvm.MethodName) method_2_code (2 : Nat) (Option.some Jvm.ClassFile.FieldType.char), Jvm.Cond.code ({ cls := "java/lang/String", name := "<init>", desc := "([C)V" } : Jvm.MethodName) jdk_42_method_3_code (2 : Nat) (Option.none : Option Jvm.ClassFile.FieldType), Jvm.Cond.code ({ cls := "java/lang/String", name := "<init>", desc := "([CIILjava/lang/Void;)V" } : Jvm.MethodName) jdk_42_method_149_code (6 : Nat) (Option.none : Option Jvm.ClassFile.FieldType), Jvm.Cond.code ({ cls := "java/lang/Object", name := "<init>", desc := "()V" } : Jvm.MethodName) object_method_1_code (1 : Nat) (Option.none : Option Jvm.ClassFile.FieldType), Jvm.Cond.code ({ cls := "java/lang/StringUTF16", name := "compress", desc := "([CII)[B" } : Jvm.MethodName) jdk_52_method_16_code (6 : Nat) (Option.some (Jvm.ClassFile.FieldType.array Jvm.ClassFile.FieldType.byte)), Jvm.Cond.code ({ cls := "java/lang/StringUTF16", name := "compress", desc := "([CI[BII)I" } : Jvm.MethodName) jdk_52_method_21_code (7 : Nat) (Option.some Jvm.ClassFile.FieldType.int), Jvm.Cond.code ({ cls := "java/lang/StringUTF16", name := "coderFromArrayLen", desc := "([BI)B" } : Jvm.MethodName) jdk_52_method_15_code (2 : Nat) (Option.some Jvm.ClassFile.FieldType.byte), Jvm.Cond.code ({ cls := "com/example/prueba/prueba/MediaTypes", name := "isJson", desc := "(Ljava/lang/String;)Z" } : Jvm.MethodName) prog_13_method_4_code (2 : Nat) (Option.some Jvm.ClassFile.FieldType.boolean), Jvm.Cond.code ({ cls := "com/example/prueba/prueba/MediaTypes", name := "mediaType", desc := "(Ljava/lang/String;)Ljava/lang/String;" } : Jvm.MethodName) prog_13_method_5_code (3 : Nat) (Option.some (Jvm.ClassFile.FieldType.object "java/lang/String")), Jvm.Cond.code ({ cls := "java/lang/String", name := "indexOf", desc := "(I)I" } : Jvm.MethodName) jdk_42_method_79_code (2 : Nat) (Option.some Jvm.ClassFile.FieldType.int), Jvm.Cond.code ({ cls := "java/lang/String", name := "indexOf", desc := "(II)I" } : Jvm.MethodName) jdk_42_method_80_code (3 : Nat) (Option.some Jvm.ClassFile.FieldType.int), Jvm.Cond.code ({ cls := "java/lang/String", name := "isLatin1", desc := "()Z" } : Jvm.MethodName) jdk_42_method_154_code (1 : Nat) (Option.some Jvm.ClassFile.FieldType.boolean), Jvm.Cond.code ({ cls := "java/lang/String", name := "length", desc := "()I" } : Jvm.MethodName) jdk_42_method_54_code (1 : Nat) (Option.some Jvm.ClassFile.FieldType.int), Jvm.Cond.code ({ cls := "java/lang/String", name := "coder", desc := "()B" } : Jvm.MethodName) jdk_42_method_152_code (1 : Nat) (Option.some Jvm.ClassFile.FieldType.byte), Jvm.Cond.code ({ cls := "java/lang/StringLatin1", name := "indexOf", desc := "([BIII)I" } : Jvm.MethodName) jdk_43_method_22_code (4 : Nat) (Option.some Jvm.ClassFile.FieldType.int), Jvm.Cond.code ({ cls := "java/lang/StringLatin1", name := "canEncode", desc := "(I)Z" } : Jvm.MethodName) jdk_43_method_4_code (1 : Nat) (Option.some Jvm.ClassFile.FieldType.boolean), Jvm.Cond.code ({ cls := "java/lang/Math", name := "max", desc := "(II)I" } : Jvm.MethodName) jdk_29_method_65_code (2 : Nat) (Option.some Jvm.ClassFile.FieldType.int), Jvm.Cond.code ({ cls := "java/lang/Math", name := "min", desc := "(II)I" } : Jvm.MethodName) jdk_29_method_69_code (2 : Nat) (Option.some Jvm.ClassFile.FieldType.int), Jvm.Cond.code ({ cls := "java/lang/StringLatin1", name := "indexOfChar", desc := "([BIII)I" } : Jvm.MethodName) jdk_43_method_23_code (6 : Nat) (Option.some Jvm.ClassFile.FieldType.int), Jvm.Cond.code ({ cls := "java/lang/String", name := "trim", desc := "()Ljava/lang/String;" } : Jvm.MethodName) jdk_42_method_113_code (2 : Nat) (Option.some (Jvm.ClassFile.FieldType.object "java/lang/String")), Jvm.Cond.code ({ cls := "java/lang/StringLatin1", name := "trim", desc := "([B)Ljava/lang/String;" } : Jvm.MethodName) jdk_43_method_36_code (3 : Nat) (Option.some (Jvm.ClassFile.FieldType.object "java/lang/String")), Jvm.Cond.code ({ cls := "java/lang/StringLatin1", name := "newString", desc := "([BII)Ljava/lang/String;" } : Jvm.MethodName) jdk_43_method_47_code (3 : Nat) (Option.some (Jvm.ClassFile.FieldType.object "java/lang/String")), Jvm.Cond.code ({ cls := "java/util/Arrays", name := "copyOfRange", desc := "([BII)[B" } : Jvm.MethodName) jdk_65_method_132_code (3 : Nat) (Option.some (Jvm.ClassFile.FieldType.array Jvm.ClassFile.FieldType.byte)), Jvm.Cond.code ({ cls := "java/util/Arrays", name := "copyOfRangeByte", desc := "([BII)[B" } : Jvm.MethodName) jdk_65_method_133_code (5 : Nat) (Option.some (Jvm.ClassFile.FieldType.array Jvm.ClassFile.FieldType.byte)), Jvm.Cond.code ({ cls := "java/util/Arrays", name := "checkLength", desc := "(II)V" } : Jvm.MethodName) jdk_65_method_131_code (2 : Nat) (Option.none : Option Jvm.ClassFile.FieldType), Jvm.Cond.code ({ cls := "java/lang/String", name := "<init>", desc := "([BB)V" } : Jvm.MethodName) jdk_42_method_151_code (3 : Nat) (Option.none : Option Jvm.ClassFile.FieldType), Jvm.Cond.code ({ cls := "java/lang/String", name := "toLowerCase", desc := "(Ljava/util/Locale;)Ljava/lang/String;" } : Jvm.MethodName) jdk_42_method_109_code (2 : Nat) (Option.some (Jvm.ClassFile.FieldType.object "java/lang/String")), Jvm.Cond.code ({ cls := "java/lang/StringLatin1", name := "toLowerCase", desc := "(Ljava/lang/String;[BLjava/util/Locale;)Ljava/lang/String;" } : Jvm.MethodName) jdk_43_method_32_code (9 : Nat) (Option.some (Jvm.ClassFile.FieldType.object "java/lang/String")), Jvm.Cond.code ({ cls := "java/lang/CharacterDataLatin1", name := "toLowerCase", desc := "(I)I" } : Jvm.MethodName) jdk_116_method_20_code (3 : Nat) (Option.some Jvm.ClassFile.FieldType.int), Jvm.Cond.code ({ cls := "java/lang/String", name := "equals", desc := "(Ljava/lang/Object;)Z" } : Jvm.MethodName) jdk_42_method_66_code (3 : Nat) (Option.some Jvm.ClassFile.FieldType.boolean), Jvm.Cond.code ({ cls := "java/lang/StringLatin1", name := "equals", desc := "([B[B)Z" } : Jvm.MethodName) jdk_43_method_13_code (3 : Nat) (Option.some Jvm.ClassFile.FieldType.boolean), Jvm.Cond.code ({ cls := "java/lang/String", name := "endsWith", desc := "(Ljava/lang/String;)Z" } : Jvm.MethodName) jdk_42_method_77_code (2 : Nat) (Option.some Jvm.ClassFile.FieldType.boolean), Jvm.Cond.code ({ cls := "java/lang/String", name := "startsWith", desc := "(Ljava/lang/String;I)Z" } : Jvm.MethodName) jdk_42_method_75_code (8 : Nat) (Option.some Jvm.ClassFile.FieldType.boolean), Jvm.Cond.code ({ cls := "jdk/internal/util/ArraysSupport", name := "mismatch", desc := "([BI[BII)I" } : Jvm.MethodName) jdk_48_method_14_code (8 : Nat) (Option.some Jvm.ClassFile.FieldType.int), Jvm.Cond.code ({ cls := "java/util/Locale", name := "getLanguage", desc := "()Ljava/lang/String;" } : Jvm.MethodName) jdk_2628_method_27_code (1 : Nat) (Option.some (Jvm.ClassFile.FieldType.object "java/lang/String")), Jvm.Cond.code ({ cls := "sun/util/locale/BaseLocale", name := "getLanguage", desc := "()Ljava/lang/String;" } : Jvm.MethodName) jdk_3003_method_5_code (1 : Nat) (Option.some (Jvm.ClassFile.FieldType.object "java/lang/String")), Jvm.Cond.code ({ cls := "java/lang/String", name := "substring", desc := "(II)Ljava/lang/String;" } : Jvm.MethodName) jdk_42_method_92_code (5 : Nat) (Option.some (Jvm.ClassFile.FieldType.object "java/lang/String")), Jvm.Cond.code ({ cls := "java/lang/String", name := "checkBoundsBeginEnd", desc := "(III)V" } : Jvm.MethodName) jdk_42_method_158_code (3 : Nat) (Option.none : Option Jvm.ClassFile.FieldType), Jvm.Cond.code ({ cls := "jdk/internal/util/Preconditions", name := "checkFromToIndex", desc := "(IIILjava/util/function/BiFunction;)I" } : Jvm.MethodName) jdk_41_method_12_code (4 : Nat) (Option.some Jvm.ClassFile.FieldType.int), Jvm.Cond.code ({ cls := "com/example/prueba/prueba/MediaTypesIsJsonPinLaw", name := "putTail", desc := "([CI)V" } : Jvm.MethodName) method_4_code (2 : Nat) (Option.none : Option Jvm.ClassFile.FieldType)]
set_option maxRecDepth 65536 in
theorem codes_eq : words1.filter isCode = codes1 := rfl
theorem w_codes : ∀ c ∈ words1.filter isCode, c.before args0 about1 = true := by
  rw [codes_eq]
  intro c hc
  simp only [codes1, List.mem_cons, List.not_mem_nil, or_false] at hc
  rcases hc with rfl | rfl | rfl | rfl | rfl | rfl | rfl | rfl | rfl | rfl | rfl | rfl | rfl | rfl | rfl | rfl | rfl | rfl | rfl | rfl | rfl | rfl | rfl | rfl | rfl | rfl | rfl | rfl | rfl | rfl | rfl | rfl | rfl | rfl | rfl | rfl | rfl | rfl | rfl | rfl | rfl | rfl
  · exact w_c0
  · exact w_c1
  · exact w_c2
  · exact w_c3
  · exact w_c4
  · exact w_c5
  · exact w_c6
  · exact w_c7
  · exact w_c8
  · exact w_c9
  · exact w_c10
  · exact w_c11
  · exact w_c12
  · exact w_c13
  · exact w_c14
  · exact w_c15
  · exact w_c16
  · exact w_c17
  · exact w_c18
  · exact w_c19
  · exact w_c20
  · exact w_c21
  · exact w_c22
  · exact w_c23
  · exact w_c24
  · exact w_c25
  · exact w_c26
  · exact w_c27
  · exact w_c28
  · exact w_c29
  · exact w_c30
  · exact w_c31
  · exact w_c32
  · exact w_c33
  · exact w_c34
  · exact w_c35
  · exact w_c36
  · exact w_c37
  · exact w_c38
  · exact w_c39
  · exact w_c40
  · exact w_c41
set_option maxRecDepth 65536 in
theorem w_t1 : (words1.take 24).all (fun c => isCode c || c.before args0 about1) = true := by decide +kernel
set_option maxRecDepth 65536 in
theorem w_t2 : ((words1.drop 24).take 24).all (fun c => isCode c || c.before args0 about1) = true := by decide +kernel
set_option maxRecDepth 65536 in
theorem w_t3 : (((words1.drop 24).drop 24).take 24).all (fun c => isCode c || c.before args0 about1) = true := by decide +kernel
set_option maxRecDepth 65536 in
theorem w_t4 : ((((words1.drop 24).drop 24).drop 24).take 24).all (fun c => isCode c || c.before args0 about1) = true := by decide +kernel
set_option maxRecDepth 65536 in
theorem w_t5 : (((((words1.drop 24).drop 24).drop 24).drop 24).take 24).all (fun c => isCode c || c.before args0 about1) = true := by decide +kernel
set_option maxRecDepth 65536 in
theorem w_t6 : ((((((words1.drop 24).drop 24).drop 24).drop 24).drop 24).take 24).all (fun c => isCode c || c.before args0 about1) = true := by decide +kernel
set_option maxRecDepth 65536 in
theorem w_t7 : (((((((words1.drop 24).drop 24).drop 24).drop 24).drop 24).drop 24).take 24).all (fun c => isCode c || c.before args0 about1) = true := by decide +kernel
set_option maxRecDepth 65536 in
theorem w_t8 : ((((((((words1.drop 24).drop 24).drop 24).drop 24).drop 24).drop 24).drop 24).take 24).all (fun c => isCode c || c.before args0 about1) = true := by decide +kernel
set_option maxRecDepth 65536 in
theorem w_t9 : ((((((((words1.drop 24).drop 24).drop 24).drop 24).drop 24).drop 24).drop 24).drop 24).all (fun c => isCode c || c.before args0 about1) = true := by decide +kernel
theorem w_tables : (allAtoms (Jvm.Cond.code x code maxLocals ret :: tables_1)).before args0 about1 = true := by
  rw [allAtoms_all]
  show words1.all (fun c => c.before args0 about1) = true
  refine all_split ?_ w_codes
  rw [← List.take_append_drop 24 words1, List.all_append, w_t1, ← List.take_append_drop 24 (words1.drop 24), List.all_append, w_t2, ← List.take_append_drop 24 ((words1.drop 24).drop 24), List.all_append, w_t3, ← List.take_append_drop 24 (((words1.drop 24).drop 24).drop 24), List.all_append, w_t4, ← List.take_append_drop 24 ((((words1.drop 24).drop 24).drop 24).drop 24), List.all_append, w_t5, ← List.take_append_drop 24 (((((words1.drop 24).drop 24).drop 24).drop 24).drop 24), List.all_append, w_t6, ← List.take_append_drop 24 ((((((words1.drop 24).drop 24).drop 24).drop 24).drop 24).drop 24), List.all_append, w_t7, ← List.take_append_drop 24 (((((((words1.drop 24).drop 24).drop 24).drop 24).drop 24).drop 24).drop 24), List.all_append, w_t8, w_t9]
  rfl
set_option maxRecDepth 65536 in
theorem w_rest : rest_1_c.before args0 about1 = true := by decide +kernel
set_option maxRecDepth 65536 in
theorem w_case : (Jvm.Cond.and given_1 narrow_1).before args0 about1 = true := by decide +kernel
set_option maxRecDepth 65536 in
theorem w_consts : constsHeld consts_1 about1 := Jvm.Lit.constsHeldB_iff.mp (by decide +kernel)
theorem w_applies : (headSpec (Jvm.Cond.code x code maxLocals ret :: tables_1) room_1).applies x e0.platform about1 = true :=
  (Spec.applies_iff w_frames).mpr ⟨w_running, w_runnable, w_alone, w_named, w_hears, w_ripe, w_room, w_tables⟩
theorem atStart : AtStart classFile x code maxLocals ret World_1 tables_1 room_1 Calls_1 rest_1 Pre_1 launch0 p0 e0 about1 theMethod args0 below0 :=
  ⟨lists_1, trivial, launch0.admits_env _ _ _, launch0.least_env, fairChoices_fair.cas, fairChoices_fair.clock, w_frames, w_args, w_heap, w_applies, ⟨w_consts, trivial⟩, w_rest, w_case⟩
end start1
theorem witness_1 : WitnessClaimed_1 := ⟨start1.p0, start1.e0, start1.about1, start1.theMethod, start1.args0, start1.below0, start1.atStart⟩
end Jvm.Pilot.@@N@@
