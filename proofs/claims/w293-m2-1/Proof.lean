import JvmDerived
import JvmDerived.Pilot.@@N@@Statement
import JvmDerived.Pilot.@@N@@Code
set_option linter.unusedVariables false
set_option linter.unusedSimpArgs false
namespace Jvm.RoadKit
open Sem ClassFile Op Lib Jvm.Stand Jvm.Free Jvm.LawKit
section New
variable {p : Program} {l : Launch} {e : Env} {R : Room} {s : State} {m : MethodId} {args : Array Value} {below : List Frame} {meth : Method} {c : Code} {T : State} {locs : List Loc} {cells slots : Nat}
theorem retI (X : Stand p l e R s m args below meth c T locs cells slots) (hx : p.tables.exec = Jvm.exec) {pc : Nat} {Ls : Array Slot} {z : Int32} {rest : List Value} (hret : meth.sig.returnType = some .int) (hd : decode c.code pc = .ok (.ireturn, 1)) {fs : List Frame}
    (hl : ∀ (f : JFrame) (acts : List Action), f.method = m → f.locked = none → f.entered = [] → (doReturn e (T.setTop f) acts (some (.int z))).1 = T.setFrames fs) : Steps p.tables e below (T.setTop (mkF m pc Ls (.int z :: rest))) (T.setFrames fs) :=
  retOut X hx hret rfl (Or.inl ⟨rfl, Or.inl rfl, z, rfl⟩) hd hl
end New
end Jvm.RoadKit
namespace OwnFl
open Jvm Jvm.FP.Core
theorem own_ratio2 {ca cb A B : Nat} {qa qb : Int} (ha : ca * 2 ^ qa.toNat = A * 2 ^ (-qa).toNat) (hb : cb * 2 ^ qb.toNat = B * 2 ^ (-qb).toNat) :
    ca * B * 2 ^ (qa - qb - 0).toNat = A * cb * 2 ^ (0 - (qa - qb)).toNat := by
  have ex : (qa - qb - 0).toNat + ((-qa).toNat + qb.toNat) = (0 - (qa - qb)).toNat + (qa.toNat + (-qb).toNat) := by omega
  refine Nat.eq_of_mul_eq_mul_right (Nat.two_pow_pos ((-qa).toNat + qb.toNat + (-qb).toNat)) ?_
  generalize (qa - qb - 0).toNat = u at ex ⊢
  generalize (0 - (qa - qb)).toNat = v at ex ⊢
  have e1 : ca * B * 2 ^ u * 2 ^ ((-qa).toNat + qb.toNat + (-qb).toNat) = ca * (B * 2 ^ (-qb).toNat) * 2 ^ (u + ((-qa).toNat + qb.toNat)) := by
    simp only [Nat.pow_add]; ac_rfl
  rw [e1, ex, ← hb]
  have e2 : ca * (cb * 2 ^ qb.toNat) * 2 ^ (v + (qa.toNat + (-qb).toNat)) = (ca * 2 ^ qa.toNat) * (cb * 2 ^ qb.toNat * 2 ^ v * 2 ^ (-qb).toNat) := by
    simp only [Nat.pow_add]; ac_rfl
  rw [e2, ha]
  simp only [Nat.pow_add]; ac_rfl
/-- the quotient of two whole numbers, rounded -/
def RR (a b : Nat) : Datum := roundRatio b64 false a b 0
theorem own_rr_ne (a b : Nat) : RR a b ≠ .nan := roundRatio_ne_nan _ _ _ _ _
/-- x stands for the fraction n / d -/
def Fr (x : UInt64) (n d : Nat) : Prop := ∃ c q, val64 x = .fin false c q ∧ c * d * 2 ^ q.toNat = n * 2 ^ (-q).toNat
theorem own_fr_l2d {a : Int64} {n : Nat} (h : a.toInt = n) (hn : n < 2 ^ 53) : Fr (l2d a) n 1 := by
  have hw := l2d_whole (a := a) (by unfold Small53; omega)
  obtain ⟨c, q, e⟩ := l2d_shape a
  rw [h, decide_eq_false (by omega)] at e
  rw [e, h] at hw
  have := whole_natAbs hw
  rw [Int.natAbs_natCast] at this
  exact ⟨c, q, e, by rw [Nat.mul_one]; exact this⟩
theorem own_fr_ne {x : UInt64} {n d : Nat} (h : Fr x n d) : val64 x ≠ .nan := by obtain ⟨c, q, e, -⟩ := h; rw [e]; exact Datum.noConfusion
/-- the same fraction with two denominators -/
theorem own_ddiv {x y : UInt64} {a b d : Nat} (hx : Fr x a d) (hy : Fr y b d) (d0 : 0 < d) (b0 : 0 < b) : val64 (ddiv x y) = RR a b := by
  obtain ⟨c, q, e1, h1⟩ := hx
  obtain ⟨c', r, e2, h2⟩ := hy
  have c0 : c' ≠ 0 := fun z => by
    rw [z, Nat.zero_mul, Nat.zero_mul] at h2
    have := Nat.mul_eq_zero.mp h2.symm
    have := Nat.two_pow_pos (-r).toNat
    omega
  rw [val64_ddiv, e1, e2]
  show (if c' = 0 then _ else roundRatio b64 (false != false) c c' (q - r)) = roundRatio b64 false a b 0
  rw [if_neg c0]
  refine roundRatio_congr (by omega) b0 ?_
  have := own_ratio2 h1 h2
  refine Nat.eq_of_mul_eq_mul_right d0 ?_
  rw [show c * b * 2 ^ (q - r - 0).toNat * d = c * d * b * 2 ^ (q - r - 0).toNat by ac_rfl, this]; ac_rfl
theorem own_rr_congr {a b c d : Nat} (b0 : 0 < b) (d0 : 0 < d) (h : a * d = c * b) : RR a b = RR c d := by
  refine roundRatio_congr b0 d0 ?_
  show a * d * 2 ^ 0 = c * b * 2 ^ 0
  rw [h]
/-- K units of 2^-40 are a number of the format -/
theorem own_unit {K : Nat} (h : K < 2 ^ 53) : ∃ V, fits b64 V ∧ V ≠ .nan ∧ zmag b64 V = K * 2 ^ 1034 := by
  obtain ⟨c, q, e, u⟩ := round_exact good_b64 false (c := K) (q := -40) h (by decide) (by decide)
  refine ⟨_, round_fits good_b64 (.fin false K (-40)), by rw [e]; exact Datum.noConfusion, ?_⟩
  rw [e]; show inUnits c q b64.qmin = _
  rw [u]; rfl
theorem own_le {A B K : Nat} (B0 : 0 < B) (hK : K < 2 ^ 53) (h : A * 2 ^ 40 ≤ K * B) : zmag b64 (RR A B) ≤ K * 2 ^ 1034 := by
  obtain ⟨V, v1, v2, v3⟩ := own_unit hK
  rw [← v3]
  refine zmag_roundRatio_le good_b64 (e0 := b64.qmin) B0 v1 v2 (Int.le_refl _) (by decide) ?_
  rw [v3]
  show A * 2 ^ 1074 ≤ K * 2 ^ 1034 * 2 ^ 0 * B
  rw [show (1074 : Nat) = 40 + 1034 by decide, Nat.pow_add, ← Nat.mul_assoc, Nat.pow_zero, Nat.mul_one, Nat.mul_right_comm K _ B]
  exact Nat.mul_le_mul_right _ h
theorem own_ge {A B K : Nat} (B0 : 0 < B) (hK : K < 2 ^ 53) (h : K * B ≤ A * 2 ^ 40) : K * 2 ^ 1034 ≤ zmag b64 (RR A B) := by
  obtain ⟨V, v1, v2, v3⟩ := own_unit hK
  rw [← v3]
  refine zmag_roundRatio_ge good_b64 (e0 := b64.qmin) B0 v1 (Int.le_refl _) (by decide) ?_
  rw [v3]
  show K * 2 ^ 1034 * 2 ^ 0 * B ≤ A * 2 ^ 1074
  rw [show (1074 : Nat) = 40 + 1034 by decide, Nat.pow_add, ← Nat.mul_assoc, Nat.pow_zero, Nat.mul_one, Nat.mul_right_comm K _ B]
  exact Nat.mul_le_mul_right _ h
theorem own_gap {a h b g : Nat} (h0 : 0 < h) (g0 : 0 < g) (hh : h ≤ 2 ^ 17) (gg : g ≤ 2 ^ 17) (lt : a * g < b * h) : (a * 2 ^ 40 + h - 1) / h < b * 2 ^ 40 / g := by
  have k1 : (a * 2 ^ 40 + h - 1) / h * h ≤ a * 2 ^ 40 + h - 1 := Nat.div_mul_le_self _ _
  have k2 := Nat.lt_mul_div_succ (b * 2 ^ 40) g0
  generalize (a * 2 ^ 40 + h - 1) / h = K at k1 ⊢
  generalize b * 2 ^ 40 / g = L at k2 ⊢
  refine Nat.lt_of_not_le fun q => ?_
  have p1 : L * (g * h) ≤ K * (g * h) := Nat.mul_le_mul_right _ q
  have p2 : K * h * g ≤ (a * 2 ^ 40 + h - 1) * g := Nat.mul_le_mul_right _ k1
  have p3 : (a * 2 ^ 40 + h - 1) * g ≤ (a * 2 ^ 40 + h) * g := Nat.mul_le_mul_right _ (by omega)
  have p4 : b * 2 ^ 40 * h < g * (L + 1) * h := Nat.mul_lt_mul_of_pos_right k2 h0
  have p5 : h * g ≤ 2 ^ 17 * 2 ^ 17 := Nat.mul_le_mul hh gg
  have e1 : (a * 2 ^ 40 + h) * g = a * g * 2 ^ 40 + h * g := by rw [Nat.add_mul]; ac_rfl
  have e2 : g * (L + 1) * h = L * (g * h) + h * g := by rw [Nat.mul_add, Nat.add_mul, Nat.mul_one]; ac_rfl
  have e3 : b * 2 ^ 40 * h = b * h * 2 ^ 40 := by ac_rfl
  have e4 : K * (g * h) = K * h * g := by ac_rfl
  omega
theorem own_lt {a h b g : Nat} (h0 : 0 < h) (g0 : 0 < g) (hh : h ≤ 2 ^ 17) (gg : g ≤ 2 ^ 17) (bg : b ≤ g) (lt : a * g < b * h) : zmag b64 (RR a h) < zmag b64 (RR b g) := by
  have gap := own_gap h0 g0 hh gg lt
  have k1 := Nat.lt_mul_div_succ (a * 2 ^ 40 + h - 1) h0
  have k2 : b * 2 ^ 40 / g * g ≤ b * 2 ^ 40 := Nat.div_mul_le_self _ _
  have k3 : b * 2 ^ 40 / g ≤ 2 ^ 40 := by
    refine Nat.le_of_mul_le_mul_right (c := g) (Nat.le_trans k2 ?_) g0
    rw [Nat.mul_comm]; exact Nat.mul_le_mul_left _ bg
  have r1 := own_le (A := a) (B := h) (K := (a * 2 ^ 40 + h - 1) / h) h0 (by omega) (by rw [Nat.mul_comm _ h]; rw [Nat.mul_add, Nat.mul_one] at k1; omega)
  have r2 := own_ge (A := b) (B := g) (K := b * 2 ^ 40 / g) g0 (by omega) k2
  refine Nat.lt_of_le_of_lt r1 (Nat.lt_of_lt_of_le ?_ r2)
  exact Nat.mul_lt_mul_of_pos_right gap (Nat.two_pow_pos _)
theorem own_zv {a b : Nat} : zval b64 (RR a b) = (zmag b64 (RR a b) : Int) := by
  show signed (sgn (roundRatio b64 false a b 0)) _ = _
  rw [sgn_roundRatio]; rfl
theorem own_cmp {x y : UInt64} {a h b g : Nat} (hx : val64 x = RR a h) (hy : val64 y = RR b g) : dcmp x y = some (compare ((zmag b64 (RR a h) : Int)) (zmag b64 (RR b g) : Int)) := by
  rw [dcmp_zval (by rw [hx]; exact own_rr_ne _ _) (by rw [hy]; exact own_rr_ne _ _), hx, hy, own_zv, own_zv]
theorem own_cmp_lt {x y : UInt64} {a h b g : Nat} (hx : val64 x = RR a h) (hy : val64 y = RR b g) (h0 : 0 < h) (g0 : 0 < g) (hh : h ≤ 2 ^ 17) (gg : g ≤ 2 ^ 17) (bg : b ≤ g) (lt : a * g < b * h) : dcmp x y = some .lt := by
  rw [own_cmp hx hy, (compare_lt_iff _ _).mpr (by have := own_lt h0 g0 hh gg bg lt; omega)]
theorem own_cmp_gt {x y : UInt64} {a h b g : Nat} (hx : val64 x = RR a h) (hy : val64 y = RR b g) (h0 : 0 < h) (g0 : 0 < g) (hh : h ≤ 2 ^ 17) (gg : g ≤ 2 ^ 17) (ah : a ≤ h) (lt : b * h < a * g) : dcmp x y = some .gt := by
  rw [own_cmp hx hy, (compare_gt_iff _ _).mpr (by have := own_lt g0 h0 gg hh ah lt; omega)]
theorem own_cmp_eq {x y : UInt64} {a h b g : Nat} (hx : val64 x = RR a h) (hy : val64 y = RR b g) (h0 : 0 < h) (g0 : 0 < g) (e : a * g = b * h) : dcmp x y = some .eq := by
  rw [own_cmp hx hy, (compare_eq_iff _ _).mpr (by rw [own_rr_congr h0 g0 e])]
theorem own_zero : val64 0 = RR 0 1 := by decide +kernel
theorem own_one : val64 4607182418800017408 = RR 1 1 := by decide +kernel
theorem own_pow : ∀ H : Nat, 0 < H → H &&& (H - 1) = 0 → ∃ j, H = 2 ^ j := by
  intro H
  induction H using Nat.strongRecOn with
  | _ H ih =>
    intro h0 h
    have h2 : H / 2 &&& (H - 1) / 2 = 0 := by rw [← Nat.and_div_two, h]
    by_cases e : H % 2 = 0
    · rw [show (H - 1) / 2 = H / 2 - 1 by omega] at h2
      obtain ⟨j, hj⟩ := ih (H / 2) (by omega) (by omega) h2
      exact ⟨j + 1, by rw [Nat.pow_succ]; omega⟩
    · rw [show (H - 1) / 2 = H / 2 by omega, Nat.and_self] at h2
      exact ⟨0, by omega⟩
theorem own_dmulk {x K : UInt64} {s : Bool} {c : Nat} {q k : Int} (hx : val64 x = .fin s c q) (hK : val64 K = .fin false (2 ^ 52) (k - 52)) (ht : 2 ^ 52 ≤ c) (k0 : 0 ≤ k) (hq : q + k ≤ 971) : val64 (dmul x K) = .fin s c (q + k) := by
  have hf := val64_fits x
  rw [hx] at hf
  rw [val64_dmul, hx, hK]
  show roundRatio b64 (s != false) (c * 2 ^ 52) 1 (q + (k - 52)) = _
  rw [Bool.bne_false]
  refine roundRatio_exact good_b64 (by decide) ⟨hf.1, ?_, ?_, .inr (by rw [tails_b64]; exact ht)⟩ ?_
  · have := hf.2.1; omega
  · show q + k ≤ b64.qmax
    have : b64.qmax = 971 := by decide
    omega
  · rw [show (q + (k - 52) - (q + k)).toNat = 0 by omega, show (q + k - (q + (k - 52))).toNat = 52 by omega]; simp
theorem own_full {n : Nat} {c : Nat} {q : Int} (hn : c * 2 ^ q.toNat = n * 2 ^ (-q).toNat) (hf : fits b64 (.fin false c q)) (h0 : 0 < n) (h1 : n < 2 ^ 53) : 2 ^ 52 ≤ c ∧ q ≤ 0 ∧ -53 < q := by
  obtain ⟨f1, f2, f3, f4⟩ := hf
  have e1 : b64.qmin = -1074 := by decide
  have e2 : 2 ^ b64.p = 9007199254740992 := by decide
  have hq : q ≤ 0 ∨ 0 < q := by omega
  have lo : -53 < q := by
    refine Int.lt_of_not_ge fun w => ?_
    rw [show q.toNat = 0 by omega, show (-q).toNat = 53 + ((-q).toNat - 53) by omega, Nat.pow_add] at hn
    have : 1 * (2 ^ 53 * 1) ≤ n * (2 ^ 53 * 2 ^ ((-q).toNat - 53)) := Nat.mul_le_mul h0 (Nat.mul_le_mul_left _ (Nat.two_pow_pos _))
    omega
  have ht : 2 ^ 52 ≤ c := by
    rcases f4 with f4 | f4
    · omega
    · rw [tails_b64] at f4; exact f4
  refine ⟨ht, ?_, lo⟩
  rcases hq with hq | hq
  · exact hq
  · exfalso
    rw [show (-q).toNat = 0 by omega] at hn
    have : 2 ^ 1 ≤ 2 ^ q.toNat := Nat.pow_le_pow_right (by decide) (by omega)
    have : 2 ^ 52 * 2 ^ 1 ≤ c * 2 ^ q.toNat := Nat.mul_le_mul ht this
    omega
theorem own_two {b : Int64} {j : Nat} (h : b.toInt = (2 ^ j : Nat)) (hj : j ≤ 62) : val64 (l2d b) = .fin false (2 ^ 52) ((j : Int) - 52) := by
  rw [val64_l2d, h]
  show roundRatio b64 (decide (((2 ^ j : Nat) : Int) < 0)) ((2 ^ j : Nat) : Int).natAbs 1 0 = _
  rw [decide_eq_false (Int.not_lt.mpr (Int.natCast_nonneg _)), Int.natAbs_natCast]
  have e1 : b64.qmin = -1074 := by decide
  have e3 : b64.qmax = 971 := by decide
  refine roundRatio_exact good_b64 (by decide) ⟨by decide, by omega, by omega, .inr (by decide)⟩ ?_
  rw [Nat.mul_one, ← Nat.pow_add, ← Nat.pow_add]; congr 1; omega
theorem own_back {p : UInt64} {a b : Int64} {A j : Nat} (ha : a.toInt = A) (hb : b.toInt = (2 ^ j : Nat)) (hp : val64 p = RR A (2 ^ j)) (A0 : 0 < A) (A1 : A < 2 ^ 53) (hj : j ≤ 62) : dmul p (l2d b) = l2d a := by
  obtain ⟨c, q, e, hc⟩ := own_fr_l2d ha A1
  rw [Nat.mul_one] at hc
  have hf := val64_fits (l2d a)
  rw [e] at hf
  obtain ⟨f1, f2, f3⟩ := own_full hc hf A0 A1
  have e1 : b64.qmin = -1074 := by decide
  have e3 : b64.qmax = 971 := by decide
  have ep : val64 p = .fin false c (q - j) := by
    rw [hp]
    refine roundRatio_exact good_b64 (Nat.two_pow_pos _) ⟨hf.1, by omega, by omega, .inr (by rw [tails_b64]; exact f1)⟩ ?_
    rw [show (q - (j : Int) - 0).toNat = 0 by omega, show (0 - (q - (j : Int))).toNat = (-q).toNat + j by omega, Nat.pow_add, ← Nat.mul_assoc, ← hc, show q.toNat = 0 by omega, Nat.pow_zero, Nat.mul_one, Nat.mul_one]
  have := own_dmulk ep (own_two hb hj) f1 (by omega) (by omega)
  rw [show q - (j : Int) + (j : Int) = q by omega, ← e] at this
  exact val64_inj (by rw [this, e]; exact Datum.noConfusion) this
end OwnFl
namespace Jvm.Pilot.@@N@@
open Jvm Jvm.ClassFile Sem Op Lib Jvm.Free Jvm.Stand Jvm.LawKit Jvm.RoadKit Bundle Jvm.Pilot.@@N@@.Jvm.D
theorem own_selp {s : State} {args : Array Value} {C : String} {y : MethodName} (h : (Cond.selects C y y).before args s = true) (hpriv : s.PrivateAt y) (hinst : (Cond.instanceMethod y).before args s = true) (hy : y.cls ≠ "java/lang/invoke/MethodHandle" ∧ y.cls ≠ "java/lang/invoke/VarHandle") :
    (Cond.selects y.cls y y).before args s = true := by
  obtain ⟨c, r, mm, -, hr, hm, -, mk, hmk, hni⟩ := Cond.selects_spec h
  obtain ⟨mk', methM, hnamed, hmethM, -, -⟩ := Cond.instanceMethod_spec hinst
  cases hm.symm.trans hnamed
  have hfound : s.methodFound? y.cls y.name y.desc = some mm := State.methodFound?_of_named hnamed hy
  have hsel : selectMethod {} s.vm mm.cls mm = .method mm := selectMethod_private hmethM (hpriv mm methM hnamed hmethM)
  simp only [Cond.before, Cond.holds, Cond.value, findClass_of_methodNamed hnamed, hfound, hnamed, hsel, hmk]
  simp; exact hni
theorem own_nf {s : State} {a0 : Array Value} {y y' : MethodName} (h : NotFace s y) (hd : (Jvm.Cond.declares y).before a0 s = true) (e : y.cls = y'.cls) : NotFace s y' := fun r0 h0 => by
  obtain ⟨m, meth, hn, -, -, -⟩ := Cond.declares_spec hd
  obtain ⟨kr, hk, hi⟩ := h m hn
  have a := findClass_of_methodNamed hn
  have b := findClass_of_methodNamed h0
  rw [e] at a
  have c := Option.some.inj (a.symm.trans b)
  exact ⟨kr, by rw [← c]; exact hk, hi⟩
theorem own_same {Z : State} {a0 : Array Value} {y : MethodName} (hf : NotFace Z y) (h : (Jvm.Cond.declares y).before a0 Z = true) (hy : y.cls ≠ "java/lang/invoke/MethodHandle" ∧ y.cls ≠ "java/lang/invoke/VarHandle") : (Jvm.Cond.sameMethod y.cls y.cls y.name y.desc).before a0 Z = true := by
  obtain ⟨m, meth, hn, hm, -, -⟩ := Cond.declares_spec h
  have hfc := findClass_of_methodNamed hn
  have hfo := State.methodFound?_of_named hn hy
  have hn' : Z.methodNamed? ⟨y.cls, y.name, y.desc⟩ = some m := hn
  obtain ⟨kr, hk, hi⟩ := hf m hn
  simp [Cond.before, Cond.holds, Cond.value, hfc, hfo, hn', hk, hi]
theorem own_wd {Z : State} {a0 : Array Value} (hw : ∀ d ∈ tables_1, d.before a0 Z = true) (i : Nat) {d : Jvm.Cond} (h : tables_1[i]? = some d) : d.before a0 Z = true := hw _ (List.mem_of_getElem? h)
def own_b (P : Prop) [Decidable P] : Int32 := if P then (1 : Int32) else (0 : Int32)
theorem own_bt {P : Prop} [Decidable P] (h : P) : own_b P = (1 : Int32) := if_pos h
theorem own_bf {P : Prop} [Decidable P] (h : ¬ P) : own_b P = (0 : Int32) := if_neg h
theorem own_btn {P : Prop} [Decidable P] (h : P) : ¬ (own_b P = (0 : Int32)) := by rw [own_bt h]; decide
theorem own_bfn {P : Prop} [Decidable P] (h : ¬ P) : ¬ (own_b P = (1 : Int32)) := by rw [own_bf h]; decide
theorem own_b_congr {P Q : Prop} [Decidable P] [Decidable Q] (h : P ↔ Q) : own_b P = own_b Q := by
  by_cases q : P
  · rw [own_bt q, own_bt (h.mp q)]
  · rw [own_bf q, own_bf fun z => q (h.mpr z)]
theorem own_eqI {args : Array Value} {s : State} {t : Term} {k : Int32} (h : (Jvm.Cond.eq t (.int k)).value args s none s [] = some true) : t.eval args s none [] s = some (.int k) := by
  obtain ⟨x, y, h1, h2, -, h4⟩ := cmp_v (Or.inl h)
  cases Option.some.inj (h2.symm.trans (Term.int_eval k))
  obtain ⟨z, rfl⟩ := h4
  rw [h1, gotT (Cond.eq_ints h1 h2) h]
theorem own_eqR {args : Array Value} {s : State} {t u : Term} {y : Addr} (hu : u.eval args s none [] s = some (.ref y)) (h : (Jvm.Cond.eq t u).value args s none s [] = some true) : t.eval args s none [] s = some (.ref y) := by
  obtain ⟨x, y', h1, h2, -, h4⟩ := cmp_v (Or.inl h)
  cases Option.some.inj (h2.symm.trans hu)
  rw [h1, gotT (eq_R h1 h2 h4.2 rfl) h]
theorem own_len {args : Array Value} {s : State} {t : Term} {a : Addr} {cl : Cell} {ty : FieldType} {k : Int32} (ev : t.eval args s none [] s = some (.ref a)) (A : Arr s s.heap a cl ty) (h : (Term.length t).eval args s none [] s = some (.int k)) : cl.slots.size < 2 ^ 31 ∧ cl.slots.size.toInt32 = k := by
  have ha : s.arrayAt? a = some cl := A.fin (Vm.Alike.refl _)
  by_cases hl : cl.slots.size < 2 ^ 31
  · rw [len_f ev ha hl] at h
    exact ⟨hl, by simpa using h⟩
  · simp [Term.eval, ev, ha, hl] at h
theorem own_eqL {args : Array Value} {s : State} {t : Term} {k : Int64} (h : (Jvm.Cond.eq t (.long k)).value args s none s [] = some true) : t.eval args s none [] s = some (.long k) := by
  obtain ⟨x, y, h1, h2, -, h4⟩ := cmp_v (Or.inl h)
  cases Option.some.inj (h2.symm.trans (long_at k))
  obtain ⟨z, rfl⟩ := h4
  rw [h1, gotT (eq_L h1 h2) h]
theorem own_nnv {x : UInt64} (h : Jvm.FP.Core.val64 x ≠ .nan) : Jvm.Free.Fl.NoNaN64 x := Jvm.Free.Fl.val64_no.mpr h
theorem own_m31 (x : Int32) : ¬ ((x &&& (2147483647 : Int32)) < (0 : Int32)) := by
  have h := c_mask x (2147483647 : Int32) 31 (by decide) (by decide)
  rw [Int32.lt_iff_toInt_lt, h, show (0 : Int32).toInt = 0 by decide]
  have : (0 : Int) ≤ x.toInt % (2 ^ 31 : Nat) := Int.emod_nonneg _ (by decide)
  omega
theorem own_hv {h x : Int32} (e : h = (2 : Int32) + (x &&& (65535 : Int32))) : ∃ H : Nat, h.toInt = (H : Int) ∧ 2 ≤ H ∧ H ≤ 65537 := by
  have m := c_mask x (65535 : Int32) 16 (by decide) (by decide)
  have a := c_iadd (2 : Int32) (x &&& (65535 : Int32))
  have r := rng32 ((2 : Int32) + (x &&& (65535 : Int32)))
  rw [← e] at a r
  rw [m, show (2 : Int32).toInt = 2 by decide] at a
  exact ⟨h.toInt.toNat, by omega, by omega, by omega⟩
theorem own_h1 {h : Int32} {H : Nat} (eH : h.toInt = (H : Int)) (H1 : 2 ≤ H) (H2 : H ≤ 65537) : (h - (1 : Int32)).toInt = (H : Int) - 1 := by
  have a := c_isub h (1 : Int32)
  have r := rng32 (h - (1 : Int32))
  rw [show (1 : Int32).toInt = 1 by decide, eH] at a
  omega
theorem own_nz {h : Int32} {H : Nat} (eH : h.toInt = (H : Int)) (H1 : 2 ≤ H) (H2 : H ≤ 65537) : h - (1 : Int32) ≠ 0 := fun q => by
  have := own_h1 eH H1 H2
  rw [q, show (0 : Int32).toInt = 0 by decide] at this
  omega
theorem own_av {a h x : Int32} {H : Nat} (e : a = (1 : Int32) + ((x &&& (2147483647 : Int32)) % (h - (1 : Int32)))) (eH : h.toInt = (H : Int)) (H1 : 2 ≤ H) (H2 : H ≤ 65537) : ∃ A : Nat, a.toInt = (A : Int) ∧ 1 ≤ A ∧ A < H := by
  have m := c_mask x (2147483647 : Int32) 31 (by decide) (by decide)
  have m0 : (0 : Int) ≤ x.toInt % (2 ^ 31 : Nat) := Int.emod_nonneg _ (by decide)
  have d := own_h1 eH H1 H2
  have v := (c_iremV (x &&& (2147483647 : Int32)) (h - (1 : Int32))).1 (by rw [m]; exact m0) (by rw [d]; omega)
  have b := c_iadd (1 : Int32) ((x &&& (2147483647 : Int32)) % (h - (1 : Int32)))
  have r := rng32 ((1 : Int32) + ((x &&& (2147483647 : Int32)) % (h - (1 : Int32))))
  rw [← e] at b r
  rw [show (1 : Int32).toInt = 1 by decide] at b
  rw [d] at v
  exact ⟨a.toInt.toNat, by omega, by omega, by omega⟩
theorem own_ng {a : Int32} {A H : Nat} (eA : a.toInt = (A : Int)) (A1 : 1 ≤ A) (A2 : A < H) (H2 : H ≤ 65537) : (-a) < (0 : Int32) := by
  have n := c_ineg a
  have r := rng32 (-a)
  rw [Int32.lt_iff_toInt_lt, show (0 : Int32).toInt = 0 by decide]
  omega
theorem own_p {a h : Int32} {A H : Nat} (eA : a.toInt = (A : Int)) (eH : h.toInt = (H : Int)) (A2 : A < H) (H2 : H ≤ 65537) : Jvm.FP.Core.val64 (FP.ddiv (FP.i2d (-(-a))) (FP.i2d h)) = OwnFl.RR A H := by
  rw [Int32.neg_neg, i2d_w, i2d_w]
  exact OwnFl.own_ddiv (d := 1) (OwnFl.own_fr_l2d (by rw [Int32.toInt_toInt64]; exact eA) (by omega)) (OwnFl.own_fr_l2d (by rw [Int32.toInt_toInt64]; exact eH) (by omega)) (by decide) (by omega)
theorem own_vlt {r : Option Ordering} (h : r = some .lt) (o : CmpOp) : cmpValue r o < (0 : Int32) := by subst h; cases o <;> decide
theorem own_veq {r : Option Ordering} (h : r = some .eq) (o : CmpOp) : cmpValue r o = (0 : Int32) := by subst h; cases o <;> decide
theorem own_vneq {r : Option Ordering} (h : r = some .lt ∨ r = some .gt) (o : CmpOp) : ¬ (cmpValue r o = (0 : Int32)) := by rcases h with h | h <;> subst h <;> cases o <;> decide
theorem own_vnlt {r : Option Ordering} (h : r = some .eq ∨ r = some .gt) (o : CmpOp) : ¬ (cmpValue r o < (0 : Int32)) := by rcases h with h | h <;> subst h <;> cases o <;> decide
theorem own_mul {v : Int64} {a g : Int32} {A G : Nat} (e : v = a.toInt64 * g.toInt64) (eA : a.toInt = (A : Int)) (eG : g.toInt = (G : Int)) (hA : A ≤ 65537) (hG : G ≤ 65537) : v.toInt = ((A * G : Nat) : Int) := by
  have b : A * G ≤ 65537 * 65537 := Nat.mul_le_mul hA hG
  have c0 : a.toInt64.toInt * g.toInt64.toInt = ((A * G : Nat) : Int) := by rw [Int32.toInt_toInt64, Int32.toInt_toInt64, eA, eG]; exact (Int.natCast_mul _ _).symm
  rw [e, Jvm.FP.Core.int64_mul (by rw [c0]; omega) (by rw [c0]; omega), c0]
theorem own_llt {v w : Int64} {M N : Nat} (ev : v.toInt = (M : Int)) (ew : w.toInt = (N : Int)) : lcmpW v w < (0 : Int32) ↔ M < N := by
  rw [lw_lt, Int64.lt_iff_toInt_lt, ev, ew]; omega
theorem own_leq {v w : Int64} {M N : Nat} (ev : v.toInt = (M : Int)) (ew : w.toInt = (N : Int)) : lcmpW v w = (0 : Int32) ↔ M = N := by
  rw [lw_eq, ← Int64.toInt_inj, ev, ew]; omega
theorem own_tn {h : Int32} {H : Nat} (eH : h.toInt = (H : Int)) : h.toBitVec.toNat = H := by
  have e : h.toBitVec.toInt = (H : Int) := eH
  rw [BitVec.toInt_eq_toNat_cond] at e
  split at e <;> omega
theorem own_bk {p : UInt64} {a h : Int32} {A H : Nat} (eA : a.toInt = (A : Int)) (eH : h.toInt = (H : Int)) (A1 : 1 ≤ A) (A2 : A < H) (H1 : 2 ≤ H) (H2 : H ≤ 65537) (vp : Jvm.FP.Core.val64 p = OwnFl.RR A H) (hz : (h &&& (h - (1 : Int32))) = (0 : Int32)) : FP.dmul p (FP.i2d h) = FP.i2d a := by
  have e2 : (h - (1 : Int32)).toBitVec.toNat = H - 1 := own_tn (by rw [own_h1 eH H1 H2]; omega)
  have e3 : H &&& (H - 1) = 0 := by
    have := congrArg (fun z : Int32 => z.toBitVec.toNat) hz
    simp only [Int32.toBitVec_and, BitVec.toNat_and, e2, own_tn eH] at this
    exact this
  obtain ⟨j, hj⟩ := OwnFl.own_pow H (by omega) e3
  have hj2 : j ≤ 62 := by
    refine Nat.le_of_not_lt fun q => ?_
    have : 2 ^ 17 ≤ 2 ^ j := Nat.pow_le_pow_right (by decide) (by omega)
    omega
  rw [i2d_w, i2d_w]
  exact OwnFl.own_back (by rw [Int32.toInt_toInt64]; exact eA) (by rw [Int32.toInt_toInt64, eH, hj]) (by rw [← hj]; exact vp) (by omega) (by omega) hj2
theorem own_qn (q : Int32) : Jvm.Free.Fl.NoNaN64 (FP.i2d q) := nn_w (i2d_w q)
theorem own_not_lt {M N : Nat} (h : ¬ M < N) : M = N ∨ N < M := by omega

theorem d2_0 : decode jdk_30_method_1_code 0 = .ok (.aload_n 0, 1) := by decide +kernel
theorem d2_1 : decode jdk_30_method_1_code 1 = .ok (.invokespecial 1, 3) := by decide +kernel
theorem d2_4 : decode jdk_30_method_1_code 4 = .ok (.return_, 1) := by decide +kernel
theorem pn_java_lang_Record : plainName "java/lang/Record" = true := by first | (simp [plainName, overriddenIn]; done) | decide +kernel
theorem ef2 (m : MethodId) (tz : Addr) : entryFrame m #[(.ref tz)] 1 = mkF m 0 #[.val (.ref tz)] [] := by first | (simp [entryFrame, mkF, argsToLocals, Value.category]; done) | rfl
def Q2 (Z : State) (tz : Addr) (h0 : Heap) (n0 : Nat) (v : Option Value) (h : Heap) (L : List Loc) : Prop := v = none ∧ Fr n0 L ∧ h = h0
set_option maxRecDepth 65536 in
set_option maxHeartbeats 40000000 in
theorem rm2 (l : Launch) (Z : State) (a0 : Array Value) (hw : ∀ d ∈ tables_1, d.before a0 Z = true) (ws : List Jvm.Cond) (tz : Addr) (h0 : Heap) (n0 : Nat) (Z0 : n0 ≤ h0.size) (O0 : Old Z n0 h0) :
    MetFree l (⟨"java/lang/Record", "<init>", "()V"⟩ : MethodName) (head1 (Jvm.Cond.code (⟨"java/lang/Record", "<init>", "()V"⟩ : MethodName) jdk_30_method_1_code 1 none :: ws) ({ frames := 1, cells := 0, slots := 0, locals := 12 } : Room)) (fun a U => a = #[(.ref tz)] ∧ Z.Warmed39 U.vm ∧ U.heap = h0) (fun _ _ _ _ _ => True) (fun _ U o U' => ∃ v L, o = .returned v ∧ Q2 Z tz h0 n0 v U'.heap L ∧ FrameEnd U o U' L ({ frames := 1, cells := 0, slots := 0, locals := 12 } : Room).cells ({ frames := 1, cells := 0, slots := 0, locals := 12 } : Room).slots) := by
  refine MetFree.of_bodySF (plainFor_of_name pn_java_lang_Record) hisR ?_
  intro p e s m args below meth c s₁ Bd hml0 hP hK
  obtain ⟨rfl, hZ, hh⟩ := hP
  have hx := Bd.exec
  have hby := Bd.bytes
  have hml : c.maxLocals = 1 := hml0
  have hown : s.vm.findClass "java/lang/Record" = some m.cls := findClass_of_methodNamed Bd.named
  have hnm := (name_of_methodNamed Bd.named Bd.method).1
  have X0 : Stand p l e ({ frames := 1, cells := 0, slots := 0, locals := 12 } : Room) s m #[(.ref tz)] below meth c s₁ [] 0 0 := Stand.of_body Bd
  have e0 : s₁.heap = h0 := by rw [← hh, Bd.state]; rfl
  have N0 := Fr.nil n0
  have K0 : Keep h0 h0 [] := Keep.refl _ _
  have pre0 : ∀ t, Steps p.tables e below (s₁.setTop (mkF m 0 #[.val (.ref tz)] [])) t → Steps p.tables e below (s₁.setTop (entryFrame m #[(.ref tz)] 1)) t := fun t k => castTop (ef2 m tz) k
  obtain ⟨T1, X1, e1, st1⟩ := initO X0 hx hZ hown (own_wd hw 15 rfl) (own_wd hw 16 rfl) (own_wd hw 17 rfl) e0 (g := (mkF m 1 #[.val (.ref tz)] [(.ref tz)])) rfl (by rw [hml]; rfl) rfl (hb hby d2_1) (by decide) (W := 0) (by show 2 * 0 + _ ≤ _; exact Nat.le_of_eq rfl) (by decide)
  obtain ⟨fs, hr, hrun, hended, hW, hsame⟩ := X1.leave (v := none) (fun _ => rfl)
  refine ⟨_, _, pre0 _ ?_, hrun, hended, _, _, rfl, ?_, ⟨_, rfl⟩, hW, hsame.mono (by decide) (by decide)⟩
  · show Steps p.tables e below (s₁.setTop (mkF m 0 #[.val (.ref tz)] [])) _
    refine XS.aloadN X0.here hx rfl (hb hby d2_0) rfl rfl ?_
    show Steps p.tables e below (s₁.setTop (mkF m 1 #[.val (.ref tz)] [(.ref tz)])) _
    refine st1 _ ?_
    show Steps p.tables e below (T1.setTop (mkF m 4 #[.val (.ref tz)] [])) _
    exact X1.returnOut hx Bd.returns (hb hby d2_4) hr
  · show Q2 Z tz h0 n0 _ T1.heap _
    rw [e1]
    exact ⟨rfl, N0, rfl⟩
theorem d1_0 : decode prog_14_method_1_code 0 = .ok (.aload_n 0, 1) := by decide +kernel
theorem pd_0 : parseMethodDescriptor "()V" = some ⟨[], none⟩ := by decide +kernel
theorem d1_1 : decode prog_14_method_1_code 1 = .ok (.invokespecial 1, 3) := by decide +kernel
theorem d1_4 : decode prog_14_method_1_code 4 = .ok (.aload_n 0, 1) := by decide +kernel
theorem d1_5 : decode prog_14_method_1_code 5 = .ok (.iload_n 1, 1) := by decide +kernel
theorem d1_6 : decode prog_14_method_1_code 6 = .ok (.putfield 7, 3) := by decide +kernel
theorem d1_9 : decode prog_14_method_1_code 9 = .ok (.aload_n 0, 1) := by decide +kernel
theorem d1_10 : decode prog_14_method_1_code 10 = .ok (.iload_n 2, 1) := by decide +kernel
theorem d1_11 : decode prog_14_method_1_code 11 = .ok (.putfield 13, 3) := by decide +kernel
theorem d1_14 : decode prog_14_method_1_code 14 = .ok (.return_, 1) := by decide +kernel
theorem pn_com_example_headmast_headmast_Pin : plainName "com/example/headmast/headmast/Pin" = true := by first | (simp [plainName, overriddenIn]; done) | decide +kernel
theorem ef1 (m : MethodId) (tz : Addr) (x1 : Int32) (x2 : Int32) : entryFrame m #[(.ref tz), (.int x1), (.int x2)] 3 = mkF m 0 #[.val (.ref tz), .val (.int x1), .val (.int x2)] [] := by first | (simp [entryFrame, mkF, argsToLocals, Value.category]; done) | rfl
def Q1 (Z : State) (tz : Addr) (x1 : Int32) (x2 : Int32) (u_tz_section : Value) (u_tz_push : Value) (h0 : Heap) (n0 : Nat) (v : Option Value) (h : Heap) (L : List Loc) : Prop := v = none ∧ Fr n0 L ∧ Keep h0 h [tz] ∧ Exa Z h tz "com/example/headmast/headmast/Pin" ∧ Fld Z h tz "com/example/headmast/headmast/Pin" "push" "I" (.int x2)
set_option maxRecDepth 65536 in
set_option maxHeartbeats 40000000 in
theorem rm1 (l : Launch) (Z : State) (a0 : Array Value) (hw : ∀ d ∈ tables_1, d.before a0 Z = true) (ws : List Jvm.Cond) (tz : Addr) (x1 : Int32) (x2 : Int32) (u_tz_section : Value) (u_tz_push : Value) (h0 : Heap) (n0 : Nat) (Z0 : n0 ≤ h0.size) (O0 : Old Z n0 h0) (E_tz : Exa Z h0 tz "com/example/headmast/headmast/Pin") (F_u_tz_section : Fld Z h0 tz "com/example/headmast/headmast/Pin" "section" "I" u_tz_section) (g_tz : n0 ≤ tz) (F_u_tz_push : Fld Z h0 tz "com/example/headmast/headmast/Pin" "push" "I" u_tz_push) :
    MetFree l (⟨"com/example/headmast/headmast/Pin", "<init>", "(II)V"⟩ : MethodName) (head1 (Jvm.Cond.code (⟨"com/example/headmast/headmast/Pin", "<init>", "(II)V"⟩ : MethodName) prog_14_method_1_code 3 none :: ws) ({ frames := 2, cells := 0, slots := 0, locals := 24 } : Room)) (fun a U => a = #[(.ref tz), (.int x1), (.int x2)] ∧ Z.Warmed39 U.vm ∧ U.heap = h0) (fun _ _ _ _ _ => True) (fun _ U o U' => ∃ v L, o = .returned v ∧ Q1 Z tz x1 x2 u_tz_section u_tz_push h0 n0 v U'.heap L ∧ FrameEnd U o U' L ({ frames := 2, cells := 0, slots := 0, locals := 24 } : Room).cells ({ frames := 2, cells := 0, slots := 0, locals := 24 } : Room).slots) := by
  refine MetFree.of_bodySF (plainFor_of_name pn_com_example_headmast_headmast_Pin) hisR ?_
  intro p e s m args below meth c s₁ Bd hml0 hP hK
  obtain ⟨rfl, hZ, hh⟩ := hP
  have hx := Bd.exec
  have hby := Bd.bytes
  have hml : c.maxLocals = 3 := hml0
  have hown : s.vm.findClass "com/example/headmast/headmast/Pin" = some m.cls := findClass_of_methodNamed Bd.named
  have hnm := (name_of_methodNamed Bd.named Bd.method).1
  have X0 : Stand p l e ({ frames := 2, cells := 0, slots := 0, locals := 24 } : Room) s m #[(.ref tz), (.int x1), (.int x2)] below meth c s₁ [] 0 0 := Stand.of_body Bd
  have e0 : s₁.heap = h0 := by rw [← hh, Bd.state]; rfl
  have N0 := Fr.nil n0
  have K0 : Keep h0 h0 [tz] := Keep.refl _ _
  have pre0 : ∀ t, Steps p.tables e below (s₁.setTop (mkF m 0 #[.val (.ref tz), .val (.int x1), .val (.int x2)] [])) t → Steps p.tables e below (s₁.setTop (entryFrame m #[(.ref tz), (.int x1), (.int x2)] 3)) t := fun t k => castTop (ef1 m tz x1 x2) k
  obtain ⟨_, _, ⟨T2, L2, k2, n2⟩, -, X2, ⟨Lc2, hQ2, l2, y2, z2⟩, st2⟩ := X0.specialBack hx (y := (⟨"java/lang/Record", "<init>", "()V"⟩ : MethodName)) rfl hown (mvT hZ (own_wd hw 10 rfl)) (mvT hZ (own_wd hw 11 rfl)) (mvT hZ (own_wd hw 14 rfl)) (by decide) (backOf (W := 0) (rm2 l Z a0 hw [] tz h0 n0 Z0 O0) hZ (own_wd hw 14 rfl) (own_wd hw 13 rfl) (by decide) (by decide)) (g := (mkF m 1 #[.val (.ref tz), .val (.int x1), .val (.int x2)] [(.ref tz)])) rfl (by rw [hml]; rfl) (Steps.refl _) (a := tz) (argsL := []) (rest := []) (lenOf pd_0 rfl) rfl (by show 2 * 0 + _ ≤ _; exact Nat.le_of_eq rfl) (hb hby d1_1) (fun _ _ => ⟨rfl, e0, (by decide : 0 + 0 ≤ _), (by decide : 0 + 0 ≤ _)⟩)
  dsimp only [Pt.U, Pt.locs, Pt.cells, Pt.slots] at X2 l2 y2 z2 st2 hQ2
  subst l2 y2 z2
  obtain ⟨rfl, N2q, eh2⟩ := hQ2
  have N2 := Fr.app N0 N2q
  obtain ⟨T3, h3, X3, e3, W3, st3⟩ := putF X2 hx hZ hown (host := "") (Or.inl (own_wd hw 18 rfl)) Via.refl eh2 F_u_tz_section E_tz (Or.inr ⟨(own_wd hw 19 rfl), rfl, hnm⟩) (own_wd hw 4 rfl) (ty := .int) (by decide) rfl rfl (g := (mkF m 6 #[.val (.ref tz), .val (.int x1), .val (.int x2)] [(.int x1), (.ref tz)])) rfl rfl (hb hby d1_6)
  have O3 : Old Z n0 h3 := O0.wr W3 g_tz
  have Z3 : n0 ≤ h3.size := Nat.le_trans Z0 (Keep.of_wr W3).1
  have K3 : Keep h0 h3 [tz] := K0.wr W3 (Or.inl (List.mem_of_getElem? (i := 0) rfl))
  have N3 := Fr.snoc X3 N2 g_tz
  have Fw3 : Fld Z h3 tz "com/example/headmast/headmast/Pin" "section" "I" (.int x1) := F_u_tz_section.same W3
  have C4 : Exa Z h3 tz "com/example/headmast/headmast/Pin" := (E_tz.wr W3)
  have F5 : Fld Z h3 tz "com/example/headmast/headmast/Pin" "push" "I" u_tz_push := (F_u_tz_push.other W3 (Or.inr (slot_ne (Or.inr (own_wd hw 21 rfl)) (Or.inr (own_wd hw 19 rfl)) (by decide) (t := .int) (t' := .int) (by decide) (by decide))))
  obtain ⟨T6, h6, X6, e6, W6, st6⟩ := putF X3 hx hZ hown (host := "") (Or.inl (own_wd hw 20 rfl)) Via.refl e3 F5 C4 (Or.inr ⟨(own_wd hw 21 rfl), rfl, hnm⟩) (own_wd hw 4 rfl) (ty := .int) (by decide) rfl rfl (g := (mkF m 11 #[.val (.ref tz), .val (.int x1), .val (.int x2)] [(.int x2), (.ref tz)])) rfl rfl (hb hby d1_11)
  have O6 : Old Z n0 h6 := O3.wr W6 g_tz
  have Z6 : n0 ≤ h6.size := Nat.le_trans Z3 (Keep.of_wr W6).1
  have K6 : Keep h0 h6 [tz] := K3.wr W6 (Or.inl (List.mem_of_getElem? (i := 0) rfl))
  have N6 := Fr.snoc X6 N3 g_tz
  have Fw6 : Fld Z h6 tz "com/example/headmast/headmast/Pin" "push" "I" (.int x2) := F5.same W6
  have C7 : Exa Z h6 tz "com/example/headmast/headmast/Pin" := (C4.wr W6)
  obtain ⟨fs, hr, hrun, hended, hW, hsame⟩ := X6.leave (v := none) (fun _ => rfl)
  refine ⟨_, _, pre0 _ ?_, hrun, hended, _, _, rfl, ?_, ⟨_, rfl⟩, hW, hsame.mono (by decide) (by decide)⟩
  · show Steps p.tables e below (s₁.setTop (mkF m 0 #[.val (.ref tz), .val (.int x1), .val (.int x2)] [])) _
    refine XS.aloadN X0.here hx rfl (hb hby d1_0) rfl rfl ?_
    show Steps p.tables e below (s₁.setTop (mkF m 1 #[.val (.ref tz), .val (.int x1), .val (.int x2)] [(.ref tz)])) _
    refine st2.trans ?_
    show Steps p.tables e below (T2.setTop (mkF m 4 #[.val (.ref tz), .val (.int x1), .val (.int x2)] [])) _
    refine XS.aloadN X2.here hx rfl (hb hby d1_4) rfl rfl ?_
    show Steps p.tables e below (T2.setTop (mkF m 5 #[.val (.ref tz), .val (.int x1), .val (.int x2)] [(.ref tz)])) _
    refine XS.iloadN X2.here hx rfl (hb hby d1_5) rfl ?_
    show Steps p.tables e below (T2.setTop (mkF m 6 #[.val (.ref tz), .val (.int x1), .val (.int x2)] [(.int x1), (.ref tz)])) _
    refine st3 _ ?_
    show Steps p.tables e below (T3.setTop (mkF m 9 #[.val (.ref tz), .val (.int x1), .val (.int x2)] [])) _
    refine XS.aloadN X3.here hx rfl (hb hby d1_9) rfl rfl ?_
    show Steps p.tables e below (T3.setTop (mkF m 10 #[.val (.ref tz), .val (.int x1), .val (.int x2)] [(.ref tz)])) _
    refine XS.iloadN X3.here hx rfl (hb hby d1_10) rfl ?_
    show Steps p.tables e below (T3.setTop (mkF m 11 #[.val (.ref tz), .val (.int x1), .val (.int x2)] [(.int x2), (.ref tz)])) _
    refine st6 _ ?_
    show Steps p.tables e below (T6.setTop (mkF m 14 #[.val (.ref tz), .val (.int x1), .val (.int x2)] [])) _
    exact X6.returnOut hx Bd.returns (hb hby d1_14) hr
  · show Q1 Z tz x1 x2 u_tz_section u_tz_push h0 n0 _ T6.heap _
    rw [e6]
    exact ⟨rfl, N6, K6, C7, Fw6⟩
theorem d4_0 : decode prog_5_method_1_code 0 = .ok (.aload_n 0, 1) := by decide +kernel
theorem d4_1 : decode prog_5_method_1_code 1 = .ok (.invokespecial 1, 3) := by decide +kernel
theorem d4_4 : decode prog_5_method_1_code 4 = .ok (.aload_n 0, 1) := by decide +kernel
theorem d4_5 : decode prog_5_method_1_code 5 = .ok (.aload_n 1, 1) := by decide +kernel
theorem d4_6 : decode prog_5_method_1_code 6 = .ok (.putfield 7, 3) := by decide +kernel
theorem d4_9 : decode prog_5_method_1_code 9 = .ok (.aload_n 0, 1) := by decide +kernel
theorem d4_10 : decode prog_5_method_1_code 10 = .ok (.iload_n 2, 1) := by decide +kernel
theorem d4_11 : decode prog_5_method_1_code 11 = .ok (.putfield 13, 3) := by decide +kernel
theorem d4_14 : decode prog_5_method_1_code 14 = .ok (.aload_n 0, 1) := by decide +kernel
theorem d4_15 : decode prog_5_method_1_code 15 = .ok (.iload_n 3, 1) := by decide +kernel
theorem d4_16 : decode prog_5_method_1_code 16 = .ok (.putfield 17, 3) := by decide +kernel
theorem d4_19 : decode prog_5_method_1_code 19 = .ok (.aload_n 0, 1) := by decide +kernel
theorem d4_20 : decode prog_5_method_1_code 20 = .ok (.iload 4, 2) := by decide +kernel
theorem d4_22 : decode prog_5_method_1_code 22 = .ok (.putfield 20, 3) := by decide +kernel
theorem d4_25 : decode prog_5_method_1_code 25 = .ok (.aload_n 0, 1) := by decide +kernel
theorem d4_26 : decode prog_5_method_1_code 26 = .ok (.iload 5, 2) := by decide +kernel
theorem d4_28 : decode prog_5_method_1_code 28 = .ok (.putfield 23, 3) := by decide +kernel
theorem d4_31 : decode prog_5_method_1_code 31 = .ok (.return_, 1) := by decide +kernel
theorem pn_com_example_headmast_headmast_HandOver : plainName "com/example/headmast/headmast/HandOver" = true := by first | (simp [plainName, overriddenIn]; done) | decide +kernel
theorem ef4 (m : MethodId) (tz : Addr) (x1 : Addr) (x2 : Int32) (x3 : Int32) (x4 : Int32) : entryFrame m #[(.ref tz), (.ref x1), (.int x2), (.int x3), (.int x4), (.int (0 : Int32))] 6 = mkF m 0 #[.val (.ref tz), .val (.ref x1), .val (.int x2), .val (.int x3), .val (.int x4), .val (.int (0 : Int32))] [] := by first | (simp [entryFrame, mkF, argsToLocals, Value.category]; done) | rfl
def Q4 (Z : State) (tz : Addr) (x1 : Addr) (x2 : Int32) (x3 : Int32) (x4 : Int32) (u_tz_pin : Value) (u_tz_headerHeight : Value) (u_tz_pinned : Value) (u_tz_alpha : Value) (u_tz_over : Value) (h0 : Heap) (n0 : Nat) (v : Option Value) (h : Heap) (L : List Loc) : Prop := v = none ∧ Fr n0 L ∧ Keep h0 h [tz] ∧ Exa Z h tz "com/example/headmast/headmast/HandOver" ∧ Fld Z h tz "com/example/headmast/headmast/HandOver" "pin" "Lcom/example/headmast/headmast/Pin;" (.ref x1) ∧ Fld Z h tz "com/example/headmast/headmast/HandOver" "headerHeight" "I" (.int x2)
set_option maxRecDepth 65536 in
set_option maxHeartbeats 40000000 in
theorem rm4 (l : Launch) (Z : State) (a0 : Array Value) (hw : ∀ d ∈ tables_1, d.before a0 Z = true) (ws : List Jvm.Cond) (tz : Addr) (x1 : Addr) (x2 : Int32) (x3 : Int32) (x4 : Int32) (u_tz_pin : Value) (u_tz_headerHeight : Value) (u_tz_pinned : Value) (u_tz_alpha : Value) (u_tz_over : Value) (h0 : Heap) (n0 : Nat) (Z0 : n0 ≤ h0.size) (O0 : Old Z n0 h0) (E_tz : Exa Z h0 tz "com/example/headmast/headmast/HandOver") (F_u_tz_pin : Fld Z h0 tz "com/example/headmast/headmast/HandOver" "pin" "Lcom/example/headmast/headmast/Pin;" u_tz_pin) (g_tz : n0 ≤ tz) (F_u_tz_headerHeight : Fld Z h0 tz "com/example/headmast/headmast/HandOver" "headerHeight" "I" u_tz_headerHeight) (F_u_tz_pinned : Fld Z h0 tz "com/example/headmast/headmast/HandOver" "pinned" "I" u_tz_pinned) (F_u_tz_alpha : Fld Z h0 tz "com/example/headmast/headmast/HandOver" "alpha" "I" u_tz_alpha) (F_u_tz_over : Fld Z h0 tz "com/example/headmast/headmast/HandOver" "over" "Z" u_tz_over) :
    MetFree l (⟨"com/example/headmast/headmast/HandOver", "<init>", "(Lcom/example/headmast/headmast/Pin;IIIZ)V"⟩ : MethodName) (head1 (Jvm.Cond.code (⟨"com/example/headmast/headmast/HandOver", "<init>", "(Lcom/example/headmast/headmast/Pin;IIIZ)V"⟩ : MethodName) prog_5_method_1_code 6 none :: ws) ({ frames := 2, cells := 0, slots := 0, locals := 24 } : Room)) (fun a U => a = #[(.ref tz), (.ref x1), (.int x2), (.int x3), (.int x4), (.int (0 : Int32))] ∧ Z.Warmed39 U.vm ∧ U.heap = h0) (fun _ _ _ _ _ => True) (fun _ U o U' => ∃ v L, o = .returned v ∧ Q4 Z tz x1 x2 x3 x4 u_tz_pin u_tz_headerHeight u_tz_pinned u_tz_alpha u_tz_over h0 n0 v U'.heap L ∧ FrameEnd U o U' L ({ frames := 2, cells := 0, slots := 0, locals := 24 } : Room).cells ({ frames := 2, cells := 0, slots := 0, locals := 24 } : Room).slots) := by
  refine MetFree.of_bodySF (plainFor_of_name pn_com_example_headmast_headmast_HandOver) hisR ?_
  intro p e s m args below meth c s₁ Bd hml0 hP hK
  obtain ⟨rfl, hZ, hh⟩ := hP
  have hx := Bd.exec
  have hby := Bd.bytes
  have hml : c.maxLocals = 6 := hml0
  have hown : s.vm.findClass "com/example/headmast/headmast/HandOver" = some m.cls := findClass_of_methodNamed Bd.named
  have hnm := (name_of_methodNamed Bd.named Bd.method).1
  have X0 : Stand p l e ({ frames := 2, cells := 0, slots := 0, locals := 24 } : Room) s m #[(.ref tz), (.ref x1), (.int x2), (.int x3), (.int x4), (.int (0 : Int32))] below meth c s₁ [] 0 0 := Stand.of_body Bd
  have e0 : s₁.heap = h0 := by rw [← hh, Bd.state]; rfl
  have N0 := Fr.nil n0
  have K0 : Keep h0 h0 [tz] := Keep.refl _ _
  have pre0 : ∀ t, Steps p.tables e below (s₁.setTop (mkF m 0 #[.val (.ref tz), .val (.ref x1), .val (.int x2), .val (.int x3), .val (.int x4), .val (.int (0 : Int32))] [])) t → Steps p.tables e below (s₁.setTop (entryFrame m #[(.ref tz), (.ref x1), (.int x2), (.int x3), (.int x4), (.int (0 : Int32))] 6)) t := fun t k => castTop (ef4 m tz x1 x2 x3 x4) k
  obtain ⟨_, _, ⟨T8, L8, k8, n8⟩, -, X8, ⟨Lc8, hQ8, l8, y8, z8⟩, st8⟩ := X0.specialBack hx (y := (⟨"java/lang/Record", "<init>", "()V"⟩ : MethodName)) rfl hown (mvT hZ (own_wd hw 25 rfl)) (mvT hZ (own_wd hw 11 rfl)) (mvT hZ (own_wd hw 14 rfl)) (by decide) (backOf (W := 0) (rm2 l Z a0 hw [] tz h0 n0 Z0 O0) hZ (own_wd hw 14 rfl) (own_wd hw 13 rfl) (by decide) (by decide)) (g := (mkF m 1 #[.val (.ref tz), .val (.ref x1), .val (.int x2), .val (.int x3), .val (.int x4), .val (.int (0 : Int32))] [(.ref tz)])) rfl (by rw [hml]; rfl) (Steps.refl _) (a := tz) (argsL := []) (rest := []) (lenOf pd_0 rfl) rfl (by show 2 * 0 + _ ≤ _; exact Nat.le_of_eq rfl) (hb hby d4_1) (fun _ _ => ⟨rfl, e0, (by decide : 0 + 0 ≤ _), (by decide : 0 + 0 ≤ _)⟩)
  dsimp only [Pt.U, Pt.locs, Pt.cells, Pt.slots] at X8 l8 y8 z8 st8 hQ8
  subst l8 y8 z8
  obtain ⟨rfl, N8q, eh8⟩ := hQ8
  have N8 := Fr.app N0 N8q
  obtain ⟨T9, h9, X9, e9, W9, st9⟩ := putF X8 hx hZ hown (host := "") (Or.inl (own_wd hw 26 rfl)) Via.refl eh8 F_u_tz_pin E_tz (Or.inr ⟨(own_wd hw 27 rfl), rfl, hnm⟩) (own_wd hw 1 rfl) (ty := (.object "com/example/headmast/headmast/Pin")) (by decide) rfl rfl (g := (mkF m 6 #[.val (.ref tz), .val (.ref x1), .val (.int x2), .val (.int x3), .val (.int x4), .val (.int (0 : Int32))] [(.ref x1), (.ref tz)])) rfl rfl (hb hby d4_6)
  have O9 : Old Z n0 h9 := O0.wr W9 g_tz
  have Z9 : n0 ≤ h9.size := Nat.le_trans Z0 (Keep.of_wr W9).1
  have K9 : Keep h0 h9 [tz] := K0.wr W9 (Or.inl (List.mem_of_getElem? (i := 0) rfl))
  have N9 := Fr.snoc X9 N8 g_tz
  have Fw9 : Fld Z h9 tz "com/example/headmast/headmast/HandOver" "pin" "Lcom/example/headmast/headmast/Pin;" (.ref x1) := F_u_tz_pin.same W9
  have C10 : Exa Z h9 tz "com/example/headmast/headmast/HandOver" := (E_tz.wr W9)
  have F11 : Fld Z h9 tz "com/example/headmast/headmast/HandOver" "headerHeight" "I" u_tz_headerHeight := (F_u_tz_headerHeight.other W9 (Or.inr (slot_ne (Or.inr (own_wd hw 29 rfl)) (Or.inr (own_wd hw 27 rfl)) (by decide) (t := .int) (t' := (.object "com/example/headmast/headmast/Pin")) (by decide) (by decide))))
  obtain ⟨T12, h12, X12, e12, W12, st12⟩ := putF X9 hx hZ hown (host := "") (Or.inl (own_wd hw 28 rfl)) Via.refl e9 F11 C10 (Or.inr ⟨(own_wd hw 29 rfl), rfl, hnm⟩) (own_wd hw 1 rfl) (ty := .int) (by decide) rfl rfl (g := (mkF m 11 #[.val (.ref tz), .val (.ref x1), .val (.int x2), .val (.int x3), .val (.int x4), .val (.int (0 : Int32))] [(.int x2), (.ref tz)])) rfl rfl (hb hby d4_11)
  have O12 : Old Z n0 h12 := O9.wr W12 g_tz
  have Z12 : n0 ≤ h12.size := Nat.le_trans Z9 (Keep.of_wr W12).1
  have K12 : Keep h0 h12 [tz] := K9.wr W12 (Or.inl (List.mem_of_getElem? (i := 0) rfl))
  have N12 := Fr.snoc X12 N9 g_tz
  have Fw12 : Fld Z h12 tz "com/example/headmast/headmast/HandOver" "headerHeight" "I" (.int x2) := F11.same W12
  have C13 : Exa Z h12 tz "com/example/headmast/headmast/HandOver" := (C10.wr W12)
  have F14 : Fld Z h12 tz "com/example/headmast/headmast/HandOver" "pinned" "I" u_tz_pinned := ((F_u_tz_pinned.other W9 (Or.inr (slot_ne (Or.inr (own_wd hw 31 rfl)) (Or.inr (own_wd hw 27 rfl)) (by decide) (t := .int) (t' := (.object "com/example/headmast/headmast/Pin")) (by decide) (by decide)))).other W12 (Or.inr (slot_ne (Or.inr (own_wd hw 31 rfl)) (Or.inr (own_wd hw 29 rfl)) (by decide) (t := .int) (t' := .int) (by decide) (by decide))))
  obtain ⟨T15, h15, X15, e15, W15, st15⟩ := putF X12 hx hZ hown (host := "") (Or.inl (own_wd hw 30 rfl)) Via.refl e12 F14 C13 (Or.inr ⟨(own_wd hw 31 rfl), rfl, hnm⟩) (own_wd hw 1 rfl) (ty := .int) (by decide) rfl rfl (g := (mkF m 16 #[.val (.ref tz), .val (.ref x1), .val (.int x2), .val (.int x3), .val (.int x4), .val (.int (0 : Int32))] [(.int x3), (.ref tz)])) rfl rfl (hb hby d4_16)
  have O15 : Old Z n0 h15 := O12.wr W15 g_tz
  have Z15 : n0 ≤ h15.size := Nat.le_trans Z12 (Keep.of_wr W15).1
  have K15 : Keep h0 h15 [tz] := K12.wr W15 (Or.inl (List.mem_of_getElem? (i := 0) rfl))
  have N15 := Fr.snoc X15 N12 g_tz
  have Fw15 : Fld Z h15 tz "com/example/headmast/headmast/HandOver" "pinned" "I" (.int x3) := F14.same W15
  have C16 : Exa Z h15 tz "com/example/headmast/headmast/HandOver" := (C13.wr W15)
  have F17 : Fld Z h15 tz "com/example/headmast/headmast/HandOver" "alpha" "I" u_tz_alpha := (((F_u_tz_alpha.other W9 (Or.inr (slot_ne (Or.inr (own_wd hw 33 rfl)) (Or.inr (own_wd hw 27 rfl)) (by decide) (t := .int) (t' := (.object "com/example/headmast/headmast/Pin")) (by decide) (by decide)))).other W12 (Or.inr (slot_ne (Or.inr (own_wd hw 33 rfl)) (Or.inr (own_wd hw 29 rfl)) (by decide) (t := .int) (t' := .int) (by decide) (by decide)))).other W15 (Or.inr (slot_ne (Or.inr (own_wd hw 33 rfl)) (Or.inr (own_wd hw 31 rfl)) (by decide) (t := .int) (t' := .int) (by decide) (by decide))))
  obtain ⟨T18, h18, X18, e18, W18, st18⟩ := putF X15 hx hZ hown (host := "") (Or.inl (own_wd hw 32 rfl)) Via.refl e15 F17 C16 (Or.inr ⟨(own_wd hw 33 rfl), rfl, hnm⟩) (own_wd hw 1 rfl) (ty := .int) (by decide) rfl rfl (g := (mkF m 22 #[.val (.ref tz), .val (.ref x1), .val (.int x2), .val (.int x3), .val (.int x4), .val (.int (0 : Int32))] [(.int x4), (.ref tz)])) rfl rfl (hb hby d4_22)
  have O18 : Old Z n0 h18 := O15.wr W18 g_tz
  have Z18 : n0 ≤ h18.size := Nat.le_trans Z15 (Keep.of_wr W18).1
  have K18 : Keep h0 h18 [tz] := K15.wr W18 (Or.inl (List.mem_of_getElem? (i := 0) rfl))
  have N18 := Fr.snoc X18 N15 g_tz
  have Fw18 : Fld Z h18 tz "com/example/headmast/headmast/HandOver" "alpha" "I" (.int x4) := F17.same W18
  have C19 : Exa Z h18 tz "com/example/headmast/headmast/HandOver" := (C16.wr W18)
  have F20 : Fld Z h18 tz "com/example/headmast/headmast/HandOver" "over" "Z" u_tz_over := ((((F_u_tz_over.other W9 (Or.inr (slot_ne (Or.inr (own_wd hw 35 rfl)) (Or.inr (own_wd hw 27 rfl)) (by decide) (t := .boolean) (t' := (.object "com/example/headmast/headmast/Pin")) (by decide) (by decide)))).other W12 (Or.inr (slot_ne (Or.inr (own_wd hw 35 rfl)) (Or.inr (own_wd hw 29 rfl)) (by decide) (t := .boolean) (t' := .int) (by decide) (by decide)))).other W15 (Or.inr (slot_ne (Or.inr (own_wd hw 35 rfl)) (Or.inr (own_wd hw 31 rfl)) (by decide) (t := .boolean) (t' := .int) (by decide) (by decide)))).other W18 (Or.inr (slot_ne (Or.inr (own_wd hw 35 rfl)) (Or.inr (own_wd hw 33 rfl)) (by decide) (t := .boolean) (t' := .int) (by decide) (by decide))))
  obtain ⟨T21, h21, X21, e21, W21, st21⟩ := putFN X18 hx hZ hown (own_wd hw 34 rfl) Via.refl e18 F20 C19 (Or.inr ⟨(own_wd hw 35 rfl), rfl, hnm⟩) (own_wd hw 1 rfl) (ty := .boolean) (v' := (.int (0 : Int32))) (by decide) rfl rfl (g := (mkF m 28 #[.val (.ref tz), .val (.ref x1), .val (.int x2), .val (.int x3), .val (.int x4), .val (.int (0 : Int32))] [(.int (0 : Int32)), (.ref tz)])) rfl rfl (hb hby d4_28)
  have O21 : Old Z n0 h21 := O18.wr W21 g_tz
  have Z21 : n0 ≤ h21.size := Nat.le_trans Z18 (Keep.of_wr W21).1
  have K21 : Keep h0 h21 [tz] := K18.wr W21 (Or.inl (List.mem_of_getElem? (i := 0) rfl))
  have N21 := Fr.snoc X21 N18 g_tz
  have Fw21 : Fld Z h21 tz "com/example/headmast/headmast/HandOver" "over" "Z" (.int (0 : Int32)) := F20.same W21
  have C22 : Exa Z h21 tz "com/example/headmast/headmast/HandOver" := (C19.wr W21)
  have F23 : Fld Z h21 tz "com/example/headmast/headmast/HandOver" "pin" "Lcom/example/headmast/headmast/Pin;" (.ref x1) := ((((Fw9.other W12 (Or.inr (slot_ne (Or.inr (own_wd hw 27 rfl)) (Or.inr (own_wd hw 29 rfl)) (by decide) (t := (.object "com/example/headmast/headmast/Pin")) (t' := .int) (by decide) (by decide)))).other W15 (Or.inr (slot_ne (Or.inr (own_wd hw 27 rfl)) (Or.inr (own_wd hw 31 rfl)) (by decide) (t := (.object "com/example/headmast/headmast/Pin")) (t' := .int) (by decide) (by decide)))).other W18 (Or.inr (slot_ne (Or.inr (own_wd hw 27 rfl)) (Or.inr (own_wd hw 33 rfl)) (by decide) (t := (.object "com/example/headmast/headmast/Pin")) (t' := .int) (by decide) (by decide)))).other W21 (Or.inr (slot_ne (Or.inr (own_wd hw 27 rfl)) (Or.inr (own_wd hw 35 rfl)) (by decide) (t := (.object "com/example/headmast/headmast/Pin")) (t' := .boolean) (by decide) (by decide))))
  have F24 : Fld Z h21 tz "com/example/headmast/headmast/HandOver" "headerHeight" "I" (.int x2) := (((Fw12.other W15 (Or.inr (slot_ne (Or.inr (own_wd hw 29 rfl)) (Or.inr (own_wd hw 31 rfl)) (by decide) (t := .int) (t' := .int) (by decide) (by decide)))).other W18 (Or.inr (slot_ne (Or.inr (own_wd hw 29 rfl)) (Or.inr (own_wd hw 33 rfl)) (by decide) (t := .int) (t' := .int) (by decide) (by decide)))).other W21 (Or.inr (slot_ne (Or.inr (own_wd hw 29 rfl)) (Or.inr (own_wd hw 35 rfl)) (by decide) (t := .int) (t' := .boolean) (by decide) (by decide))))
  obtain ⟨fs, hr, hrun, hended, hW, hsame⟩ := X21.leave (v := none) (fun _ => rfl)
  refine ⟨_, _, pre0 _ ?_, hrun, hended, _, _, rfl, ?_, ⟨_, rfl⟩, hW, hsame.mono (by decide) (by decide)⟩
  · show Steps p.tables e below (s₁.setTop (mkF m 0 #[.val (.ref tz), .val (.ref x1), .val (.int x2), .val (.int x3), .val (.int x4), .val (.int (0 : Int32))] [])) _
    refine XS.aloadN X0.here hx rfl (hb hby d4_0) rfl rfl ?_
    show Steps p.tables e below (s₁.setTop (mkF m 1 #[.val (.ref tz), .val (.ref x1), .val (.int x2), .val (.int x3), .val (.int x4), .val (.int (0 : Int32))] [(.ref tz)])) _
    refine st8.trans ?_
    show Steps p.tables e below (T8.setTop (mkF m 4 #[.val (.ref tz), .val (.ref x1), .val (.int x2), .val (.int x3), .val (.int x4), .val (.int (0 : Int32))] [])) _
    refine XS.aloadN X8.here hx rfl (hb hby d4_4) rfl rfl ?_
    show Steps p.tables e below (T8.setTop (mkF m 5 #[.val (.ref tz), .val (.ref x1), .val (.int x2), .val (.int x3), .val (.int x4), .val (.int (0 : Int32))] [(.ref tz)])) _
    refine XS.aloadN X8.here hx rfl (hb hby d4_5) rfl rfl ?_
    show Steps p.tables e below (T8.setTop (mkF m 6 #[.val (.ref tz), .val (.ref x1), .val (.int x2), .val (.int x3), .val (.int x4), .val (.int (0 : Int32))] [(.ref x1), (.ref tz)])) _
    refine st9 _ ?_
    show Steps p.tables e below (T9.setTop (mkF m 9 #[.val (.ref tz), .val (.ref x1), .val (.int x2), .val (.int x3), .val (.int x4), .val (.int (0 : Int32))] [])) _
    refine XS.aloadN X9.here hx rfl (hb hby d4_9) rfl rfl ?_
    show Steps p.tables e below (T9.setTop (mkF m 10 #[.val (.ref tz), .val (.ref x1), .val (.int x2), .val (.int x3), .val (.int x4), .val (.int (0 : Int32))] [(.ref tz)])) _
    refine XS.iloadN X9.here hx rfl (hb hby d4_10) rfl ?_
    show Steps p.tables e below (T9.setTop (mkF m 11 #[.val (.ref tz), .val (.ref x1), .val (.int x2), .val (.int x3), .val (.int x4), .val (.int (0 : Int32))] [(.int x2), (.ref tz)])) _
    refine st12 _ ?_
    show Steps p.tables e below (T12.setTop (mkF m 14 #[.val (.ref tz), .val (.ref x1), .val (.int x2), .val (.int x3), .val (.int x4), .val (.int (0 : Int32))] [])) _
    refine XS.aloadN X12.here hx rfl (hb hby d4_14) rfl rfl ?_
    show Steps p.tables e below (T12.setTop (mkF m 15 #[.val (.ref tz), .val (.ref x1), .val (.int x2), .val (.int x3), .val (.int x4), .val (.int (0 : Int32))] [(.ref tz)])) _
    refine XS.iloadN X12.here hx rfl (hb hby d4_15) rfl ?_
    show Steps p.tables e below (T12.setTop (mkF m 16 #[.val (.ref tz), .val (.ref x1), .val (.int x2), .val (.int x3), .val (.int x4), .val (.int (0 : Int32))] [(.int x3), (.ref tz)])) _
    refine st15 _ ?_
    show Steps p.tables e below (T15.setTop (mkF m 19 #[.val (.ref tz), .val (.ref x1), .val (.int x2), .val (.int x3), .val (.int x4), .val (.int (0 : Int32))] [])) _
    refine XS.aloadN X15.here hx rfl (hb hby d4_19) rfl rfl ?_
    show Steps p.tables e below (T15.setTop (mkF m 20 #[.val (.ref tz), .val (.ref x1), .val (.int x2), .val (.int x3), .val (.int x4), .val (.int (0 : Int32))] [(.ref tz)])) _
    refine XS.iload X15.here hx rfl (hb hby d4_20) rfl ?_
    show Steps p.tables e below (T15.setTop (mkF m 22 #[.val (.ref tz), .val (.ref x1), .val (.int x2), .val (.int x3), .val (.int x4), .val (.int (0 : Int32))] [(.int x4), (.ref tz)])) _
    refine st18 _ ?_
    show Steps p.tables e below (T18.setTop (mkF m 25 #[.val (.ref tz), .val (.ref x1), .val (.int x2), .val (.int x3), .val (.int x4), .val (.int (0 : Int32))] [])) _
    refine XS.aloadN X18.here hx rfl (hb hby d4_25) rfl rfl ?_
    show Steps p.tables e below (T18.setTop (mkF m 26 #[.val (.ref tz), .val (.ref x1), .val (.int x2), .val (.int x3), .val (.int x4), .val (.int (0 : Int32))] [(.ref tz)])) _
    refine XS.iload X18.here hx rfl (hb hby d4_26) rfl ?_
    show Steps p.tables e below (T18.setTop (mkF m 28 #[.val (.ref tz), .val (.ref x1), .val (.int x2), .val (.int x3), .val (.int x4), .val (.int (0 : Int32))] [(.int (0 : Int32)), (.ref tz)])) _
    refine st21 _ ?_
    show Steps p.tables e below (T21.setTop (mkF m 31 #[.val (.ref tz), .val (.ref x1), .val (.int x2), .val (.int x3), .val (.int x4), .val (.int (0 : Int32))] [])) _
    exact X21.returnOut hx Bd.returns (hb hby d4_31) hr
  · show Q4 Z tz x1 x2 x3 x4 u_tz_pin u_tz_headerHeight u_tz_pinned u_tz_alpha u_tz_over h0 n0 _ T21.heap _
    rw [e21]
    exact ⟨rfl, N21, K21, C22, F23, F24⟩
theorem d7_0 : decode prog_14_method_6_code 0 = .ok (.aload_n 0, 1) := by decide +kernel
theorem d7_1 : decode prog_14_method_6_code 1 = .ok (.getfield 13, 3) := by decide +kernel
theorem d7_4 : decode prog_14_method_6_code 4 = .ok (.ireturn, 1) := by decide +kernel
theorem ef7 (m : MethodId) (tz : Addr) : entryFrame m #[(.ref tz)] 1 = mkF m 0 #[.val (.ref tz)] [] := by first | (simp [entryFrame, mkF, argsToLocals, Value.category]; done) | rfl
def Q7 (Z : State) (tz : Addr) (tz_push : Int32) (h0 : Heap) (n0 : Nat) (v : Option Value) (h : Heap) (L : List Loc) : Prop := v = some (.int tz_push) ∧ Fr n0 L ∧ h = h0
set_option maxRecDepth 65536 in
set_option maxHeartbeats 40000000 in
theorem rm7 (l : Launch) (Z : State) (a0 : Array Value) (hw : ∀ d ∈ tables_1, d.before a0 Z = true) (ws : List Jvm.Cond) (tz : Addr) (tz_push : Int32) (h0 : Heap) (n0 : Nat) (Z0 : n0 ≤ h0.size) (O0 : Old Z n0 h0) (F_tz_push : Fld Z h0 tz "com/example/headmast/headmast/Pin" "push" "I" (.int tz_push)) :
    MetFree l (⟨"com/example/headmast/headmast/Pin", "push", "()I"⟩ : MethodName) (head1 (Jvm.Cond.code (⟨"com/example/headmast/headmast/Pin", "push", "()I"⟩ : MethodName) prog_14_method_6_code 1 (some .int) :: ws) ({ frames := 0, cells := 0, slots := 0, locals := 0 } : Room)) (fun a U => a = #[(.ref tz)] ∧ Z.Warmed39 U.vm ∧ U.heap = h0) (fun _ _ _ _ _ => True) (fun _ U o U' => ∃ v L, o = .returned v ∧ Q7 Z tz tz_push h0 n0 v U'.heap L ∧ FrameEnd U o U' L ({ frames := 0, cells := 0, slots := 0, locals := 0 } : Room).cells ({ frames := 0, cells := 0, slots := 0, locals := 0 } : Room).slots) := by
  refine MetFree.of_bodySF (plainFor_of_name pn_com_example_headmast_headmast_Pin) hisR ?_
  intro p e s m args below meth c s₁ Bd hml0 hP hK
  obtain ⟨rfl, hZ, hh⟩ := hP
  have hx := Bd.exec
  have hby := Bd.bytes
  have hml : c.maxLocals = 1 := hml0
  have hown : s.vm.findClass "com/example/headmast/headmast/Pin" = some m.cls := findClass_of_methodNamed Bd.named
  have hnm := (name_of_methodNamed Bd.named Bd.method).1
  have X0 : Stand p l e ({ frames := 0, cells := 0, slots := 0, locals := 0 } : Room) s m #[(.ref tz)] below meth c s₁ [] 0 0 := Stand.of_body Bd
  have e0 : s₁.heap = h0 := by rw [← hh, Bd.state]; rfl
  have N0 := Fr.nil n0
  have K0 : Keep h0 h0 [] := Keep.refl _ _
  have pre0 : ∀ t, Steps p.tables e below (s₁.setTop (mkF m 0 #[.val (.ref tz)] [])) t → Steps p.tables e below (s₁.setTop (entryFrame m #[(.ref tz)] 1)) t := fun t k => castTop (ef7 m tz) k
  obtain ⟨T25, X25, e25, st25⟩ := getF X0 hx hZ hown (host := "") (Or.inl (own_wd hw 20 rfl)) Via.refl e0 F_tz_push (g := (mkF m 1 #[.val (.ref tz)] [(.ref tz)])) rfl rfl (hb hby d7_1)
  obtain ⟨fs, hr, hrun, hended, hW, hsame⟩ := X25.leave (v := some (.int tz_push)) (fun h => by rw [Bd.returns] at h; cases h)
  refine ⟨_, _, pre0 _ ?_, hrun, hended, _, _, rfl, ?_, ⟨_, rfl⟩, hW, hsame.mono (by decide) (by decide)⟩
  · show Steps p.tables e below (s₁.setTop (mkF m 0 #[.val (.ref tz)] [])) _
    refine XS.aloadN X0.here hx rfl (hb hby d7_0) rfl rfl ?_
    show Steps p.tables e below (s₁.setTop (mkF m 1 #[.val (.ref tz)] [(.ref tz)])) _
    refine st25 _ ?_
    show Steps p.tables e below (T25.setTop (mkF m 4 #[.val (.ref tz)] [(.int tz_push)])) _
    exact retI X25 hx Bd.returns (hb hby d7_4) hr
  · show Q7 Z tz tz_push h0 n0 _ T25.heap _
    rw [e25]
    exact ⟨rfl, N0, rfl⟩
theorem d6_0 : decode prog_5_method_3_code 0 = .ok (.aload_n 0, 1) := by decide +kernel
theorem d6_1 : decode prog_5_method_3_code 1 = .ok (.getfield 7, 3) := by decide +kernel
theorem pd_1 : parseMethodDescriptor "()I" = some ⟨[], some .int⟩ := by decide +kernel
theorem d6_4 : decode prog_5_method_3_code 4 = .ok (.invokevirtual 27, 3) := by decide +kernel
theorem d6_7 : decode prog_5_method_3_code 7 = .ok (.ifCond .ge 7, 3) := by decide +kernel
theorem d6_10 : decode prog_5_method_3_code 10 = .ok (.iconst 1, 1) := by decide +kernel
theorem d6_11 : decode prog_5_method_3_code 11 = .ok (.goto 4, 3) := by decide +kernel
theorem d6_15 : decode prog_5_method_3_code 15 = .ok (.ireturn, 1) := by decide +kernel
theorem d6_14 : decode prog_5_method_3_code 14 = .ok (.iconst 0, 1) := by decide +kernel
theorem ef6 (m : MethodId) (tz : Addr) : entryFrame m #[(.ref tz)] 1 = mkF m 0 #[.val (.ref tz)] [] := by first | (simp [entryFrame, mkF, argsToLocals, Value.category]; done) | rfl
def Q6 (Z : State) (tz : Addr) (tz_pin : Addr) (tz_pin_push : Int32) (h0 : Heap) (n0 : Nat) (v : Option Value) (h : Heap) (L : List Loc) : Prop := v = some (.int (own_b (tz_pin_push < (0 : Int32)))) ∧ Fr n0 L ∧ h = h0
set_option maxRecDepth 65536 in
set_option maxHeartbeats 40000000 in
theorem rm6 (l : Launch) (Z : State) (a0 : Array Value) (hw : ∀ d ∈ tables_1, d.before a0 Z = true) (ws : List Jvm.Cond) (tz : Addr) (tz_pin : Addr) (tz_pin_push : Int32) (h0 : Heap) (n0 : Nat) (Z0 : n0 ≤ h0.size) (O0 : Old Z n0 h0) (F_tz_pin : Fld Z h0 tz "com/example/headmast/headmast/HandOver" "pin" "Lcom/example/headmast/headmast/Pin;" (.ref tz_pin)) (F_tz_pin_push : Fld Z h0 tz_pin "com/example/headmast/headmast/Pin" "push" "I" (.int tz_pin_push)) (E_tz_pin : Exa Z h0 tz_pin "com/example/headmast/headmast/Pin") :
    MetFree l (⟨"com/example/headmast/headmast/HandOver", "inFlight", "()Z"⟩ : MethodName) (head1 (Jvm.Cond.code (⟨"com/example/headmast/headmast/HandOver", "inFlight", "()Z"⟩ : MethodName) prog_5_method_3_code 1 (some .boolean) :: ws) ({ frames := 1, cells := 0, slots := 0, locals := 12 } : Room)) (fun a U => a = #[(.ref tz)] ∧ Z.Warmed39 U.vm ∧ U.heap = h0) (fun _ _ _ _ _ => True) (fun _ U o U' => ∃ v L, o = .returned v ∧ Q6 Z tz tz_pin tz_pin_push h0 n0 v U'.heap L ∧ FrameEnd U o U' L ({ frames := 1, cells := 0, slots := 0, locals := 12 } : Room).cells ({ frames := 1, cells := 0, slots := 0, locals := 12 } : Room).slots) := by
  refine MetFree.of_bodySF (plainFor_of_name pn_com_example_headmast_headmast_HandOver) hisR ?_
  intro p e s m args below meth c s₁ Bd hml0 hP hK
  obtain ⟨rfl, hZ, hh⟩ := hP
  have hx := Bd.exec
  have hby := Bd.bytes
  have hml : c.maxLocals = 1 := hml0
  have hown : s.vm.findClass "com/example/headmast/headmast/HandOver" = some m.cls := findClass_of_methodNamed Bd.named
  have hnm := (name_of_methodNamed Bd.named Bd.method).1
  have X0 : Stand p l e ({ frames := 1, cells := 0, slots := 0, locals := 12 } : Room) s m #[(.ref tz)] below meth c s₁ [] 0 0 := Stand.of_body Bd
  have e0 : s₁.heap = h0 := by rw [← hh, Bd.state]; rfl
  have N0 := Fr.nil n0
  have K0 : Keep h0 h0 [] := Keep.refl _ _
  have pre0 : ∀ t, Steps p.tables e below (s₁.setTop (mkF m 0 #[.val (.ref tz)] [])) t → Steps p.tables e below (s₁.setTop (entryFrame m #[(.ref tz)] 1)) t := fun t k => castTop (ef6 m tz) k
  obtain ⟨T26, X26, e26, st26⟩ := getF X0 hx hZ hown (host := "") (Or.inl (own_wd hw 26 rfl)) Via.refl e0 F_tz_pin (g := (mkF m 1 #[.val (.ref tz)] [(.ref tz)])) rfl rfl (hb hby d6_1)
  obtain ⟨cq27, kq27, q27a, q27b, q27c⟩ := isOf hZ e26 E_tz_pin
  obtain ⟨_, _, ⟨T27, L27, k27, n27⟩, -, X27, ⟨Lc27, hQ27, l27, y27, z27⟩, st27⟩ := X26.virtualBack hx (y := (⟨"com/example/headmast/headmast/Pin", "push", "()I"⟩ : MethodName)) (z := (⟨"com/example/headmast/headmast/Pin", "push", "()I"⟩ : MethodName)) hown (mvT hZ (own_wd hw 46 rfl)) (mvT hZ (own_wd hw 47 rfl)) (notFace_of_selects (args := #[]) (mvT hZ (own_wd hw 49 rfl))) (mvT hZ (own_wd hw 49 rfl)) (mvT hZ (own_wd hw 48 rfl)) (by decide) (backOf (W := 0) (rm7 l Z a0 hw [] tz_pin tz_pin_push h0 n0 Z0 O0 F_tz_pin_push) hZ (own_wd hw 50 rfl) (own_wd hw 5 rfl) (by decide) (by decide)) q27a q27c (g := (mkF m 4 #[.val (.ref tz)] [(.ref tz_pin)])) rfl (by rw [hml]; rfl) (Steps.refl _) (argsL := []) (rest := []) (lenOf pd_1 rfl) rfl (by show 2 * 0 + _ ≤ _; exact Nat.le_of_eq rfl) (hb hby d6_4) (fun _ _ => ⟨rfl, e26, (by decide : 0 + 0 ≤ _), (by decide : 0 + 0 ≤ _)⟩)
  dsimp only [Pt.U, Pt.locs, Pt.cells, Pt.slots] at X27 l27 y27 z27 st27 hQ27
  subst l27 y27 z27
  obtain ⟨rfl, N27q, eh27⟩ := hQ27
  have N27 := Fr.app N0 N27q
  have pre28 : ∀ t, Steps p.tables e below (T27.setTop (mkF m 7 #[.val (.ref tz)] [(.int tz_pin_push)])) t → Steps p.tables e below (s₁.setTop (entryFrame m #[(.ref tz)] 1)) t := by
    intro t kt
    refine pre0 t ?_
    show Steps p.tables e below (s₁.setTop (mkF m 0 #[.val (.ref tz)] [])) _
    refine XS.aloadN X0.here hx rfl (hb hby d6_0) rfl rfl ?_
    show Steps p.tables e below (s₁.setTop (mkF m 1 #[.val (.ref tz)] [(.ref tz)])) _
    refine st26 _ ?_
    show Steps p.tables e below (T26.setTop (mkF m 4 #[.val (.ref tz)] [(.ref tz_pin)])) _
    refine st27.trans ?_
    exact kt
  by_cases hc7 : tz_pin_push < (0 : Int32)
  · skip
    obtain ⟨fs, hr, hrun, hended, hW, hsame⟩ := X27.leave (v := some (.int (1 : Int32))) (fun h => by rw [Bd.returns] at h; cases h)
    refine ⟨_, _, pre28 _ ?_, hrun, hended, _, _, rfl, ?_, ⟨_, rfl⟩, hW, hsame.mono (by decide) (by decide)⟩
    · show Steps p.tables e below (T27.setTop (mkF m 7 #[.val (.ref tz)] [(.int tz_pin_push)])) _
      refine XS.ifNo X27.here hx rfl (hb hby d6_7) rfl ((if0 _ _).trans (tlt hc7).2.1) ?_
      show Steps p.tables e below (T27.setTop (mkF m 10 #[.val (.ref tz)] [])) _
      refine XS.iconst X27.here hx rfl (hb hby d6_10) ?_
      show Steps p.tables e below (T27.setTop (mkF m 11 #[.val (.ref tz)] [(.int (1 : Int32))])) _
      refine XS.goto X27.here hx rfl (pc0 := 11) (pc' := 15) rfl (hb hby d6_11) (by decide) (by decide) ?_
      show Steps p.tables e below (T27.setTop (mkF m 15 #[.val (.ref tz)] [(.int (1 : Int32))])) _
      exact retN X27 hx (t := .boolean) Bd.returns (by simp) (hb hby d6_15) hr
    · show Q6 Z tz tz_pin tz_pin_push h0 n0 _ T27.heap _
      rw [eh27]
      exact ⟨(by rw [own_bt hc7]; try rfl), N27, rfl⟩
  · skip
    obtain ⟨fs, hr, hrun, hended, hW, hsame⟩ := X27.leave (v := some (.int (0 : Int32))) (fun h => by rw [Bd.returns] at h; cases h)
    refine ⟨_, _, pre28 _ ?_, hrun, hended, _, _, rfl, ?_, ⟨_, rfl⟩, hW, hsame.mono (by decide) (by decide)⟩
    · show Steps p.tables e below (T27.setTop (mkF m 7 #[.val (.ref tz)] [(.int tz_pin_push)])) _
      refine XS.ifYes X27.here hx rfl (pc0 := 7) (pc' := 14) rfl (hb hby d6_7) rfl ((if0 _ _).trans (flt hc7).2.1) (by decide) (by decide) ?_
      show Steps p.tables e below (T27.setTop (mkF m 14 #[.val (.ref tz)] [])) _
      refine XS.iconst X27.here hx rfl (hb hby d6_14) ?_
      show Steps p.tables e below (T27.setTop (mkF m 15 #[.val (.ref tz)] [(.int (0 : Int32))])) _
      exact retN X27 hx (t := .boolean) Bd.returns (by simp) (hb hby d6_15) hr
    · show Q6 Z tz tz_pin tz_pin_push h0 n0 _ T27.heap _
      rw [eh27]
      exact ⟨(by rw [own_bf hc7]; try rfl), N27, rfl⟩
theorem d5_0 : decode prog_5_method_4_code 0 = .ok (.aload_n 0, 1) := by decide +kernel
theorem pd_2 : parseMethodDescriptor "()Z" = some ⟨[], some .boolean⟩ := by decide +kernel
theorem d5_1 : decode prog_5_method_4_code 1 = .ok (.invokevirtual 48, 3) := by decide +kernel
theorem d5_4 : decode prog_5_method_4_code 4 = .ok (.ifCond .eq 21, 3) := by decide +kernel
theorem d5_7 : decode prog_5_method_4_code 7 = .ok (.aload_n 0, 1) := by decide +kernel
theorem d5_8 : decode prog_5_method_4_code 8 = .ok (.getfield 7, 3) := by decide +kernel
theorem d5_11 : decode prog_5_method_4_code 11 = .ok (.invokevirtual 27, 3) := by decide +kernel
theorem d5_14 : decode prog_5_method_4_code 14 = .ok (.ineg, 1) := by decide +kernel
theorem d5_15 : decode prog_5_method_4_code 15 = .ok (.i2d, 1) := by decide +kernel
theorem d5_16 : decode prog_5_method_4_code 16 = .ok (.aload_n 0, 1) := by decide +kernel
theorem d5_17 : decode prog_5_method_4_code 17 = .ok (.getfield 13, 3) := by decide +kernel
theorem d5_20 : decode prog_5_method_4_code 20 = .ok (.i2d, 1) := by decide +kernel
theorem d5_21 : decode prog_5_method_4_code 21 = .ok (.ddiv, 1) := by decide +kernel
theorem d5_22 : decode prog_5_method_4_code 22 = .ok (.goto 4, 3) := by decide +kernel
theorem d5_26 : decode prog_5_method_4_code 26 = .ok (.dreturn, 1) := by decide +kernel
theorem ef5_f (m : MethodId) (tz : Addr) : entryFrame m #[(.ref tz)] 1 = mkF m 0 #[.val (.ref tz)] [] := by first | (simp [entryFrame, mkF, argsToLocals, Value.category]; done) | rfl
def Q5_f (Z : State) (tz : Addr) (tz_pin : Addr) (tz_pin_push : Int32) (tz_headerHeight : Int32) (h0 : Heap) (n0 : Nat) (v : Option Value) (h : Heap) (L : List Loc) : Prop := v = some (.double (FP.ddiv (FP.i2d (-tz_pin_push)) (FP.i2d tz_headerHeight))) ∧ Fr n0 L ∧ h = h0
set_option maxRecDepth 65536 in
set_option maxHeartbeats 40000000 in
theorem rm5_f (l : Launch) (Z : State) (a0 : Array Value) (hw : ∀ d ∈ tables_1, d.before a0 Z = true) (ws : List Jvm.Cond) (tz : Addr) (tz_pin : Addr) (tz_pin_push : Int32) (tz_headerHeight : Int32) (h0 : Heap) (n0 : Nat) (Z0 : n0 ≤ h0.size) (O0 : Old Z n0 h0) (hp : tz_pin_push < (0 : Int32)) (hn : Jvm.Free.Fl.NoNaN64 (FP.ddiv (FP.i2d (-tz_pin_push)) (FP.i2d tz_headerHeight))) (F_tz_pin : Fld Z h0 tz "com/example/headmast/headmast/HandOver" "pin" "Lcom/example/headmast/headmast/Pin;" (.ref tz_pin)) (F_tz_pin_push : Fld Z h0 tz_pin "com/example/headmast/headmast/Pin" "push" "I" (.int tz_pin_push)) (E_tz_pin : Exa Z h0 tz_pin "com/example/headmast/headmast/Pin") (E_tz : Exa Z h0 tz "com/example/headmast/headmast/HandOver") (F_tz_headerHeight : Fld Z h0 tz "com/example/headmast/headmast/HandOver" "headerHeight" "I" (.int tz_headerHeight)) :
    MetFree l (⟨"com/example/headmast/headmast/HandOver", "progress", "()D"⟩ : MethodName) (head1 (Jvm.Cond.code (⟨"com/example/headmast/headmast/HandOver", "progress", "()D"⟩ : MethodName) prog_5_method_4_code 1 (some .double) :: ws) ({ frames := 2, cells := 0, slots := 0, locals := 24 } : Room)) (fun a U => a = #[(.ref tz)] ∧ Z.Warmed39 U.vm ∧ U.heap = h0) (fun _ _ _ _ _ => True) (fun _ U o U' => ∃ v L, o = .returned v ∧ Q5_f Z tz tz_pin tz_pin_push tz_headerHeight h0 n0 v U'.heap L ∧ FrameEnd U o U' L ({ frames := 2, cells := 0, slots := 0, locals := 24 } : Room).cells ({ frames := 2, cells := 0, slots := 0, locals := 24 } : Room).slots) := by
  refine MetFree.of_bodySF (plainFor_of_name pn_com_example_headmast_headmast_HandOver) hisR ?_
  intro p e s m args below meth c s₁ Bd hml0 hP hK
  obtain ⟨rfl, hZ, hh⟩ := hP
  have hx := Bd.exec
  have hby := Bd.bytes
  have hml : c.maxLocals = 1 := hml0
  have hown : s.vm.findClass "com/example/headmast/headmast/HandOver" = some m.cls := findClass_of_methodNamed Bd.named
  have hnm := (name_of_methodNamed Bd.named Bd.method).1
  have X0 : Stand p l e ({ frames := 2, cells := 0, slots := 0, locals := 24 } : Room) s m #[(.ref tz)] below meth c s₁ [] 0 0 := Stand.of_body Bd
  have e0 : s₁.heap = h0 := by rw [← hh, Bd.state]; rfl
  have N0 := Fr.nil n0
  have K0 : Keep h0 h0 [] := Keep.refl _ _
  have pre0 : ∀ t, Steps p.tables e below (s₁.setTop (mkF m 0 #[.val (.ref tz)] [])) t → Steps p.tables e below (s₁.setTop (entryFrame m #[(.ref tz)] 1)) t := fun t k => castTop (ef5_f m tz) k
  obtain ⟨cq29, kq29, q29a, q29b, q29c⟩ := isOf hZ e0 E_tz
  obtain ⟨_, _, ⟨T29, L29, k29, n29⟩, -, X29, ⟨Lc29, hQ29, l29, y29, z29⟩, st29⟩ := X0.virtualBack hx (y := (⟨"com/example/headmast/headmast/HandOver", "inFlight", "()Z"⟩ : MethodName)) (z := (⟨"com/example/headmast/headmast/HandOver", "inFlight", "()Z"⟩ : MethodName)) hown (mvT hZ (own_wd hw 41 rfl)) (mvT hZ (own_wd hw 42 rfl)) (notFace_of_selects (args := #[]) (mvT hZ (own_wd hw 44 rfl))) (mvT hZ (own_wd hw 44 rfl)) (mvT hZ (own_wd hw 43 rfl)) (by decide) (backOf (W := 0) (rm6 l Z a0 hw [] tz tz_pin tz_pin_push h0 n0 Z0 O0 F_tz_pin F_tz_pin_push E_tz_pin) hZ (own_wd hw 45 rfl) (own_wd hw 2 rfl) (by decide) (by decide)) q29a q29c (g := (mkF m 1 #[.val (.ref tz)] [(.ref tz)])) rfl (by rw [hml]; rfl) (Steps.refl _) (argsL := []) (rest := []) (lenOf pd_2 rfl) rfl (by show 2 * 0 + _ ≤ _; exact Nat.le_of_eq rfl) (hb hby d5_1) (fun _ _ => ⟨rfl, e0, (by decide : 0 + 0 ≤ _), (by decide : 0 + 0 ≤ _)⟩)
  dsimp only [Pt.U, Pt.locs, Pt.cells, Pt.slots] at X29 l29 y29 z29 st29 hQ29
  subst l29 y29 z29
  obtain ⟨rfl, N29q, eh29⟩ := hQ29
  have N29 := Fr.app N0 N29q
  obtain ⟨T30, X30, e30, st30⟩ := getF X29 hx hZ hown (host := "") (Or.inl (own_wd hw 26 rfl)) Via.refl eh29 F_tz_pin (g := (mkF m 8 #[.val (.ref tz)] [(.ref tz)])) rfl rfl (hb hby d5_8)
  obtain ⟨cq31, kq31, q31a, q31b, q31c⟩ := isOf hZ e30 E_tz_pin
  obtain ⟨_, _, ⟨T31, L31, k31, n31⟩, -, X31, ⟨Lc31, hQ31, l31, y31, z31⟩, st31⟩ := X30.virtualBack hx (y := (⟨"com/example/headmast/headmast/Pin", "push", "()I"⟩ : MethodName)) (z := (⟨"com/example/headmast/headmast/Pin", "push", "()I"⟩ : MethodName)) hown (mvT hZ (own_wd hw 46 rfl)) (mvT hZ (own_wd hw 47 rfl)) (notFace_of_selects (args := #[]) (mvT hZ (own_wd hw 49 rfl))) (mvT hZ (own_wd hw 49 rfl)) (mvT hZ (own_wd hw 48 rfl)) (by decide) (backOf (W := 0) (rm7 l Z a0 hw [] tz_pin tz_pin_push h0 n0 Z0 O0 F_tz_pin_push) hZ (own_wd hw 50 rfl) (own_wd hw 5 rfl) (by decide) (by decide)) q31a q31c (g := (mkF m 11 #[.val (.ref tz)] [(.ref tz_pin)])) rfl (by rw [hml]; rfl) (Steps.refl _) (argsL := []) (rest := []) (lenOf pd_1 rfl) rfl (by show 2 * 0 + _ ≤ _; exact Nat.le_of_eq rfl) (hb hby d5_11) (fun _ _ => ⟨rfl, e30, (by decide : 0 + 0 ≤ _), (by decide : 0 + 0 ≤ _)⟩)
  dsimp only [Pt.U, Pt.locs, Pt.cells, Pt.slots] at X31 l31 y31 z31 st31 hQ31
  subst l31 y31 z31
  obtain ⟨rfl, N31q, eh31⟩ := hQ31
  have N31 := Fr.app N29 N31q
  obtain ⟨T32, X32, e32, st32⟩ := getF X31 hx hZ hown (host := "") (Or.inl (own_wd hw 28 rfl)) Via.refl eh31 F_tz_headerHeight (g := (mkF m 17 #[.val (.ref tz)] [(.ref tz), (.double (FP.i2d (-tz_pin_push)))])) rfl rfl (hb hby d5_17)
  have nn33 : Jvm.Free.Fl.NoNaN64 (FP.ddiv (FP.i2d (-tz_pin_push)) (FP.i2d tz_headerHeight)) := hn
  obtain ⟨fs, hr, hrun, hended, hW, hsame⟩ := X32.leave (v := some (.double (FP.ddiv (FP.i2d (-tz_pin_push)) (FP.i2d tz_headerHeight)))) (fun h => by rw [Bd.returns] at h; cases h)
  refine ⟨_, _, pre0 _ ?_, hrun, hended, _, _, rfl, ?_, ⟨_, rfl⟩, hW, hsame.mono (by decide) (by decide)⟩
  · show Steps p.tables e below (s₁.setTop (mkF m 0 #[.val (.ref tz)] [])) _
    refine XS.aloadN X0.here hx rfl (hb hby d5_0) rfl rfl ?_
    show Steps p.tables e below (s₁.setTop (mkF m 1 #[.val (.ref tz)] [(.ref tz)])) _
    refine st29.trans ?_
    show Steps p.tables e below (T29.setTop (mkF m 4 #[.val (.ref tz)] [(.int (own_b (tz_pin_push < (0 : Int32))))])) _
    refine XS.ifNo X29.here hx rfl (hb hby d5_4) rfl ((if0 _ _).trans (feq (own_btn hp)).1) ?_
    show Steps p.tables e below (T29.setTop (mkF m 7 #[.val (.ref tz)] [])) _
    refine XS.aloadN X29.here hx rfl (hb hby d5_7) rfl rfl ?_
    show Steps p.tables e below (T29.setTop (mkF m 8 #[.val (.ref tz)] [(.ref tz)])) _
    refine st30 _ ?_
    show Steps p.tables e below (T30.setTop (mkF m 11 #[.val (.ref tz)] [(.ref tz_pin)])) _
    refine st31.trans ?_
    show Steps p.tables e below (T31.setTop (mkF m 14 #[.val (.ref tz)] [(.int tz_pin_push)])) _
    refine XS.ineg X31.here hx rfl (hb hby d5_14) rfl ?_
    show Steps p.tables e below (T31.setTop (mkF m 15 #[.val (.ref tz)] [(.int (-tz_pin_push))])) _
    refine XS.i2dS X31.here hx rfl (hb hby d5_15) rfl rfl ?_
    show Steps p.tables e below (T31.setTop (mkF m 16 #[.val (.ref tz)] [(.double (FP.i2d (-tz_pin_push)))])) _
    refine XS.aloadN X31.here hx rfl (hb hby d5_16) rfl rfl ?_
    show Steps p.tables e below (T31.setTop (mkF m 17 #[.val (.ref tz)] [(.ref tz), (.double (FP.i2d (-tz_pin_push)))])) _
    refine st32 _ ?_
    show Steps p.tables e below (T32.setTop (mkF m 20 #[.val (.ref tz)] [(.int tz_headerHeight), (.double (FP.i2d (-tz_pin_push)))])) _
    refine XS.i2dS X32.here hx rfl (hb hby d5_20) rfl rfl ?_
    show Steps p.tables e below (T32.setTop (mkF m 21 #[.val (.ref tz)] [(.double (FP.i2d tz_headerHeight)), (.double (FP.i2d (-tz_pin_push)))])) _
    refine XS.ddivS X32.here hx rfl (hb hby d5_21) rfl nn33 rfl ?_
    show Steps p.tables e below (T32.setTop (mkF m 22 #[.val (.ref tz)] [(.double (FP.ddiv (FP.i2d (-tz_pin_push)) (FP.i2d tz_headerHeight)))])) _
    refine XS.goto X32.here hx rfl (pc0 := 22) (pc' := 26) rfl (hb hby d5_22) (by decide) (by decide) ?_
    show Steps p.tables e below (T32.setTop (mkF m 26 #[.val (.ref tz)] [(.double (FP.ddiv (FP.i2d (-tz_pin_push)) (FP.i2d tz_headerHeight)))])) _
    exact retOut X32 hx Bd.returns rfl (Or.inr (Or.inr (Or.inl ⟨rfl, rfl, _, rfl⟩))) (hb hby d5_26) hr
  · show Q5_f Z tz tz_pin tz_pin_push tz_headerHeight h0 n0 _ T32.heap _
    rw [e32]
    exact ⟨rfl, N31, rfl⟩
theorem d5_25 : decode prog_5_method_4_code 25 = .ok (.dconst 0, 1) := by decide +kernel
theorem ef5_n (m : MethodId) (tz : Addr) : entryFrame m #[(.ref tz)] 1 = mkF m 0 #[.val (.ref tz)] [] := by first | (simp [entryFrame, mkF, argsToLocals, Value.category]; done) | rfl
def Q5_n (Z : State) (tz : Addr) (tz_pin : Addr) (tz_pin_push : Int32) (h0 : Heap) (n0 : Nat) (v : Option Value) (h : Heap) (L : List Loc) : Prop := v = some (.double (0 : UInt64)) ∧ Fr n0 L ∧ h = h0
set_option maxRecDepth 65536 in
set_option maxHeartbeats 40000000 in
theorem rm5_n (l : Launch) (Z : State) (a0 : Array Value) (hw : ∀ d ∈ tables_1, d.before a0 Z = true) (ws : List Jvm.Cond) (tz : Addr) (tz_pin : Addr) (tz_pin_push : Int32) (h0 : Heap) (n0 : Nat) (Z0 : n0 ≤ h0.size) (O0 : Old Z n0 h0) (hp : ¬ (tz_pin_push < (0 : Int32))) (F_tz_pin : Fld Z h0 tz "com/example/headmast/headmast/HandOver" "pin" "Lcom/example/headmast/headmast/Pin;" (.ref tz_pin)) (F_tz_pin_push : Fld Z h0 tz_pin "com/example/headmast/headmast/Pin" "push" "I" (.int tz_pin_push)) (E_tz_pin : Exa Z h0 tz_pin "com/example/headmast/headmast/Pin") (E_tz : Exa Z h0 tz "com/example/headmast/headmast/HandOver") :
    MetFree l (⟨"com/example/headmast/headmast/HandOver", "progress", "()D"⟩ : MethodName) (head1 (Jvm.Cond.code (⟨"com/example/headmast/headmast/HandOver", "progress", "()D"⟩ : MethodName) prog_5_method_4_code 1 (some .double) :: ws) ({ frames := 2, cells := 0, slots := 0, locals := 24 } : Room)) (fun a U => a = #[(.ref tz)] ∧ Z.Warmed39 U.vm ∧ U.heap = h0) (fun _ _ _ _ _ => True) (fun _ U o U' => ∃ v L, o = .returned v ∧ Q5_n Z tz tz_pin tz_pin_push h0 n0 v U'.heap L ∧ FrameEnd U o U' L ({ frames := 2, cells := 0, slots := 0, locals := 24 } : Room).cells ({ frames := 2, cells := 0, slots := 0, locals := 24 } : Room).slots) := by
  refine MetFree.of_bodySF (plainFor_of_name pn_com_example_headmast_headmast_HandOver) hisR ?_
  intro p e s m args below meth c s₁ Bd hml0 hP hK
  obtain ⟨rfl, hZ, hh⟩ := hP
  have hx := Bd.exec
  have hby := Bd.bytes
  have hml : c.maxLocals = 1 := hml0
  have hown : s.vm.findClass "com/example/headmast/headmast/HandOver" = some m.cls := findClass_of_methodNamed Bd.named
  have hnm := (name_of_methodNamed Bd.named Bd.method).1
  have X0 : Stand p l e ({ frames := 2, cells := 0, slots := 0, locals := 24 } : Room) s m #[(.ref tz)] below meth c s₁ [] 0 0 := Stand.of_body Bd
  have e0 : s₁.heap = h0 := by rw [← hh, Bd.state]; rfl
  have N0 := Fr.nil n0
  have K0 : Keep h0 h0 [] := Keep.refl _ _
  have pre0 : ∀ t, Steps p.tables e below (s₁.setTop (mkF m 0 #[.val (.ref tz)] [])) t → Steps p.tables e below (s₁.setTop (entryFrame m #[(.ref tz)] 1)) t := fun t k => castTop (ef5_n m tz) k
  obtain ⟨cq34, kq34, q34a, q34b, q34c⟩ := isOf hZ e0 E_tz
  obtain ⟨_, _, ⟨T34, L34, k34, n34⟩, -, X34, ⟨Lc34, hQ34, l34, y34, z34⟩, st34⟩ := X0.virtualBack hx (y := (⟨"com/example/headmast/headmast/HandOver", "inFlight", "()Z"⟩ : MethodName)) (z := (⟨"com/example/headmast/headmast/HandOver", "inFlight", "()Z"⟩ : MethodName)) hown (mvT hZ (own_wd hw 41 rfl)) (mvT hZ (own_wd hw 42 rfl)) (notFace_of_selects (args := #[]) (mvT hZ (own_wd hw 44 rfl))) (mvT hZ (own_wd hw 44 rfl)) (mvT hZ (own_wd hw 43 rfl)) (by decide) (backOf (W := 0) (rm6 l Z a0 hw [] tz tz_pin tz_pin_push h0 n0 Z0 O0 F_tz_pin F_tz_pin_push E_tz_pin) hZ (own_wd hw 45 rfl) (own_wd hw 2 rfl) (by decide) (by decide)) q34a q34c (g := (mkF m 1 #[.val (.ref tz)] [(.ref tz)])) rfl (by rw [hml]; rfl) (Steps.refl _) (argsL := []) (rest := []) (lenOf pd_2 rfl) rfl (by show 2 * 0 + _ ≤ _; exact Nat.le_of_eq rfl) (hb hby d5_1) (fun _ _ => ⟨rfl, e0, (by decide : 0 + 0 ≤ _), (by decide : 0 + 0 ≤ _)⟩)
  dsimp only [Pt.U, Pt.locs, Pt.cells, Pt.slots] at X34 l34 y34 z34 st34 hQ34
  subst l34 y34 z34
  obtain ⟨rfl, N34q, eh34⟩ := hQ34
  have N34 := Fr.app N0 N34q
  obtain ⟨fs, hr, hrun, hended, hW, hsame⟩ := X34.leave (v := some (.double (0 : UInt64))) (fun h => by rw [Bd.returns] at h; cases h)
  refine ⟨_, _, pre0 _ ?_, hrun, hended, _, _, rfl, ?_, ⟨_, rfl⟩, hW, hsame.mono (by decide) (by decide)⟩
  · show Steps p.tables e below (s₁.setTop (mkF m 0 #[.val (.ref tz)] [])) _
    refine XS.aloadN X0.here hx rfl (hb hby d5_0) rfl rfl ?_
    show Steps p.tables e below (s₁.setTop (mkF m 1 #[.val (.ref tz)] [(.ref tz)])) _
    refine st34.trans ?_
    show Steps p.tables e below (T34.setTop (mkF m 4 #[.val (.ref tz)] [(.int (own_b (tz_pin_push < (0 : Int32))))])) _
    refine XS.ifYes X34.here hx rfl (pc0 := 4) (pc' := 25) rfl (hb hby d5_4) rfl ((if0 _ _).trans (teq (own_bf hp)).1) (by decide) (by decide) ?_
    show Steps p.tables e below (T34.setTop (mkF m 25 #[.val (.ref tz)] [])) _
    refine XS.dconst0 X34.here hx rfl (hb hby d5_25) (v := (0 : UInt64)) rfl ?_
    show Steps p.tables e below (T34.setTop (mkF m 26 #[.val (.ref tz)] [(.double (0 : UInt64))])) _
    exact retOut X34 hx Bd.returns rfl (Or.inr (Or.inr (Or.inl ⟨rfl, rfl, _, rfl⟩))) (hb hby d5_26) hr
  · show Q5_n Z tz tz_pin tz_pin_push h0 n0 _ T34.heap _
    rw [eh34]
    exact ⟨rfl, N34, rfl⟩
theorem pd_3 : parseMethodDescriptor "(II)V" = some ⟨[.int, .int], none⟩ := by decide +kernel
theorem pd_4 : parseMethodDescriptor "(Lcom/example/headmast/headmast/Pin;IIIZ)V" = some ⟨[(.object "com/example/headmast/headmast/Pin"), .int, .int, .int, .boolean], none⟩ := by decide +kernel
theorem pd_5 : parseMethodDescriptor "()D" = some ⟨[], some .double⟩ := by decide +kernel
theorem pn_com_example_headmast_headmast_HandOverProgressPinLaw : plainName "com/example/headmast/headmast/HandOverProgressPinLaw" = true := by first | (simp [plainName, overriddenIn]; done) | decide +kernel
theorem ef0 (m : MethodId) (x1 : Int32) (x2 : Int32) (x3 : Int32) (x4 : Int32) (x5 : Int32) (x6 : Int32) : entryFrame m #[(.int x1), (.int x2), (.int x3), (.int x4), (.int x5), (.int x6)] maxLocals = mkF m 0 #[.val (.int x1), .val (.int x2), .val (.int x3), .val (.int x4), .val (.int x5), .val (.int x6), .unset, .unset, .unset, .unset, .unset, .unset, .unset, .unset, .unset, .unset, .unset, .unset, .unset, .unset, .unset, .unset, .unset] [] := by first | (simp [entryFrame, mkF, argsToLocals, Value.category, maxLocals]; done) | rfl
def Q0 (Z : State) (x1 : Int32) (x2 : Int32) (x3 : Int32) (x4 : Int32) (x5 : Int32) (x6 : Int32) (h0 : Heap) (n0 : Nat) (v : Option Value) (h : Heap) (L : List Loc) : Prop := v = some (.int (1 : Int32)) ∧ Fr n0 L ∧ Keep h0 h []
set_option maxRecDepth 65536 in
set_option maxHeartbeats 40000000 in
theorem rm0 (l : Launch) (Z : State) (a0 : Array Value) (hw : ∀ d ∈ tables_1, d.before a0 Z = true) (ws : List Jvm.Cond) (x1 : Int32) (x2 : Int32) (x3 : Int32) (x4 : Int32) (x5 : Int32) (x6 : Int32) (h0 : Heap) (n0 : Nat) (Z0 : n0 ≤ h0.size) (O0 : Old Z n0 h0) :
    MetFree l x (head1 (Jvm.Cond.code x code maxLocals ret :: ws) room_1) (fun a U => a = #[(.int x1), (.int x2), (.int x3), (.int x4), (.int x5), (.int x6)] ∧ Z.Warmed39 U.vm ∧ U.heap = h0) (fun _ _ _ _ _ => True) (fun _ U o U' => ∃ v L, o = .returned v ∧ Q0 Z x1 x2 x3 x4 x5 x6 h0 n0 v U'.heap L ∧ FrameEnd U o U' L room_1.cells room_1.slots) := by
  refine MetFree.of_bodySF (plainFor_of_name pn_com_example_headmast_headmast_HandOverProgressPinLaw) hisR ?_
  intro p e s m args below meth c s₁ Bd hml0 hP hK
  obtain ⟨rfl, hZ, hh⟩ := hP
  have hx := Bd.exec
  have hby := Bd.bytes
  have hml : c.maxLocals = 23 := hml0
  have hown : s.vm.findClass "com/example/headmast/headmast/HandOverProgressPinLaw" = some m.cls := findClass_of_methodNamed Bd.named
  have hnm := (name_of_methodNamed Bd.named Bd.method).1
  have X0 : Stand p l e room_1 s m #[(.int x1), (.int x2), (.int x3), (.int x4), (.int x5), (.int x6)] below meth c s₁ [] 0 0 := Stand.of_body Bd
  have e0 : s₁.heap = h0 := by rw [← hh, Bd.state]; rfl
  have N0 := Fr.nil n0
  have K0 : Keep h0 h0 [] := Keep.refl _ _
  have pre0 : ∀ t, Steps p.tables e below (s₁.setTop (mkF m 0 #[.val (.int x1), .val (.int x2), .val (.int x3), .val (.int x4), .val (.int x5), .val (.int x6), .unset, .unset, .unset, .unset, .unset, .unset, .unset, .unset, .unset, .unset, .unset, .unset, .unset, .unset, .unset, .unset, .unset] [])) t → Steps p.tables e below (s₁.setTop (entryFrame m #[(.int x1), (.int x2), (.int x3), (.int x4), (.int x5), (.int x6)] maxLocals)) t := fun t k => castTop (ef0 m x1 x2 x3 x4 x5 x6) k
  obtain ⟨T35, h35, X35, e35, E35, A35, D35, U35, st35⟩ := newO X0 hx hZ hown (own_wd hw 0 rfl) (own_wd hw 1 rfl) (own_wd hw 2 rfl) e0 (g := (mkF m 0 #[.val (.int x1), .val (.int x2), .val (.int x3), .val (.int x4), .val (.int x5), .val (.int x6), .unset, .unset, .unset, .unset, .unset, .unset, .unset, .unset, .unset, .unset, .unset, .unset, .unset, .unset, .unset, .unset, .unset] [])) rfl (hb hby at_0) (by decide) (by decide)
  obtain ⟨b35, g35⟩ : ∃ z, z = h0.size := ⟨_, rfl⟩
  rw [← g35] at A35 D35 st35
  have O35 : Old Z n0 h35 := O0.ext E35
  have Z35 : n0 ≤ h35.size := Nat.le_trans Z0 E35.1
  have K35 : Keep h0 h35 [] := K0.ext E35
  have g_b35 : n0 ≤ b35 := Nat.le_trans Z0 (Nat.le_of_eq g35.symm)
  have sz_b35 : h0.size ≤ b35 := Nat.le_trans K0.1 (Nat.le_of_eq g35.symm)
  have F_b35_pin : Fld Z h35 b35 "com/example/headmast/headmast/HandOver" "pin" "Lcom/example/headmast/headmast/Pin;" .null := D35 (Or.inr (own_wd hw 27 rfl)) (ty := (.object "com/example/headmast/headmast/Pin")) (by decide)
  have F_b35_headerHeight : Fld Z h35 b35 "com/example/headmast/headmast/HandOver" "headerHeight" "I" (.int (0 : Int32)) := D35 (Or.inr (own_wd hw 29 rfl)) (ty := .int) (by decide)
  have F_b35_pinned : Fld Z h35 b35 "com/example/headmast/headmast/HandOver" "pinned" "I" (.int (0 : Int32)) := D35 (Or.inr (own_wd hw 31 rfl)) (ty := .int) (by decide)
  have F_b35_alpha : Fld Z h35 b35 "com/example/headmast/headmast/HandOver" "alpha" "I" (.int (0 : Int32)) := D35 (Or.inr (own_wd hw 33 rfl)) (ty := .int) (by decide)
  have F_b35_over : Fld Z h35 b35 "com/example/headmast/headmast/HandOver" "over" "Z" (.int (0 : Int32)) := D35 (Or.inr (own_wd hw 35 rfl)) (ty := .boolean) (by decide)
  obtain ⟨T36, h36, X36, e36, E36, A36, D36, U36, st36⟩ := newO X35 hx hZ hown (own_wd hw 3 rfl) (own_wd hw 4 rfl) (own_wd hw 5 rfl) e35 (g := (mkF m 4 #[.val (.int x1), .val (.int x2), .val (.int x3), .val (.int x4), .val (.int x5), .val (.int x6), .unset, .unset, .unset, .unset, .unset, .unset, .unset, .unset, .unset, .unset, .unset, .unset, .unset, .unset, .unset, .unset, .unset] [(.ref b35), (.ref b35)])) rfl (hb hby at_4) (by decide) (by decide)
  obtain ⟨b36, g36⟩ : ∃ z, z = h35.size := ⟨_, rfl⟩
  rw [← g36] at A36 D36 st36
  have O36 : Old Z n0 h36 := O35.ext E36
  have Z36 : n0 ≤ h36.size := Nat.le_trans Z35 E36.1
  have K36 : Keep h0 h36 [] := K35.ext E36
  have g_b36 : n0 ≤ b36 := Nat.le_trans Z35 (Nat.le_of_eq g36.symm)
  have sz_b36 : h0.size ≤ b36 := Nat.le_trans K35.1 (Nat.le_of_eq g36.symm)
  have F_b36_section : Fld Z h36 b36 "com/example/headmast/headmast/Pin" "section" "I" (.int (0 : Int32)) := D36 (Or.inr (own_wd hw 19 rfl)) (ty := .int) (by decide)
  have F_b36_push : Fld Z h36 b36 "com/example/headmast/headmast/Pin" "push" "I" (.int (0 : Int32)) := D36 (Or.inr (own_wd hw 21 rfl)) (ty := .int) (by decide)
  obtain ⟨_, _, ⟨T37, L37, k37, n37⟩, -, X37, ⟨Lc37, hQ37, l37, y37, z37⟩, st37⟩ := X36.specialBack hx (y := (⟨"com/example/headmast/headmast/Pin", "<init>", "(II)V"⟩ : MethodName)) rfl hown (mvT hZ (own_wd hw 7 rfl)) (mvT hZ (own_wd hw 8 rfl)) (mvT hZ (own_wd hw 9 rfl)) (by decide) (backOf (W := 3) (rm1 l Z a0 hw [] b36 (0 : Int32) (x1 &&& (2147483647 : Int32)) (.int (0 : Int32)) (.int (0 : Int32)) h36 n0 Z36 O36 A36 F_b36_section g_b36 F_b36_push) hZ (own_wd hw 9 rfl) (own_wd hw 5 rfl) (by decide) (by decide)) (g := (mkF m 13 #[.val (.int x1), .val (.int x2), .val (.int x3), .val (.int x4), .val (.int x5), .val (.int x6), .unset, .unset, .unset, .unset, .unset, .unset, .unset, .unset, .unset, .unset, .unset, .unset, .unset, .unset, .unset, .unset, .unset] [(.int (x1 &&& (2147483647 : Int32))), (.int (0 : Int32)), (.ref b36), (.ref b36), (.ref b35), (.ref b35)])) rfl (by rw [hml]; rfl) (Steps.refl _) (a := b36) (argsL := [(.int (0 : Int32)), (.int (x1 &&& (2147483647 : Int32)))]) (rest := [(.ref b36), (.ref b35), (.ref b35)]) (lenOf pd_3 rfl) rfl (by show 2 * 0 + _ ≤ _; exact Nat.le_of_eq rfl) (hb hby at_13) (fun _ _ => ⟨rfl, e36, (by decide : 2 + 0 ≤ _), (by decide : 7 + 0 ≤ _)⟩)
  dsimp only [Pt.U, Pt.locs, Pt.cells, Pt.slots] at X37 l37 y37 z37 st37 hQ37
  subst l37 y37 z37
  obtain ⟨rfl, N37q, KK37, Q37_0, Q37_1⟩ := hQ37
  have N37 := Fr.app N0 N37q
  have O37 : Old Z n0 T37.heap := O36.keep KK37 (allS g_b36 all0)
  have Z37 : n0 ≤ T37.heap.size := Nat.le_trans Z36 KK37.1
  have K37 : Keep h0 T37.heap [] := K36.trans KK37 (allS (Or.inr sz_b36) all0)
  have F38 : Fld Z T37.heap b35 "com/example/headmast/headmast/HandOver" "pin" "Lcom/example/headmast/headmast/Pin;" .null := ((F_b35_pin.ext E36).keep KK37 (ninS (Nat.ne_of_lt (Nat.lt_of_lt_of_le A35.lt (Nat.le_of_eq g36.symm))) nin0))
  have F39 : Fld Z T37.heap b35 "com/example/headmast/headmast/HandOver" "headerHeight" "I" (.int (0 : Int32)) := ((F_b35_headerHeight.ext E36).keep KK37 (ninS (Nat.ne_of_lt (Nat.lt_of_lt_of_le A35.lt (Nat.le_of_eq g36.symm))) nin0))
  have F40 : Fld Z T37.heap b35 "com/example/headmast/headmast/HandOver" "pinned" "I" (.int (0 : Int32)) := ((F_b35_pinned.ext E36).keep KK37 (ninS (Nat.ne_of_lt (Nat.lt_of_lt_of_le A35.lt (Nat.le_of_eq g36.symm))) nin0))
  have F41 : Fld Z T37.heap b35 "com/example/headmast/headmast/HandOver" "alpha" "I" (.int (0 : Int32)) := ((F_b35_alpha.ext E36).keep KK37 (ninS (Nat.ne_of_lt (Nat.lt_of_lt_of_le A35.lt (Nat.le_of_eq g36.symm))) nin0))
  have F42 : Fld Z T37.heap b35 "com/example/headmast/headmast/HandOver" "over" "Z" (.int (0 : Int32)) := ((F_b35_over.ext E36).keep KK37 (ninS (Nat.ne_of_lt (Nat.lt_of_lt_of_le A35.lt (Nat.le_of_eq g36.symm))) nin0))
  have C43 : Exa Z T37.heap b35 "com/example/headmast/headmast/HandOver" := ((A35.ext E36).keep KK37)
  obtain ⟨_, _, ⟨T44, L44, k44, n44⟩, -, X44, ⟨Lc44, hQ44, l44, y44, z44⟩, st44⟩ := X37.specialBack hx (y := (⟨"com/example/headmast/headmast/HandOver", "<init>", "(Lcom/example/headmast/headmast/Pin;IIIZ)V"⟩ : MethodName)) rfl hown (mvT hZ (own_wd hw 22 rfl)) (mvT hZ (own_wd hw 23 rfl)) (mvT hZ (own_wd hw 24 rfl)) (by decide) (backOf (W := 1) (rm4 l Z a0 hw [] b35 b36 x2 (0 : Int32) (255 : Int32) .null (.int (0 : Int32)) (.int (0 : Int32)) (.int (0 : Int32)) (.int (0 : Int32)) T37.heap n0 Z37 O37 C43 F38 g_b35 F39 F40 F41 F42) hZ (own_wd hw 24 rfl) (own_wd hw 2 rfl) (by decide) (by decide)) (g := (mkF m 22 #[.val (.int x1), .val (.int x2), .val (.int x3), .val (.int x4), .val (.int x5), .val (.int x6), .unset, .unset, .unset, .unset, .unset, .unset, .unset, .unset, .unset, .unset, .unset, .unset, .unset, .unset, .unset, .unset, .unset] [(.int (0 : Int32)), (.int (255 : Int32)), (.int (0 : Int32)), (.int x2), (.ref b36), (.ref b35), (.ref b35)])) rfl (by rw [hml]; rfl) (Steps.refl _) (a := b35) (argsL := [(.ref b36), (.int x2), (.int (0 : Int32)), (.int (255 : Int32)), (.int (0 : Int32))]) (rest := [(.ref b35)]) (lenOf pd_4 rfl) rfl (by show 2 * 0 + _ ≤ _; exact Nat.le_of_eq rfl) (hb hby at_22) (fun _ _ => ⟨rfl, rfl, (by decide : 2 + 0 ≤ _), (by decide : 7 + 0 ≤ _)⟩)
  dsimp only [Pt.U, Pt.locs, Pt.cells, Pt.slots] at X44 l44 y44 z44 st44 hQ44
  subst l44 y44 z44
  obtain ⟨rfl, N44q, KK44, Q44_0, Q44_1, Q44_2⟩ := hQ44
  have N44 := Fr.app N37 N44q
  have O44 : Old Z n0 T44.heap := O37.keep KK44 (allS g_b35 all0)
  have Z44 : n0 ≤ T44.heap.size := Nat.le_trans Z37 KK44.1
  have K44 : Keep h0 T44.heap [] := K37.trans KK44 (allS (Or.inr sz_b35) all0)
  have F45 : Fld Z T44.heap b36 "com/example/headmast/headmast/Pin" "push" "I" (.int (x1 &&& (2147483647 : Int32))) := (Q37_1.keep KK44 (ninS (Ne.symm (Nat.ne_of_lt (Nat.lt_of_lt_of_le A35.lt (Nat.le_of_eq g36.symm)))) nin0))
  have pp46 : ¬ ((x1 &&& (2147483647 : Int32)) < (0 : Int32)) := own_m31 _
  have C47 : Exa Z T44.heap b36 "com/example/headmast/headmast/Pin" := (Q37_0.keep KK44)
  obtain ⟨cq48, kq48, q48a, q48b, q48c⟩ := isOf hZ rfl Q44_0
  obtain ⟨_, _, ⟨T48, L48, k48, n48⟩, -, X48, ⟨Lc48, hQ48, l48, y48, z48⟩, st48⟩ := X44.virtualBack hx (y := (⟨"com/example/headmast/headmast/HandOver", "progress", "()D"⟩ : MethodName)) (z := (⟨"com/example/headmast/headmast/HandOver", "progress", "()D"⟩ : MethodName)) hown (mvT hZ (own_wd hw 36 rfl)) (mvT hZ (own_wd hw 37 rfl)) (notFace_of_selects (args := #[]) (mvT hZ (own_wd hw 39 rfl))) (mvT hZ (own_wd hw 39 rfl)) (mvT hZ (own_wd hw 38 rfl)) (by decide) (backOf (W := 0) (rm5_n l Z a0 hw [] b35 b36 (x1 &&& (2147483647 : Int32)) T44.heap n0 Z44 O44 pp46 Q44_1 F45 C47 Q44_0) hZ (own_wd hw 40 rfl) (own_wd hw 2 rfl) (by decide) (by decide)) q48a q48c (g := (mkF m 29 #[.val (.int x1), .val (.int x2), .val (.int x3), .val (.int x4), .val (.int x5), .val (.int x6), .val (.ref b35), .unset, .unset, .unset, .unset, .unset, .unset, .unset, .unset, .unset, .unset, .unset, .unset, .unset, .unset, .unset, .unset] [(.ref b35)])) rfl (by rw [hml]; rfl) (Steps.refl _) (argsL := []) (rest := []) (lenOf pd_5 rfl) rfl (by show 2 * 0 + _ ≤ _; exact Nat.le_of_eq rfl) (hb hby at_29) (fun _ _ => ⟨rfl, rfl, (by decide : 2 + 0 ≤ _), (by decide : 7 + 0 ≤ _)⟩)
  dsimp only [Pt.U, Pt.locs, Pt.cells, Pt.slots] at X48 l48 y48 z48 st48 hQ48
  subst l48 y48 z48
  obtain ⟨rfl, N48q, eh48⟩ := hQ48
  have N48 := Fr.app N44 N48q
  obtain ⟨hv, hhv⟩ : ∃ z, z = ((2 : Int32) + (x4 &&& (65535 : Int32))) := ⟨_, rfl⟩
  have rn49 : ((2 : Int32) + (x4 &&& (65535 : Int32))) = hv := hhv.symm
  obtain ⟨H, eH, H1, H2⟩ := own_hv hhv
  obtain ⟨av, hav⟩ : ∃ z, z = ((1 : Int32) + ((x3 &&& (2147483647 : Int32)) % (hv - (1 : Int32)))) := ⟨_, rfl⟩
  have rn50 : ((1 : Int32) + ((x3 &&& (2147483647 : Int32)) % (hv - (1 : Int32)))) = av := hav.symm
  obtain ⟨A, eA, A1, A2⟩ := own_av hav eH H1 H2
  obtain ⟨gv, hgv⟩ : ∃ z, z = ((2 : Int32) + (x6 &&& (65535 : Int32))) := ⟨_, rfl⟩
  have rn51 : ((2 : Int32) + (x6 &&& (65535 : Int32))) = gv := hgv.symm
  obtain ⟨G, eG, G1, G2⟩ := own_hv hgv
  obtain ⟨bv, hbv⟩ : ∃ z, z = ((1 : Int32) + ((x5 &&& (2147483647 : Int32)) % (gv - (1 : Int32)))) := ⟨_, rfl⟩
  have rn52 : ((1 : Int32) + ((x5 &&& (2147483647 : Int32)) % (gv - (1 : Int32)))) = bv := hbv.symm
  obtain ⟨B, eB, B1, B2⟩ := own_av hbv eG G1 G2
  obtain ⟨T53, h53, X53, e53, E53, A53, D53, U53, st53⟩ := newO X48 hx hZ hown (own_wd hw 0 rfl) (own_wd hw 1 rfl) (own_wd hw 2 rfl) eh48 (g := (mkF m 87 #[.val (.int x1), .val (.int x2), .val (.int x3), .val (.int x4), .val (.int x5), .val (.int x6), .val (.ref b35), .val (.double (0 : UInt64)), .second, .val (.int hv), .val (.int av), .val (.int gv), .val (.int bv), .unset, .unset, .unset, .unset, .unset, .unset, .unset, .unset, .unset, .unset] [])) rfl (hb hby at_87) (by decide) (by decide)
  obtain ⟨b53, g53⟩ : ∃ z, z = T44.heap.size := ⟨_, rfl⟩
  rw [← g53] at A53 D53 st53
  have O53 : Old Z n0 h53 := O44.ext E53
  have Z53 : n0 ≤ h53.size := Nat.le_trans Z44 E53.1
  have K53 : Keep h0 h53 [] := K44.ext E53
  have g_b53 : n0 ≤ b53 := Nat.le_trans Z44 (Nat.le_of_eq g53.symm)
  have sz_b53 : h0.size ≤ b53 := Nat.le_trans K44.1 (Nat.le_of_eq g53.symm)
  have F_b53_pin : Fld Z h53 b53 "com/example/headmast/headmast/HandOver" "pin" "Lcom/example/headmast/headmast/Pin;" .null := D53 (Or.inr (own_wd hw 27 rfl)) (ty := (.object "com/example/headmast/headmast/Pin")) (by decide)
  have F_b53_headerHeight : Fld Z h53 b53 "com/example/headmast/headmast/HandOver" "headerHeight" "I" (.int (0 : Int32)) := D53 (Or.inr (own_wd hw 29 rfl)) (ty := .int) (by decide)
  have F_b53_pinned : Fld Z h53 b53 "com/example/headmast/headmast/HandOver" "pinned" "I" (.int (0 : Int32)) := D53 (Or.inr (own_wd hw 31 rfl)) (ty := .int) (by decide)
  have F_b53_alpha : Fld Z h53 b53 "com/example/headmast/headmast/HandOver" "alpha" "I" (.int (0 : Int32)) := D53 (Or.inr (own_wd hw 33 rfl)) (ty := .int) (by decide)
  have F_b53_over : Fld Z h53 b53 "com/example/headmast/headmast/HandOver" "over" "Z" (.int (0 : Int32)) := D53 (Or.inr (own_wd hw 35 rfl)) (ty := .boolean) (by decide)
  obtain ⟨T54, h54, X54, e54, E54, A54, D54, U54, st54⟩ := newO X53 hx hZ hown (own_wd hw 3 rfl) (own_wd hw 4 rfl) (own_wd hw 5 rfl) e53 (g := (mkF m 91 #[.val (.int x1), .val (.int x2), .val (.int x3), .val (.int x4), .val (.int x5), .val (.int x6), .val (.ref b35), .val (.double (0 : UInt64)), .second, .val (.int hv), .val (.int av), .val (.int gv), .val (.int bv), .unset, .unset, .unset, .unset, .unset, .unset, .unset, .unset, .unset, .unset] [(.ref b53), (.ref b53)])) rfl (hb hby at_91) (by decide) (by decide)
  obtain ⟨b54, g54⟩ : ∃ z, z = h53.size := ⟨_, rfl⟩
  rw [← g54] at A54 D54 st54
  have O54 : Old Z n0 h54 := O53.ext E54
  have Z54 : n0 ≤ h54.size := Nat.le_trans Z53 E54.1
  have K54 : Keep h0 h54 [] := K53.ext E54
  have g_b54 : n0 ≤ b54 := Nat.le_trans Z53 (Nat.le_of_eq g54.symm)
  have sz_b54 : h0.size ≤ b54 := Nat.le_trans K53.1 (Nat.le_of_eq g54.symm)
  have F_b54_section : Fld Z h54 b54 "com/example/headmast/headmast/Pin" "section" "I" (.int (0 : Int32)) := D54 (Or.inr (own_wd hw 19 rfl)) (ty := .int) (by decide)
  have F_b54_push : Fld Z h54 b54 "com/example/headmast/headmast/Pin" "push" "I" (.int (0 : Int32)) := D54 (Or.inr (own_wd hw 21 rfl)) (ty := .int) (by decide)
  obtain ⟨_, _, ⟨T55, L55, k55, n55⟩, -, X55, ⟨Lc55, hQ55, l55, y55, z55⟩, st55⟩ := X54.specialBack hx (y := (⟨"com/example/headmast/headmast/Pin", "<init>", "(II)V"⟩ : MethodName)) rfl hown (mvT hZ (own_wd hw 7 rfl)) (mvT hZ (own_wd hw 8 rfl)) (mvT hZ (own_wd hw 9 rfl)) (by decide) (backOf (W := 3) (rm1 l Z a0 hw [] b54 (1 : Int32) (-av) (.int (0 : Int32)) (.int (0 : Int32)) h54 n0 Z54 O54 A54 F_b54_section g_b54 F_b54_push) hZ (own_wd hw 9 rfl) (own_wd hw 5 rfl) (by decide) (by decide)) (g := (mkF m 99 #[.val (.int x1), .val (.int x2), .val (.int x3), .val (.int x4), .val (.int x5), .val (.int x6), .val (.ref b35), .val (.double (0 : UInt64)), .second, .val (.int hv), .val (.int av), .val (.int gv), .val (.int bv), .unset, .unset, .unset, .unset, .unset, .unset, .unset, .unset, .unset, .unset] [(.int (-av)), (.int (1 : Int32)), (.ref b54), (.ref b54), (.ref b53), (.ref b53)])) rfl (by rw [hml]; rfl) (Steps.refl _) (a := b54) (argsL := [(.int (1 : Int32)), (.int (-av))]) (rest := [(.ref b54), (.ref b53), (.ref b53)]) (lenOf pd_3 rfl) rfl (by show 2 * 0 + _ ≤ _; exact Nat.le_of_eq rfl) (hb hby at_99) (fun _ _ => ⟨rfl, e54, (by decide : 4 + 0 ≤ _), (by decide : 14 + 0 ≤ _)⟩)
  dsimp only [Pt.U, Pt.locs, Pt.cells, Pt.slots] at X55 l55 y55 z55 st55 hQ55
  subst l55 y55 z55
  obtain ⟨rfl, N55q, KK55, Q55_0, Q55_1⟩ := hQ55
  have N55 := Fr.app N48 N55q
  have O55 : Old Z n0 T55.heap := O54.keep KK55 (allS g_b54 all0)
  have Z55 : n0 ≤ T55.heap.size := Nat.le_trans Z54 KK55.1
  have K55 : Keep h0 T55.heap [] := K54.trans KK55 (allS (Or.inr sz_b54) all0)
  have F56 : Fld Z T55.heap b53 "com/example/headmast/headmast/HandOver" "pin" "Lcom/example/headmast/headmast/Pin;" .null := ((F_b53_pin.ext E54).keep KK55 (ninS (Nat.ne_of_lt (Nat.lt_of_lt_of_le A53.lt (Nat.le_of_eq g54.symm))) nin0))
  have F57 : Fld Z T55.heap b53 "com/example/headmast/headmast/HandOver" "headerHeight" "I" (.int (0 : Int32)) := ((F_b53_headerHeight.ext E54).keep KK55 (ninS (Nat.ne_of_lt (Nat.lt_of_lt_of_le A53.lt (Nat.le_of_eq g54.symm))) nin0))
  have F58 : Fld Z T55.heap b53 "com/example/headmast/headmast/HandOver" "pinned" "I" (.int (0 : Int32)) := ((F_b53_pinned.ext E54).keep KK55 (ninS (Nat.ne_of_lt (Nat.lt_of_lt_of_le A53.lt (Nat.le_of_eq g54.symm))) nin0))
  have F59 : Fld Z T55.heap b53 "com/example/headmast/headmast/HandOver" "alpha" "I" (.int (0 : Int32)) := ((F_b53_alpha.ext E54).keep KK55 (ninS (Nat.ne_of_lt (Nat.lt_of_lt_of_le A53.lt (Nat.le_of_eq g54.symm))) nin0))
  have F60 : Fld Z T55.heap b53 "com/example/headmast/headmast/HandOver" "over" "Z" (.int (0 : Int32)) := ((F_b53_over.ext E54).keep KK55 (ninS (Nat.ne_of_lt (Nat.lt_of_lt_of_le A53.lt (Nat.le_of_eq g54.symm))) nin0))
  have C61 : Exa Z T55.heap b53 "com/example/headmast/headmast/HandOver" := ((A53.ext E54).keep KK55)
  obtain ⟨_, _, ⟨T62, L62, k62, n62⟩, -, X62, ⟨Lc62, hQ62, l62, y62, z62⟩, st62⟩ := X55.specialBack hx (y := (⟨"com/example/headmast/headmast/HandOver", "<init>", "(Lcom/example/headmast/headmast/Pin;IIIZ)V"⟩ : MethodName)) rfl hown (mvT hZ (own_wd hw 22 rfl)) (mvT hZ (own_wd hw 23 rfl)) (mvT hZ (own_wd hw 24 rfl)) (by decide) (backOf (W := 1) (rm4 l Z a0 hw [] b53 b54 hv (-av) (255 : Int32) .null (.int (0 : Int32)) (.int (0 : Int32)) (.int (0 : Int32)) (.int (0 : Int32)) T55.heap n0 Z55 O55 C61 F56 g_b53 F57 F58 F59 F60) hZ (own_wd hw 24 rfl) (own_wd hw 2 rfl) (by decide) (by decide)) (g := (mkF m 111 #[.val (.int x1), .val (.int x2), .val (.int x3), .val (.int x4), .val (.int x5), .val (.int x6), .val (.ref b35), .val (.double (0 : UInt64)), .second, .val (.int hv), .val (.int av), .val (.int gv), .val (.int bv), .unset, .unset, .unset, .unset, .unset, .unset, .unset, .unset, .unset, .unset] [(.int (0 : Int32)), (.int (255 : Int32)), (.int (-av)), (.int hv), (.ref b54), (.ref b53), (.ref b53)])) rfl (by rw [hml]; rfl) (Steps.refl _) (a := b53) (argsL := [(.ref b54), (.int hv), (.int (-av)), (.int (255 : Int32)), (.int (0 : Int32))]) (rest := [(.ref b53)]) (lenOf pd_4 rfl) rfl (by show 2 * 0 + _ ≤ _; exact Nat.le_of_eq rfl) (hb hby at_111) (fun _ _ => ⟨rfl, rfl, (by decide : 4 + 0 ≤ _), (by decide : 14 + 0 ≤ _)⟩)
  dsimp only [Pt.U, Pt.locs, Pt.cells, Pt.slots] at X62 l62 y62 z62 st62 hQ62
  subst l62 y62 z62
  obtain ⟨rfl, N62q, KK62, Q62_0, Q62_1, Q62_2⟩ := hQ62
  have N62 := Fr.app N55 N62q
  have O62 : Old Z n0 T62.heap := O55.keep KK62 (allS g_b53 all0)
  have Z62 : n0 ≤ T62.heap.size := Nat.le_trans Z55 KK62.1
  have K62 : Keep h0 T62.heap [] := K55.trans KK62 (allS (Or.inr sz_b53) all0)
  obtain ⟨T63, h63, X63, e63, E63, A63, D63, U63, st63⟩ := newO X62 hx hZ hown (own_wd hw 0 rfl) (own_wd hw 1 rfl) (own_wd hw 2 rfl) rfl (g := (mkF m 116 #[.val (.int x1), .val (.int x2), .val (.int x3), .val (.int x4), .val (.int x5), .val (.int x6), .val (.ref b35), .val (.double (0 : UInt64)), .second, .val (.int hv), .val (.int av), .val (.int gv), .val (.int bv), .val (.ref b53), .unset, .unset, .unset, .unset, .unset, .unset, .unset, .unset, .unset] [])) rfl (hb hby at_116) (by decide) (by decide)
  obtain ⟨b63, g63⟩ : ∃ z, z = T62.heap.size := ⟨_, rfl⟩
  rw [← g63] at A63 D63 st63
  have O63 : Old Z n0 h63 := O62.ext E63
  have Z63 : n0 ≤ h63.size := Nat.le_trans Z62 E63.1
  have K63 : Keep h0 h63 [] := K62.ext E63
  have g_b63 : n0 ≤ b63 := Nat.le_trans Z62 (Nat.le_of_eq g63.symm)
  have sz_b63 : h0.size ≤ b63 := Nat.le_trans K62.1 (Nat.le_of_eq g63.symm)
  have F_b63_pin : Fld Z h63 b63 "com/example/headmast/headmast/HandOver" "pin" "Lcom/example/headmast/headmast/Pin;" .null := D63 (Or.inr (own_wd hw 27 rfl)) (ty := (.object "com/example/headmast/headmast/Pin")) (by decide)
  have F_b63_headerHeight : Fld Z h63 b63 "com/example/headmast/headmast/HandOver" "headerHeight" "I" (.int (0 : Int32)) := D63 (Or.inr (own_wd hw 29 rfl)) (ty := .int) (by decide)
  have F_b63_pinned : Fld Z h63 b63 "com/example/headmast/headmast/HandOver" "pinned" "I" (.int (0 : Int32)) := D63 (Or.inr (own_wd hw 31 rfl)) (ty := .int) (by decide)
  have F_b63_alpha : Fld Z h63 b63 "com/example/headmast/headmast/HandOver" "alpha" "I" (.int (0 : Int32)) := D63 (Or.inr (own_wd hw 33 rfl)) (ty := .int) (by decide)
  have F_b63_over : Fld Z h63 b63 "com/example/headmast/headmast/HandOver" "over" "Z" (.int (0 : Int32)) := D63 (Or.inr (own_wd hw 35 rfl)) (ty := .boolean) (by decide)
  obtain ⟨T64, h64, X64, e64, E64, A64, D64, U64, st64⟩ := newO X63 hx hZ hown (own_wd hw 3 rfl) (own_wd hw 4 rfl) (own_wd hw 5 rfl) e63 (g := (mkF m 120 #[.val (.int x1), .val (.int x2), .val (.int x3), .val (.int x4), .val (.int x5), .val (.int x6), .val (.ref b35), .val (.double (0 : UInt64)), .second, .val (.int hv), .val (.int av), .val (.int gv), .val (.int bv), .val (.ref b53), .unset, .unset, .unset, .unset, .unset, .unset, .unset, .unset, .unset] [(.ref b63), (.ref b63)])) rfl (hb hby at_120) (by decide) (by decide)
  obtain ⟨b64, g64⟩ : ∃ z, z = h63.size := ⟨_, rfl⟩
  rw [← g64] at A64 D64 st64
  have O64 : Old Z n0 h64 := O63.ext E64
  have Z64 : n0 ≤ h64.size := Nat.le_trans Z63 E64.1
  have K64 : Keep h0 h64 [] := K63.ext E64
  have g_b64 : n0 ≤ b64 := Nat.le_trans Z63 (Nat.le_of_eq g64.symm)
  have sz_b64 : h0.size ≤ b64 := Nat.le_trans K63.1 (Nat.le_of_eq g64.symm)
  have F_b64_section : Fld Z h64 b64 "com/example/headmast/headmast/Pin" "section" "I" (.int (0 : Int32)) := D64 (Or.inr (own_wd hw 19 rfl)) (ty := .int) (by decide)
  have F_b64_push : Fld Z h64 b64 "com/example/headmast/headmast/Pin" "push" "I" (.int (0 : Int32)) := D64 (Or.inr (own_wd hw 21 rfl)) (ty := .int) (by decide)
  obtain ⟨_, _, ⟨T65, L65, k65, n65⟩, -, X65, ⟨Lc65, hQ65, l65, y65, z65⟩, st65⟩ := X64.specialBack hx (y := (⟨"com/example/headmast/headmast/Pin", "<init>", "(II)V"⟩ : MethodName)) rfl hown (mvT hZ (own_wd hw 7 rfl)) (mvT hZ (own_wd hw 8 rfl)) (mvT hZ (own_wd hw 9 rfl)) (by decide) (backOf (W := 3) (rm1 l Z a0 hw [] b64 (2 : Int32) (-bv) (.int (0 : Int32)) (.int (0 : Int32)) h64 n0 Z64 O64 A64 F_b64_section g_b64 F_b64_push) hZ (own_wd hw 9 rfl) (own_wd hw 5 rfl) (by decide) (by decide)) (g := (mkF m 128 #[.val (.int x1), .val (.int x2), .val (.int x3), .val (.int x4), .val (.int x5), .val (.int x6), .val (.ref b35), .val (.double (0 : UInt64)), .second, .val (.int hv), .val (.int av), .val (.int gv), .val (.int bv), .val (.ref b53), .unset, .unset, .unset, .unset, .unset, .unset, .unset, .unset, .unset] [(.int (-bv)), (.int (2 : Int32)), (.ref b64), (.ref b64), (.ref b63), (.ref b63)])) rfl (by rw [hml]; rfl) (Steps.refl _) (a := b64) (argsL := [(.int (2 : Int32)), (.int (-bv))]) (rest := [(.ref b64), (.ref b63), (.ref b63)]) (lenOf pd_3 rfl) rfl (by show 2 * 0 + _ ≤ _; exact Nat.le_of_eq rfl) (hb hby at_128) (fun _ _ => ⟨rfl, e64, (by decide : 6 + 0 ≤ _), (by decide : 21 + 0 ≤ _)⟩)
  dsimp only [Pt.U, Pt.locs, Pt.cells, Pt.slots] at X65 l65 y65 z65 st65 hQ65
  subst l65 y65 z65
  obtain ⟨rfl, N65q, KK65, Q65_0, Q65_1⟩ := hQ65
  have N65 := Fr.app N62 N65q
  have O65 : Old Z n0 T65.heap := O64.keep KK65 (allS g_b64 all0)
  have Z65 : n0 ≤ T65.heap.size := Nat.le_trans Z64 KK65.1
  have K65 : Keep h0 T65.heap [] := K64.trans KK65 (allS (Or.inr sz_b64) all0)
  have F66 : Fld Z T65.heap b63 "com/example/headmast/headmast/HandOver" "pin" "Lcom/example/headmast/headmast/Pin;" .null := ((F_b63_pin.ext E64).keep KK65 (ninS (Nat.ne_of_lt (Nat.lt_of_lt_of_le A63.lt (Nat.le_of_eq g64.symm))) nin0))
  have F67 : Fld Z T65.heap b63 "com/example/headmast/headmast/HandOver" "headerHeight" "I" (.int (0 : Int32)) := ((F_b63_headerHeight.ext E64).keep KK65 (ninS (Nat.ne_of_lt (Nat.lt_of_lt_of_le A63.lt (Nat.le_of_eq g64.symm))) nin0))
  have F68 : Fld Z T65.heap b63 "com/example/headmast/headmast/HandOver" "pinned" "I" (.int (0 : Int32)) := ((F_b63_pinned.ext E64).keep KK65 (ninS (Nat.ne_of_lt (Nat.lt_of_lt_of_le A63.lt (Nat.le_of_eq g64.symm))) nin0))
  have F69 : Fld Z T65.heap b63 "com/example/headmast/headmast/HandOver" "alpha" "I" (.int (0 : Int32)) := ((F_b63_alpha.ext E64).keep KK65 (ninS (Nat.ne_of_lt (Nat.lt_of_lt_of_le A63.lt (Nat.le_of_eq g64.symm))) nin0))
  have F70 : Fld Z T65.heap b63 "com/example/headmast/headmast/HandOver" "over" "Z" (.int (0 : Int32)) := ((F_b63_over.ext E64).keep KK65 (ninS (Nat.ne_of_lt (Nat.lt_of_lt_of_le A63.lt (Nat.le_of_eq g64.symm))) nin0))
  have C71 : Exa Z T65.heap b63 "com/example/headmast/headmast/HandOver" := ((A63.ext E64).keep KK65)
  obtain ⟨_, _, ⟨T72, L72, k72, n72⟩, -, X72, ⟨Lc72, hQ72, l72, y72, z72⟩, st72⟩ := X65.specialBack hx (y := (⟨"com/example/headmast/headmast/HandOver", "<init>", "(Lcom/example/headmast/headmast/Pin;IIIZ)V"⟩ : MethodName)) rfl hown (mvT hZ (own_wd hw 22 rfl)) (mvT hZ (own_wd hw 23 rfl)) (mvT hZ (own_wd hw 24 rfl)) (by decide) (backOf (W := 1) (rm4 l Z a0 hw [] b63 b64 gv (-bv) (255 : Int32) .null (.int (0 : Int32)) (.int (0 : Int32)) (.int (0 : Int32)) (.int (0 : Int32)) T65.heap n0 Z65 O65 C71 F66 g_b63 F67 F68 F69 F70) hZ (own_wd hw 24 rfl) (own_wd hw 2 rfl) (by decide) (by decide)) (g := (mkF m 140 #[.val (.int x1), .val (.int x2), .val (.int x3), .val (.int x4), .val (.int x5), .val (.int x6), .val (.ref b35), .val (.double (0 : UInt64)), .second, .val (.int hv), .val (.int av), .val (.int gv), .val (.int bv), .val (.ref b53), .unset, .unset, .unset, .unset, .unset, .unset, .unset, .unset, .unset] [(.int (0 : Int32)), (.int (255 : Int32)), (.int (-bv)), (.int gv), (.ref b64), (.ref b63), (.ref b63)])) rfl (by rw [hml]; rfl) (Steps.refl _) (a := b63) (argsL := [(.ref b64), (.int gv), (.int (-bv)), (.int (255 : Int32)), (.int (0 : Int32))]) (rest := [(.ref b63)]) (lenOf pd_4 rfl) rfl (by show 2 * 0 + _ ≤ _; exact Nat.le_of_eq rfl) (hb hby at_140) (fun _ _ => ⟨rfl, rfl, (by decide : 6 + 0 ≤ _), (by decide : 21 + 0 ≤ _)⟩)
  dsimp only [Pt.U, Pt.locs, Pt.cells, Pt.slots] at X72 l72 y72 z72 st72 hQ72
  subst l72 y72 z72
  obtain ⟨rfl, N72q, KK72, Q72_0, Q72_1, Q72_2⟩ := hQ72
  have N72 := Fr.app N65 N72q
  have O72 : Old Z n0 T72.heap := O65.keep KK72 (allS g_b63 all0)
  have Z72 : n0 ≤ T72.heap.size := Nat.le_trans Z65 KK72.1
  have K72 : Keep h0 T72.heap [] := K65.trans KK72 (allS (Or.inr sz_b63) all0)
  have F73 : Fld Z T72.heap b53 "com/example/headmast/headmast/HandOver" "pin" "Lcom/example/headmast/headmast/Pin;" (.ref b54) := ((((Q62_1.ext E63).ext E64).keep KK65 (ninS (Nat.ne_of_lt (Nat.lt_of_lt_of_le (Q62_0.ext E63).lt (Nat.le_of_eq g64.symm))) nin0)).keep KK72 (ninS (Nat.ne_of_lt (Nat.lt_of_lt_of_le Q62_0.lt (Nat.le_of_eq g63.symm))) nin0))
  have F74 : Fld Z T72.heap b54 "com/example/headmast/headmast/Pin" "push" "I" (.int (-av)) := (((((Q55_1.keep KK62 (ninS (Ne.symm (Nat.ne_of_lt (Nat.lt_of_lt_of_le A53.lt (Nat.le_of_eq g54.symm)))) nin0)).ext E63).ext E64).keep KK65 (ninS (Nat.ne_of_lt (Nat.lt_of_lt_of_le ((Q55_0.keep KK62).ext E63).lt (Nat.le_of_eq g64.symm))) nin0)).keep KK72 (ninS (Nat.ne_of_lt (Nat.lt_of_lt_of_le (Q55_0.keep KK62).lt (Nat.le_of_eq g63.symm))) nin0))
  have F75 : Fld Z T72.heap b53 "com/example/headmast/headmast/HandOver" "headerHeight" "I" (.int hv) := ((((Q62_2.ext E63).ext E64).keep KK65 (ninS (Nat.ne_of_lt (Nat.lt_of_lt_of_le (Q62_0.ext E63).lt (Nat.le_of_eq g64.symm))) nin0)).keep KK72 (ninS (Nat.ne_of_lt (Nat.lt_of_lt_of_le Q62_0.lt (Nat.le_of_eq g63.symm))) nin0))
  have pp76 : (-av) < (0 : Int32) := own_ng eA A1 A2 H2
  have pp77 : Jvm.Free.Fl.NoNaN64 (FP.ddiv (FP.i2d (-(-av))) (FP.i2d hv)) := (own_nnv (by rw [own_p eA eH A2 H2]; exact OwnFl.own_rr_ne _ _))
  have C78 : Exa Z T72.heap b54 "com/example/headmast/headmast/Pin" := (((((Q55_0.keep KK62).ext E63).ext E64).keep KK65).keep KK72)
  have C79 : Exa Z T72.heap b53 "com/example/headmast/headmast/HandOver" := ((((Q62_0.ext E63).ext E64).keep KK65).keep KK72)
  obtain ⟨cq80, kq80, q80a, q80b, q80c⟩ := isOf hZ rfl C79
  obtain ⟨_, _, ⟨T80, L80, k80, n80⟩, -, X80, ⟨Lc80, hQ80, l80, y80, z80⟩, st80⟩ := X72.virtualBack hx (y := (⟨"com/example/headmast/headmast/HandOver", "progress", "()D"⟩ : MethodName)) (z := (⟨"com/example/headmast/headmast/HandOver", "progress", "()D"⟩ : MethodName)) hown (mvT hZ (own_wd hw 36 rfl)) (mvT hZ (own_wd hw 37 rfl)) (notFace_of_selects (args := #[]) (mvT hZ (own_wd hw 39 rfl))) (mvT hZ (own_wd hw 39 rfl)) (mvT hZ (own_wd hw 38 rfl)) (by decide) (backOf (W := 0) (rm5_f l Z a0 hw [] b53 b54 (-av) hv T72.heap n0 Z72 O72 pp76 pp77 F73 F74 C78 C79 F75) hZ (own_wd hw 40 rfl) (own_wd hw 2 rfl) (by decide) (by decide)) q80a q80c (g := (mkF m 147 #[.val (.int x1), .val (.int x2), .val (.int x3), .val (.int x4), .val (.int x5), .val (.int x6), .val (.ref b35), .val (.double (0 : UInt64)), .second, .val (.int hv), .val (.int av), .val (.int gv), .val (.int bv), .val (.ref b53), .val (.ref b63), .unset, .unset, .unset, .unset, .unset, .unset, .unset, .unset] [(.ref b53)])) rfl (by rw [hml]; rfl) (Steps.refl _) (argsL := []) (rest := []) (lenOf pd_5 rfl) rfl (by show 2 * 0 + _ ≤ _; exact Nat.le_of_eq rfl) (hb hby at_147) (fun _ _ => ⟨rfl, rfl, (by decide : 6 + 0 ≤ _), (by decide : 21 + 0 ≤ _)⟩)
  dsimp only [Pt.U, Pt.locs, Pt.cells, Pt.slots] at X80 l80 y80 z80 st80 hQ80
  subst l80 y80 z80
  obtain ⟨rfl, N80q, eh80⟩ := hQ80
  have N80 := Fr.app N72 N80q
  obtain ⟨pv, hpv⟩ : ∃ z, z = (FP.ddiv (FP.i2d (-(-av))) (FP.i2d hv)) := ⟨_, rfl⟩
  have rn81 : (FP.ddiv (FP.i2d (-(-av))) (FP.i2d hv)) = pv := hpv.symm
  have vp : Jvm.FP.Core.val64 pv = OwnFl.RR A H := by rw [hpv]; exact own_p eA eH A2 H2
  have F82 : Fld Z T72.heap b64 "com/example/headmast/headmast/Pin" "push" "I" (.int (-bv)) := (Q65_1.keep KK72 (ninS (Ne.symm (Nat.ne_of_lt (Nat.lt_of_lt_of_le A63.lt (Nat.le_of_eq g64.symm)))) nin0))
  have pp83 : (-bv) < (0 : Int32) := own_ng eB B1 B2 G2
  have pp84 : Jvm.Free.Fl.NoNaN64 (FP.ddiv (FP.i2d (-(-bv))) (FP.i2d gv)) := (own_nnv (by rw [own_p eB eG B2 G2]; exact OwnFl.own_rr_ne _ _))
  have C85 : Exa Z T72.heap b64 "com/example/headmast/headmast/Pin" := (Q65_0.keep KK72)
  obtain ⟨cq86, kq86, q86a, q86b, q86c⟩ := isOf hZ eh80 Q72_0
  obtain ⟨_, _, ⟨T86, L86, k86, n86⟩, -, X86, ⟨Lc86, hQ86, l86, y86, z86⟩, st86⟩ := X80.virtualBack hx (y := (⟨"com/example/headmast/headmast/HandOver", "progress", "()D"⟩ : MethodName)) (z := (⟨"com/example/headmast/headmast/HandOver", "progress", "()D"⟩ : MethodName)) hown (mvT hZ (own_wd hw 36 rfl)) (mvT hZ (own_wd hw 37 rfl)) (notFace_of_selects (args := #[]) (mvT hZ (own_wd hw 39 rfl))) (mvT hZ (own_wd hw 39 rfl)) (mvT hZ (own_wd hw 38 rfl)) (by decide) (backOf (W := 0) (rm5_f l Z a0 hw [] b63 b64 (-bv) gv T72.heap n0 Z72 O72 pp83 pp84 Q72_1 F82 C85 Q72_0 Q72_2) hZ (own_wd hw 40 rfl) (own_wd hw 2 rfl) (by decide) (by decide)) q86a q86c (g := (mkF m 154 #[.val (.int x1), .val (.int x2), .val (.int x3), .val (.int x4), .val (.int x5), .val (.int x6), .val (.ref b35), .val (.double (0 : UInt64)), .second, .val (.int hv), .val (.int av), .val (.int gv), .val (.int bv), .val (.ref b53), .val (.ref b63), .val (.double pv), .second, .unset, .unset, .unset, .unset, .unset, .unset] [(.ref b63)])) rfl (by rw [hml]; rfl) (Steps.refl _) (argsL := []) (rest := []) (lenOf pd_5 rfl) rfl (by show 2 * 0 + _ ≤ _; exact Nat.le_of_eq rfl) (hb hby at_154) (fun _ _ => ⟨rfl, eh80, (by decide : 6 + 0 ≤ _), (by decide : 21 + 0 ≤ _)⟩)
  dsimp only [Pt.U, Pt.locs, Pt.cells, Pt.slots] at X86 l86 y86 z86 st86 hQ86
  subst l86 y86 z86
  obtain ⟨rfl, N86q, eh86⟩ := hQ86
  have N86 := Fr.app N80 N86q
  obtain ⟨qv, hqv⟩ : ∃ z, z = (FP.ddiv (FP.i2d (-(-bv))) (FP.i2d gv)) := ⟨_, rfl⟩
  have rn87 : (FP.ddiv (FP.i2d (-(-bv))) (FP.i2d gv)) = qv := hqv.symm
  have vq : Jvm.FP.Core.val64 qv = OwnFl.RR B G := by rw [hqv]; exact own_p eB eG B2 G2
  obtain ⟨lv, hlv⟩ : ∃ z, z = ((av.toInt64) * (gv.toInt64)) := ⟨_, rfl⟩
  have rn88 : ((av.toInt64) * (gv.toInt64)) = lv := hlv.symm
  have elv : lv.toInt = ((A * G : Nat) : Int) := own_mul hlv eA eG (by omega) (by omega)
  obtain ⟨rv, hrv⟩ : ∃ z, z = ((bv.toInt64) * (hv.toInt64)) := ⟨_, rfl⟩
  have rn89 : ((bv.toInt64) * (hv.toInt64)) = rv := hrv.symm
  have erv : rv.toInt = ((B * H : Nat) : Int) := own_mul hrv eB eH (by omega) (by omega)
  have pre90 : ∀ t, Steps p.tables e below (T86.setTop (mkF m 211 #[.val (.int x1), .val (.int x2), .val (.int x3), .val (.int x4), .val (.int x5), .val (.int x6), .val (.ref b35), .val (.double (0 : UInt64)), .second, .val (.int hv), .val (.int av), .val (.int gv), .val (.int bv), .val (.ref b53), .val (.ref b63), .val (.double pv), .second, .val (.double qv), .second, .val (.long lv), .second, .val (.long rv), .second] [(.long lv)])) t → Steps p.tables e below (s₁.setTop (entryFrame m #[(.int x1), (.int x2), (.int x3), (.int x4), (.int x5), (.int x6)] maxLocals)) t := by
    intro t kt
    refine pre0 t ?_
    show Steps p.tables e below (s₁.setTop (mkF m 0 #[.val (.int x1), .val (.int x2), .val (.int x3), .val (.int x4), .val (.int x5), .val (.int x6), .unset, .unset, .unset, .unset, .unset, .unset, .unset, .unset, .unset, .unset, .unset, .unset, .unset, .unset, .unset, .unset, .unset] [])) _
    refine st35 _ ?_
    show Steps p.tables e below (T35.setTop (mkF m 3 #[.val (.int x1), .val (.int x2), .val (.int x3), .val (.int x4), .val (.int x5), .val (.int x6), .unset, .unset, .unset, .unset, .unset, .unset, .unset, .unset, .unset, .unset, .unset, .unset, .unset, .unset, .unset, .unset, .unset] [(.ref b35)])) _
    refine XS.dup X35.here hx rfl (hb hby at_3) rfl rfl ?_
    show Steps p.tables e below (T35.setTop (mkF m 4 #[.val (.int x1), .val (.int x2), .val (.int x3), .val (.int x4), .val (.int x5), .val (.int x6), .unset, .unset, .unset, .unset, .unset, .unset, .unset, .unset, .unset, .unset, .unset, .unset, .unset, .unset, .unset, .unset, .unset] [(.ref b35), (.ref b35)])) _
    refine st36 _ ?_
    show Steps p.tables e below (T36.setTop (mkF m 7 #[.val (.int x1), .val (.int x2), .val (.int x3), .val (.int x4), .val (.int x5), .val (.int x6), .unset, .unset, .unset, .unset, .unset, .unset, .unset, .unset, .unset, .unset, .unset, .unset, .unset, .unset, .unset, .unset, .unset] [(.ref b36), (.ref b35), (.ref b35)])) _
    refine XS.dup X36.here hx rfl (hb hby at_7) rfl rfl ?_
    show Steps p.tables e below (T36.setTop (mkF m 8 #[.val (.int x1), .val (.int x2), .val (.int x3), .val (.int x4), .val (.int x5), .val (.int x6), .unset, .unset, .unset, .unset, .unset, .unset, .unset, .unset, .unset, .unset, .unset, .unset, .unset, .unset, .unset, .unset, .unset] [(.ref b36), (.ref b36), (.ref b35), (.ref b35)])) _
    refine XS.iconst X36.here hx rfl (hb hby at_8) ?_
    show Steps p.tables e below (T36.setTop (mkF m 9 #[.val (.int x1), .val (.int x2), .val (.int x3), .val (.int x4), .val (.int x5), .val (.int x6), .unset, .unset, .unset, .unset, .unset, .unset, .unset, .unset, .unset, .unset, .unset, .unset, .unset, .unset, .unset, .unset, .unset] [(.int (0 : Int32)), (.ref b36), (.ref b36), (.ref b35), (.ref b35)])) _
    refine XS.iloadN X36.here hx rfl (hb hby at_9) rfl ?_
    show Steps p.tables e below (T36.setTop (mkF m 10 #[.val (.int x1), .val (.int x2), .val (.int x3), .val (.int x4), .val (.int x5), .val (.int x6), .unset, .unset, .unset, .unset, .unset, .unset, .unset, .unset, .unset, .unset, .unset, .unset, .unset, .unset, .unset, .unset, .unset] [(.int x1), (.int (0 : Int32)), (.ref b36), (.ref b36), (.ref b35), (.ref b35)])) _
    refine X36.ldcInt hx hown (mvT hZ (own_wd hw 6 rfl)) (g := (mkF m 10 #[.val (.int x1), .val (.int x2), .val (.int x3), .val (.int x4), .val (.int x5), .val (.int x6), .unset, .unset, .unset, .unset, .unset, .unset, .unset, .unset, .unset, .unset, .unset, .unset, .unset, .unset, .unset, .unset, .unset] [(.int x1), (.int (0 : Int32)), (.ref b36), (.ref b36), (.ref b35), (.ref b35)])) rfl (hb hby at_10) _ ?_
    show Steps p.tables e below (T36.setTop (mkF m 12 #[.val (.int x1), .val (.int x2), .val (.int x3), .val (.int x4), .val (.int x5), .val (.int x6), .unset, .unset, .unset, .unset, .unset, .unset, .unset, .unset, .unset, .unset, .unset, .unset, .unset, .unset, .unset, .unset, .unset] [(.int (2147483647 : Int32)), (.int x1), (.int (0 : Int32)), (.ref b36), (.ref b36), (.ref b35), (.ref b35)])) _
    refine XS.iand X36.here hx rfl (hb hby at_12) rfl ?_
    show Steps p.tables e below (T36.setTop (mkF m 13 #[.val (.int x1), .val (.int x2), .val (.int x3), .val (.int x4), .val (.int x5), .val (.int x6), .unset, .unset, .unset, .unset, .unset, .unset, .unset, .unset, .unset, .unset, .unset, .unset, .unset, .unset, .unset, .unset, .unset] [(.int (x1 &&& (2147483647 : Int32))), (.int (0 : Int32)), (.ref b36), (.ref b36), (.ref b35), (.ref b35)])) _
    refine st37.trans ?_
    show Steps p.tables e below (T37.setTop (mkF m 16 #[.val (.int x1), .val (.int x2), .val (.int x3), .val (.int x4), .val (.int x5), .val (.int x6), .unset, .unset, .unset, .unset, .unset, .unset, .unset, .unset, .unset, .unset, .unset, .unset, .unset, .unset, .unset, .unset, .unset] [(.ref b36), (.ref b35), (.ref b35)])) _
    refine XS.iloadN X37.here hx rfl (hb hby at_16) rfl ?_
    show Steps p.tables e below (T37.setTop (mkF m 17 #[.val (.int x1), .val (.int x2), .val (.int x3), .val (.int x4), .val (.int x5), .val (.int x6), .unset, .unset, .unset, .unset, .unset, .unset, .unset, .unset, .unset, .unset, .unset, .unset, .unset, .unset, .unset, .unset, .unset] [(.int x2), (.ref b36), (.ref b35), (.ref b35)])) _
    refine XS.iconst X37.here hx rfl (hb hby at_17) ?_
    show Steps p.tables e below (T37.setTop (mkF m 18 #[.val (.int x1), .val (.int x2), .val (.int x3), .val (.int x4), .val (.int x5), .val (.int x6), .unset, .unset, .unset, .unset, .unset, .unset, .unset, .unset, .unset, .unset, .unset, .unset, .unset, .unset, .unset, .unset, .unset] [(.int (0 : Int32)), (.int x2), (.ref b36), (.ref b35), (.ref b35)])) _
    refine XS.sipush X37.here hx rfl (hb hby at_18) ?_
    show Steps p.tables e below (T37.setTop (mkF m 21 #[.val (.int x1), .val (.int x2), .val (.int x3), .val (.int x4), .val (.int x5), .val (.int x6), .unset, .unset, .unset, .unset, .unset, .unset, .unset, .unset, .unset, .unset, .unset, .unset, .unset, .unset, .unset, .unset, .unset] [(.int (255 : Int32)), (.int (0 : Int32)), (.int x2), (.ref b36), (.ref b35), (.ref b35)])) _
    refine XS.iconst X37.here hx rfl (hb hby at_21) ?_
    show Steps p.tables e below (T37.setTop (mkF m 22 #[.val (.int x1), .val (.int x2), .val (.int x3), .val (.int x4), .val (.int x5), .val (.int x6), .unset, .unset, .unset, .unset, .unset, .unset, .unset, .unset, .unset, .unset, .unset, .unset, .unset, .unset, .unset, .unset, .unset] [(.int (0 : Int32)), (.int (255 : Int32)), (.int (0 : Int32)), (.int x2), (.ref b36), (.ref b35), (.ref b35)])) _
    refine st44.trans ?_
    show Steps p.tables e below (T44.setTop (mkF m 25 #[.val (.int x1), .val (.int x2), .val (.int x3), .val (.int x4), .val (.int x5), .val (.int x6), .unset, .unset, .unset, .unset, .unset, .unset, .unset, .unset, .unset, .unset, .unset, .unset, .unset, .unset, .unset, .unset, .unset] [(.ref b35)])) _
    refine XS.astore X44.here hx rfl (hb hby at_25) rfl rfl (l' := #[.val (.int x1), .val (.int x2), .val (.int x3), .val (.int x4), .val (.int x5), .val (.int x6), .val (.ref b35), .unset, .unset, .unset, .unset, .unset, .unset, .unset, .unset, .unset, .unset, .unset, .unset, .unset, .unset, .unset, .unset]) rfl ?_
    show Steps p.tables e below (T44.setTop (mkF m 27 #[.val (.int x1), .val (.int x2), .val (.int x3), .val (.int x4), .val (.int x5), .val (.int x6), .val (.ref b35), .unset, .unset, .unset, .unset, .unset, .unset, .unset, .unset, .unset, .unset, .unset, .unset, .unset, .unset, .unset, .unset] [])) _
    refine XS.aload X44.here hx rfl (hb hby at_27) rfl rfl ?_
    show Steps p.tables e below (T44.setTop (mkF m 29 #[.val (.int x1), .val (.int x2), .val (.int x3), .val (.int x4), .val (.int x5), .val (.int x6), .val (.ref b35), .unset, .unset, .unset, .unset, .unset, .unset, .unset, .unset, .unset, .unset, .unset, .unset, .unset, .unset, .unset, .unset] [(.ref b35)])) _
    refine st48.trans ?_
    show Steps p.tables e below (T48.setTop (mkF m 32 #[.val (.int x1), .val (.int x2), .val (.int x3), .val (.int x4), .val (.int x5), .val (.int x6), .val (.ref b35), .unset, .unset, .unset, .unset, .unset, .unset, .unset, .unset, .unset, .unset, .unset, .unset, .unset, .unset, .unset, .unset] [(.double (0 : UInt64))])) _
    refine XS.dstore X48.here hx rfl (hb hby at_32) rfl (l' := #[.val (.int x1), .val (.int x2), .val (.int x3), .val (.int x4), .val (.int x5), .val (.int x6), .val (.ref b35), .val (.double (0 : UInt64)), .second, .unset, .unset, .unset, .unset, .unset, .unset, .unset, .unset, .unset, .unset, .unset, .unset, .unset, .unset]) rfl ?_
    show Steps p.tables e below (T48.setTop (mkF m 34 #[.val (.int x1), .val (.int x2), .val (.int x3), .val (.int x4), .val (.int x5), .val (.int x6), .val (.ref b35), .val (.double (0 : UInt64)), .second, .unset, .unset, .unset, .unset, .unset, .unset, .unset, .unset, .unset, .unset, .unset, .unset, .unset, .unset] [])) _
    refine XS.dload X48.here hx rfl (hb hby at_34) rfl ?_
    show Steps p.tables e below (T48.setTop (mkF m 36 #[.val (.int x1), .val (.int x2), .val (.int x3), .val (.int x4), .val (.int x5), .val (.int x6), .val (.ref b35), .val (.double (0 : UInt64)), .second, .unset, .unset, .unset, .unset, .unset, .unset, .unset, .unset, .unset, .unset, .unset, .unset, .unset, .unset] [(.double (0 : UInt64))])) _
    refine XS.dconst0 X48.here hx rfl (hb hby at_36) (v := (0 : UInt64)) rfl ?_
    show Steps p.tables e below (T48.setTop (mkF m 37 #[.val (.int x1), .val (.int x2), .val (.int x3), .val (.int x4), .val (.int x5), .val (.int x6), .val (.ref b35), .val (.double (0 : UInt64)), .second, .unset, .unset, .unset, .unset, .unset, .unset, .unset, .unset, .unset, .unset, .unset, .unset, .unset, .unset] [(.double (0 : UInt64)), (.double (0 : UInt64))])) _
    refine XS.dcmpS X48.here hx rfl (hb hby at_37) rfl rfl ?_
    show Steps p.tables e below (T48.setTop (mkF m 38 #[.val (.int x1), .val (.int x2), .val (.int x3), .val (.int x4), .val (.int x5), .val (.int x6), .val (.ref b35), .val (.double (0 : UInt64)), .second, .unset, .unset, .unset, .unset, .unset, .unset, .unset, .unset, .unset, .unset, .unset, .unset, .unset, .unset] [(.int (cmpValue (FP.dcmp (0 : UInt64) (0 : UInt64)) .l))])) _
    refine XS.ifYes X48.here hx rfl (pc0 := 38) (pc' := 43) rfl (hb hby at_38) rfl ((if0 _ _).trans (teq (by decide +kernel)).1) (by decide) (by decide) ?_
    show Steps p.tables e below (T48.setTop (mkF m 43 #[.val (.int x1), .val (.int x2), .val (.int x3), .val (.int x4), .val (.int x5), .val (.int x6), .val (.ref b35), .val (.double (0 : UInt64)), .second, .unset, .unset, .unset, .unset, .unset, .unset, .unset, .unset, .unset, .unset, .unset, .unset, .unset, .unset] [])) _
    refine XS.iconst X48.here hx rfl (hb hby at_43) ?_
    show Steps p.tables e below (T48.setTop (mkF m 44 #[.val (.int x1), .val (.int x2), .val (.int x3), .val (.int x4), .val (.int x5), .val (.int x6), .val (.ref b35), .val (.double (0 : UInt64)), .second, .unset, .unset, .unset, .unset, .unset, .unset, .unset, .unset, .unset, .unset, .unset, .unset, .unset, .unset] [(.int (2 : Int32))])) _
    refine XS.iloadN X48.here hx rfl (hb hby at_44) rfl ?_
    show Steps p.tables e below (T48.setTop (mkF m 45 #[.val (.int x1), .val (.int x2), .val (.int x3), .val (.int x4), .val (.int x5), .val (.int x6), .val (.ref b35), .val (.double (0 : UInt64)), .second, .unset, .unset, .unset, .unset, .unset, .unset, .unset, .unset, .unset, .unset, .unset, .unset, .unset, .unset] [(.int x4), (.int (2 : Int32))])) _
    refine X48.ldcInt hx hown (mvT hZ (own_wd hw 51 rfl)) (g := (mkF m 45 #[.val (.int x1), .val (.int x2), .val (.int x3), .val (.int x4), .val (.int x5), .val (.int x6), .val (.ref b35), .val (.double (0 : UInt64)), .second, .unset, .unset, .unset, .unset, .unset, .unset, .unset, .unset, .unset, .unset, .unset, .unset, .unset, .unset] [(.int x4), (.int (2 : Int32))])) rfl (hb hby at_45) _ ?_
    show Steps p.tables e below (T48.setTop (mkF m 47 #[.val (.int x1), .val (.int x2), .val (.int x3), .val (.int x4), .val (.int x5), .val (.int x6), .val (.ref b35), .val (.double (0 : UInt64)), .second, .unset, .unset, .unset, .unset, .unset, .unset, .unset, .unset, .unset, .unset, .unset, .unset, .unset, .unset] [(.int (65535 : Int32)), (.int x4), (.int (2 : Int32))])) _
    refine XS.iand X48.here hx rfl (hb hby at_47) rfl ?_
    show Steps p.tables e below (T48.setTop (mkF m 48 #[.val (.int x1), .val (.int x2), .val (.int x3), .val (.int x4), .val (.int x5), .val (.int x6), .val (.ref b35), .val (.double (0 : UInt64)), .second, .unset, .unset, .unset, .unset, .unset, .unset, .unset, .unset, .unset, .unset, .unset, .unset, .unset, .unset] [(.int (x4 &&& (65535 : Int32))), (.int (2 : Int32))])) _
    refine XS.iadd X48.here hx rfl (hb hby at_48) rfl ?_
    show Steps p.tables e below (T48.setTop (mkF m 49 #[.val (.int x1), .val (.int x2), .val (.int x3), .val (.int x4), .val (.int x5), .val (.int x6), .val (.ref b35), .val (.double (0 : UInt64)), .second, .unset, .unset, .unset, .unset, .unset, .unset, .unset, .unset, .unset, .unset, .unset, .unset, .unset, .unset] [(.int ((2 : Int32) + (x4 &&& (65535 : Int32))))])) _
    refine XS.istore X48.here hx rfl (hb hby at_49) rfl (l' := #[.val (.int x1), .val (.int x2), .val (.int x3), .val (.int x4), .val (.int x5), .val (.int x6), .val (.ref b35), .val (.double (0 : UInt64)), .second, .val (.int ((2 : Int32) + (x4 &&& (65535 : Int32)))), .unset, .unset, .unset, .unset, .unset, .unset, .unset, .unset, .unset, .unset, .unset, .unset, .unset]) rfl ?_
    show Steps p.tables e below (T48.setTop (mkF m 51 #[.val (.int x1), .val (.int x2), .val (.int x3), .val (.int x4), .val (.int x5), .val (.int x6), .val (.ref b35), .val (.double (0 : UInt64)), .second, .val (.int ((2 : Int32) + (x4 &&& (65535 : Int32)))), .unset, .unset, .unset, .unset, .unset, .unset, .unset, .unset, .unset, .unset, .unset, .unset, .unset] [])) _
    rw [rn49]
    show Steps p.tables e below (T48.setTop (mkF m 51 #[.val (.int x1), .val (.int x2), .val (.int x3), .val (.int x4), .val (.int x5), .val (.int x6), .val (.ref b35), .val (.double (0 : UInt64)), .second, .val (.int hv), .unset, .unset, .unset, .unset, .unset, .unset, .unset, .unset, .unset, .unset, .unset, .unset, .unset] [])) _
    refine XS.iconst X48.here hx rfl (hb hby at_51) ?_
    show Steps p.tables e below (T48.setTop (mkF m 52 #[.val (.int x1), .val (.int x2), .val (.int x3), .val (.int x4), .val (.int x5), .val (.int x6), .val (.ref b35), .val (.double (0 : UInt64)), .second, .val (.int hv), .unset, .unset, .unset, .unset, .unset, .unset, .unset, .unset, .unset, .unset, .unset, .unset, .unset] [(.int (1 : Int32))])) _
    refine XS.iloadN X48.here hx rfl (hb hby at_52) rfl ?_
    show Steps p.tables e below (T48.setTop (mkF m 53 #[.val (.int x1), .val (.int x2), .val (.int x3), .val (.int x4), .val (.int x5), .val (.int x6), .val (.ref b35), .val (.double (0 : UInt64)), .second, .val (.int hv), .unset, .unset, .unset, .unset, .unset, .unset, .unset, .unset, .unset, .unset, .unset, .unset, .unset] [(.int x3), (.int (1 : Int32))])) _
    refine X48.ldcInt hx hown (mvT hZ (own_wd hw 6 rfl)) (g := (mkF m 53 #[.val (.int x1), .val (.int x2), .val (.int x3), .val (.int x4), .val (.int x5), .val (.int x6), .val (.ref b35), .val (.double (0 : UInt64)), .second, .val (.int hv), .unset, .unset, .unset, .unset, .unset, .unset, .unset, .unset, .unset, .unset, .unset, .unset, .unset] [(.int x3), (.int (1 : Int32))])) rfl (hb hby at_53) _ ?_
    show Steps p.tables e below (T48.setTop (mkF m 55 #[.val (.int x1), .val (.int x2), .val (.int x3), .val (.int x4), .val (.int x5), .val (.int x6), .val (.ref b35), .val (.double (0 : UInt64)), .second, .val (.int hv), .unset, .unset, .unset, .unset, .unset, .unset, .unset, .unset, .unset, .unset, .unset, .unset, .unset] [(.int (2147483647 : Int32)), (.int x3), (.int (1 : Int32))])) _
    refine XS.iand X48.here hx rfl (hb hby at_55) rfl ?_
    show Steps p.tables e below (T48.setTop (mkF m 56 #[.val (.int x1), .val (.int x2), .val (.int x3), .val (.int x4), .val (.int x5), .val (.int x6), .val (.ref b35), .val (.double (0 : UInt64)), .second, .val (.int hv), .unset, .unset, .unset, .unset, .unset, .unset, .unset, .unset, .unset, .unset, .unset, .unset, .unset] [(.int (x3 &&& (2147483647 : Int32))), (.int (1 : Int32))])) _
    refine XS.iload X48.here hx rfl (hb hby at_56) rfl ?_
    show Steps p.tables e below (T48.setTop (mkF m 58 #[.val (.int x1), .val (.int x2), .val (.int x3), .val (.int x4), .val (.int x5), .val (.int x6), .val (.ref b35), .val (.double (0 : UInt64)), .second, .val (.int hv), .unset, .unset, .unset, .unset, .unset, .unset, .unset, .unset, .unset, .unset, .unset, .unset, .unset] [(.int hv), (.int (x3 &&& (2147483647 : Int32))), (.int (1 : Int32))])) _
    refine XS.iconst X48.here hx rfl (hb hby at_58) ?_
    show Steps p.tables e below (T48.setTop (mkF m 59 #[.val (.int x1), .val (.int x2), .val (.int x3), .val (.int x4), .val (.int x5), .val (.int x6), .val (.ref b35), .val (.double (0 : UInt64)), .second, .val (.int hv), .unset, .unset, .unset, .unset, .unset, .unset, .unset, .unset, .unset, .unset, .unset, .unset, .unset] [(.int (1 : Int32)), (.int hv), (.int (x3 &&& (2147483647 : Int32))), (.int (1 : Int32))])) _
    refine XS.isub X48.here hx rfl (hb hby at_59) rfl ?_
    show Steps p.tables e below (T48.setTop (mkF m 60 #[.val (.int x1), .val (.int x2), .val (.int x3), .val (.int x4), .val (.int x5), .val (.int x6), .val (.ref b35), .val (.double (0 : UInt64)), .second, .val (.int hv), .unset, .unset, .unset, .unset, .unset, .unset, .unset, .unset, .unset, .unset, .unset, .unset, .unset] [(.int (hv - (1 : Int32))), (.int (x3 &&& (2147483647 : Int32))), (.int (1 : Int32))])) _
    refine iremM X48 hx rfl (hb hby at_60) rfl (own_nz eH H1 H2) ?_
    show Steps p.tables e below (T48.setTop (mkF m 61 #[.val (.int x1), .val (.int x2), .val (.int x3), .val (.int x4), .val (.int x5), .val (.int x6), .val (.ref b35), .val (.double (0 : UInt64)), .second, .val (.int hv), .unset, .unset, .unset, .unset, .unset, .unset, .unset, .unset, .unset, .unset, .unset, .unset, .unset] [(.int ((x3 &&& (2147483647 : Int32)) % (hv - (1 : Int32)))), (.int (1 : Int32))])) _
    refine XS.iadd X48.here hx rfl (hb hby at_61) rfl ?_
    show Steps p.tables e below (T48.setTop (mkF m 62 #[.val (.int x1), .val (.int x2), .val (.int x3), .val (.int x4), .val (.int x5), .val (.int x6), .val (.ref b35), .val (.double (0 : UInt64)), .second, .val (.int hv), .unset, .unset, .unset, .unset, .unset, .unset, .unset, .unset, .unset, .unset, .unset, .unset, .unset] [(.int ((1 : Int32) + ((x3 &&& (2147483647 : Int32)) % (hv - (1 : Int32)))))])) _
    refine XS.istore X48.here hx rfl (hb hby at_62) rfl (l' := #[.val (.int x1), .val (.int x2), .val (.int x3), .val (.int x4), .val (.int x5), .val (.int x6), .val (.ref b35), .val (.double (0 : UInt64)), .second, .val (.int hv), .val (.int ((1 : Int32) + ((x3 &&& (2147483647 : Int32)) % (hv - (1 : Int32))))), .unset, .unset, .unset, .unset, .unset, .unset, .unset, .unset, .unset, .unset, .unset, .unset]) rfl ?_
    show Steps p.tables e below (T48.setTop (mkF m 64 #[.val (.int x1), .val (.int x2), .val (.int x3), .val (.int x4), .val (.int x5), .val (.int x6), .val (.ref b35), .val (.double (0 : UInt64)), .second, .val (.int hv), .val (.int ((1 : Int32) + ((x3 &&& (2147483647 : Int32)) % (hv - (1 : Int32))))), .unset, .unset, .unset, .unset, .unset, .unset, .unset, .unset, .unset, .unset, .unset, .unset] [])) _
    rw [rn50]
    show Steps p.tables e below (T48.setTop (mkF m 64 #[.val (.int x1), .val (.int x2), .val (.int x3), .val (.int x4), .val (.int x5), .val (.int x6), .val (.ref b35), .val (.double (0 : UInt64)), .second, .val (.int hv), .val (.int av), .unset, .unset, .unset, .unset, .unset, .unset, .unset, .unset, .unset, .unset, .unset, .unset] [])) _
    refine XS.iconst X48.here hx rfl (hb hby at_64) ?_
    show Steps p.tables e below (T48.setTop (mkF m 65 #[.val (.int x1), .val (.int x2), .val (.int x3), .val (.int x4), .val (.int x5), .val (.int x6), .val (.ref b35), .val (.double (0 : UInt64)), .second, .val (.int hv), .val (.int av), .unset, .unset, .unset, .unset, .unset, .unset, .unset, .unset, .unset, .unset, .unset, .unset] [(.int (2 : Int32))])) _
    refine XS.iload X48.here hx rfl (hb hby at_65) rfl ?_
    show Steps p.tables e below (T48.setTop (mkF m 67 #[.val (.int x1), .val (.int x2), .val (.int x3), .val (.int x4), .val (.int x5), .val (.int x6), .val (.ref b35), .val (.double (0 : UInt64)), .second, .val (.int hv), .val (.int av), .unset, .unset, .unset, .unset, .unset, .unset, .unset, .unset, .unset, .unset, .unset, .unset] [(.int x6), (.int (2 : Int32))])) _
    refine X48.ldcInt hx hown (mvT hZ (own_wd hw 51 rfl)) (g := (mkF m 67 #[.val (.int x1), .val (.int x2), .val (.int x3), .val (.int x4), .val (.int x5), .val (.int x6), .val (.ref b35), .val (.double (0 : UInt64)), .second, .val (.int hv), .val (.int av), .unset, .unset, .unset, .unset, .unset, .unset, .unset, .unset, .unset, .unset, .unset, .unset] [(.int x6), (.int (2 : Int32))])) rfl (hb hby at_67) _ ?_
    show Steps p.tables e below (T48.setTop (mkF m 69 #[.val (.int x1), .val (.int x2), .val (.int x3), .val (.int x4), .val (.int x5), .val (.int x6), .val (.ref b35), .val (.double (0 : UInt64)), .second, .val (.int hv), .val (.int av), .unset, .unset, .unset, .unset, .unset, .unset, .unset, .unset, .unset, .unset, .unset, .unset] [(.int (65535 : Int32)), (.int x6), (.int (2 : Int32))])) _
    refine XS.iand X48.here hx rfl (hb hby at_69) rfl ?_
    show Steps p.tables e below (T48.setTop (mkF m 70 #[.val (.int x1), .val (.int x2), .val (.int x3), .val (.int x4), .val (.int x5), .val (.int x6), .val (.ref b35), .val (.double (0 : UInt64)), .second, .val (.int hv), .val (.int av), .unset, .unset, .unset, .unset, .unset, .unset, .unset, .unset, .unset, .unset, .unset, .unset] [(.int (x6 &&& (65535 : Int32))), (.int (2 : Int32))])) _
    refine XS.iadd X48.here hx rfl (hb hby at_70) rfl ?_
    show Steps p.tables e below (T48.setTop (mkF m 71 #[.val (.int x1), .val (.int x2), .val (.int x3), .val (.int x4), .val (.int x5), .val (.int x6), .val (.ref b35), .val (.double (0 : UInt64)), .second, .val (.int hv), .val (.int av), .unset, .unset, .unset, .unset, .unset, .unset, .unset, .unset, .unset, .unset, .unset, .unset] [(.int ((2 : Int32) + (x6 &&& (65535 : Int32))))])) _
    refine XS.istore X48.here hx rfl (hb hby at_71) rfl (l' := #[.val (.int x1), .val (.int x2), .val (.int x3), .val (.int x4), .val (.int x5), .val (.int x6), .val (.ref b35), .val (.double (0 : UInt64)), .second, .val (.int hv), .val (.int av), .val (.int ((2 : Int32) + (x6 &&& (65535 : Int32)))), .unset, .unset, .unset, .unset, .unset, .unset, .unset, .unset, .unset, .unset, .unset]) rfl ?_
    show Steps p.tables e below (T48.setTop (mkF m 73 #[.val (.int x1), .val (.int x2), .val (.int x3), .val (.int x4), .val (.int x5), .val (.int x6), .val (.ref b35), .val (.double (0 : UInt64)), .second, .val (.int hv), .val (.int av), .val (.int ((2 : Int32) + (x6 &&& (65535 : Int32)))), .unset, .unset, .unset, .unset, .unset, .unset, .unset, .unset, .unset, .unset, .unset] [])) _
    rw [rn51]
    show Steps p.tables e below (T48.setTop (mkF m 73 #[.val (.int x1), .val (.int x2), .val (.int x3), .val (.int x4), .val (.int x5), .val (.int x6), .val (.ref b35), .val (.double (0 : UInt64)), .second, .val (.int hv), .val (.int av), .val (.int gv), .unset, .unset, .unset, .unset, .unset, .unset, .unset, .unset, .unset, .unset, .unset] [])) _
    refine XS.iconst X48.here hx rfl (hb hby at_73) ?_
    show Steps p.tables e below (T48.setTop (mkF m 74 #[.val (.int x1), .val (.int x2), .val (.int x3), .val (.int x4), .val (.int x5), .val (.int x6), .val (.ref b35), .val (.double (0 : UInt64)), .second, .val (.int hv), .val (.int av), .val (.int gv), .unset, .unset, .unset, .unset, .unset, .unset, .unset, .unset, .unset, .unset, .unset] [(.int (1 : Int32))])) _
    refine XS.iload X48.here hx rfl (hb hby at_74) rfl ?_
    show Steps p.tables e below (T48.setTop (mkF m 76 #[.val (.int x1), .val (.int x2), .val (.int x3), .val (.int x4), .val (.int x5), .val (.int x6), .val (.ref b35), .val (.double (0 : UInt64)), .second, .val (.int hv), .val (.int av), .val (.int gv), .unset, .unset, .unset, .unset, .unset, .unset, .unset, .unset, .unset, .unset, .unset] [(.int x5), (.int (1 : Int32))])) _
    refine X48.ldcInt hx hown (mvT hZ (own_wd hw 6 rfl)) (g := (mkF m 76 #[.val (.int x1), .val (.int x2), .val (.int x3), .val (.int x4), .val (.int x5), .val (.int x6), .val (.ref b35), .val (.double (0 : UInt64)), .second, .val (.int hv), .val (.int av), .val (.int gv), .unset, .unset, .unset, .unset, .unset, .unset, .unset, .unset, .unset, .unset, .unset] [(.int x5), (.int (1 : Int32))])) rfl (hb hby at_76) _ ?_
    show Steps p.tables e below (T48.setTop (mkF m 78 #[.val (.int x1), .val (.int x2), .val (.int x3), .val (.int x4), .val (.int x5), .val (.int x6), .val (.ref b35), .val (.double (0 : UInt64)), .second, .val (.int hv), .val (.int av), .val (.int gv), .unset, .unset, .unset, .unset, .unset, .unset, .unset, .unset, .unset, .unset, .unset] [(.int (2147483647 : Int32)), (.int x5), (.int (1 : Int32))])) _
    refine XS.iand X48.here hx rfl (hb hby at_78) rfl ?_
    show Steps p.tables e below (T48.setTop (mkF m 79 #[.val (.int x1), .val (.int x2), .val (.int x3), .val (.int x4), .val (.int x5), .val (.int x6), .val (.ref b35), .val (.double (0 : UInt64)), .second, .val (.int hv), .val (.int av), .val (.int gv), .unset, .unset, .unset, .unset, .unset, .unset, .unset, .unset, .unset, .unset, .unset] [(.int (x5 &&& (2147483647 : Int32))), (.int (1 : Int32))])) _
    refine XS.iload X48.here hx rfl (hb hby at_79) rfl ?_
    show Steps p.tables e below (T48.setTop (mkF m 81 #[.val (.int x1), .val (.int x2), .val (.int x3), .val (.int x4), .val (.int x5), .val (.int x6), .val (.ref b35), .val (.double (0 : UInt64)), .second, .val (.int hv), .val (.int av), .val (.int gv), .unset, .unset, .unset, .unset, .unset, .unset, .unset, .unset, .unset, .unset, .unset] [(.int gv), (.int (x5 &&& (2147483647 : Int32))), (.int (1 : Int32))])) _
    refine XS.iconst X48.here hx rfl (hb hby at_81) ?_
    show Steps p.tables e below (T48.setTop (mkF m 82 #[.val (.int x1), .val (.int x2), .val (.int x3), .val (.int x4), .val (.int x5), .val (.int x6), .val (.ref b35), .val (.double (0 : UInt64)), .second, .val (.int hv), .val (.int av), .val (.int gv), .unset, .unset, .unset, .unset, .unset, .unset, .unset, .unset, .unset, .unset, .unset] [(.int (1 : Int32)), (.int gv), (.int (x5 &&& (2147483647 : Int32))), (.int (1 : Int32))])) _
    refine XS.isub X48.here hx rfl (hb hby at_82) rfl ?_
    show Steps p.tables e below (T48.setTop (mkF m 83 #[.val (.int x1), .val (.int x2), .val (.int x3), .val (.int x4), .val (.int x5), .val (.int x6), .val (.ref b35), .val (.double (0 : UInt64)), .second, .val (.int hv), .val (.int av), .val (.int gv), .unset, .unset, .unset, .unset, .unset, .unset, .unset, .unset, .unset, .unset, .unset] [(.int (gv - (1 : Int32))), (.int (x5 &&& (2147483647 : Int32))), (.int (1 : Int32))])) _
    refine iremM X48 hx rfl (hb hby at_83) rfl (own_nz eG G1 G2) ?_
    show Steps p.tables e below (T48.setTop (mkF m 84 #[.val (.int x1), .val (.int x2), .val (.int x3), .val (.int x4), .val (.int x5), .val (.int x6), .val (.ref b35), .val (.double (0 : UInt64)), .second, .val (.int hv), .val (.int av), .val (.int gv), .unset, .unset, .unset, .unset, .unset, .unset, .unset, .unset, .unset, .unset, .unset] [(.int ((x5 &&& (2147483647 : Int32)) % (gv - (1 : Int32)))), (.int (1 : Int32))])) _
    refine XS.iadd X48.here hx rfl (hb hby at_84) rfl ?_
    show Steps p.tables e below (T48.setTop (mkF m 85 #[.val (.int x1), .val (.int x2), .val (.int x3), .val (.int x4), .val (.int x5), .val (.int x6), .val (.ref b35), .val (.double (0 : UInt64)), .second, .val (.int hv), .val (.int av), .val (.int gv), .unset, .unset, .unset, .unset, .unset, .unset, .unset, .unset, .unset, .unset, .unset] [(.int ((1 : Int32) + ((x5 &&& (2147483647 : Int32)) % (gv - (1 : Int32)))))])) _
    refine XS.istore X48.here hx rfl (hb hby at_85) rfl (l' := #[.val (.int x1), .val (.int x2), .val (.int x3), .val (.int x4), .val (.int x5), .val (.int x6), .val (.ref b35), .val (.double (0 : UInt64)), .second, .val (.int hv), .val (.int av), .val (.int gv), .val (.int ((1 : Int32) + ((x5 &&& (2147483647 : Int32)) % (gv - (1 : Int32))))), .unset, .unset, .unset, .unset, .unset, .unset, .unset, .unset, .unset, .unset]) rfl ?_
    show Steps p.tables e below (T48.setTop (mkF m 87 #[.val (.int x1), .val (.int x2), .val (.int x3), .val (.int x4), .val (.int x5), .val (.int x6), .val (.ref b35), .val (.double (0 : UInt64)), .second, .val (.int hv), .val (.int av), .val (.int gv), .val (.int ((1 : Int32) + ((x5 &&& (2147483647 : Int32)) % (gv - (1 : Int32))))), .unset, .unset, .unset, .unset, .unset, .unset, .unset, .unset, .unset, .unset] [])) _
    rw [rn52]
    show Steps p.tables e below (T48.setTop (mkF m 87 #[.val (.int x1), .val (.int x2), .val (.int x3), .val (.int x4), .val (.int x5), .val (.int x6), .val (.ref b35), .val (.double (0 : UInt64)), .second, .val (.int hv), .val (.int av), .val (.int gv), .val (.int bv), .unset, .unset, .unset, .unset, .unset, .unset, .unset, .unset, .unset, .unset] [])) _
    refine st53 _ ?_
    show Steps p.tables e below (T53.setTop (mkF m 90 #[.val (.int x1), .val (.int x2), .val (.int x3), .val (.int x4), .val (.int x5), .val (.int x6), .val (.ref b35), .val (.double (0 : UInt64)), .second, .val (.int hv), .val (.int av), .val (.int gv), .val (.int bv), .unset, .unset, .unset, .unset, .unset, .unset, .unset, .unset, .unset, .unset] [(.ref b53)])) _
    refine XS.dup X53.here hx rfl (hb hby at_90) rfl rfl ?_
    show Steps p.tables e below (T53.setTop (mkF m 91 #[.val (.int x1), .val (.int x2), .val (.int x3), .val (.int x4), .val (.int x5), .val (.int x6), .val (.ref b35), .val (.double (0 : UInt64)), .second, .val (.int hv), .val (.int av), .val (.int gv), .val (.int bv), .unset, .unset, .unset, .unset, .unset, .unset, .unset, .unset, .unset, .unset] [(.ref b53), (.ref b53)])) _
    refine st54 _ ?_
    show Steps p.tables e below (T54.setTop (mkF m 94 #[.val (.int x1), .val (.int x2), .val (.int x3), .val (.int x4), .val (.int x5), .val (.int x6), .val (.ref b35), .val (.double (0 : UInt64)), .second, .val (.int hv), .val (.int av), .val (.int gv), .val (.int bv), .unset, .unset, .unset, .unset, .unset, .unset, .unset, .unset, .unset, .unset] [(.ref b54), (.ref b53), (.ref b53)])) _
    refine XS.dup X54.here hx rfl (hb hby at_94) rfl rfl ?_
    show Steps p.tables e below (T54.setTop (mkF m 95 #[.val (.int x1), .val (.int x2), .val (.int x3), .val (.int x4), .val (.int x5), .val (.int x6), .val (.ref b35), .val (.double (0 : UInt64)), .second, .val (.int hv), .val (.int av), .val (.int gv), .val (.int bv), .unset, .unset, .unset, .unset, .unset, .unset, .unset, .unset, .unset, .unset] [(.ref b54), (.ref b54), (.ref b53), (.ref b53)])) _
    refine XS.iconst X54.here hx rfl (hb hby at_95) ?_
    show Steps p.tables e below (T54.setTop (mkF m 96 #[.val (.int x1), .val (.int x2), .val (.int x3), .val (.int x4), .val (.int x5), .val (.int x6), .val (.ref b35), .val (.double (0 : UInt64)), .second, .val (.int hv), .val (.int av), .val (.int gv), .val (.int bv), .unset, .unset, .unset, .unset, .unset, .unset, .unset, .unset, .unset, .unset] [(.int (1 : Int32)), (.ref b54), (.ref b54), (.ref b53), (.ref b53)])) _
    refine XS.iload X54.here hx rfl (hb hby at_96) rfl ?_
    show Steps p.tables e below (T54.setTop (mkF m 98 #[.val (.int x1), .val (.int x2), .val (.int x3), .val (.int x4), .val (.int x5), .val (.int x6), .val (.ref b35), .val (.double (0 : UInt64)), .second, .val (.int hv), .val (.int av), .val (.int gv), .val (.int bv), .unset, .unset, .unset, .unset, .unset, .unset, .unset, .unset, .unset, .unset] [(.int av), (.int (1 : Int32)), (.ref b54), (.ref b54), (.ref b53), (.ref b53)])) _
    refine XS.ineg X54.here hx rfl (hb hby at_98) rfl ?_
    show Steps p.tables e below (T54.setTop (mkF m 99 #[.val (.int x1), .val (.int x2), .val (.int x3), .val (.int x4), .val (.int x5), .val (.int x6), .val (.ref b35), .val (.double (0 : UInt64)), .second, .val (.int hv), .val (.int av), .val (.int gv), .val (.int bv), .unset, .unset, .unset, .unset, .unset, .unset, .unset, .unset, .unset, .unset] [(.int (-av)), (.int (1 : Int32)), (.ref b54), (.ref b54), (.ref b53), (.ref b53)])) _
    refine st55.trans ?_
    show Steps p.tables e below (T55.setTop (mkF m 102 #[.val (.int x1), .val (.int x2), .val (.int x3), .val (.int x4), .val (.int x5), .val (.int x6), .val (.ref b35), .val (.double (0 : UInt64)), .second, .val (.int hv), .val (.int av), .val (.int gv), .val (.int bv), .unset, .unset, .unset, .unset, .unset, .unset, .unset, .unset, .unset, .unset] [(.ref b54), (.ref b53), (.ref b53)])) _
    refine XS.iload X55.here hx rfl (hb hby at_102) rfl ?_
    show Steps p.tables e below (T55.setTop (mkF m 104 #[.val (.int x1), .val (.int x2), .val (.int x3), .val (.int x4), .val (.int x5), .val (.int x6), .val (.ref b35), .val (.double (0 : UInt64)), .second, .val (.int hv), .val (.int av), .val (.int gv), .val (.int bv), .unset, .unset, .unset, .unset, .unset, .unset, .unset, .unset, .unset, .unset] [(.int hv), (.ref b54), (.ref b53), (.ref b53)])) _
    refine XS.iload X55.here hx rfl (hb hby at_104) rfl ?_
    show Steps p.tables e below (T55.setTop (mkF m 106 #[.val (.int x1), .val (.int x2), .val (.int x3), .val (.int x4), .val (.int x5), .val (.int x6), .val (.ref b35), .val (.double (0 : UInt64)), .second, .val (.int hv), .val (.int av), .val (.int gv), .val (.int bv), .unset, .unset, .unset, .unset, .unset, .unset, .unset, .unset, .unset, .unset] [(.int av), (.int hv), (.ref b54), (.ref b53), (.ref b53)])) _
    refine XS.ineg X55.here hx rfl (hb hby at_106) rfl ?_
    show Steps p.tables e below (T55.setTop (mkF m 107 #[.val (.int x1), .val (.int x2), .val (.int x3), .val (.int x4), .val (.int x5), .val (.int x6), .val (.ref b35), .val (.double (0 : UInt64)), .second, .val (.int hv), .val (.int av), .val (.int gv), .val (.int bv), .unset, .unset, .unset, .unset, .unset, .unset, .unset, .unset, .unset, .unset] [(.int (-av)), (.int hv), (.ref b54), (.ref b53), (.ref b53)])) _
    refine XS.sipush X55.here hx rfl (hb hby at_107) ?_
    show Steps p.tables e below (T55.setTop (mkF m 110 #[.val (.int x1), .val (.int x2), .val (.int x3), .val (.int x4), .val (.int x5), .val (.int x6), .val (.ref b35), .val (.double (0 : UInt64)), .second, .val (.int hv), .val (.int av), .val (.int gv), .val (.int bv), .unset, .unset, .unset, .unset, .unset, .unset, .unset, .unset, .unset, .unset] [(.int (255 : Int32)), (.int (-av)), (.int hv), (.ref b54), (.ref b53), (.ref b53)])) _
    refine XS.iconst X55.here hx rfl (hb hby at_110) ?_
    show Steps p.tables e below (T55.setTop (mkF m 111 #[.val (.int x1), .val (.int x2), .val (.int x3), .val (.int x4), .val (.int x5), .val (.int x6), .val (.ref b35), .val (.double (0 : UInt64)), .second, .val (.int hv), .val (.int av), .val (.int gv), .val (.int bv), .unset, .unset, .unset, .unset, .unset, .unset, .unset, .unset, .unset, .unset] [(.int (0 : Int32)), (.int (255 : Int32)), (.int (-av)), (.int hv), (.ref b54), (.ref b53), (.ref b53)])) _
    refine st62.trans ?_
    show Steps p.tables e below (T62.setTop (mkF m 114 #[.val (.int x1), .val (.int x2), .val (.int x3), .val (.int x4), .val (.int x5), .val (.int x6), .val (.ref b35), .val (.double (0 : UInt64)), .second, .val (.int hv), .val (.int av), .val (.int gv), .val (.int bv), .unset, .unset, .unset, .unset, .unset, .unset, .unset, .unset, .unset, .unset] [(.ref b53)])) _
    refine XS.astore X62.here hx rfl (hb hby at_114) rfl rfl (l' := #[.val (.int x1), .val (.int x2), .val (.int x3), .val (.int x4), .val (.int x5), .val (.int x6), .val (.ref b35), .val (.double (0 : UInt64)), .second, .val (.int hv), .val (.int av), .val (.int gv), .val (.int bv), .val (.ref b53), .unset, .unset, .unset, .unset, .unset, .unset, .unset, .unset, .unset]) rfl ?_
    show Steps p.tables e below (T62.setTop (mkF m 116 #[.val (.int x1), .val (.int x2), .val (.int x3), .val (.int x4), .val (.int x5), .val (.int x6), .val (.ref b35), .val (.double (0 : UInt64)), .second, .val (.int hv), .val (.int av), .val (.int gv), .val (.int bv), .val (.ref b53), .unset, .unset, .unset, .unset, .unset, .unset, .unset, .unset, .unset] [])) _
    refine st63 _ ?_
    show Steps p.tables e below (T63.setTop (mkF m 119 #[.val (.int x1), .val (.int x2), .val (.int x3), .val (.int x4), .val (.int x5), .val (.int x6), .val (.ref b35), .val (.double (0 : UInt64)), .second, .val (.int hv), .val (.int av), .val (.int gv), .val (.int bv), .val (.ref b53), .unset, .unset, .unset, .unset, .unset, .unset, .unset, .unset, .unset] [(.ref b63)])) _
    refine XS.dup X63.here hx rfl (hb hby at_119) rfl rfl ?_
    show Steps p.tables e below (T63.setTop (mkF m 120 #[.val (.int x1), .val (.int x2), .val (.int x3), .val (.int x4), .val (.int x5), .val (.int x6), .val (.ref b35), .val (.double (0 : UInt64)), .second, .val (.int hv), .val (.int av), .val (.int gv), .val (.int bv), .val (.ref b53), .unset, .unset, .unset, .unset, .unset, .unset, .unset, .unset, .unset] [(.ref b63), (.ref b63)])) _
    refine st64 _ ?_
    show Steps p.tables e below (T64.setTop (mkF m 123 #[.val (.int x1), .val (.int x2), .val (.int x3), .val (.int x4), .val (.int x5), .val (.int x6), .val (.ref b35), .val (.double (0 : UInt64)), .second, .val (.int hv), .val (.int av), .val (.int gv), .val (.int bv), .val (.ref b53), .unset, .unset, .unset, .unset, .unset, .unset, .unset, .unset, .unset] [(.ref b64), (.ref b63), (.ref b63)])) _
    refine XS.dup X64.here hx rfl (hb hby at_123) rfl rfl ?_
    show Steps p.tables e below (T64.setTop (mkF m 124 #[.val (.int x1), .val (.int x2), .val (.int x3), .val (.int x4), .val (.int x5), .val (.int x6), .val (.ref b35), .val (.double (0 : UInt64)), .second, .val (.int hv), .val (.int av), .val (.int gv), .val (.int bv), .val (.ref b53), .unset, .unset, .unset, .unset, .unset, .unset, .unset, .unset, .unset] [(.ref b64), (.ref b64), (.ref b63), (.ref b63)])) _
    refine XS.iconst X64.here hx rfl (hb hby at_124) ?_
    show Steps p.tables e below (T64.setTop (mkF m 125 #[.val (.int x1), .val (.int x2), .val (.int x3), .val (.int x4), .val (.int x5), .val (.int x6), .val (.ref b35), .val (.double (0 : UInt64)), .second, .val (.int hv), .val (.int av), .val (.int gv), .val (.int bv), .val (.ref b53), .unset, .unset, .unset, .unset, .unset, .unset, .unset, .unset, .unset] [(.int (2 : Int32)), (.ref b64), (.ref b64), (.ref b63), (.ref b63)])) _
    refine XS.iload X64.here hx rfl (hb hby at_125) rfl ?_
    show Steps p.tables e below (T64.setTop (mkF m 127 #[.val (.int x1), .val (.int x2), .val (.int x3), .val (.int x4), .val (.int x5), .val (.int x6), .val (.ref b35), .val (.double (0 : UInt64)), .second, .val (.int hv), .val (.int av), .val (.int gv), .val (.int bv), .val (.ref b53), .unset, .unset, .unset, .unset, .unset, .unset, .unset, .unset, .unset] [(.int bv), (.int (2 : Int32)), (.ref b64), (.ref b64), (.ref b63), (.ref b63)])) _
    refine XS.ineg X64.here hx rfl (hb hby at_127) rfl ?_
    show Steps p.tables e below (T64.setTop (mkF m 128 #[.val (.int x1), .val (.int x2), .val (.int x3), .val (.int x4), .val (.int x5), .val (.int x6), .val (.ref b35), .val (.double (0 : UInt64)), .second, .val (.int hv), .val (.int av), .val (.int gv), .val (.int bv), .val (.ref b53), .unset, .unset, .unset, .unset, .unset, .unset, .unset, .unset, .unset] [(.int (-bv)), (.int (2 : Int32)), (.ref b64), (.ref b64), (.ref b63), (.ref b63)])) _
    refine st65.trans ?_
    show Steps p.tables e below (T65.setTop (mkF m 131 #[.val (.int x1), .val (.int x2), .val (.int x3), .val (.int x4), .val (.int x5), .val (.int x6), .val (.ref b35), .val (.double (0 : UInt64)), .second, .val (.int hv), .val (.int av), .val (.int gv), .val (.int bv), .val (.ref b53), .unset, .unset, .unset, .unset, .unset, .unset, .unset, .unset, .unset] [(.ref b64), (.ref b63), (.ref b63)])) _
    refine XS.iload X65.here hx rfl (hb hby at_131) rfl ?_
    show Steps p.tables e below (T65.setTop (mkF m 133 #[.val (.int x1), .val (.int x2), .val (.int x3), .val (.int x4), .val (.int x5), .val (.int x6), .val (.ref b35), .val (.double (0 : UInt64)), .second, .val (.int hv), .val (.int av), .val (.int gv), .val (.int bv), .val (.ref b53), .unset, .unset, .unset, .unset, .unset, .unset, .unset, .unset, .unset] [(.int gv), (.ref b64), (.ref b63), (.ref b63)])) _
    refine XS.iload X65.here hx rfl (hb hby at_133) rfl ?_
    show Steps p.tables e below (T65.setTop (mkF m 135 #[.val (.int x1), .val (.int x2), .val (.int x3), .val (.int x4), .val (.int x5), .val (.int x6), .val (.ref b35), .val (.double (0 : UInt64)), .second, .val (.int hv), .val (.int av), .val (.int gv), .val (.int bv), .val (.ref b53), .unset, .unset, .unset, .unset, .unset, .unset, .unset, .unset, .unset] [(.int bv), (.int gv), (.ref b64), (.ref b63), (.ref b63)])) _
    refine XS.ineg X65.here hx rfl (hb hby at_135) rfl ?_
    show Steps p.tables e below (T65.setTop (mkF m 136 #[.val (.int x1), .val (.int x2), .val (.int x3), .val (.int x4), .val (.int x5), .val (.int x6), .val (.ref b35), .val (.double (0 : UInt64)), .second, .val (.int hv), .val (.int av), .val (.int gv), .val (.int bv), .val (.ref b53), .unset, .unset, .unset, .unset, .unset, .unset, .unset, .unset, .unset] [(.int (-bv)), (.int gv), (.ref b64), (.ref b63), (.ref b63)])) _
    refine XS.sipush X65.here hx rfl (hb hby at_136) ?_
    show Steps p.tables e below (T65.setTop (mkF m 139 #[.val (.int x1), .val (.int x2), .val (.int x3), .val (.int x4), .val (.int x5), .val (.int x6), .val (.ref b35), .val (.double (0 : UInt64)), .second, .val (.int hv), .val (.int av), .val (.int gv), .val (.int bv), .val (.ref b53), .unset, .unset, .unset, .unset, .unset, .unset, .unset, .unset, .unset] [(.int (255 : Int32)), (.int (-bv)), (.int gv), (.ref b64), (.ref b63), (.ref b63)])) _
    refine XS.iconst X65.here hx rfl (hb hby at_139) ?_
    show Steps p.tables e below (T65.setTop (mkF m 140 #[.val (.int x1), .val (.int x2), .val (.int x3), .val (.int x4), .val (.int x5), .val (.int x6), .val (.ref b35), .val (.double (0 : UInt64)), .second, .val (.int hv), .val (.int av), .val (.int gv), .val (.int bv), .val (.ref b53), .unset, .unset, .unset, .unset, .unset, .unset, .unset, .unset, .unset] [(.int (0 : Int32)), (.int (255 : Int32)), (.int (-bv)), (.int gv), (.ref b64), (.ref b63), (.ref b63)])) _
    refine st72.trans ?_
    show Steps p.tables e below (T72.setTop (mkF m 143 #[.val (.int x1), .val (.int x2), .val (.int x3), .val (.int x4), .val (.int x5), .val (.int x6), .val (.ref b35), .val (.double (0 : UInt64)), .second, .val (.int hv), .val (.int av), .val (.int gv), .val (.int bv), .val (.ref b53), .unset, .unset, .unset, .unset, .unset, .unset, .unset, .unset, .unset] [(.ref b63)])) _
    refine XS.astore X72.here hx rfl (hb hby at_143) rfl rfl (l' := #[.val (.int x1), .val (.int x2), .val (.int x3), .val (.int x4), .val (.int x5), .val (.int x6), .val (.ref b35), .val (.double (0 : UInt64)), .second, .val (.int hv), .val (.int av), .val (.int gv), .val (.int bv), .val (.ref b53), .val (.ref b63), .unset, .unset, .unset, .unset, .unset, .unset, .unset, .unset]) rfl ?_
    show Steps p.tables e below (T72.setTop (mkF m 145 #[.val (.int x1), .val (.int x2), .val (.int x3), .val (.int x4), .val (.int x5), .val (.int x6), .val (.ref b35), .val (.double (0 : UInt64)), .second, .val (.int hv), .val (.int av), .val (.int gv), .val (.int bv), .val (.ref b53), .val (.ref b63), .unset, .unset, .unset, .unset, .unset, .unset, .unset, .unset] [])) _
    refine XS.aload X72.here hx rfl (hb hby at_145) rfl rfl ?_
    show Steps p.tables e below (T72.setTop (mkF m 147 #[.val (.int x1), .val (.int x2), .val (.int x3), .val (.int x4), .val (.int x5), .val (.int x6), .val (.ref b35), .val (.double (0 : UInt64)), .second, .val (.int hv), .val (.int av), .val (.int gv), .val (.int bv), .val (.ref b53), .val (.ref b63), .unset, .unset, .unset, .unset, .unset, .unset, .unset, .unset] [(.ref b53)])) _
    refine st80.trans ?_
    show Steps p.tables e below (T80.setTop (mkF m 150 #[.val (.int x1), .val (.int x2), .val (.int x3), .val (.int x4), .val (.int x5), .val (.int x6), .val (.ref b35), .val (.double (0 : UInt64)), .second, .val (.int hv), .val (.int av), .val (.int gv), .val (.int bv), .val (.ref b53), .val (.ref b63), .unset, .unset, .unset, .unset, .unset, .unset, .unset, .unset] [(.double (FP.ddiv (FP.i2d (-(-av))) (FP.i2d hv)))])) _
    refine XS.dstore X80.here hx rfl (hb hby at_150) rfl (l' := #[.val (.int x1), .val (.int x2), .val (.int x3), .val (.int x4), .val (.int x5), .val (.int x6), .val (.ref b35), .val (.double (0 : UInt64)), .second, .val (.int hv), .val (.int av), .val (.int gv), .val (.int bv), .val (.ref b53), .val (.ref b63), .val (.double (FP.ddiv (FP.i2d (-(-av))) (FP.i2d hv))), .second, .unset, .unset, .unset, .unset, .unset, .unset]) rfl ?_
    show Steps p.tables e below (T80.setTop (mkF m 152 #[.val (.int x1), .val (.int x2), .val (.int x3), .val (.int x4), .val (.int x5), .val (.int x6), .val (.ref b35), .val (.double (0 : UInt64)), .second, .val (.int hv), .val (.int av), .val (.int gv), .val (.int bv), .val (.ref b53), .val (.ref b63), .val (.double (FP.ddiv (FP.i2d (-(-av))) (FP.i2d hv))), .second, .unset, .unset, .unset, .unset, .unset, .unset] [])) _
    rw [rn81]
    show Steps p.tables e below (T80.setTop (mkF m 152 #[.val (.int x1), .val (.int x2), .val (.int x3), .val (.int x4), .val (.int x5), .val (.int x6), .val (.ref b35), .val (.double (0 : UInt64)), .second, .val (.int hv), .val (.int av), .val (.int gv), .val (.int bv), .val (.ref b53), .val (.ref b63), .val (.double pv), .second, .unset, .unset, .unset, .unset, .unset, .unset] [])) _
    refine XS.aload X80.here hx rfl (hb hby at_152) rfl rfl ?_
    show Steps p.tables e below (T80.setTop (mkF m 154 #[.val (.int x1), .val (.int x2), .val (.int x3), .val (.int x4), .val (.int x5), .val (.int x6), .val (.ref b35), .val (.double (0 : UInt64)), .second, .val (.int hv), .val (.int av), .val (.int gv), .val (.int bv), .val (.ref b53), .val (.ref b63), .val (.double pv), .second, .unset, .unset, .unset, .unset, .unset, .unset] [(.ref b63)])) _
    refine st86.trans ?_
    show Steps p.tables e below (T86.setTop (mkF m 157 #[.val (.int x1), .val (.int x2), .val (.int x3), .val (.int x4), .val (.int x5), .val (.int x6), .val (.ref b35), .val (.double (0 : UInt64)), .second, .val (.int hv), .val (.int av), .val (.int gv), .val (.int bv), .val (.ref b53), .val (.ref b63), .val (.double pv), .second, .unset, .unset, .unset, .unset, .unset, .unset] [(.double (FP.ddiv (FP.i2d (-(-bv))) (FP.i2d gv)))])) _
    refine XS.dstore X86.here hx rfl (hb hby at_157) rfl (l' := #[.val (.int x1), .val (.int x2), .val (.int x3), .val (.int x4), .val (.int x5), .val (.int x6), .val (.ref b35), .val (.double (0 : UInt64)), .second, .val (.int hv), .val (.int av), .val (.int gv), .val (.int bv), .val (.ref b53), .val (.ref b63), .val (.double pv), .second, .val (.double (FP.ddiv (FP.i2d (-(-bv))) (FP.i2d gv))), .second, .unset, .unset, .unset, .unset]) rfl ?_
    show Steps p.tables e below (T86.setTop (mkF m 159 #[.val (.int x1), .val (.int x2), .val (.int x3), .val (.int x4), .val (.int x5), .val (.int x6), .val (.ref b35), .val (.double (0 : UInt64)), .second, .val (.int hv), .val (.int av), .val (.int gv), .val (.int bv), .val (.ref b53), .val (.ref b63), .val (.double pv), .second, .val (.double (FP.ddiv (FP.i2d (-(-bv))) (FP.i2d gv))), .second, .unset, .unset, .unset, .unset] [])) _
    rw [rn87]
    show Steps p.tables e below (T86.setTop (mkF m 159 #[.val (.int x1), .val (.int x2), .val (.int x3), .val (.int x4), .val (.int x5), .val (.int x6), .val (.ref b35), .val (.double (0 : UInt64)), .second, .val (.int hv), .val (.int av), .val (.int gv), .val (.int bv), .val (.ref b53), .val (.ref b63), .val (.double pv), .second, .val (.double qv), .second, .unset, .unset, .unset, .unset] [])) _
    refine XS.dconst0 X86.here hx rfl (hb hby at_159) (v := (0 : UInt64)) rfl ?_
    show Steps p.tables e below (T86.setTop (mkF m 160 #[.val (.int x1), .val (.int x2), .val (.int x3), .val (.int x4), .val (.int x5), .val (.int x6), .val (.ref b35), .val (.double (0 : UInt64)), .second, .val (.int hv), .val (.int av), .val (.int gv), .val (.int bv), .val (.ref b53), .val (.ref b63), .val (.double pv), .second, .val (.double qv), .second, .unset, .unset, .unset, .unset] [(.double (0 : UInt64))])) _
    refine XS.dload X86.here hx rfl (hb hby at_160) rfl ?_
    show Steps p.tables e below (T86.setTop (mkF m 162 #[.val (.int x1), .val (.int x2), .val (.int x3), .val (.int x4), .val (.int x5), .val (.int x6), .val (.ref b35), .val (.double (0 : UInt64)), .second, .val (.int hv), .val (.int av), .val (.int gv), .val (.int bv), .val (.ref b53), .val (.ref b63), .val (.double pv), .second, .val (.double qv), .second, .unset, .unset, .unset, .unset] [(.double pv), (.double (0 : UInt64))])) _
    refine XS.dcmpS X86.here hx rfl (hb hby at_162) rfl rfl ?_
    show Steps p.tables e below (T86.setTop (mkF m 163 #[.val (.int x1), .val (.int x2), .val (.int x3), .val (.int x4), .val (.int x5), .val (.int x6), .val (.ref b35), .val (.double (0 : UInt64)), .second, .val (.int hv), .val (.int av), .val (.int gv), .val (.int bv), .val (.ref b53), .val (.ref b63), .val (.double pv), .second, .val (.double qv), .second, .unset, .unset, .unset, .unset] [(.int (cmpValue (FP.dcmp (0 : UInt64) pv) .g))])) _
    refine XS.ifNo X86.here hx rfl (hb hby at_163) rfl ((if0 _ _).trans (tlt (own_vlt (OwnFl.own_cmp_lt OwnFl.own_zero vp (by decide) (by omega) (by decide) (by omega) (by omega) (by omega)) .g)).2.1) ?_
    show Steps p.tables e below (T86.setTop (mkF m 166 #[.val (.int x1), .val (.int x2), .val (.int x3), .val (.int x4), .val (.int x5), .val (.int x6), .val (.ref b35), .val (.double (0 : UInt64)), .second, .val (.int hv), .val (.int av), .val (.int gv), .val (.int bv), .val (.ref b53), .val (.ref b63), .val (.double pv), .second, .val (.double qv), .second, .unset, .unset, .unset, .unset] [])) _
    refine XS.dload X86.here hx rfl (hb hby at_166) rfl ?_
    show Steps p.tables e below (T86.setTop (mkF m 168 #[.val (.int x1), .val (.int x2), .val (.int x3), .val (.int x4), .val (.int x5), .val (.int x6), .val (.ref b35), .val (.double (0 : UInt64)), .second, .val (.int hv), .val (.int av), .val (.int gv), .val (.int bv), .val (.ref b53), .val (.ref b63), .val (.double pv), .second, .val (.double qv), .second, .unset, .unset, .unset, .unset] [(.double pv)])) _
    refine XS.dconst1 X86.here hx rfl (hb hby at_168) (v := (4607182418800017408 : UInt64)) rfl ?_
    show Steps p.tables e below (T86.setTop (mkF m 169 #[.val (.int x1), .val (.int x2), .val (.int x3), .val (.int x4), .val (.int x5), .val (.int x6), .val (.ref b35), .val (.double (0 : UInt64)), .second, .val (.int hv), .val (.int av), .val (.int gv), .val (.int bv), .val (.ref b53), .val (.ref b63), .val (.double pv), .second, .val (.double qv), .second, .unset, .unset, .unset, .unset] [(.double (4607182418800017408 : UInt64)), (.double pv)])) _
    refine XS.dcmpS X86.here hx rfl (hb hby at_169) rfl rfl ?_
    show Steps p.tables e below (T86.setTop (mkF m 170 #[.val (.int x1), .val (.int x2), .val (.int x3), .val (.int x4), .val (.int x5), .val (.int x6), .val (.ref b35), .val (.double (0 : UInt64)), .second, .val (.int hv), .val (.int av), .val (.int gv), .val (.int bv), .val (.ref b53), .val (.ref b63), .val (.double pv), .second, .val (.double qv), .second, .unset, .unset, .unset, .unset] [(.int (cmpValue (FP.dcmp pv (4607182418800017408 : UInt64)) .g))])) _
    refine XS.ifYes X86.here hx rfl (pc0 := 170) (pc' := 175) rfl (hb hby at_170) rfl ((if0 _ _).trans (tlt (own_vlt (OwnFl.own_cmp_lt vp OwnFl.own_one (by omega) (by decide) (by omega) (by decide) (by decide) (by omega)) .g)).1) (by decide) (by decide) ?_
    show Steps p.tables e below (T86.setTop (mkF m 175 #[.val (.int x1), .val (.int x2), .val (.int x3), .val (.int x4), .val (.int x5), .val (.int x6), .val (.ref b35), .val (.double (0 : UInt64)), .second, .val (.int hv), .val (.int av), .val (.int gv), .val (.int bv), .val (.ref b53), .val (.ref b63), .val (.double pv), .second, .val (.double qv), .second, .unset, .unset, .unset, .unset] [])) _
    refine XS.dconst0 X86.here hx rfl (hb hby at_175) (v := (0 : UInt64)) rfl ?_
    show Steps p.tables e below (T86.setTop (mkF m 176 #[.val (.int x1), .val (.int x2), .val (.int x3), .val (.int x4), .val (.int x5), .val (.int x6), .val (.ref b35), .val (.double (0 : UInt64)), .second, .val (.int hv), .val (.int av), .val (.int gv), .val (.int bv), .val (.ref b53), .val (.ref b63), .val (.double pv), .second, .val (.double qv), .second, .unset, .unset, .unset, .unset] [(.double (0 : UInt64))])) _
    refine XS.dload X86.here hx rfl (hb hby at_176) rfl ?_
    show Steps p.tables e below (T86.setTop (mkF m 178 #[.val (.int x1), .val (.int x2), .val (.int x3), .val (.int x4), .val (.int x5), .val (.int x6), .val (.ref b35), .val (.double (0 : UInt64)), .second, .val (.int hv), .val (.int av), .val (.int gv), .val (.int bv), .val (.ref b53), .val (.ref b63), .val (.double pv), .second, .val (.double qv), .second, .unset, .unset, .unset, .unset] [(.double qv), (.double (0 : UInt64))])) _
    refine XS.dcmpS X86.here hx rfl (hb hby at_178) rfl rfl ?_
    show Steps p.tables e below (T86.setTop (mkF m 179 #[.val (.int x1), .val (.int x2), .val (.int x3), .val (.int x4), .val (.int x5), .val (.int x6), .val (.ref b35), .val (.double (0 : UInt64)), .second, .val (.int hv), .val (.int av), .val (.int gv), .val (.int bv), .val (.ref b53), .val (.ref b63), .val (.double pv), .second, .val (.double qv), .second, .unset, .unset, .unset, .unset] [(.int (cmpValue (FP.dcmp (0 : UInt64) qv) .g))])) _
    refine XS.ifNo X86.here hx rfl (hb hby at_179) rfl ((if0 _ _).trans (tlt (own_vlt (OwnFl.own_cmp_lt OwnFl.own_zero vq (by decide) (by omega) (by decide) (by omega) (by omega) (by omega)) .g)).2.1) ?_
    show Steps p.tables e below (T86.setTop (mkF m 182 #[.val (.int x1), .val (.int x2), .val (.int x3), .val (.int x4), .val (.int x5), .val (.int x6), .val (.ref b35), .val (.double (0 : UInt64)), .second, .val (.int hv), .val (.int av), .val (.int gv), .val (.int bv), .val (.ref b53), .val (.ref b63), .val (.double pv), .second, .val (.double qv), .second, .unset, .unset, .unset, .unset] [])) _
    refine XS.dload X86.here hx rfl (hb hby at_182) rfl ?_
    show Steps p.tables e below (T86.setTop (mkF m 184 #[.val (.int x1), .val (.int x2), .val (.int x3), .val (.int x4), .val (.int x5), .val (.int x6), .val (.ref b35), .val (.double (0 : UInt64)), .second, .val (.int hv), .val (.int av), .val (.int gv), .val (.int bv), .val (.ref b53), .val (.ref b63), .val (.double pv), .second, .val (.double qv), .second, .unset, .unset, .unset, .unset] [(.double qv)])) _
    refine XS.dconst1 X86.here hx rfl (hb hby at_184) (v := (4607182418800017408 : UInt64)) rfl ?_
    show Steps p.tables e below (T86.setTop (mkF m 185 #[.val (.int x1), .val (.int x2), .val (.int x3), .val (.int x4), .val (.int x5), .val (.int x6), .val (.ref b35), .val (.double (0 : UInt64)), .second, .val (.int hv), .val (.int av), .val (.int gv), .val (.int bv), .val (.ref b53), .val (.ref b63), .val (.double pv), .second, .val (.double qv), .second, .unset, .unset, .unset, .unset] [(.double (4607182418800017408 : UInt64)), (.double qv)])) _
    refine XS.dcmpS X86.here hx rfl (hb hby at_185) rfl rfl ?_
    show Steps p.tables e below (T86.setTop (mkF m 186 #[.val (.int x1), .val (.int x2), .val (.int x3), .val (.int x4), .val (.int x5), .val (.int x6), .val (.ref b35), .val (.double (0 : UInt64)), .second, .val (.int hv), .val (.int av), .val (.int gv), .val (.int bv), .val (.ref b53), .val (.ref b63), .val (.double pv), .second, .val (.double qv), .second, .unset, .unset, .unset, .unset] [(.int (cmpValue (FP.dcmp qv (4607182418800017408 : UInt64)) .g))])) _
    refine XS.ifYes X86.here hx rfl (pc0 := 186) (pc' := 191) rfl (hb hby at_186) rfl ((if0 _ _).trans (tlt (own_vlt (OwnFl.own_cmp_lt vq OwnFl.own_one (by omega) (by decide) (by omega) (by decide) (by decide) (by omega)) .g)).1) (by decide) (by decide) ?_
    show Steps p.tables e below (T86.setTop (mkF m 191 #[.val (.int x1), .val (.int x2), .val (.int x3), .val (.int x4), .val (.int x5), .val (.int x6), .val (.ref b35), .val (.double (0 : UInt64)), .second, .val (.int hv), .val (.int av), .val (.int gv), .val (.int bv), .val (.ref b53), .val (.ref b63), .val (.double pv), .second, .val (.double qv), .second, .unset, .unset, .unset, .unset] [])) _
    refine XS.iload X86.here hx rfl (hb hby at_191) rfl ?_
    show Steps p.tables e below (T86.setTop (mkF m 193 #[.val (.int x1), .val (.int x2), .val (.int x3), .val (.int x4), .val (.int x5), .val (.int x6), .val (.ref b35), .val (.double (0 : UInt64)), .second, .val (.int hv), .val (.int av), .val (.int gv), .val (.int bv), .val (.ref b53), .val (.ref b63), .val (.double pv), .second, .val (.double qv), .second, .unset, .unset, .unset, .unset] [(.int av)])) _
    refine XS.i2l X86.here hx rfl (hb hby at_193) rfl ?_
    show Steps p.tables e below (T86.setTop (mkF m 194 #[.val (.int x1), .val (.int x2), .val (.int x3), .val (.int x4), .val (.int x5), .val (.int x6), .val (.ref b35), .val (.double (0 : UInt64)), .second, .val (.int hv), .val (.int av), .val (.int gv), .val (.int bv), .val (.ref b53), .val (.ref b63), .val (.double pv), .second, .val (.double qv), .second, .unset, .unset, .unset, .unset] [(.long (av.toInt64))])) _
    refine XS.iload X86.here hx rfl (hb hby at_194) rfl ?_
    show Steps p.tables e below (T86.setTop (mkF m 196 #[.val (.int x1), .val (.int x2), .val (.int x3), .val (.int x4), .val (.int x5), .val (.int x6), .val (.ref b35), .val (.double (0 : UInt64)), .second, .val (.int hv), .val (.int av), .val (.int gv), .val (.int bv), .val (.ref b53), .val (.ref b63), .val (.double pv), .second, .val (.double qv), .second, .unset, .unset, .unset, .unset] [(.int gv), (.long (av.toInt64))])) _
    refine XS.i2l X86.here hx rfl (hb hby at_196) rfl ?_
    show Steps p.tables e below (T86.setTop (mkF m 197 #[.val (.int x1), .val (.int x2), .val (.int x3), .val (.int x4), .val (.int x5), .val (.int x6), .val (.ref b35), .val (.double (0 : UInt64)), .second, .val (.int hv), .val (.int av), .val (.int gv), .val (.int bv), .val (.ref b53), .val (.ref b63), .val (.double pv), .second, .val (.double qv), .second, .unset, .unset, .unset, .unset] [(.long (gv.toInt64)), (.long (av.toInt64))])) _
    refine XS.lmul X86.here hx rfl (hb hby at_197) rfl ?_
    show Steps p.tables e below (T86.setTop (mkF m 198 #[.val (.int x1), .val (.int x2), .val (.int x3), .val (.int x4), .val (.int x5), .val (.int x6), .val (.ref b35), .val (.double (0 : UInt64)), .second, .val (.int hv), .val (.int av), .val (.int gv), .val (.int bv), .val (.ref b53), .val (.ref b63), .val (.double pv), .second, .val (.double qv), .second, .unset, .unset, .unset, .unset] [(.long ((av.toInt64) * (gv.toInt64)))])) _
    refine XS.lstore X86.here hx rfl (hb hby at_198) rfl (l' := #[.val (.int x1), .val (.int x2), .val (.int x3), .val (.int x4), .val (.int x5), .val (.int x6), .val (.ref b35), .val (.double (0 : UInt64)), .second, .val (.int hv), .val (.int av), .val (.int gv), .val (.int bv), .val (.ref b53), .val (.ref b63), .val (.double pv), .second, .val (.double qv), .second, .val (.long ((av.toInt64) * (gv.toInt64))), .second, .unset, .unset]) rfl ?_
    show Steps p.tables e below (T86.setTop (mkF m 200 #[.val (.int x1), .val (.int x2), .val (.int x3), .val (.int x4), .val (.int x5), .val (.int x6), .val (.ref b35), .val (.double (0 : UInt64)), .second, .val (.int hv), .val (.int av), .val (.int gv), .val (.int bv), .val (.ref b53), .val (.ref b63), .val (.double pv), .second, .val (.double qv), .second, .val (.long ((av.toInt64) * (gv.toInt64))), .second, .unset, .unset] [])) _
    rw [rn88]
    show Steps p.tables e below (T86.setTop (mkF m 200 #[.val (.int x1), .val (.int x2), .val (.int x3), .val (.int x4), .val (.int x5), .val (.int x6), .val (.ref b35), .val (.double (0 : UInt64)), .second, .val (.int hv), .val (.int av), .val (.int gv), .val (.int bv), .val (.ref b53), .val (.ref b63), .val (.double pv), .second, .val (.double qv), .second, .val (.long lv), .second, .unset, .unset] [])) _
    refine XS.iload X86.here hx rfl (hb hby at_200) rfl ?_
    show Steps p.tables e below (T86.setTop (mkF m 202 #[.val (.int x1), .val (.int x2), .val (.int x3), .val (.int x4), .val (.int x5), .val (.int x6), .val (.ref b35), .val (.double (0 : UInt64)), .second, .val (.int hv), .val (.int av), .val (.int gv), .val (.int bv), .val (.ref b53), .val (.ref b63), .val (.double pv), .second, .val (.double qv), .second, .val (.long lv), .second, .unset, .unset] [(.int bv)])) _
    refine XS.i2l X86.here hx rfl (hb hby at_202) rfl ?_
    show Steps p.tables e below (T86.setTop (mkF m 203 #[.val (.int x1), .val (.int x2), .val (.int x3), .val (.int x4), .val (.int x5), .val (.int x6), .val (.ref b35), .val (.double (0 : UInt64)), .second, .val (.int hv), .val (.int av), .val (.int gv), .val (.int bv), .val (.ref b53), .val (.ref b63), .val (.double pv), .second, .val (.double qv), .second, .val (.long lv), .second, .unset, .unset] [(.long (bv.toInt64))])) _
    refine XS.iload X86.here hx rfl (hb hby at_203) rfl ?_
    show Steps p.tables e below (T86.setTop (mkF m 205 #[.val (.int x1), .val (.int x2), .val (.int x3), .val (.int x4), .val (.int x5), .val (.int x6), .val (.ref b35), .val (.double (0 : UInt64)), .second, .val (.int hv), .val (.int av), .val (.int gv), .val (.int bv), .val (.ref b53), .val (.ref b63), .val (.double pv), .second, .val (.double qv), .second, .val (.long lv), .second, .unset, .unset] [(.int hv), (.long (bv.toInt64))])) _
    refine XS.i2l X86.here hx rfl (hb hby at_205) rfl ?_
    show Steps p.tables e below (T86.setTop (mkF m 206 #[.val (.int x1), .val (.int x2), .val (.int x3), .val (.int x4), .val (.int x5), .val (.int x6), .val (.ref b35), .val (.double (0 : UInt64)), .second, .val (.int hv), .val (.int av), .val (.int gv), .val (.int bv), .val (.ref b53), .val (.ref b63), .val (.double pv), .second, .val (.double qv), .second, .val (.long lv), .second, .unset, .unset] [(.long (hv.toInt64)), (.long (bv.toInt64))])) _
    refine XS.lmul X86.here hx rfl (hb hby at_206) rfl ?_
    show Steps p.tables e below (T86.setTop (mkF m 207 #[.val (.int x1), .val (.int x2), .val (.int x3), .val (.int x4), .val (.int x5), .val (.int x6), .val (.ref b35), .val (.double (0 : UInt64)), .second, .val (.int hv), .val (.int av), .val (.int gv), .val (.int bv), .val (.ref b53), .val (.ref b63), .val (.double pv), .second, .val (.double qv), .second, .val (.long lv), .second, .unset, .unset] [(.long ((bv.toInt64) * (hv.toInt64)))])) _
    refine XS.lstore X86.here hx rfl (hb hby at_207) rfl (l' := #[.val (.int x1), .val (.int x2), .val (.int x3), .val (.int x4), .val (.int x5), .val (.int x6), .val (.ref b35), .val (.double (0 : UInt64)), .second, .val (.int hv), .val (.int av), .val (.int gv), .val (.int bv), .val (.ref b53), .val (.ref b63), .val (.double pv), .second, .val (.double qv), .second, .val (.long lv), .second, .val (.long ((bv.toInt64) * (hv.toInt64))), .second]) rfl ?_
    show Steps p.tables e below (T86.setTop (mkF m 209 #[.val (.int x1), .val (.int x2), .val (.int x3), .val (.int x4), .val (.int x5), .val (.int x6), .val (.ref b35), .val (.double (0 : UInt64)), .second, .val (.int hv), .val (.int av), .val (.int gv), .val (.int bv), .val (.ref b53), .val (.ref b63), .val (.double pv), .second, .val (.double qv), .second, .val (.long lv), .second, .val (.long ((bv.toInt64) * (hv.toInt64))), .second] [])) _
    rw [rn89]
    show Steps p.tables e below (T86.setTop (mkF m 209 #[.val (.int x1), .val (.int x2), .val (.int x3), .val (.int x4), .val (.int x5), .val (.int x6), .val (.ref b35), .val (.double (0 : UInt64)), .second, .val (.int hv), .val (.int av), .val (.int gv), .val (.int bv), .val (.ref b53), .val (.ref b63), .val (.double pv), .second, .val (.double qv), .second, .val (.long lv), .second, .val (.long rv), .second] [])) _
    refine XS.lload X86.here hx rfl (hb hby at_209) rfl ?_
    exact kt
  obtain ⟨T91, L91, X91, e91, N91, k91⟩ : ∃  (T91 : State) (L91 : List Loc), Stand p l e room_1 s m #[(.int x1), (.int x2), (.int x3), (.int x4), (.int x5), (.int x6)] below meth c T91 L91 6 21 ∧ T91.heap = T72.heap ∧ Fr n0 L91 ∧ ∀ t, Steps p.tables e below (T91.setTop (mkF m 271 #[.val (.int x1), .val (.int x2), .val (.int x3), .val (.int x4), .val (.int x5), .val (.int x6), .val (.ref b35), .val (.double (0 : UInt64)), .second, .val (.int hv), .val (.int av), .val (.int gv), .val (.int bv), .val (.ref b53), .val (.ref b63), .val (.double pv), .second, .val (.double qv), .second, .val (.long lv), .second, .val (.long rv), .second] [])) t → Steps p.tables e below (T86.setTop (mkF m 211 #[.val (.int x1), .val (.int x2), .val (.int x3), .val (.int x4), .val (.int x5), .val (.int x6), .val (.ref b35), .val (.double (0 : UInt64)), .second, .val (.int hv), .val (.int av), .val (.int gv), .val (.int bv), .val (.ref b53), .val (.ref b63), .val (.double pv), .second, .val (.double qv), .second, .val (.long lv), .second, .val (.long rv), .second] [(.long lv)])) t := by
    have pj91 : ∀ t, Steps p.tables e below (T86.setTop (mkF m 211 #[.val (.int x1), .val (.int x2), .val (.int x3), .val (.int x4), .val (.int x5), .val (.int x6), .val (.ref b35), .val (.double (0 : UInt64)), .second, .val (.int hv), .val (.int av), .val (.int gv), .val (.int bv), .val (.ref b53), .val (.ref b63), .val (.double pv), .second, .val (.double qv), .second, .val (.long lv), .second, .val (.long rv), .second] [(.long lv)])) t → Steps p.tables e below (T86.setTop (mkF m 211 #[.val (.int x1), .val (.int x2), .val (.int x3), .val (.int x4), .val (.int x5), .val (.int x6), .val (.ref b35), .val (.double (0 : UInt64)), .second, .val (.int hv), .val (.int av), .val (.int gv), .val (.int bv), .val (.ref b53), .val (.ref b63), .val (.double pv), .second, .val (.double qv), .second, .val (.long lv), .second, .val (.long rv), .second] [(.long lv)])) t := fun _ k => k
    have pre92 : ∀ t, Steps p.tables e below (T86.setTop (mkF m 214 #[.val (.int x1), .val (.int x2), .val (.int x3), .val (.int x4), .val (.int x5), .val (.int x6), .val (.ref b35), .val (.double (0 : UInt64)), .second, .val (.int hv), .val (.int av), .val (.int gv), .val (.int bv), .val (.ref b53), .val (.ref b63), .val (.double pv), .second, .val (.double qv), .second, .val (.long lv), .second, .val (.long rv), .second] [(.int (lcmpW lv rv))])) t → Steps p.tables e below (T86.setTop (mkF m 211 #[.val (.int x1), .val (.int x2), .val (.int x3), .val (.int x4), .val (.int x5), .val (.int x6), .val (.ref b35), .val (.double (0 : UInt64)), .second, .val (.int hv), .val (.int av), .val (.int gv), .val (.int bv), .val (.ref b53), .val (.ref b63), .val (.double pv), .second, .val (.double qv), .second, .val (.long lv), .second, .val (.long rv), .second] [(.long lv)])) t := by
      intro t kt
      refine pj91 t ?_
      show Steps p.tables e below (T86.setTop (mkF m 211 #[.val (.int x1), .val (.int x2), .val (.int x3), .val (.int x4), .val (.int x5), .val (.int x6), .val (.ref b35), .val (.double (0 : UInt64)), .second, .val (.int hv), .val (.int av), .val (.int gv), .val (.int bv), .val (.ref b53), .val (.ref b63), .val (.double pv), .second, .val (.double qv), .second, .val (.long lv), .second, .val (.long rv), .second] [(.long lv)])) _
      refine XS.lload X86.here hx rfl (hb hby at_211) rfl ?_
      show Steps p.tables e below (T86.setTop (mkF m 213 #[.val (.int x1), .val (.int x2), .val (.int x3), .val (.int x4), .val (.int x5), .val (.int x6), .val (.ref b35), .val (.double (0 : UInt64)), .second, .val (.int hv), .val (.int av), .val (.int gv), .val (.int bv), .val (.ref b53), .val (.ref b63), .val (.double pv), .second, .val (.double qv), .second, .val (.long lv), .second, .val (.long rv), .second] [(.long rv), (.long lv)])) _
      refine XS.lcmp X86.here hx rfl (hb hby at_213) rfl ?_
      exact kt
    by_cases hc214 : (lcmpW lv rv) < (0 : Int32)
    · skip
      have pre93 : ∀ t, Steps p.tables e below (T86.setTop (mkF m 271 #[.val (.int x1), .val (.int x2), .val (.int x3), .val (.int x4), .val (.int x5), .val (.int x6), .val (.ref b35), .val (.double (0 : UInt64)), .second, .val (.int hv), .val (.int av), .val (.int gv), .val (.int bv), .val (.ref b53), .val (.ref b63), .val (.double pv), .second, .val (.double qv), .second, .val (.long lv), .second, .val (.long rv), .second] [])) t → Steps p.tables e below (T86.setTop (mkF m 211 #[.val (.int x1), .val (.int x2), .val (.int x3), .val (.int x4), .val (.int x5), .val (.int x6), .val (.ref b35), .val (.double (0 : UInt64)), .second, .val (.int hv), .val (.int av), .val (.int gv), .val (.int bv), .val (.ref b53), .val (.ref b63), .val (.double pv), .second, .val (.double qv), .second, .val (.long lv), .second, .val (.long rv), .second] [(.long lv)])) t := by
        intro t kt
        refine pre92 t ?_
        show Steps p.tables e below (T86.setTop (mkF m 214 #[.val (.int x1), .val (.int x2), .val (.int x3), .val (.int x4), .val (.int x5), .val (.int x6), .val (.ref b35), .val (.double (0 : UInt64)), .second, .val (.int hv), .val (.int av), .val (.int gv), .val (.int bv), .val (.ref b53), .val (.ref b63), .val (.double pv), .second, .val (.double qv), .second, .val (.long lv), .second, .val (.long rv), .second] [(.int (lcmpW lv rv))])) _
        refine XS.ifNo X86.here hx rfl (hb hby at_214) rfl ((if0 _ _).trans (tlt hc214).2.1) ?_
        show Steps p.tables e below (T86.setTop (mkF m 217 #[.val (.int x1), .val (.int x2), .val (.int x3), .val (.int x4), .val (.int x5), .val (.int x6), .val (.ref b35), .val (.double (0 : UInt64)), .second, .val (.int hv), .val (.int av), .val (.int gv), .val (.int bv), .val (.ref b53), .val (.ref b63), .val (.double pv), .second, .val (.double qv), .second, .val (.long lv), .second, .val (.long rv), .second] [])) _
        refine XS.iconst X86.here hx rfl (hb hby at_217) ?_
        show Steps p.tables e below (T86.setTop (mkF m 218 #[.val (.int x1), .val (.int x2), .val (.int x3), .val (.int x4), .val (.int x5), .val (.int x6), .val (.ref b35), .val (.double (0 : UInt64)), .second, .val (.int hv), .val (.int av), .val (.int gv), .val (.int bv), .val (.ref b53), .val (.ref b63), .val (.double pv), .second, .val (.double qv), .second, .val (.long lv), .second, .val (.long rv), .second] [(.int (1 : Int32))])) _
        refine XS.goto X86.here hx rfl (pc0 := 218) (pc' := 222) rfl (hb hby at_218) (by decide) (by decide) ?_
        show Steps p.tables e below (T86.setTop (mkF m 222 #[.val (.int x1), .val (.int x2), .val (.int x3), .val (.int x4), .val (.int x5), .val (.int x6), .val (.ref b35), .val (.double (0 : UInt64)), .second, .val (.int hv), .val (.int av), .val (.int gv), .val (.int bv), .val (.ref b53), .val (.ref b63), .val (.double pv), .second, .val (.double qv), .second, .val (.long lv), .second, .val (.long rv), .second] [(.int (1 : Int32))])) _
        refine XS.dload X86.here hx rfl (hb hby at_222) rfl ?_
        show Steps p.tables e below (T86.setTop (mkF m 224 #[.val (.int x1), .val (.int x2), .val (.int x3), .val (.int x4), .val (.int x5), .val (.int x6), .val (.ref b35), .val (.double (0 : UInt64)), .second, .val (.int hv), .val (.int av), .val (.int gv), .val (.int bv), .val (.ref b53), .val (.ref b63), .val (.double pv), .second, .val (.double qv), .second, .val (.long lv), .second, .val (.long rv), .second] [(.double pv), (.int (1 : Int32))])) _
        refine XS.dload X86.here hx rfl (hb hby at_224) rfl ?_
        show Steps p.tables e below (T86.setTop (mkF m 226 #[.val (.int x1), .val (.int x2), .val (.int x3), .val (.int x4), .val (.int x5), .val (.int x6), .val (.ref b35), .val (.double (0 : UInt64)), .second, .val (.int hv), .val (.int av), .val (.int gv), .val (.int bv), .val (.ref b53), .val (.ref b63), .val (.double pv), .second, .val (.double qv), .second, .val (.long lv), .second, .val (.long rv), .second] [(.double qv), (.double pv), (.int (1 : Int32))])) _
        refine XS.dcmpS X86.here hx rfl (hb hby at_226) rfl rfl ?_
        show Steps p.tables e below (T86.setTop (mkF m 227 #[.val (.int x1), .val (.int x2), .val (.int x3), .val (.int x4), .val (.int x5), .val (.int x6), .val (.ref b35), .val (.double (0 : UInt64)), .second, .val (.int hv), .val (.int av), .val (.int gv), .val (.int bv), .val (.ref b53), .val (.ref b63), .val (.double pv), .second, .val (.double qv), .second, .val (.long lv), .second, .val (.long rv), .second] [(.int (cmpValue (FP.dcmp pv qv) .g)), (.int (1 : Int32))])) _
        refine XS.ifNo X86.here hx rfl (hb hby at_227) rfl ((if0 _ _).trans (tlt (own_vlt (OwnFl.own_cmp_lt vp vq (by omega) (by omega) (by omega) (by omega) (by omega) ((own_llt elv erv).mp hc214)) .g)).2.1) ?_
        show Steps p.tables e below (T86.setTop (mkF m 230 #[.val (.int x1), .val (.int x2), .val (.int x3), .val (.int x4), .val (.int x5), .val (.int x6), .val (.ref b35), .val (.double (0 : UInt64)), .second, .val (.int hv), .val (.int av), .val (.int gv), .val (.int bv), .val (.ref b53), .val (.ref b63), .val (.double pv), .second, .val (.double qv), .second, .val (.long lv), .second, .val (.long rv), .second] [(.int (1 : Int32))])) _
        refine XS.iconst X86.here hx rfl (hb hby at_230) ?_
        show Steps p.tables e below (T86.setTop (mkF m 231 #[.val (.int x1), .val (.int x2), .val (.int x3), .val (.int x4), .val (.int x5), .val (.int x6), .val (.ref b35), .val (.double (0 : UInt64)), .second, .val (.int hv), .val (.int av), .val (.int gv), .val (.int bv), .val (.ref b53), .val (.ref b63), .val (.double pv), .second, .val (.double qv), .second, .val (.long lv), .second, .val (.long rv), .second] [(.int (1 : Int32)), (.int (1 : Int32))])) _
        refine XS.goto X86.here hx rfl (pc0 := 231) (pc' := 235) rfl (hb hby at_231) (by decide) (by decide) ?_
        show Steps p.tables e below (T86.setTop (mkF m 235 #[.val (.int x1), .val (.int x2), .val (.int x3), .val (.int x4), .val (.int x5), .val (.int x6), .val (.ref b35), .val (.double (0 : UInt64)), .second, .val (.int hv), .val (.int av), .val (.int gv), .val (.int bv), .val (.ref b53), .val (.ref b63), .val (.double pv), .second, .val (.double qv), .second, .val (.long lv), .second, .val (.long rv), .second] [(.int (1 : Int32)), (.int (1 : Int32))])) _
        refine XS.icmpYes X86.here hx rfl (pc0 := 235) (pc' := 240) rfl (hb hby at_235) rfl (teq (by decide : (1 : Int32) = (1 : Int32))).1 (by decide) (by decide) ?_
        show Steps p.tables e below (T86.setTop (mkF m 240 #[.val (.int x1), .val (.int x2), .val (.int x3), .val (.int x4), .val (.int x5), .val (.int x6), .val (.ref b35), .val (.double (0 : UInt64)), .second, .val (.int hv), .val (.int av), .val (.int gv), .val (.int bv), .val (.ref b53), .val (.ref b63), .val (.double pv), .second, .val (.double qv), .second, .val (.long lv), .second, .val (.long rv), .second] [])) _
        refine XS.lload X86.here hx rfl (hb hby at_240) rfl ?_
        show Steps p.tables e below (T86.setTop (mkF m 242 #[.val (.int x1), .val (.int x2), .val (.int x3), .val (.int x4), .val (.int x5), .val (.int x6), .val (.ref b35), .val (.double (0 : UInt64)), .second, .val (.int hv), .val (.int av), .val (.int gv), .val (.int bv), .val (.ref b53), .val (.ref b63), .val (.double pv), .second, .val (.double qv), .second, .val (.long lv), .second, .val (.long rv), .second] [(.long lv)])) _
        refine XS.lload X86.here hx rfl (hb hby at_242) rfl ?_
        show Steps p.tables e below (T86.setTop (mkF m 244 #[.val (.int x1), .val (.int x2), .val (.int x3), .val (.int x4), .val (.int x5), .val (.int x6), .val (.ref b35), .val (.double (0 : UInt64)), .second, .val (.int hv), .val (.int av), .val (.int gv), .val (.int bv), .val (.ref b53), .val (.ref b63), .val (.double pv), .second, .val (.double qv), .second, .val (.long lv), .second, .val (.long rv), .second] [(.long rv), (.long lv)])) _
        refine XS.lcmp X86.here hx rfl (hb hby at_244) rfl ?_
        show Steps p.tables e below (T86.setTop (mkF m 245 #[.val (.int x1), .val (.int x2), .val (.int x3), .val (.int x4), .val (.int x5), .val (.int x6), .val (.ref b35), .val (.double (0 : UInt64)), .second, .val (.int hv), .val (.int av), .val (.int gv), .val (.int bv), .val (.ref b53), .val (.ref b63), .val (.double pv), .second, .val (.double qv), .second, .val (.long lv), .second, .val (.long rv), .second] [(.int (lcmpW lv rv))])) _
        refine XS.ifYes X86.here hx rfl (pc0 := 245) (pc' := 252) rfl (hb hby at_245) rfl ((if0 _ _).trans (feq (fun q => Nat.ne_of_lt ((own_llt elv erv).mp hc214) ((own_leq elv erv).mp q))).2) (by decide) (by decide) ?_
        show Steps p.tables e below (T86.setTop (mkF m 252 #[.val (.int x1), .val (.int x2), .val (.int x3), .val (.int x4), .val (.int x5), .val (.int x6), .val (.ref b35), .val (.double (0 : UInt64)), .second, .val (.int hv), .val (.int av), .val (.int gv), .val (.int bv), .val (.ref b53), .val (.ref b63), .val (.double pv), .second, .val (.double qv), .second, .val (.long lv), .second, .val (.long rv), .second] [])) _
        refine XS.iconst X86.here hx rfl (hb hby at_252) ?_
        show Steps p.tables e below (T86.setTop (mkF m 253 #[.val (.int x1), .val (.int x2), .val (.int x3), .val (.int x4), .val (.int x5), .val (.int x6), .val (.ref b35), .val (.double (0 : UInt64)), .second, .val (.int hv), .val (.int av), .val (.int gv), .val (.int bv), .val (.ref b53), .val (.ref b63), .val (.double pv), .second, .val (.double qv), .second, .val (.long lv), .second, .val (.long rv), .second] [(.int (0 : Int32))])) _
        refine XS.dload X86.here hx rfl (hb hby at_253) rfl ?_
        show Steps p.tables e below (T86.setTop (mkF m 255 #[.val (.int x1), .val (.int x2), .val (.int x3), .val (.int x4), .val (.int x5), .val (.int x6), .val (.ref b35), .val (.double (0 : UInt64)), .second, .val (.int hv), .val (.int av), .val (.int gv), .val (.int bv), .val (.ref b53), .val (.ref b63), .val (.double pv), .second, .val (.double qv), .second, .val (.long lv), .second, .val (.long rv), .second] [(.double pv), (.int (0 : Int32))])) _
        refine XS.dload X86.here hx rfl (hb hby at_255) rfl ?_
        show Steps p.tables e below (T86.setTop (mkF m 257 #[.val (.int x1), .val (.int x2), .val (.int x3), .val (.int x4), .val (.int x5), .val (.int x6), .val (.ref b35), .val (.double (0 : UInt64)), .second, .val (.int hv), .val (.int av), .val (.int gv), .val (.int bv), .val (.ref b53), .val (.ref b63), .val (.double pv), .second, .val (.double qv), .second, .val (.long lv), .second, .val (.long rv), .second] [(.double qv), (.double pv), (.int (0 : Int32))])) _
        refine XS.dcmpS X86.here hx rfl (hb hby at_257) rfl rfl ?_
        show Steps p.tables e below (T86.setTop (mkF m 258 #[.val (.int x1), .val (.int x2), .val (.int x3), .val (.int x4), .val (.int x5), .val (.int x6), .val (.ref b35), .val (.double (0 : UInt64)), .second, .val (.int hv), .val (.int av), .val (.int gv), .val (.int bv), .val (.ref b53), .val (.ref b63), .val (.double pv), .second, .val (.double qv), .second, .val (.long lv), .second, .val (.long rv), .second] [(.int (cmpValue (FP.dcmp pv qv) .l)), (.int (0 : Int32))])) _
        refine XS.ifYes X86.here hx rfl (pc0 := 258) (pc' := 265) rfl (hb hby at_258) rfl ((if0 _ _).trans (feq (own_vneq (Or.inl (OwnFl.own_cmp_lt vp vq (by omega) (by omega) (by omega) (by omega) (by omega) ((own_llt elv erv).mp hc214))) .l)).2) (by decide) (by decide) ?_
        show Steps p.tables e below (T86.setTop (mkF m 265 #[.val (.int x1), .val (.int x2), .val (.int x3), .val (.int x4), .val (.int x5), .val (.int x6), .val (.ref b35), .val (.double (0 : UInt64)), .second, .val (.int hv), .val (.int av), .val (.int gv), .val (.int bv), .val (.ref b53), .val (.ref b63), .val (.double pv), .second, .val (.double qv), .second, .val (.long lv), .second, .val (.long rv), .second] [(.int (0 : Int32))])) _
        refine XS.iconst X86.here hx rfl (hb hby at_265) ?_
        show Steps p.tables e below (T86.setTop (mkF m 266 #[.val (.int x1), .val (.int x2), .val (.int x3), .val (.int x4), .val (.int x5), .val (.int x6), .val (.ref b35), .val (.double (0 : UInt64)), .second, .val (.int hv), .val (.int av), .val (.int gv), .val (.int bv), .val (.ref b53), .val (.ref b63), .val (.double pv), .second, .val (.double qv), .second, .val (.long lv), .second, .val (.long rv), .second] [(.int (0 : Int32)), (.int (0 : Int32))])) _
        refine XS.icmpYes X86.here hx rfl (pc0 := 266) (pc' := 271) rfl (hb hby at_266) rfl (teq (by decide : (0 : Int32) = (0 : Int32))).1 (by decide) (by decide) ?_
        exact kt
      exact ⟨T86, _, X86, eh86, N86, pre93⟩
    · skip
      have pre94 : ∀ t, Steps p.tables e below (T86.setTop (mkF m 245 #[.val (.int x1), .val (.int x2), .val (.int x3), .val (.int x4), .val (.int x5), .val (.int x6), .val (.ref b35), .val (.double (0 : UInt64)), .second, .val (.int hv), .val (.int av), .val (.int gv), .val (.int bv), .val (.ref b53), .val (.ref b63), .val (.double pv), .second, .val (.double qv), .second, .val (.long lv), .second, .val (.long rv), .second] [(.int (lcmpW lv rv))])) t → Steps p.tables e below (T86.setTop (mkF m 211 #[.val (.int x1), .val (.int x2), .val (.int x3), .val (.int x4), .val (.int x5), .val (.int x6), .val (.ref b35), .val (.double (0 : UInt64)), .second, .val (.int hv), .val (.int av), .val (.int gv), .val (.int bv), .val (.ref b53), .val (.ref b63), .val (.double pv), .second, .val (.double qv), .second, .val (.long lv), .second, .val (.long rv), .second] [(.long lv)])) t := by
        intro t kt
        refine pre92 t ?_
        show Steps p.tables e below (T86.setTop (mkF m 214 #[.val (.int x1), .val (.int x2), .val (.int x3), .val (.int x4), .val (.int x5), .val (.int x6), .val (.ref b35), .val (.double (0 : UInt64)), .second, .val (.int hv), .val (.int av), .val (.int gv), .val (.int bv), .val (.ref b53), .val (.ref b63), .val (.double pv), .second, .val (.double qv), .second, .val (.long lv), .second, .val (.long rv), .second] [(.int (lcmpW lv rv))])) _
        refine XS.ifYes X86.here hx rfl (pc0 := 214) (pc' := 221) rfl (hb hby at_214) rfl ((if0 _ _).trans (flt hc214).2.1) (by decide) (by decide) ?_
        show Steps p.tables e below (T86.setTop (mkF m 221 #[.val (.int x1), .val (.int x2), .val (.int x3), .val (.int x4), .val (.int x5), .val (.int x6), .val (.ref b35), .val (.double (0 : UInt64)), .second, .val (.int hv), .val (.int av), .val (.int gv), .val (.int bv), .val (.ref b53), .val (.ref b63), .val (.double pv), .second, .val (.double qv), .second, .val (.long lv), .second, .val (.long rv), .second] [])) _
        refine XS.iconst X86.here hx rfl (hb hby at_221) ?_
        show Steps p.tables e below (T86.setTop (mkF m 222 #[.val (.int x1), .val (.int x2), .val (.int x3), .val (.int x4), .val (.int x5), .val (.int x6), .val (.ref b35), .val (.double (0 : UInt64)), .second, .val (.int hv), .val (.int av), .val (.int gv), .val (.int bv), .val (.ref b53), .val (.ref b63), .val (.double pv), .second, .val (.double qv), .second, .val (.long lv), .second, .val (.long rv), .second] [(.int (0 : Int32))])) _
        refine XS.dload X86.here hx rfl (hb hby at_222) rfl ?_
        show Steps p.tables e below (T86.setTop (mkF m 224 #[.val (.int x1), .val (.int x2), .val (.int x3), .val (.int x4), .val (.int x5), .val (.int x6), .val (.ref b35), .val (.double (0 : UInt64)), .second, .val (.int hv), .val (.int av), .val (.int gv), .val (.int bv), .val (.ref b53), .val (.ref b63), .val (.double pv), .second, .val (.double qv), .second, .val (.long lv), .second, .val (.long rv), .second] [(.double pv), (.int (0 : Int32))])) _
        refine XS.dload X86.here hx rfl (hb hby at_224) rfl ?_
        show Steps p.tables e below (T86.setTop (mkF m 226 #[.val (.int x1), .val (.int x2), .val (.int x3), .val (.int x4), .val (.int x5), .val (.int x6), .val (.ref b35), .val (.double (0 : UInt64)), .second, .val (.int hv), .val (.int av), .val (.int gv), .val (.int bv), .val (.ref b53), .val (.ref b63), .val (.double pv), .second, .val (.double qv), .second, .val (.long lv), .second, .val (.long rv), .second] [(.double qv), (.double pv), (.int (0 : Int32))])) _
        refine XS.dcmpS X86.here hx rfl (hb hby at_226) rfl rfl ?_
        show Steps p.tables e below (T86.setTop (mkF m 227 #[.val (.int x1), .val (.int x2), .val (.int x3), .val (.int x4), .val (.int x5), .val (.int x6), .val (.ref b35), .val (.double (0 : UInt64)), .second, .val (.int hv), .val (.int av), .val (.int gv), .val (.int bv), .val (.ref b53), .val (.ref b63), .val (.double pv), .second, .val (.double qv), .second, .val (.long lv), .second, .val (.long rv), .second] [(.int (cmpValue (FP.dcmp pv qv) .g)), (.int (0 : Int32))])) _
        refine XS.ifYes X86.here hx rfl (pc0 := 227) (pc' := 234) rfl (hb hby at_227) rfl ((if0 _ _).trans (flt (own_vnlt ((own_not_lt (fun q => hc214 ((own_llt elv erv).mpr q))).imp (fun q => (OwnFl.own_cmp_eq vp vq (by omega) (by omega) q)) (fun q => (OwnFl.own_cmp_gt vp vq (by omega) (by omega) (by omega) (by omega) (by omega) q))) .g)).2.1) (by decide) (by decide) ?_
        show Steps p.tables e below (T86.setTop (mkF m 234 #[.val (.int x1), .val (.int x2), .val (.int x3), .val (.int x4), .val (.int x5), .val (.int x6), .val (.ref b35), .val (.double (0 : UInt64)), .second, .val (.int hv), .val (.int av), .val (.int gv), .val (.int bv), .val (.ref b53), .val (.ref b63), .val (.double pv), .second, .val (.double qv), .second, .val (.long lv), .second, .val (.long rv), .second] [(.int (0 : Int32))])) _
        refine XS.iconst X86.here hx rfl (hb hby at_234) ?_
        show Steps p.tables e below (T86.setTop (mkF m 235 #[.val (.int x1), .val (.int x2), .val (.int x3), .val (.int x4), .val (.int x5), .val (.int x6), .val (.ref b35), .val (.double (0 : UInt64)), .second, .val (.int hv), .val (.int av), .val (.int gv), .val (.int bv), .val (.ref b53), .val (.ref b63), .val (.double pv), .second, .val (.double qv), .second, .val (.long lv), .second, .val (.long rv), .second] [(.int (0 : Int32)), (.int (0 : Int32))])) _
        refine XS.icmpYes X86.here hx rfl (pc0 := 235) (pc' := 240) rfl (hb hby at_235) rfl (teq (by decide : (0 : Int32) = (0 : Int32))).1 (by decide) (by decide) ?_
        show Steps p.tables e below (T86.setTop (mkF m 240 #[.val (.int x1), .val (.int x2), .val (.int x3), .val (.int x4), .val (.int x5), .val (.int x6), .val (.ref b35), .val (.double (0 : UInt64)), .second, .val (.int hv), .val (.int av), .val (.int gv), .val (.int bv), .val (.ref b53), .val (.ref b63), .val (.double pv), .second, .val (.double qv), .second, .val (.long lv), .second, .val (.long rv), .second] [])) _
        refine XS.lload X86.here hx rfl (hb hby at_240) rfl ?_
        show Steps p.tables e below (T86.setTop (mkF m 242 #[.val (.int x1), .val (.int x2), .val (.int x3), .val (.int x4), .val (.int x5), .val (.int x6), .val (.ref b35), .val (.double (0 : UInt64)), .second, .val (.int hv), .val (.int av), .val (.int gv), .val (.int bv), .val (.ref b53), .val (.ref b63), .val (.double pv), .second, .val (.double qv), .second, .val (.long lv), .second, .val (.long rv), .second] [(.long lv)])) _
        refine XS.lload X86.here hx rfl (hb hby at_242) rfl ?_
        show Steps p.tables e below (T86.setTop (mkF m 244 #[.val (.int x1), .val (.int x2), .val (.int x3), .val (.int x4), .val (.int x5), .val (.int x6), .val (.ref b35), .val (.double (0 : UInt64)), .second, .val (.int hv), .val (.int av), .val (.int gv), .val (.int bv), .val (.ref b53), .val (.ref b63), .val (.double pv), .second, .val (.double qv), .second, .val (.long lv), .second, .val (.long rv), .second] [(.long rv), (.long lv)])) _
        refine XS.lcmp X86.here hx rfl (hb hby at_244) rfl ?_
        exact kt
      by_cases hc245 : (lcmpW lv rv) = (0 : Int32)
      · skip
        have pre95 : ∀ t, Steps p.tables e below (T86.setTop (mkF m 271 #[.val (.int x1), .val (.int x2), .val (.int x3), .val (.int x4), .val (.int x5), .val (.int x6), .val (.ref b35), .val (.double (0 : UInt64)), .second, .val (.int hv), .val (.int av), .val (.int gv), .val (.int bv), .val (.ref b53), .val (.ref b63), .val (.double pv), .second, .val (.double qv), .second, .val (.long lv), .second, .val (.long rv), .second] [])) t → Steps p.tables e below (T86.setTop (mkF m 211 #[.val (.int x1), .val (.int x2), .val (.int x3), .val (.int x4), .val (.int x5), .val (.int x6), .val (.ref b35), .val (.double (0 : UInt64)), .second, .val (.int hv), .val (.int av), .val (.int gv), .val (.int bv), .val (.ref b53), .val (.ref b63), .val (.double pv), .second, .val (.double qv), .second, .val (.long lv), .second, .val (.long rv), .second] [(.long lv)])) t := by
          intro t kt
          refine pre94 t ?_
          show Steps p.tables e below (T86.setTop (mkF m 245 #[.val (.int x1), .val (.int x2), .val (.int x3), .val (.int x4), .val (.int x5), .val (.int x6), .val (.ref b35), .val (.double (0 : UInt64)), .second, .val (.int hv), .val (.int av), .val (.int gv), .val (.int bv), .val (.ref b53), .val (.ref b63), .val (.double pv), .second, .val (.double qv), .second, .val (.long lv), .second, .val (.long rv), .second] [(.int (lcmpW lv rv))])) _
          refine XS.ifNo X86.here hx rfl (hb hby at_245) rfl ((if0 _ _).trans (teq hc245).2) ?_
          show Steps p.tables e below (T86.setTop (mkF m 248 #[.val (.int x1), .val (.int x2), .val (.int x3), .val (.int x4), .val (.int x5), .val (.int x6), .val (.ref b35), .val (.double (0 : UInt64)), .second, .val (.int hv), .val (.int av), .val (.int gv), .val (.int bv), .val (.ref b53), .val (.ref b63), .val (.double pv), .second, .val (.double qv), .second, .val (.long lv), .second, .val (.long rv), .second] [])) _
          refine XS.iconst X86.here hx rfl (hb hby at_248) ?_
          show Steps p.tables e below (T86.setTop (mkF m 249 #[.val (.int x1), .val (.int x2), .val (.int x3), .val (.int x4), .val (.int x5), .val (.int x6), .val (.ref b35), .val (.double (0 : UInt64)), .second, .val (.int hv), .val (.int av), .val (.int gv), .val (.int bv), .val (.ref b53), .val (.ref b63), .val (.double pv), .second, .val (.double qv), .second, .val (.long lv), .second, .val (.long rv), .second] [(.int (1 : Int32))])) _
          refine XS.goto X86.here hx rfl (pc0 := 249) (pc' := 253) rfl (hb hby at_249) (by decide) (by decide) ?_
          show Steps p.tables e below (T86.setTop (mkF m 253 #[.val (.int x1), .val (.int x2), .val (.int x3), .val (.int x4), .val (.int x5), .val (.int x6), .val (.ref b35), .val (.double (0 : UInt64)), .second, .val (.int hv), .val (.int av), .val (.int gv), .val (.int bv), .val (.ref b53), .val (.ref b63), .val (.double pv), .second, .val (.double qv), .second, .val (.long lv), .second, .val (.long rv), .second] [(.int (1 : Int32))])) _
          refine XS.dload X86.here hx rfl (hb hby at_253) rfl ?_
          show Steps p.tables e below (T86.setTop (mkF m 255 #[.val (.int x1), .val (.int x2), .val (.int x3), .val (.int x4), .val (.int x5), .val (.int x6), .val (.ref b35), .val (.double (0 : UInt64)), .second, .val (.int hv), .val (.int av), .val (.int gv), .val (.int bv), .val (.ref b53), .val (.ref b63), .val (.double pv), .second, .val (.double qv), .second, .val (.long lv), .second, .val (.long rv), .second] [(.double pv), (.int (1 : Int32))])) _
          refine XS.dload X86.here hx rfl (hb hby at_255) rfl ?_
          show Steps p.tables e below (T86.setTop (mkF m 257 #[.val (.int x1), .val (.int x2), .val (.int x3), .val (.int x4), .val (.int x5), .val (.int x6), .val (.ref b35), .val (.double (0 : UInt64)), .second, .val (.int hv), .val (.int av), .val (.int gv), .val (.int bv), .val (.ref b53), .val (.ref b63), .val (.double pv), .second, .val (.double qv), .second, .val (.long lv), .second, .val (.long rv), .second] [(.double qv), (.double pv), (.int (1 : Int32))])) _
          refine XS.dcmpS X86.here hx rfl (hb hby at_257) rfl rfl ?_
          show Steps p.tables e below (T86.setTop (mkF m 258 #[.val (.int x1), .val (.int x2), .val (.int x3), .val (.int x4), .val (.int x5), .val (.int x6), .val (.ref b35), .val (.double (0 : UInt64)), .second, .val (.int hv), .val (.int av), .val (.int gv), .val (.int bv), .val (.ref b53), .val (.ref b63), .val (.double pv), .second, .val (.double qv), .second, .val (.long lv), .second, .val (.long rv), .second] [(.int (cmpValue (FP.dcmp pv qv) .l)), (.int (1 : Int32))])) _
          refine XS.ifNo X86.here hx rfl (hb hby at_258) rfl ((if0 _ _).trans (teq (own_veq (OwnFl.own_cmp_eq vp vq (by omega) (by omega) ((own_leq elv erv).mp hc245)) .l)).2) ?_
          show Steps p.tables e below (T86.setTop (mkF m 261 #[.val (.int x1), .val (.int x2), .val (.int x3), .val (.int x4), .val (.int x5), .val (.int x6), .val (.ref b35), .val (.double (0 : UInt64)), .second, .val (.int hv), .val (.int av), .val (.int gv), .val (.int bv), .val (.ref b53), .val (.ref b63), .val (.double pv), .second, .val (.double qv), .second, .val (.long lv), .second, .val (.long rv), .second] [(.int (1 : Int32))])) _
          refine XS.iconst X86.here hx rfl (hb hby at_261) ?_
          show Steps p.tables e below (T86.setTop (mkF m 262 #[.val (.int x1), .val (.int x2), .val (.int x3), .val (.int x4), .val (.int x5), .val (.int x6), .val (.ref b35), .val (.double (0 : UInt64)), .second, .val (.int hv), .val (.int av), .val (.int gv), .val (.int bv), .val (.ref b53), .val (.ref b63), .val (.double pv), .second, .val (.double qv), .second, .val (.long lv), .second, .val (.long rv), .second] [(.int (1 : Int32)), (.int (1 : Int32))])) _
          refine XS.goto X86.here hx rfl (pc0 := 262) (pc' := 266) rfl (hb hby at_262) (by decide) (by decide) ?_
          show Steps p.tables e below (T86.setTop (mkF m 266 #[.val (.int x1), .val (.int x2), .val (.int x3), .val (.int x4), .val (.int x5), .val (.int x6), .val (.ref b35), .val (.double (0 : UInt64)), .second, .val (.int hv), .val (.int av), .val (.int gv), .val (.int bv), .val (.ref b53), .val (.ref b63), .val (.double pv), .second, .val (.double qv), .second, .val (.long lv), .second, .val (.long rv), .second] [(.int (1 : Int32)), (.int (1 : Int32))])) _
          refine XS.icmpYes X86.here hx rfl (pc0 := 266) (pc' := 271) rfl (hb hby at_266) rfl (teq (by decide : (1 : Int32) = (1 : Int32))).1 (by decide) (by decide) ?_
          exact kt
        exact ⟨T86, _, X86, eh86, N86, pre95⟩
      · skip
        have pre96 : ∀ t, Steps p.tables e below (T86.setTop (mkF m 271 #[.val (.int x1), .val (.int x2), .val (.int x3), .val (.int x4), .val (.int x5), .val (.int x6), .val (.ref b35), .val (.double (0 : UInt64)), .second, .val (.int hv), .val (.int av), .val (.int gv), .val (.int bv), .val (.ref b53), .val (.ref b63), .val (.double pv), .second, .val (.double qv), .second, .val (.long lv), .second, .val (.long rv), .second] [])) t → Steps p.tables e below (T86.setTop (mkF m 211 #[.val (.int x1), .val (.int x2), .val (.int x3), .val (.int x4), .val (.int x5), .val (.int x6), .val (.ref b35), .val (.double (0 : UInt64)), .second, .val (.int hv), .val (.int av), .val (.int gv), .val (.int bv), .val (.ref b53), .val (.ref b63), .val (.double pv), .second, .val (.double qv), .second, .val (.long lv), .second, .val (.long rv), .second] [(.long lv)])) t := by
          intro t kt
          refine pre94 t ?_
          show Steps p.tables e below (T86.setTop (mkF m 245 #[.val (.int x1), .val (.int x2), .val (.int x3), .val (.int x4), .val (.int x5), .val (.int x6), .val (.ref b35), .val (.double (0 : UInt64)), .second, .val (.int hv), .val (.int av), .val (.int gv), .val (.int bv), .val (.ref b53), .val (.ref b63), .val (.double pv), .second, .val (.double qv), .second, .val (.long lv), .second, .val (.long rv), .second] [(.int (lcmpW lv rv))])) _
          refine XS.ifYes X86.here hx rfl (pc0 := 245) (pc' := 252) rfl (hb hby at_245) rfl ((if0 _ _).trans (feq hc245).2) (by decide) (by decide) ?_
          show Steps p.tables e below (T86.setTop (mkF m 252 #[.val (.int x1), .val (.int x2), .val (.int x3), .val (.int x4), .val (.int x5), .val (.int x6), .val (.ref b35), .val (.double (0 : UInt64)), .second, .val (.int hv), .val (.int av), .val (.int gv), .val (.int bv), .val (.ref b53), .val (.ref b63), .val (.double pv), .second, .val (.double qv), .second, .val (.long lv), .second, .val (.long rv), .second] [])) _
          refine XS.iconst X86.here hx rfl (hb hby at_252) ?_
          show Steps p.tables e below (T86.setTop (mkF m 253 #[.val (.int x1), .val (.int x2), .val (.int x3), .val (.int x4), .val (.int x5), .val (.int x6), .val (.ref b35), .val (.double (0 : UInt64)), .second, .val (.int hv), .val (.int av), .val (.int gv), .val (.int bv), .val (.ref b53), .val (.ref b63), .val (.double pv), .second, .val (.double qv), .second, .val (.long lv), .second, .val (.long rv), .second] [(.int (0 : Int32))])) _
          refine XS.dload X86.here hx rfl (hb hby at_253) rfl ?_
          show Steps p.tables e below (T86.setTop (mkF m 255 #[.val (.int x1), .val (.int x2), .val (.int x3), .val (.int x4), .val (.int x5), .val (.int x6), .val (.ref b35), .val (.double (0 : UInt64)), .second, .val (.int hv), .val (.int av), .val (.int gv), .val (.int bv), .val (.ref b53), .val (.ref b63), .val (.double pv), .second, .val (.double qv), .second, .val (.long lv), .second, .val (.long rv), .second] [(.double pv), (.int (0 : Int32))])) _
          refine XS.dload X86.here hx rfl (hb hby at_255) rfl ?_
          show Steps p.tables e below (T86.setTop (mkF m 257 #[.val (.int x1), .val (.int x2), .val (.int x3), .val (.int x4), .val (.int x5), .val (.int x6), .val (.ref b35), .val (.double (0 : UInt64)), .second, .val (.int hv), .val (.int av), .val (.int gv), .val (.int bv), .val (.ref b53), .val (.ref b63), .val (.double pv), .second, .val (.double qv), .second, .val (.long lv), .second, .val (.long rv), .second] [(.double qv), (.double pv), (.int (0 : Int32))])) _
          refine XS.dcmpS X86.here hx rfl (hb hby at_257) rfl rfl ?_
          show Steps p.tables e below (T86.setTop (mkF m 258 #[.val (.int x1), .val (.int x2), .val (.int x3), .val (.int x4), .val (.int x5), .val (.int x6), .val (.ref b35), .val (.double (0 : UInt64)), .second, .val (.int hv), .val (.int av), .val (.int gv), .val (.int bv), .val (.ref b53), .val (.ref b63), .val (.double pv), .second, .val (.double qv), .second, .val (.long lv), .second, .val (.long rv), .second] [(.int (cmpValue (FP.dcmp pv qv) .l)), (.int (0 : Int32))])) _
          refine XS.ifYes X86.here hx rfl (pc0 := 258) (pc' := 265) rfl (hb hby at_258) rfl ((if0 _ _).trans (feq (own_vneq (Or.inr (OwnFl.own_cmp_gt vp vq (by omega) (by omega) (by omega) (by omega) (by omega) ((own_not_lt (fun q => hc214 ((own_llt elv erv).mpr q))).resolve_left (fun q => hc245 ((own_leq elv erv).mpr q))))) .l)).2) (by decide) (by decide) ?_
          show Steps p.tables e below (T86.setTop (mkF m 265 #[.val (.int x1), .val (.int x2), .val (.int x3), .val (.int x4), .val (.int x5), .val (.int x6), .val (.ref b35), .val (.double (0 : UInt64)), .second, .val (.int hv), .val (.int av), .val (.int gv), .val (.int bv), .val (.ref b53), .val (.ref b63), .val (.double pv), .second, .val (.double qv), .second, .val (.long lv), .second, .val (.long rv), .second] [(.int (0 : Int32))])) _
          refine XS.iconst X86.here hx rfl (hb hby at_265) ?_
          show Steps p.tables e below (T86.setTop (mkF m 266 #[.val (.int x1), .val (.int x2), .val (.int x3), .val (.int x4), .val (.int x5), .val (.int x6), .val (.ref b35), .val (.double (0 : UInt64)), .second, .val (.int hv), .val (.int av), .val (.int gv), .val (.int bv), .val (.ref b53), .val (.ref b63), .val (.double pv), .second, .val (.double qv), .second, .val (.long lv), .second, .val (.long rv), .second] [(.int (0 : Int32)), (.int (0 : Int32))])) _
          refine XS.icmpYes X86.here hx rfl (pc0 := 266) (pc' := 271) rfl (hb hby at_266) rfl (teq (by decide : (0 : Int32) = (0 : Int32))).1 (by decide) (by decide) ?_
          exact kt
        exact ⟨T86, _, X86, eh86, N86, pre96⟩
  have pre97 : ∀ t, Steps p.tables e below (T91.setTop (mkF m 271 #[.val (.int x1), .val (.int x2), .val (.int x3), .val (.int x4), .val (.int x5), .val (.int x6), .val (.ref b35), .val (.double (0 : UInt64)), .second, .val (.int hv), .val (.int av), .val (.int gv), .val (.int bv), .val (.ref b53), .val (.ref b63), .val (.double pv), .second, .val (.double qv), .second, .val (.long lv), .second, .val (.long rv), .second] [])) t → Steps p.tables e below (s₁.setTop (entryFrame m #[(.int x1), (.int x2), (.int x3), (.int x4), (.int x5), (.int x6)] maxLocals)) t := by
    intro t kt
    refine pre90 t ?_
    show Steps p.tables e below (T86.setTop (mkF m 211 #[.val (.int x1), .val (.int x2), .val (.int x3), .val (.int x4), .val (.int x5), .val (.int x6), .val (.ref b35), .val (.double (0 : UInt64)), .second, .val (.int hv), .val (.int av), .val (.int gv), .val (.int bv), .val (.ref b53), .val (.ref b63), .val (.double pv), .second, .val (.double qv), .second, .val (.long lv), .second, .val (.long rv), .second] [(.long lv)])) _
    refine k91 _ ?_
    exact kt
  obtain ⟨T98, L98, X98, e98, N98, k98⟩ : ∃  (T98 : State) (L98 : List Loc), Stand p l e room_1 s m #[(.int x1), (.int x2), (.int x3), (.int x4), (.int x5), (.int x6)] below meth c T98 L98 6 21 ∧ T98.heap = T72.heap ∧ Fr n0 L98 ∧ ∀ t, Steps p.tables e below (T98.setTop (mkF m 296 #[.val (.int x1), .val (.int x2), .val (.int x3), .val (.int x4), .val (.int x5), .val (.int x6), .val (.ref b35), .val (.double (0 : UInt64)), .second, .val (.int hv), .val (.int av), .val (.int gv), .val (.int bv), .val (.ref b53), .val (.ref b63), .val (.double pv), .second, .val (.double qv), .second, .val (.long lv), .second, .val (.long rv), .second] [])) t → Steps p.tables e below (T91.setTop (mkF m 271 #[.val (.int x1), .val (.int x2), .val (.int x3), .val (.int x4), .val (.int x5), .val (.int x6), .val (.ref b35), .val (.double (0 : UInt64)), .second, .val (.int hv), .val (.int av), .val (.int gv), .val (.int bv), .val (.ref b53), .val (.ref b63), .val (.double pv), .second, .val (.double qv), .second, .val (.long lv), .second, .val (.long rv), .second] [])) t := by
    have pj98 : ∀ t, Steps p.tables e below (T91.setTop (mkF m 271 #[.val (.int x1), .val (.int x2), .val (.int x3), .val (.int x4), .val (.int x5), .val (.int x6), .val (.ref b35), .val (.double (0 : UInt64)), .second, .val (.int hv), .val (.int av), .val (.int gv), .val (.int bv), .val (.ref b53), .val (.ref b63), .val (.double pv), .second, .val (.double qv), .second, .val (.long lv), .second, .val (.long rv), .second] [])) t → Steps p.tables e below (T91.setTop (mkF m 271 #[.val (.int x1), .val (.int x2), .val (.int x3), .val (.int x4), .val (.int x5), .val (.int x6), .val (.ref b35), .val (.double (0 : UInt64)), .second, .val (.int hv), .val (.int av), .val (.int gv), .val (.int bv), .val (.ref b53), .val (.ref b63), .val (.double pv), .second, .val (.double qv), .second, .val (.long lv), .second, .val (.long rv), .second] [])) t := fun _ k => k
    have pre99 : ∀ t, Steps p.tables e below (T91.setTop (mkF m 278 #[.val (.int x1), .val (.int x2), .val (.int x3), .val (.int x4), .val (.int x5), .val (.int x6), .val (.ref b35), .val (.double (0 : UInt64)), .second, .val (.int hv), .val (.int av), .val (.int gv), .val (.int bv), .val (.ref b53), .val (.ref b63), .val (.double pv), .second, .val (.double qv), .second, .val (.long lv), .second, .val (.long rv), .second] [(.int (hv &&& (hv - (1 : Int32))))])) t → Steps p.tables e below (T91.setTop (mkF m 271 #[.val (.int x1), .val (.int x2), .val (.int x3), .val (.int x4), .val (.int x5), .val (.int x6), .val (.ref b35), .val (.double (0 : UInt64)), .second, .val (.int hv), .val (.int av), .val (.int gv), .val (.int bv), .val (.ref b53), .val (.ref b63), .val (.double pv), .second, .val (.double qv), .second, .val (.long lv), .second, .val (.long rv), .second] [])) t := by
      intro t kt
      refine pj98 t ?_
      show Steps p.tables e below (T91.setTop (mkF m 271 #[.val (.int x1), .val (.int x2), .val (.int x3), .val (.int x4), .val (.int x5), .val (.int x6), .val (.ref b35), .val (.double (0 : UInt64)), .second, .val (.int hv), .val (.int av), .val (.int gv), .val (.int bv), .val (.ref b53), .val (.ref b63), .val (.double pv), .second, .val (.double qv), .second, .val (.long lv), .second, .val (.long rv), .second] [])) _
      refine XS.iload X91.here hx rfl (hb hby at_271) rfl ?_
      show Steps p.tables e below (T91.setTop (mkF m 273 #[.val (.int x1), .val (.int x2), .val (.int x3), .val (.int x4), .val (.int x5), .val (.int x6), .val (.ref b35), .val (.double (0 : UInt64)), .second, .val (.int hv), .val (.int av), .val (.int gv), .val (.int bv), .val (.ref b53), .val (.ref b63), .val (.double pv), .second, .val (.double qv), .second, .val (.long lv), .second, .val (.long rv), .second] [(.int hv)])) _
      refine XS.iload X91.here hx rfl (hb hby at_273) rfl ?_
      show Steps p.tables e below (T91.setTop (mkF m 275 #[.val (.int x1), .val (.int x2), .val (.int x3), .val (.int x4), .val (.int x5), .val (.int x6), .val (.ref b35), .val (.double (0 : UInt64)), .second, .val (.int hv), .val (.int av), .val (.int gv), .val (.int bv), .val (.ref b53), .val (.ref b63), .val (.double pv), .second, .val (.double qv), .second, .val (.long lv), .second, .val (.long rv), .second] [(.int hv), (.int hv)])) _
      refine XS.iconst X91.here hx rfl (hb hby at_275) ?_
      show Steps p.tables e below (T91.setTop (mkF m 276 #[.val (.int x1), .val (.int x2), .val (.int x3), .val (.int x4), .val (.int x5), .val (.int x6), .val (.ref b35), .val (.double (0 : UInt64)), .second, .val (.int hv), .val (.int av), .val (.int gv), .val (.int bv), .val (.ref b53), .val (.ref b63), .val (.double pv), .second, .val (.double qv), .second, .val (.long lv), .second, .val (.long rv), .second] [(.int (1 : Int32)), (.int hv), (.int hv)])) _
      refine XS.isub X91.here hx rfl (hb hby at_276) rfl ?_
      show Steps p.tables e below (T91.setTop (mkF m 277 #[.val (.int x1), .val (.int x2), .val (.int x3), .val (.int x4), .val (.int x5), .val (.int x6), .val (.ref b35), .val (.double (0 : UInt64)), .second, .val (.int hv), .val (.int av), .val (.int gv), .val (.int bv), .val (.ref b53), .val (.ref b63), .val (.double pv), .second, .val (.double qv), .second, .val (.long lv), .second, .val (.long rv), .second] [(.int (hv - (1 : Int32))), (.int hv)])) _
      refine XS.iand X91.here hx rfl (hb hby at_277) rfl ?_
      exact kt
    by_cases hc278 : (hv &&& (hv - (1 : Int32))) = (0 : Int32)
    · skip
      have nn100 : Jvm.Free.Fl.NoNaN64 (FP.dmul pv (FP.i2d hv)) := (by rw [(own_bk eA eH A1 A2 H1 H2 vp hc278)]; exact own_qn _)
      have pre101 : ∀ t, Steps p.tables e below (T91.setTop (mkF m 296 #[.val (.int x1), .val (.int x2), .val (.int x3), .val (.int x4), .val (.int x5), .val (.int x6), .val (.ref b35), .val (.double (0 : UInt64)), .second, .val (.int hv), .val (.int av), .val (.int gv), .val (.int bv), .val (.ref b53), .val (.ref b63), .val (.double pv), .second, .val (.double qv), .second, .val (.long lv), .second, .val (.long rv), .second] [])) t → Steps p.tables e below (T91.setTop (mkF m 271 #[.val (.int x1), .val (.int x2), .val (.int x3), .val (.int x4), .val (.int x5), .val (.int x6), .val (.ref b35), .val (.double (0 : UInt64)), .second, .val (.int hv), .val (.int av), .val (.int gv), .val (.int bv), .val (.ref b53), .val (.ref b63), .val (.double pv), .second, .val (.double qv), .second, .val (.long lv), .second, .val (.long rv), .second] [])) t := by
        intro t kt
        refine pre99 t ?_
        show Steps p.tables e below (T91.setTop (mkF m 278 #[.val (.int x1), .val (.int x2), .val (.int x3), .val (.int x4), .val (.int x5), .val (.int x6), .val (.ref b35), .val (.double (0 : UInt64)), .second, .val (.int hv), .val (.int av), .val (.int gv), .val (.int bv), .val (.ref b53), .val (.ref b63), .val (.double pv), .second, .val (.double qv), .second, .val (.long lv), .second, .val (.long rv), .second] [(.int (hv &&& (hv - (1 : Int32))))])) _
        refine XS.ifNo X91.here hx rfl (hb hby at_278) rfl ((if0 _ _).trans (teq hc278).2) ?_
        show Steps p.tables e below (T91.setTop (mkF m 281 #[.val (.int x1), .val (.int x2), .val (.int x3), .val (.int x4), .val (.int x5), .val (.int x6), .val (.ref b35), .val (.double (0 : UInt64)), .second, .val (.int hv), .val (.int av), .val (.int gv), .val (.int bv), .val (.ref b53), .val (.ref b63), .val (.double pv), .second, .val (.double qv), .second, .val (.long lv), .second, .val (.long rv), .second] [])) _
        refine XS.dload X91.here hx rfl (hb hby at_281) rfl ?_
        show Steps p.tables e below (T91.setTop (mkF m 283 #[.val (.int x1), .val (.int x2), .val (.int x3), .val (.int x4), .val (.int x5), .val (.int x6), .val (.ref b35), .val (.double (0 : UInt64)), .second, .val (.int hv), .val (.int av), .val (.int gv), .val (.int bv), .val (.ref b53), .val (.ref b63), .val (.double pv), .second, .val (.double qv), .second, .val (.long lv), .second, .val (.long rv), .second] [(.double pv)])) _
        refine XS.iload X91.here hx rfl (hb hby at_283) rfl ?_
        show Steps p.tables e below (T91.setTop (mkF m 285 #[.val (.int x1), .val (.int x2), .val (.int x3), .val (.int x4), .val (.int x5), .val (.int x6), .val (.ref b35), .val (.double (0 : UInt64)), .second, .val (.int hv), .val (.int av), .val (.int gv), .val (.int bv), .val (.ref b53), .val (.ref b63), .val (.double pv), .second, .val (.double qv), .second, .val (.long lv), .second, .val (.long rv), .second] [(.int hv), (.double pv)])) _
        refine XS.i2dS X91.here hx rfl (hb hby at_285) rfl rfl ?_
        show Steps p.tables e below (T91.setTop (mkF m 286 #[.val (.int x1), .val (.int x2), .val (.int x3), .val (.int x4), .val (.int x5), .val (.int x6), .val (.ref b35), .val (.double (0 : UInt64)), .second, .val (.int hv), .val (.int av), .val (.int gv), .val (.int bv), .val (.ref b53), .val (.ref b63), .val (.double pv), .second, .val (.double qv), .second, .val (.long lv), .second, .val (.long rv), .second] [(.double (FP.i2d hv)), (.double pv)])) _
        refine XS.dmulS X91.here hx rfl (hb hby at_286) rfl nn100 rfl ?_
        show Steps p.tables e below (T91.setTop (mkF m 287 #[.val (.int x1), .val (.int x2), .val (.int x3), .val (.int x4), .val (.int x5), .val (.int x6), .val (.ref b35), .val (.double (0 : UInt64)), .second, .val (.int hv), .val (.int av), .val (.int gv), .val (.int bv), .val (.ref b53), .val (.ref b63), .val (.double pv), .second, .val (.double qv), .second, .val (.long lv), .second, .val (.long rv), .second] [(.double (FP.dmul pv (FP.i2d hv)))])) _
        refine XS.iload X91.here hx rfl (hb hby at_287) rfl ?_
        show Steps p.tables e below (T91.setTop (mkF m 289 #[.val (.int x1), .val (.int x2), .val (.int x3), .val (.int x4), .val (.int x5), .val (.int x6), .val (.ref b35), .val (.double (0 : UInt64)), .second, .val (.int hv), .val (.int av), .val (.int gv), .val (.int bv), .val (.ref b53), .val (.ref b63), .val (.double pv), .second, .val (.double qv), .second, .val (.long lv), .second, .val (.long rv), .second] [(.int av), (.double (FP.dmul pv (FP.i2d hv)))])) _
        refine XS.i2dS X91.here hx rfl (hb hby at_289) rfl rfl ?_
        show Steps p.tables e below (T91.setTop (mkF m 290 #[.val (.int x1), .val (.int x2), .val (.int x3), .val (.int x4), .val (.int x5), .val (.int x6), .val (.ref b35), .val (.double (0 : UInt64)), .second, .val (.int hv), .val (.int av), .val (.int gv), .val (.int bv), .val (.ref b53), .val (.ref b63), .val (.double pv), .second, .val (.double qv), .second, .val (.long lv), .second, .val (.long rv), .second] [(.double (FP.i2d av)), (.double (FP.dmul pv (FP.i2d hv)))])) _
        refine XS.dcmpS X91.here hx rfl (hb hby at_290) rfl rfl ?_
        show Steps p.tables e below (T91.setTop (mkF m 291 #[.val (.int x1), .val (.int x2), .val (.int x3), .val (.int x4), .val (.int x5), .val (.int x6), .val (.ref b35), .val (.double (0 : UInt64)), .second, .val (.int hv), .val (.int av), .val (.int gv), .val (.int bv), .val (.ref b53), .val (.ref b63), .val (.double pv), .second, .val (.double qv), .second, .val (.long lv), .second, .val (.long rv), .second] [(.int (cmpValue (FP.dcmp (FP.dmul pv (FP.i2d hv)) (FP.i2d av)) .l))])) _
        refine XS.ifYes X91.here hx rfl (pc0 := 291) (pc' := 296) rfl (hb hby at_291) rfl ((if0 _ _).trans (teq (dcmpV_eq (own_bk eA eH A1 A2 H1 H2 vp hc278) (by rw [(own_bk eA eH A1 A2 H1 H2 vp hc278)]; exact own_qn _) .l)).1) (by decide) (by decide) ?_
        exact kt
      exact ⟨T91, _, X91, e91, N91, pre101⟩
    · skip
      have pre102 : ∀ t, Steps p.tables e below (T91.setTop (mkF m 296 #[.val (.int x1), .val (.int x2), .val (.int x3), .val (.int x4), .val (.int x5), .val (.int x6), .val (.ref b35), .val (.double (0 : UInt64)), .second, .val (.int hv), .val (.int av), .val (.int gv), .val (.int bv), .val (.ref b53), .val (.ref b63), .val (.double pv), .second, .val (.double qv), .second, .val (.long lv), .second, .val (.long rv), .second] [])) t → Steps p.tables e below (T91.setTop (mkF m 271 #[.val (.int x1), .val (.int x2), .val (.int x3), .val (.int x4), .val (.int x5), .val (.int x6), .val (.ref b35), .val (.double (0 : UInt64)), .second, .val (.int hv), .val (.int av), .val (.int gv), .val (.int bv), .val (.ref b53), .val (.ref b63), .val (.double pv), .second, .val (.double qv), .second, .val (.long lv), .second, .val (.long rv), .second] [])) t := by
        intro t kt
        refine pre99 t ?_
        show Steps p.tables e below (T91.setTop (mkF m 278 #[.val (.int x1), .val (.int x2), .val (.int x3), .val (.int x4), .val (.int x5), .val (.int x6), .val (.ref b35), .val (.double (0 : UInt64)), .second, .val (.int hv), .val (.int av), .val (.int gv), .val (.int bv), .val (.ref b53), .val (.ref b63), .val (.double pv), .second, .val (.double qv), .second, .val (.long lv), .second, .val (.long rv), .second] [(.int (hv &&& (hv - (1 : Int32))))])) _
        refine XS.ifYes X91.here hx rfl (pc0 := 278) (pc' := 296) rfl (hb hby at_278) rfl ((if0 _ _).trans (feq hc278).2) (by decide) (by decide) ?_
        exact kt
      exact ⟨T91, _, X91, e91, N91, pre102⟩
  have pre103 : ∀ t, Steps p.tables e below (T98.setTop (mkF m 303 #[.val (.int x1), .val (.int x2), .val (.int x3), .val (.int x4), .val (.int x5), .val (.int x6), .val (.ref b35), .val (.double (0 : UInt64)), .second, .val (.int hv), .val (.int av), .val (.int gv), .val (.int bv), .val (.ref b53), .val (.ref b63), .val (.double pv), .second, .val (.double qv), .second, .val (.long lv), .second, .val (.long rv), .second] [(.int (gv &&& (gv - (1 : Int32))))])) t → Steps p.tables e below (s₁.setTop (entryFrame m #[(.int x1), (.int x2), (.int x3), (.int x4), (.int x5), (.int x6)] maxLocals)) t := by
    intro t kt
    refine pre97 t ?_
    show Steps p.tables e below (T91.setTop (mkF m 271 #[.val (.int x1), .val (.int x2), .val (.int x3), .val (.int x4), .val (.int x5), .val (.int x6), .val (.ref b35), .val (.double (0 : UInt64)), .second, .val (.int hv), .val (.int av), .val (.int gv), .val (.int bv), .val (.ref b53), .val (.ref b63), .val (.double pv), .second, .val (.double qv), .second, .val (.long lv), .second, .val (.long rv), .second] [])) _
    refine k98 _ ?_
    show Steps p.tables e below (T98.setTop (mkF m 296 #[.val (.int x1), .val (.int x2), .val (.int x3), .val (.int x4), .val (.int x5), .val (.int x6), .val (.ref b35), .val (.double (0 : UInt64)), .second, .val (.int hv), .val (.int av), .val (.int gv), .val (.int bv), .val (.ref b53), .val (.ref b63), .val (.double pv), .second, .val (.double qv), .second, .val (.long lv), .second, .val (.long rv), .second] [])) _
    refine XS.iload X98.here hx rfl (hb hby at_296) rfl ?_
    show Steps p.tables e below (T98.setTop (mkF m 298 #[.val (.int x1), .val (.int x2), .val (.int x3), .val (.int x4), .val (.int x5), .val (.int x6), .val (.ref b35), .val (.double (0 : UInt64)), .second, .val (.int hv), .val (.int av), .val (.int gv), .val (.int bv), .val (.ref b53), .val (.ref b63), .val (.double pv), .second, .val (.double qv), .second, .val (.long lv), .second, .val (.long rv), .second] [(.int gv)])) _
    refine XS.iload X98.here hx rfl (hb hby at_298) rfl ?_
    show Steps p.tables e below (T98.setTop (mkF m 300 #[.val (.int x1), .val (.int x2), .val (.int x3), .val (.int x4), .val (.int x5), .val (.int x6), .val (.ref b35), .val (.double (0 : UInt64)), .second, .val (.int hv), .val (.int av), .val (.int gv), .val (.int bv), .val (.ref b53), .val (.ref b63), .val (.double pv), .second, .val (.double qv), .second, .val (.long lv), .second, .val (.long rv), .second] [(.int gv), (.int gv)])) _
    refine XS.iconst X98.here hx rfl (hb hby at_300) ?_
    show Steps p.tables e below (T98.setTop (mkF m 301 #[.val (.int x1), .val (.int x2), .val (.int x3), .val (.int x4), .val (.int x5), .val (.int x6), .val (.ref b35), .val (.double (0 : UInt64)), .second, .val (.int hv), .val (.int av), .val (.int gv), .val (.int bv), .val (.ref b53), .val (.ref b63), .val (.double pv), .second, .val (.double qv), .second, .val (.long lv), .second, .val (.long rv), .second] [(.int (1 : Int32)), (.int gv), (.int gv)])) _
    refine XS.isub X98.here hx rfl (hb hby at_301) rfl ?_
    show Steps p.tables e below (T98.setTop (mkF m 302 #[.val (.int x1), .val (.int x2), .val (.int x3), .val (.int x4), .val (.int x5), .val (.int x6), .val (.ref b35), .val (.double (0 : UInt64)), .second, .val (.int hv), .val (.int av), .val (.int gv), .val (.int bv), .val (.ref b53), .val (.ref b63), .val (.double pv), .second, .val (.double qv), .second, .val (.long lv), .second, .val (.long rv), .second] [(.int (gv - (1 : Int32))), (.int gv)])) _
    refine XS.iand X98.here hx rfl (hb hby at_302) rfl ?_
    exact kt
  by_cases hc303 : (gv &&& (gv - (1 : Int32))) = (0 : Int32)
  · skip
    have nn104 : Jvm.Free.Fl.NoNaN64 (FP.dmul qv (FP.i2d gv)) := (by rw [(own_bk eB eG B1 B2 G1 G2 vq hc303)]; exact own_qn _)
    obtain ⟨fs, hr, hrun, hended, hW, hsame⟩ := X98.leave (v := some (.int (1 : Int32))) (fun h => by rw [Bd.returns] at h; cases h)
    refine ⟨_, _, pre103 _ ?_, hrun, hended, _, _, rfl, ?_, ⟨_, rfl⟩, hW, hsame.mono (by decide) (by decide)⟩
    · show Steps p.tables e below (T98.setTop (mkF m 303 #[.val (.int x1), .val (.int x2), .val (.int x3), .val (.int x4), .val (.int x5), .val (.int x6), .val (.ref b35), .val (.double (0 : UInt64)), .second, .val (.int hv), .val (.int av), .val (.int gv), .val (.int bv), .val (.ref b53), .val (.ref b63), .val (.double pv), .second, .val (.double qv), .second, .val (.long lv), .second, .val (.long rv), .second] [(.int (gv &&& (gv - (1 : Int32))))])) _
      refine XS.ifNo X98.here hx rfl (hb hby at_303) rfl ((if0 _ _).trans (teq hc303).2) ?_
      show Steps p.tables e below (T98.setTop (mkF m 306 #[.val (.int x1), .val (.int x2), .val (.int x3), .val (.int x4), .val (.int x5), .val (.int x6), .val (.ref b35), .val (.double (0 : UInt64)), .second, .val (.int hv), .val (.int av), .val (.int gv), .val (.int bv), .val (.ref b53), .val (.ref b63), .val (.double pv), .second, .val (.double qv), .second, .val (.long lv), .second, .val (.long rv), .second] [])) _
      refine XS.dload X98.here hx rfl (hb hby at_306) rfl ?_
      show Steps p.tables e below (T98.setTop (mkF m 308 #[.val (.int x1), .val (.int x2), .val (.int x3), .val (.int x4), .val (.int x5), .val (.int x6), .val (.ref b35), .val (.double (0 : UInt64)), .second, .val (.int hv), .val (.int av), .val (.int gv), .val (.int bv), .val (.ref b53), .val (.ref b63), .val (.double pv), .second, .val (.double qv), .second, .val (.long lv), .second, .val (.long rv), .second] [(.double qv)])) _
      refine XS.iload X98.here hx rfl (hb hby at_308) rfl ?_
      show Steps p.tables e below (T98.setTop (mkF m 310 #[.val (.int x1), .val (.int x2), .val (.int x3), .val (.int x4), .val (.int x5), .val (.int x6), .val (.ref b35), .val (.double (0 : UInt64)), .second, .val (.int hv), .val (.int av), .val (.int gv), .val (.int bv), .val (.ref b53), .val (.ref b63), .val (.double pv), .second, .val (.double qv), .second, .val (.long lv), .second, .val (.long rv), .second] [(.int gv), (.double qv)])) _
      refine XS.i2dS X98.here hx rfl (hb hby at_310) rfl rfl ?_
      show Steps p.tables e below (T98.setTop (mkF m 311 #[.val (.int x1), .val (.int x2), .val (.int x3), .val (.int x4), .val (.int x5), .val (.int x6), .val (.ref b35), .val (.double (0 : UInt64)), .second, .val (.int hv), .val (.int av), .val (.int gv), .val (.int bv), .val (.ref b53), .val (.ref b63), .val (.double pv), .second, .val (.double qv), .second, .val (.long lv), .second, .val (.long rv), .second] [(.double (FP.i2d gv)), (.double qv)])) _
      refine XS.dmulS X98.here hx rfl (hb hby at_311) rfl nn104 rfl ?_
      show Steps p.tables e below (T98.setTop (mkF m 312 #[.val (.int x1), .val (.int x2), .val (.int x3), .val (.int x4), .val (.int x5), .val (.int x6), .val (.ref b35), .val (.double (0 : UInt64)), .second, .val (.int hv), .val (.int av), .val (.int gv), .val (.int bv), .val (.ref b53), .val (.ref b63), .val (.double pv), .second, .val (.double qv), .second, .val (.long lv), .second, .val (.long rv), .second] [(.double (FP.dmul qv (FP.i2d gv)))])) _
      refine XS.iload X98.here hx rfl (hb hby at_312) rfl ?_
      show Steps p.tables e below (T98.setTop (mkF m 314 #[.val (.int x1), .val (.int x2), .val (.int x3), .val (.int x4), .val (.int x5), .val (.int x6), .val (.ref b35), .val (.double (0 : UInt64)), .second, .val (.int hv), .val (.int av), .val (.int gv), .val (.int bv), .val (.ref b53), .val (.ref b63), .val (.double pv), .second, .val (.double qv), .second, .val (.long lv), .second, .val (.long rv), .second] [(.int bv), (.double (FP.dmul qv (FP.i2d gv)))])) _
      refine XS.i2dS X98.here hx rfl (hb hby at_314) rfl rfl ?_
      show Steps p.tables e below (T98.setTop (mkF m 315 #[.val (.int x1), .val (.int x2), .val (.int x3), .val (.int x4), .val (.int x5), .val (.int x6), .val (.ref b35), .val (.double (0 : UInt64)), .second, .val (.int hv), .val (.int av), .val (.int gv), .val (.int bv), .val (.ref b53), .val (.ref b63), .val (.double pv), .second, .val (.double qv), .second, .val (.long lv), .second, .val (.long rv), .second] [(.double (FP.i2d bv)), (.double (FP.dmul qv (FP.i2d gv)))])) _
      refine XS.dcmpS X98.here hx rfl (hb hby at_315) rfl rfl ?_
      show Steps p.tables e below (T98.setTop (mkF m 316 #[.val (.int x1), .val (.int x2), .val (.int x3), .val (.int x4), .val (.int x5), .val (.int x6), .val (.ref b35), .val (.double (0 : UInt64)), .second, .val (.int hv), .val (.int av), .val (.int gv), .val (.int bv), .val (.ref b53), .val (.ref b63), .val (.double pv), .second, .val (.double qv), .second, .val (.long lv), .second, .val (.long rv), .second] [(.int (cmpValue (FP.dcmp (FP.dmul qv (FP.i2d gv)) (FP.i2d bv)) .l))])) _
      refine XS.ifYes X98.here hx rfl (pc0 := 316) (pc' := 321) rfl (hb hby at_316) rfl ((if0 _ _).trans (teq (dcmpV_eq (own_bk eB eG B1 B2 G1 G2 vq hc303) (by rw [(own_bk eB eG B1 B2 G1 G2 vq hc303)]; exact own_qn _) .l)).1) (by decide) (by decide) ?_
      show Steps p.tables e below (T98.setTop (mkF m 321 #[.val (.int x1), .val (.int x2), .val (.int x3), .val (.int x4), .val (.int x5), .val (.int x6), .val (.ref b35), .val (.double (0 : UInt64)), .second, .val (.int hv), .val (.int av), .val (.int gv), .val (.int bv), .val (.ref b53), .val (.ref b63), .val (.double pv), .second, .val (.double qv), .second, .val (.long lv), .second, .val (.long rv), .second] [])) _
      refine XS.iconst X98.here hx rfl (hb hby at_321) ?_
      show Steps p.tables e below (T98.setTop (mkF m 322 #[.val (.int x1), .val (.int x2), .val (.int x3), .val (.int x4), .val (.int x5), .val (.int x6), .val (.ref b35), .val (.double (0 : UInt64)), .second, .val (.int hv), .val (.int av), .val (.int gv), .val (.int bv), .val (.ref b53), .val (.ref b63), .val (.double pv), .second, .val (.double qv), .second, .val (.long lv), .second, .val (.long rv), .second] [(.int (1 : Int32))])) _
      exact retN X98 hx (t := .boolean) Bd.returns (by simp) (hb hby at_322) hr
    · show Q0 Z x1 x2 x3 x4 x5 x6 h0 n0 _ T98.heap _
      rw [e98]
      exact ⟨rfl, N98, K72⟩
  · skip
    obtain ⟨fs, hr, hrun, hended, hW, hsame⟩ := X98.leave (v := some (.int (1 : Int32))) (fun h => by rw [Bd.returns] at h; cases h)
    refine ⟨_, _, pre103 _ ?_, hrun, hended, _, _, rfl, ?_, ⟨_, rfl⟩, hW, hsame.mono (by decide) (by decide)⟩
    · show Steps p.tables e below (T98.setTop (mkF m 303 #[.val (.int x1), .val (.int x2), .val (.int x3), .val (.int x4), .val (.int x5), .val (.int x6), .val (.ref b35), .val (.double (0 : UInt64)), .second, .val (.int hv), .val (.int av), .val (.int gv), .val (.int bv), .val (.ref b53), .val (.ref b63), .val (.double pv), .second, .val (.double qv), .second, .val (.long lv), .second, .val (.long rv), .second] [(.int (gv &&& (gv - (1 : Int32))))])) _
      refine XS.ifYes X98.here hx rfl (pc0 := 303) (pc' := 321) rfl (hb hby at_303) rfl ((if0 _ _).trans (feq hc303).2) (by decide) (by decide) ?_
      show Steps p.tables e below (T98.setTop (mkF m 321 #[.val (.int x1), .val (.int x2), .val (.int x3), .val (.int x4), .val (.int x5), .val (.int x6), .val (.ref b35), .val (.double (0 : UInt64)), .second, .val (.int hv), .val (.int av), .val (.int gv), .val (.int bv), .val (.ref b53), .val (.ref b63), .val (.double pv), .second, .val (.double qv), .second, .val (.long lv), .second, .val (.long rv), .second] [])) _
      refine XS.iconst X98.here hx rfl (hb hby at_321) ?_
      show Steps p.tables e below (T98.setTop (mkF m 322 #[.val (.int x1), .val (.int x2), .val (.int x3), .val (.int x4), .val (.int x5), .val (.int x6), .val (.ref b35), .val (.double (0 : UInt64)), .second, .val (.int hv), .val (.int av), .val (.int gv), .val (.int bv), .val (.ref b53), .val (.ref b63), .val (.double pv), .second, .val (.double qv), .second, .val (.long lv), .second, .val (.long rv), .second] [(.int (1 : Int32))])) _
      exact retN X98 hx (t := .boolean) Bd.returns (by simp) (hb hby at_322) hr
    · show Q0 Z x1 x2 x3 x4 x5 x6 h0 n0 _ T98.heap _
      rw [e98]
      exact ⟨rfl, N98, K72⟩
set_option maxRecDepth 65536 in
set_option maxHeartbeats 40000000 in
theorem comes_1 {Post : Tables → Env → Array Value → State → Outcome → State → Prop} (hpost : ∀ tb e args s v u, (limb_1_1.after args s (.returned v) u = true ∧ limb_1_2.after args s (.returned v) u = true ∧ True) → FrameEnd s (.returned v) u (Jvm.fieldLocs frame_1_writes args s ++ Jvm.arrayLocs frame_1_arrays args s ++ Jvm.staticLocs frame_1_statics s) 24 128 → Post tb e args s (.returned v) u) :
    ArmFor flags0 classFile x code maxLocals ret World_1 tables_1 room_1 Calls_1 rest_1 Pre_1 Post := by
  intro l hfl _ _ p e ha hc hk s m args below hf hA hF happ hP
  obtain ⟨hcalls, hrest, hpre⟩ := hP
  obtain ⟨-, -, -, hnamed, -, -, -, hat⟩ := (Spec.applies_iff hf).mp happ
  obtain ⟨hg, hn⟩ := and_e (Cond.before_iff.mp (show (Jvm.Cond.and given_1 narrow_1).before args s = true from hpre))
  obtain ⟨gg1, gg2⟩ := and_e hg
  obtain ⟨gg3, gg4⟩ := and_e gg2
  obtain ⟨gg5, gg6⟩ := and_e gg4
  obtain ⟨gg7, gg8⟩ := and_e gg6
  obtain ⟨gg9, gg10⟩ := and_e gg8
  obtain ⟨gg11, gg12⟩ := and_e gg10
  obtain ⟨w0, w1, w2, w3, w4, w5, rfl⟩ : ∃ w0 w1 w2 w3 w4 w5 : Value, args = #[w0, w1, w2, w3, w4, w5] := by
    have hs : args.size = 6 := by simpa [Cond.value, given_1] using gg1
    obtain ⟨L⟩ := args
    match L, hs with
    | [w0, w1, w2, w3, w4, w5], _ => exact ⟨w0, w1, w2, w3, w4, w5, rfl⟩
  have hw := fun d (hd : d ∈ tables_1) => atoms_spec (ws := Jvm.Cond.code x code maxLocals ret :: tables_1) hat d (List.mem_cons_of_mem _ hd)
  have hfit : Fit s := fun {y c} hc i hi => by
    obtain ⟨ha, rfl⟩ := Array.getElem?_eq_some_iff.mp hc
    have q := List.all_eq_true.mp ((Array.all_eq_true_iff_forall_mem.mp hF) _ (Array.getElem_mem ha)) i (List.mem_range.mpr hi)
    simpa [Array.getElem?_eq_getElem hi] using q
  obtain ⟨i0, ei0⟩ := is_v gg3
  obtain rfl : w0 = (.int i0) := Option.some.inj ei0
  obtain ⟨i1, ei1⟩ := is_v gg5
  obtain rfl : w1 = (.int i1) := Option.some.inj ei1
  obtain ⟨i2, ei2⟩ := is_v gg7
  obtain rfl : w2 = (.int i2) := Option.some.inj ei2
  obtain ⟨i3, ei3⟩ := is_v gg9
  obtain rfl : w3 = (.int i3) := Option.some.inj ei3
  obtain ⟨i4, ei4⟩ := is_v gg11
  obtain rfl : w4 = (.int i4) := Option.some.inj ei4
  obtain ⟨i5, ei5⟩ := is_v gg12
  obtain rfl : w5 = (.int i5) := Option.some.inj ei5
  obtain ⟨n, o, h1, h2, h3, _, L, rfl, ⟨rfl, N, -⟩, hq⟩ := rm0 l s _ hw tables_1 i0 i1 i2 i3 i4 i5 s.heap s.heap.size (Nat.le_refl _) (Old.start s) p e ha hc hk s m _ below hf ((Spec.applies_iff_loose hf).mp happ).1 ⟨rfl, State.Warmed39.refl s, rfl⟩ trivial
  refine ⟨n, _, h1, h2, h3, hpost _ _ _ _ _ _ ⟨Cond.after_iff.mpr rfl, Cond.after_iff.mpr (eq_i res_at (Term.int_eval (1)) rfl), trivial⟩ ⟨hq.1, hq.2.1, (hq.2.2.sift fun y hy => Or.inr (N y hy)).mono (by decide) (by decide)⟩⟩
theorem main_1_1 : Claimed_1_1 := comes_1 fun _ _ _ _ _ _ h hF => ⟨h.1, hF⟩
theorem main_1_2 : Claimed_1_2 := comes_1 fun _ _ _ _ _ _ h hF => ⟨h.2.1, hF⟩
end Jvm.Pilot.@@N@@
namespace Jvm.Pilot.@@N@@
open Jvm Jvm.ClassFile Sem Op Lib Jvm.Free Jvm.Stand Jvm.Pilot.@@N@@.Jvm.D
/-! MADE BY PROGRAM (witnessworld.py) out of the Statement's table words and the real class files: 9 classes; the members and pool entries that the words name. The judged class is class 1, her method 1. -/
namespace start1
open Jvm.ClassFile
def u (s : String) : CpInfo := .utf8 (stringToUtf16 s)
/-- a pool by its gaps: so many unusable entries, then the entry; so many at the end -/
def gap : Nat → List CpInfo → List CpInfo
  | 0, r => r
  | n + 1, r => .unusable :: gap n r
def poolList (es : List (Nat × CpInfo)) (last : Nat) : List CpInfo := es.foldr (fun e r => gap e.1 (e.2 :: r)) (gap last [])
def pool (es : List (Nat × CpInfo)) (last : Nat) : Array CpInfo := ⟨poolList es last⟩
def fileOf (pool : Array CpInfo) (this : Nat) (attrs : Array Attribute := #[]) (ms : Array MethodInfo := #[]) (fl : Nat := 33) (sup : Nat := 0) (ifs : Array Nat := #[]) (fds : Array FieldInfo := #[]) : ClassFile where
  minorVersion := 0
  majorVersion := 65
  constantPool := pool
  accessFlags := fl
  thisClass := this
  superClass := sup
  interfaces := ifs
  fields := fds
  methods := ms
  attributes := attrs
def plain (name : String) (sup : Option ClassId) : Class where
  name := name
  kind := .ordinary
  loader := none
  accessFlags := 33
  super := sup
  interfaces := #[]
  cf := none
  fields := #[]
  methods := #[]
  instanceTypes := #[]
  staticTypes := #[]
  resolved := #[]
  callSites := []
  init := .initialized
  statics := none
  mirror := none

def pool0 : Array CpInfo := pool [(5, u "<init>"), (0, u "()V"), (1, .class_ 10), (1, u "java/lang/Object")] 113

def k0c0 : Code := { maxStack := 0, maxLocals := 1, code := object_method_1_code, exceptionTable := #[], attributes := #[] }
def k0m0 : Method := { name := "<init>", desc := "()V", sig := { parameters := [], returnType := none }, accessFlags := 1, code := some k0c0 }
/-- java/lang/Object -/
def k0 : Class := { plain "java/lang/Object" none with
  accessFlags := 33
  interfaces := #[]
  cf := some (fileOf pool0 8 #[] #[{ accessFlags := 1, nameIndex := 5, descriptorIndex := 6, attributes := #[] }] 33 0 #[] #[])
  fields := #[]
  methods := #[k0m0]
  instanceTypes := #[]
  staticTypes := #[]
  resolved := Array.replicate 124 none
  statics := none }

def pool1 : Array CpInfo := pool [(2, .class_ 4), (1, u "java/lang/Object"), (0, u "<init>"), (0, u "()V"), (0, .class_ 8), (0, u "com/example/headmast/headmast/HandOver"), (0, .class_ 10), (0, u "com/example/headmast/headmast/Pin"), (0, .integer 2147483647), (0, .methodref 9 13), (0, .nameAndType 5 14), (0, u "(II)V"), (0, .methodref 7 16), (0, .nameAndType 5 17), (0, u "(Lcom/example/headmast/headmast/Pin;IIIZ)V"), (0, .methodref 7 19), (0, .nameAndType 20 21), (0, u "progress"), (0, u "()D"), (0, .integer 65535), (0, .class_ 24), (0, u "com/example/headmast/headmast/HandOverProgressPinLaw"), (2, u "law"), (0, u "(IIIIII)Z")] 3

def k1m0 : Method := { name := "<init>", desc := "()V", sig := { parameters := [], returnType := none }, accessFlags := 2, code := none }
def k1c1 : Code := { maxStack := 7, maxLocals := 23, code := code, exceptionTable := #[], attributes := #[] }
def k1m1 : Method := { name := "law", desc := "(IIIIII)Z", sig := { parameters := [.int, .int, .int, .int, .int, .int], returnType := some .boolean }, accessFlags := 9, code := some k1c1 }
/-- com/example/headmast/headmast/HandOverProgressPinLaw -/
def k1 : Class := { plain "com/example/headmast/headmast/HandOverProgressPinLaw" (some 0) with
  accessFlags := 49
  interfaces := #[]
  cf := some (fileOf pool1 23 #[] #[{ accessFlags := 2, nameIndex := 5, descriptorIndex := 6, attributes := #[] }, { accessFlags := 9, nameIndex := 27, descriptorIndex := 28, attributes := #[] }] 49 2 #[] #[])
  fields := #[]
  methods := #[k1m0, k1m1]
  instanceTypes := #[]
  staticTypes := #[]
  resolved := Array.replicate 32 none
  statics := none }

def pool2 : Array CpInfo := pool [(1, .methodref 2 3), (0, .class_ 4), (0, .nameAndType 5 6), (0, u "java/lang/Object"), (0, u "<init>"), (0, u "()V"), (0, .class_ 8), (0, u "java/lang/Record")] 13

def k2c0 : Code := { maxStack := 1, maxLocals := 1, code := jdk_30_method_1_code, exceptionTable := #[], attributes := #[] }
def k2m0 : Method := { name := "<init>", desc := "()V", sig := { parameters := [], returnType := none }, accessFlags := 4, code := some k2c0 }
/-- java/lang/Record -/
def k2 : Class := { plain "java/lang/Record" (some 0) with
  accessFlags := 1057
  interfaces := #[]
  cf := some (fileOf pool2 7 #[] #[{ accessFlags := 4, nameIndex := 5, descriptorIndex := 6, attributes := #[] }] 1057 2 #[] #[])
  fields := #[]
  methods := #[k2m0]
  instanceTypes := #[]
  staticTypes := #[]
  resolved := Array.replicate 22 none
  statics := none }

def pool3 : Array CpInfo := pool [(1, .methodref 2 3), (0, .class_ 4), (0, .nameAndType 5 6), (0, u "java/lang/Record"), (0, u "<init>"), (0, u "()V"), (0, .fieldref 8 9), (0, .class_ 10), (0, .nameAndType 11 12), (0, u "com/example/headmast/headmast/HandOver"), (0, u "pin"), (0, u "Lcom/example/headmast/headmast/Pin;"), (0, .fieldref 8 14), (0, .nameAndType 15 16), (0, u "headerHeight"), (0, u "I"), (0, .fieldref 8 18), (0, .nameAndType 19 16), (0, u "pinned"), (0, .fieldref 8 21), (0, .nameAndType 22 16), (0, u "alpha"), (0, .fieldref 8 24), (0, .nameAndType 25 26), (0, u "over"), (0, u "Z"), (0, .methodref 28 29), (0, .class_ 30), (0, .nameAndType 31 32), (0, u "com/example/headmast/headmast/Pin"), (0, u "push"), (0, u "()I"), (5, u "()Z"), (8, u "(Lcom/example/headmast/headmast/Pin;IIIZ)V"), (0, .methodref 8 49), (0, .nameAndType 50 38), (0, u "inFlight"), (12, u "OPAQUE"), (8, u "progress"), (0, u "()D")] 27

def k3c0 : Code := { maxStack := 2, maxLocals := 6, code := prog_5_method_1_code, exceptionTable := #[], attributes := #[] }
def k3m0 : Method := { name := "<init>", desc := "(Lcom/example/headmast/headmast/Pin;IIIZ)V", sig := { parameters := [(.object "com/example/headmast/headmast/Pin"), .int, .int, .int, .boolean], returnType := none }, accessFlags := 1, code := some k3c0 }
def k3c1 : Code := { maxStack := 1, maxLocals := 1, code := prog_5_method_3_code, exceptionTable := #[], attributes := #[] }
def k3m1 : Method := { name := "inFlight", desc := "()Z", sig := { parameters := [], returnType := some .boolean }, accessFlags := 1, code := some k3c1 }
def k3c2 : Code := { maxStack := 4, maxLocals := 1, code := prog_5_method_4_code, exceptionTable := #[], attributes := #[] }
def k3m2 : Method := { name := "progress", desc := "()D", sig := { parameters := [], returnType := some .double }, accessFlags := 1, code := some k3c2 }
/-- com/example/headmast/headmast/HandOver -/
def k3 : Class := { plain "com/example/headmast/headmast/HandOver" (some 2) with
  accessFlags := 49
  interfaces := #[]
  cf := some (fileOf pool3 8 #[] #[{ accessFlags := 1, nameIndex := 5, descriptorIndex := 47, attributes := #[] }, { accessFlags := 1, nameIndex := 50, descriptorIndex := 38, attributes := #[] }, { accessFlags := 1, nameIndex := 72, descriptorIndex := 73, attributes := #[] }] 49 2 #[] #[{ accessFlags := 18, nameIndex := 11, descriptorIndex := 12, attributes := #[] }, { accessFlags := 18, nameIndex := 15, descriptorIndex := 16, attributes := #[] }, { accessFlags := 18, nameIndex := 19, descriptorIndex := 16, attributes := #[] }, { accessFlags := 18, nameIndex := 22, descriptorIndex := 16, attributes := #[] }, { accessFlags := 18, nameIndex := 25, descriptorIndex := 26, attributes := #[] }, { accessFlags := 25, nameIndex := 63, descriptorIndex := 16, attributes := #[] }])
  fields := #[{ name := "pin", type := (.object "com/example/headmast/headmast/Pin"), accessFlags := 18, slot := 0, constantValue := 0 }, { name := "headerHeight", type := .int, accessFlags := 18, slot := 1, constantValue := 0 }, { name := "pinned", type := .int, accessFlags := 18, slot := 2, constantValue := 0 }, { name := "alpha", type := .int, accessFlags := 18, slot := 3, constantValue := 0 }, { name := "over", type := .boolean, accessFlags := 18, slot := 4, constantValue := 0 }, { name := "OPAQUE", type := .int, accessFlags := 25, slot := 0, constantValue := 0 }]
  methods := #[k3m0, k3m1, k3m2]
  instanceTypes := #[(.object "com/example/headmast/headmast/Pin"), .int, .int, .int, .boolean]
  staticTypes := #[.int]
  resolved := Array.replicate 101 none
  statics := none }

def pool4 : Array CpInfo := pool [(1, .methodref 2 3), (0, .class_ 4), (0, .nameAndType 5 6), (0, u "java/lang/Record"), (0, u "<init>"), (0, u "()V"), (0, .fieldref 8 9), (0, .class_ 10), (0, .nameAndType 11 12), (0, u "com/example/headmast/headmast/Pin"), (0, u "section"), (0, u "I"), (0, .fieldref 8 14), (0, .nameAndType 15 12), (0, u "push"), (12, u "(II)V"), (4, u "()I")] 22

def k4c0 : Code := { maxStack := 2, maxLocals := 3, code := prog_14_method_1_code, exceptionTable := #[], attributes := #[] }
def k4m0 : Method := { name := "<init>", desc := "(II)V", sig := { parameters := [.int, .int], returnType := none }, accessFlags := 1, code := some k4c0 }
def k4c1 : Code := { maxStack := 1, maxLocals := 1, code := prog_14_method_6_code, exceptionTable := #[], attributes := #[] }
def k4m1 : Method := { name := "push", desc := "()I", sig := { parameters := [], returnType := some .int }, accessFlags := 1, code := some k4c1 }
/-- com/example/headmast/headmast/Pin -/
def k4 : Class := { plain "com/example/headmast/headmast/Pin" (some 2) with
  accessFlags := 49
  interfaces := #[]
  cf := some (fileOf pool4 8 #[] #[{ accessFlags := 1, nameIndex := 5, descriptorIndex := 28, attributes := #[] }, { accessFlags := 1, nameIndex := 15, descriptorIndex := 33, attributes := #[] }] 49 2 #[] #[{ accessFlags := 18, nameIndex := 11, descriptorIndex := 12, attributes := #[] }, { accessFlags := 18, nameIndex := 15, descriptorIndex := 12, attributes := #[] }])
  fields := #[{ name := "section", type := .int, accessFlags := 18, slot := 0, constantValue := 0 }, { name := "push", type := .int, accessFlags := 18, slot := 1, constantValue := 0 }]
  methods := #[k4m0, k4m1]
  instanceTypes := #[.int, .int]
  staticTypes := #[]
  resolved := Array.replicate 56 none
  statics := none }

def pool5 : Array CpInfo := pool [(1, u "java/lang/Cloneable"), (0, .class_ 1), (0, u "java/lang/Object"), (0, .class_ 3)] 3

/-- java/lang/Cloneable -/
def k5 : Class := { plain "java/lang/Cloneable" (some 0) with
  accessFlags := 1537
  interfaces := #[]
  cf := some (fileOf pool5 2 #[] #[] 1537 4 #[] #[])
  fields := #[]
  methods := #[]
  instanceTypes := #[]
  staticTypes := #[]
  resolved := Array.replicate 8 none
  statics := none }

def pool6 : Array CpInfo := pool [(1, u "java/io/Serializable"), (0, .class_ 1), (0, u "java/lang/Object"), (0, .class_ 3)] 3

/-- java/io/Serializable -/
def k6 : Class := { plain "java/io/Serializable" (some 0) with
  accessFlags := 1537
  interfaces := #[]
  cf := some (fileOf pool6 2 #[] #[] 1537 4 #[] #[])
  fields := #[]
  methods := #[]
  instanceTypes := #[]
  staticTypes := #[]
  resolved := Array.replicate 8 none
  statics := none }

/-- the primitive byte -/
def k7 : Class := { plain "byte" none with kind := .primitive 'B', accessFlags := 0x411 }
/-- [B -/
def k8 : Class := { plain "[B" (some 0) with kind := .array 7 .byte, interfaces := #[5, 6], accessFlags := 1041 }

def heap : Heap := #[]
def classes : Array Class := #[k0, k1, k2, k3, k4, k5, k6, k7, k8]
def interned : List (Array UInt16 × Addr) := []
def slotsUsed : Nat := 0
def theMethod : MethodId := ⟨1, 1⟩
def args0 : Array Value := #[.int 5, .int 5, .int 5, .int 5, .int 5, .int 5]
def aboutOver (below : List Frame) : State where
  vm := { classes := classes, interned := interned.toArray }
  heap := heap
  slotsUsed := slotsUsed
  threads := #[{ frames := .invoking theMethod args0 :: below }]
def below0 : List Frame := [.native { method := ⟨0, 0⟩, args := #[] }]
def about1 : State := aboutOver below0
def p0 : Program := .bare "" "" ""
def e0 : Env := launch0.env 0 0 0
theorem w_frames : about1.frames = Frame.invoking theMethod args0 :: below0 := rfl
set_option maxRecDepth 65536 in
theorem w_args : argsFit about1.vm theMethod args0 = true := by decide +kernel
set_option maxRecDepth 65536 in
theorem w_heap : heapFits about1 = true := by decide +kernel
set_option maxRecDepth 65536 in
theorem w_runnable : about1.curStatus? = some .runnable := by decide +kernel
set_option maxRecDepth 65536 in
theorem w_alone : about1.alone = true := by decide +kernel
set_option maxRecDepth 65536 in
theorem w_named : about1.methodNamed? x = some theMethod := by decide +kernel
set_option maxRecDepth 65536 in
theorem w_hears : about1.hears theMethod below0 = true := by decide +kernel
set_option maxRecDepth 65536 in
theorem w_ripe : about1.ripe theMethod args0 below0 = true := by decide +kernel
theorem w_running : about1.status = .running := rfl
set_option maxRecDepth 65536 in
theorem w_room : about1.hasRoom e0.platform room_1 = true :=
  launch0.hasRoom_least _ room_1 (by decide +kernel) (by decide +kernel) (by decide +kernel) (by decide +kernel) (by decide +kernel) (by decide +kernel)
theorem allAtoms_all (ts : List Jvm.Cond) (a : Array Jvm.Value) (st : Jvm.State) : (allAtoms ts).before a st = ts.all (fun c => c.before a st) := by
  induction ts with
  | nil => rfl
  | cons c t ih =>
    show (Jvm.Cond.and c (allAtoms t)).before a st = _
    rw [Jvm.Cond.before_and, ih, List.all_cons]
def words1 : List Jvm.Cond := Jvm.Cond.code x code maxLocals ret :: tables_1
/-- a 'code' word, met by the world's own term for the bytes: nothing is compared byte by byte -/
theorem code_word {y : MethodName} {bytes : ByteArray} {mx : Nat} {rt : Option FieldType} {a : Array Value} {s : State} {m : MethodId} {meth : Method} {c : Code} (h1 : s.methodNamed? y = some m) (h2 : s.vm.method? m = some meth) (h3 : meth.code = some c) (h4 : c.code = bytes)
    (h5 : (c.maxLocals == mx && c.exceptionTable.isEmpty && decide (c.maxStack ≤ mostOperands) && decide (meth.sig.returnType = rt) && !meth.locks && decide (parseMethodDescriptor y.desc = some meth.sig)) = true) : (Jvm.Cond.code y bytes mx rt).before a s = true := by
  simp only [Bool.and_eq_true, beq_iff_eq, Bool.not_eq_true', decide_eq_true_eq] at h5
  obtain ⟨⟨⟨⟨⟨g1, g2⟩, g3⟩, g4⟩, g5⟩, g6⟩ := h5
  simp [Cond.before, Cond.holds, Cond.value, h1, h2, h3, h4, g1, g2, g3, g4, g5, g6]
def isCode : Jvm.Cond → Bool
  | .code _ _ _ _ => true
  | _ => false
theorem all_split {L : List Jvm.Cond} {P : Jvm.Cond → Bool} (h1 : L.all (fun c => isCode c || P c) = true) (h2 : ∀ c ∈ L.filter isCode, P c = true) : L.all P = true := by
  refine List.all_eq_true.mpr fun c hc => ?_
  have h := List.all_eq_true.mp h1 c hc
  rcases Bool.eq_false_or_eq_true (isCode c) with hi | hi
  · exact h2 c (List.mem_filter.mpr ⟨hc, hi⟩)
  · simpa [hi] using h
set_option maxRecDepth 65536 in
theorem w_c0 : (Jvm.Cond.code x code maxLocals ret).before args0 about1 = true := code_word (m := ⟨1, 1⟩) (meth := k1m1) (c := k1c1) (by decide +kernel) rfl rfl rfl (by decide +kernel)
set_option maxRecDepth 65536 in
theorem w_c1 : (Jvm.Cond.code ({ cls := "com/example/headmast/headmast/Pin", name := "<init>", desc := "(II)V" } : Jvm.MethodName) prog_14_method_1_code (3 : Nat) (Option.none : Option Jvm.ClassFile.FieldType)).before args0 about1 = true := code_word (m := ⟨4, 0⟩) (meth := k4m0) (c := k4c0) (by decide +kernel) rfl rfl rfl (by decide +kernel)
set_option maxRecDepth 65536 in
theorem w_c2 : (Jvm.Cond.code ({ cls := "java/lang/Record", name := "<init>", desc := "()V" } : Jvm.MethodName) jdk_30_method_1_code (1 : Nat) (Option.none : Option Jvm.ClassFile.FieldType)).before args0 about1 = true := code_word (m := ⟨2, 0⟩) (meth := k2m0) (c := k2c0) (by decide +kernel) rfl rfl rfl (by decide +kernel)
set_option maxRecDepth 65536 in
theorem w_c3 : (Jvm.Cond.code ({ cls := "java/lang/Object", name := "<init>", desc := "()V" } : Jvm.MethodName) object_method_1_code (1 : Nat) (Option.none : Option Jvm.ClassFile.FieldType)).before args0 about1 = true := code_word (m := ⟨0, 0⟩) (meth := k0m0) (c := k0c0) (by decide +kernel) rfl rfl rfl (by decide +kernel)
set_option maxRecDepth 65536 in
theorem w_c4 : (Jvm.Cond.code ({ cls := "com/example/headmast/headmast/HandOver", name := "<init>", desc := "(Lcom/example/headmast/headmast/Pin;IIIZ)V" } : Jvm.MethodName) prog_5_method_1_code (6 : Nat) (Option.none : Option Jvm.ClassFile.FieldType)).before args0 about1 = true := code_word (m := ⟨3, 0⟩) (meth := k3m0) (c := k3c0) (by decide +kernel) rfl rfl rfl (by decide +kernel)
set_option maxRecDepth 65536 in
theorem w_c5 : (Jvm.Cond.code ({ cls := "com/example/headmast/headmast/HandOver", name := "progress", desc := "()D" } : Jvm.MethodName) prog_5_method_4_code (1 : Nat) (Option.some Jvm.ClassFile.FieldType.double)).before args0 about1 = true := code_word (m := ⟨3, 2⟩) (meth := k3m2) (c := k3c2) (by decide +kernel) rfl rfl rfl (by decide +kernel)
set_option maxRecDepth 65536 in
theorem w_c6 : (Jvm.Cond.code ({ cls := "com/example/headmast/headmast/HandOver", name := "inFlight", desc := "()Z" } : Jvm.MethodName) prog_5_method_3_code (1 : Nat) (Option.some Jvm.ClassFile.FieldType.boolean)).before args0 about1 = true := code_word (m := ⟨3, 1⟩) (meth := k3m1) (c := k3c1) (by decide +kernel) rfl rfl rfl (by decide +kernel)
set_option maxRecDepth 65536 in
theorem w_c7 : (Jvm.Cond.code ({ cls := "com/example/headmast/headmast/Pin", name := "push", desc := "()I" } : Jvm.MethodName) prog_14_method_6_code (1 : Nat) (Option.some Jvm.ClassFile.FieldType.int)).before args0 about1 = true := code_word (m := ⟨4, 1⟩) (meth := k4m1) (c := k4c1) (by decide +kernel) rfl rfl rfl (by decide +kernel)
def codes1 : List Jvm.Cond := [Jvm.Cond.code x code maxLocals ret, Jvm.Cond.code ({ cls := "com/example/headmast/headmast/Pin", name := "<init>", desc := "(II)V" } : Jvm.MethodName) prog_14_method_1_code (3 : Nat) (Option.none : Option Jvm.ClassFile.FieldType), Jvm.Cond.code ({ cls := "java/lang/Record", name := "<init>", desc := "()V" } : Jvm.MethodName) jdk_30_method_1_code (1 : Nat) (Option.none : Option Jvm.ClassFile.FieldType), Jvm.Cond.code ({ cls := "java/lang/Object", name := "<init>", desc := "()V" } : Jvm.MethodName) object_method_1_code (1 : Nat) (Option.none : Option Jvm.ClassFile.FieldType), Jvm.Cond.code ({ cls := "com/example/headmast/headmast/HandOver", name := "<init>", desc := "(Lcom/example/headmast/headmast/Pin;IIIZ)V" } : Jvm.MethodName) prog_5_method_1_code (6 : Nat) (Option.none : Option Jvm.ClassFile.FieldType), Jvm.Cond.code ({ cls := "com/example/headmast/headmast/HandOver", name := "progress", desc := "()D" } : Jvm.MethodName) prog_5_method_4_code (1 : Nat) (Option.some Jvm.ClassFile.FieldType.double), Jvm.Cond.code ({ cls := "com/example/headmast/headmast/HandOver", name := "inFlight", desc := "()Z" } : Jvm.MethodName) prog_5_method_3_code (1 : Nat) (Option.some Jvm.ClassFile.FieldType.boolean), Jvm.Cond.code ({ cls := "com/example/headmast/headmast/Pin", name := "push", desc := "()I" } : Jvm.MethodName) prog_14_method_6_code (1 : Nat) (Option.some Jvm.ClassFile.FieldType.int)]
set_option maxRecDepth 65536 in
theorem codes_eq : words1.filter isCode = codes1 := rfl
theorem w_codes : ∀ c ∈ words1.filter isCode, c.before args0 about1 = true := by
  rw [codes_eq]
  intro c hc
  simp only [codes1, List.mem_cons, List.not_mem_nil, or_false] at hc
  rcases hc with rfl | rfl | rfl | rfl | rfl | rfl | rfl | rfl
  · exact w_c0
  · exact w_c1
  · exact w_c2
  · exact w_c3
  · exact w_c4
  · exact w_c5
  · exact w_c6
  · exact w_c7
set_option maxRecDepth 65536 in
theorem w_t1 : (words1.take 24).all (fun c => isCode c || c.before args0 about1) = true := by decide +kernel
set_option maxRecDepth 65536 in
theorem w_t2 : ((words1.drop 24).take 24).all (fun c => isCode c || c.before args0 about1) = true := by decide +kernel
set_option maxRecDepth 65536 in
theorem w_t3 : ((words1.drop 24).drop 24).all (fun c => isCode c || c.before args0 about1) = true := by decide +kernel
theorem w_tables : (allAtoms (Jvm.Cond.code x code maxLocals ret :: tables_1)).before args0 about1 = true := by
  rw [allAtoms_all]
  show words1.all (fun c => c.before args0 about1) = true
  refine all_split ?_ w_codes
  rw [← List.take_append_drop 24 words1, List.all_append, w_t1, ← List.take_append_drop 24 (words1.drop 24), List.all_append, w_t2, w_t3]
  rfl
set_option maxRecDepth 65536 in
theorem w_case : (Jvm.Cond.and given_1 narrow_1).before args0 about1 = true := by decide +kernel
theorem w_applies : (headSpec (Jvm.Cond.code x code maxLocals ret :: tables_1) room_1).applies x e0.platform about1 = true :=
  (Spec.applies_iff w_frames).mpr ⟨w_running, w_runnable, w_alone, w_named, w_hears, w_ripe, w_room, w_tables⟩
theorem atStart : AtStart classFile x code maxLocals ret World_1 tables_1 room_1 Calls_1 rest_1 Pre_1 launch0 p0 e0 about1 theMethod args0 below0 :=
  ⟨lists_1, trivial, launch0.admits_env _ _ _, launch0.least_env, fairChoices_fair.cas, fairChoices_fair.clock, w_frames, w_args, w_heap, w_applies, trivial, trivial, w_case⟩
end start1
theorem witness_1 : WitnessClaimed_1 := ⟨start1.p0, start1.e0, start1.about1, start1.theMethod, start1.args0, start1.below0, start1.atStart⟩
end Jvm.Pilot.@@N@@
