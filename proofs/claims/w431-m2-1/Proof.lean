import JvmDerived
import JvmDerived.Pilot.@@N@@Statement
import JvmDerived.Pilot.@@N@@Code
set_option linter.unusedVariables false
set_option linter.unusedSimpArgs false
namespace Jvm.RoadKit
open Sem ClassFile Op Lib Jvm.Stand Jvm.Free Jvm.LawKit
section New
variable {p : Program} {l : Launch} {e : Env} {R : Room} {s : State} {m : MethodId} {args : Array Value} {below : List Frame} {meth : Method} {c : Code} {T : State} {locs : List Loc} {cells slots : Nat}
theorem retI (X : Stand p l e R s m args below meth c T locs cells slots) (hx : p.tables.exec = Jvm.exec) {pc : Nat} {Ls : Array Slot} {z : Int32} {rest : List Value} (hret : meth.sig.returnType = some .int) (hd : decode c.code pc = .ok (.ireturn, 1)) {fs : List Frame}
    (hl : ∀ (f : JFrame) (acts : List Action), f.method = m → f.locked = none → f.entered = [] → (doReturn e (T.setTop f) acts (some (.int z))).1 = T.setFrames fs) : Steps p.tables e below (T.setTop (mkF m pc Ls (.int z :: rest))) (T.setFrames fs) :=
  retOut X hx hret rfl (Or.inl ⟨rfl, Or.inl rfl, z, rfl⟩) hd hl
end New
end Jvm.RoadKit
namespace OwnFl
open Jvm Jvm.FP.Core
theorem own_ratio2 {ca cb A B : Nat} {qa qb : Int} (ha : ca * 2 ^ qa.toNat = A * 2 ^ (-qa).toNat) (hb : cb * 2 ^ qb.toNat = B * 2 ^ (-qb).toNat) :
    ca * B * 2 ^ (qa - qb - 0).toNat = A * cb * 2 ^ (0 - (qa - qb)).toNat := by
  have ex : (qa - qb - 0).toNat + ((-qa).toNat + qb.toNat) = (0 - (qa - qb)).toNat + (qa.toNat + (-qb).toNat) := by omega
  refine Nat.eq_of_mul_eq_mul_right (Nat.two_pow_pos ((-qa).toNat + qb.toNat + (-qb).toNat)) ?_
  generalize (qa - qb - 0).toNat = u at ex ⊢
  generalize (0 - (qa - qb)).toNat = v at ex ⊢
  have e1 : ca * B * 2 ^ u * 2 ^ ((-qa).toNat + qb.toNat + (-qb).toNat) = ca * (B * 2 ^ (-qb).toNat) * 2 ^ (u + ((-qa).toNat + qb.toNat)) := by
    simp only [Nat.pow_add]; ac_rfl
  rw [e1, ex, ← hb]
  have e2 : ca * (cb * 2 ^ qb.toNat) * 2 ^ (v + (qa.toNat + (-qb).toNat)) = (ca * 2 ^ qa.toNat) * (cb * 2 ^ qb.toNat * 2 ^ v * 2 ^ (-qb).toNat) := by
    simp only [Nat.pow_add]; ac_rfl
  rw [e2, ha]
  simp only [Nat.pow_add]; ac_rfl
/-- the quotient of two whole numbers, rounded -/
def RR (a b : Nat) : Datum := roundRatio b64 false a b 0
theorem own_rr_ne (a b : Nat) : RR a b ≠ .nan := roundRatio_ne_nan _ _ _ _ _
/-- x stands for the fraction n / d -/
def Fr (x : UInt64) (n d : Nat) : Prop := ∃ c q, val64 x = .fin false c q ∧ c * d * 2 ^ q.toNat = n * 2 ^ (-q).toNat
theorem own_fr_l2d {a : Int64} {n : Nat} (h : a.toInt = n) (hn : n < 2 ^ 53) : Fr (l2d a) n 1 := by
  have hw := l2d_whole (a := a) (by unfold Small53; omega)
  obtain ⟨c, q, e⟩ := l2d_shape a
  rw [h, decide_eq_false (by omega)] at e
  rw [e, h] at hw
  have := whole_natAbs hw
  rw [Int.natAbs_natCast] at this
  exact ⟨c, q, e, by rw [Nat.mul_one]; exact this⟩
theorem own_fr_ne {x : UInt64} {n d : Nat} (h : Fr x n d) : val64 x ≠ .nan := by obtain ⟨c, q, e, -⟩ := h; rw [e]; exact Datum.noConfusion
/-- the same fraction with two denominators -/
theorem own_ddiv {x y : UInt64} {a b d : Nat} (hx : Fr x a d) (hy : Fr y b d) (d0 : 0 < d) (b0 : 0 < b) : val64 (ddiv x y) = RR a b := by
  obtain ⟨c, q, e1, h1⟩ := hx
  obtain ⟨c', r, e2, h2⟩ := hy
  have c0 : c' ≠ 0 := fun z => by
    rw [z, Nat.zero_mul, Nat.zero_mul] at h2
    have := Nat.mul_eq_zero.mp h2.symm
    have := Nat.two_pow_pos (-r).toNat
    omega
  rw [val64_ddiv, e1, e2]
  show (if c' = 0 then _ else roundRatio b64 (false != false) c c' (q - r)) = roundRatio b64 false a b 0
  rw [if_neg c0]
  refine roundRatio_congr (by omega) b0 ?_
  have := own_ratio2 h1 h2
  refine Nat.eq_of_mul_eq_mul_right d0 ?_
  rw [show c * b * 2 ^ (q - r - 0).toNat * d = c * d * b * 2 ^ (q - r - 0).toNat by ac_rfl, this]; ac_rfl
theorem own_rr_congr {a b c d : Nat} (b0 : 0 < b) (d0 : 0 < d) (h : a * d = c * b) : RR a b = RR c d := by
  refine roundRatio_congr b0 d0 ?_
  show a * d * 2 ^ 0 = c * b * 2 ^ 0
  rw [h]
/-- K units of 2^-40 are a number of the format -/
theorem own_unit {K : Nat} (h : K < 2 ^ 53) : ∃ V, fits b64 V ∧ V ≠ .nan ∧ zmag b64 V = K * 2 ^ 1034 := by
  obtain ⟨c, q, e, u⟩ := round_exact good_b64 false (c := K) (q := -40) h (by decide) (by decide)
  refine ⟨_, round_fits good_b64 (.fin false K (-40)), by rw [e]; exact Datum.noConfusion, ?_⟩
  rw [e]; show inUnits c q b64.qmin = _
  rw [u]; rfl
theorem own_le {A B K : Nat} (B0 : 0 < B) (hK : K < 2 ^ 53) (h : A * 2 ^ 40 ≤ K * B) : zmag b64 (RR A B) ≤ K * 2 ^ 1034 := by
  obtain ⟨V, v1, v2, v3⟩ := own_unit hK
  rw [← v3]
  refine zmag_roundRatio_le good_b64 (e0 := b64.qmin) B0 v1 v2 (Int.le_refl _) (by decide) ?_
  rw [v3]
  show A * 2 ^ 1074 ≤ K * 2 ^ 1034 * 2 ^ 0 * B
  rw [show (1074 : Nat) = 40 + 1034 by decide, Nat.pow_add, ← Nat.mul_assoc, Nat.pow_zero, Nat.mul_one, Nat.mul_right_comm K _ B]
  exact Nat.mul_le_mul_right _ h
theorem own_ge {A B K : Nat} (B0 : 0 < B) (hK : K < 2 ^ 53) (h : K * B ≤ A * 2 ^ 40) : K * 2 ^ 1034 ≤ zmag b64 (RR A B) := by
  obtain ⟨V, v1, v2, v3⟩ := own_unit hK
  rw [← v3]
  refine zmag_roundRatio_ge good_b64 (e0 := b64.qmin) B0 v1 (Int.le_refl _) (by decide) ?_
  rw [v3]
  show K * 2 ^ 1034 * 2 ^ 0 * B ≤ A * 2 ^ 1074
  rw [show (1074 : Nat) = 40 + 1034 by decide, Nat.pow_add, ← Nat.mul_assoc, Nat.pow_zero, Nat.mul_one, Nat.mul_right_comm K _ B]
  exact Nat.mul_le_mul_right _ h
theorem own_gap {a h b g : Nat} (h0 : 0 < h) (g0 : 0 < g) (hh : h ≤ 2 ^ 17) (gg : g ≤ 2 ^ 17) (lt : a * g < b * h) : (a * 2 ^ 40 + h - 1) / h < b * 2 ^ 40 / g := by
  have k1 : (a * 2 ^ 40 + h - 1) / h * h ≤ a * 2 ^ 40 + h - 1 := Nat.div_mul_le_self _ _
  have k2 := Nat.lt_mul_div_succ (b * 2 ^ 40) g0
  generalize (a * 2 ^ 40 + h - 1) / h = K at k1 ⊢
  generalize b * 2 ^ 40 / g = L at k2 ⊢
  refine Nat.lt_of_not_le fun q => ?_
  have p1 : L * (g * h) ≤ K * (g * h) := Nat.mul_le_mul_right _ q
  have p2 : K * h * g ≤ (a * 2 ^ 40 + h - 1) * g := Nat.mul_le_mul_right _ k1
  have p3 : (a * 2 ^ 40 + h - 1) * g ≤ (a * 2 ^ 40 + h) * g := Nat.mul_le_mul_right _ (by omega)
  have p4 : b * 2 ^ 40 * h < g * (L + 1) * h := Nat.mul_lt_mul_of_pos_right k2 h0
  have p5 : h * g ≤ 2 ^ 17 * 2 ^ 17 := Nat.mul_le_mul hh gg
  have e1 : (a * 2 ^ 40 + h) * g = a * g * 2 ^ 40 + h * g := by rw [Nat.add_mul]; ac_rfl
  have e2 : g * (L + 1) * h = L * (g * h) + h * g := by rw [Nat.mul_add, Nat.add_mul, Nat.mul_one]; ac_rfl
  have e3 : b * 2 ^ 40 * h = b * h * 2 ^ 40 := by ac_rfl
  have e4 : K * (g * h) = K * h * g := by ac_rfl
  omega
theorem own_lt {a h b g : Nat} (h0 : 0 < h) (g0 : 0 < g) (hh : h ≤ 2 ^ 17) (gg : g ≤ 2 ^ 17) (bg : b ≤ g) (lt : a * g < b * h) : zmag b64 (RR a h) < zmag b64 (RR b g) := by
  have gap := own_gap h0 g0 hh gg lt
  have k1 := Nat.lt_mul_div_succ (a * 2 ^ 40 + h - 1) h0
  have k2 : b * 2 ^ 40 / g * g ≤ b * 2 ^ 40 := Nat.div_mul_le_self _ _
  have k3 : b * 2 ^ 40 / g ≤ 2 ^ 40 := by
    refine Nat.le_of_mul_le_mul_right (c := g) (Nat.le_trans k2 ?_) g0
    rw [Nat.mul_comm]; exact Nat.mul_le_mul_left _ bg
  have r1 := own_le (A := a) (B := h) (K := (a * 2 ^ 40 + h - 1) / h) h0 (by omega) (by rw [Nat.mul_comm _ h]; rw [Nat.mul_add, Nat.mul_one] at k1; omega)
  have r2 := own_ge (A := b) (B := g) (K := b * 2 ^ 40 / g) g0 (by omega) k2
  refine Nat.lt_of_le_of_lt r1 (Nat.lt_of_lt_of_le ?_ r2)
  exact Nat.mul_lt_mul_of_pos_right gap (Nat.two_pow_pos _)
theorem own_zv {a b : Nat} : zval b64 (RR a b) = (zmag b64 (RR a b) : Int) := by
  show signed (sgn (roundRatio b64 false a b 0)) _ = _
  rw [sgn_roundRatio]; rfl
theorem own_cmp {x y : UInt64} {a h b g : Nat} (hx : val64 x = RR a h) (hy : val64 y = RR b g) : dcmp x y = some (compare ((zmag b64 (RR a h) : Int)) (zmag b64 (RR b g) : Int)) := by
  rw [dcmp_zval (by rw [hx]; exact own_rr_ne _ _) (by rw [hy]; exact own_rr_ne _ _), hx, hy, own_zv, own_zv]
theorem own_cmp_lt {x y : UInt64} {a h b g : Nat} (hx : val64 x = RR a h) (hy : val64 y = RR b g) (h0 : 0 < h) (g0 : 0 < g) (hh : h ≤ 2 ^ 17) (gg : g ≤ 2 ^ 17) (bg : b ≤ g) (lt : a * g < b * h) : dcmp x y = some .lt := by
  rw [own_cmp hx hy, (compare_lt_iff _ _).mpr (by have := own_lt h0 g0 hh gg bg lt; omega)]
theorem own_cmp_gt {x y : UInt64} {a h b g : Nat} (hx : val64 x = RR a h) (hy : val64 y = RR b g) (h0 : 0 < h) (g0 : 0 < g) (hh : h ≤ 2 ^ 17) (gg : g ≤ 2 ^ 17) (ah : a ≤ h) (lt : b * h < a * g) : dcmp x y = some .gt := by
  rw [own_cmp hx hy, (compare_gt_iff _ _).mpr (by have := own_lt g0 h0 gg hh ah lt; omega)]
theorem own_cmp_eq {x y : UInt64} {a h b g : Nat} (hx : val64 x = RR a h) (hy : val64 y = RR b g) (h0 : 0 < h) (g0 : 0 < g) (e : a * g = b * h) : dcmp x y = some .eq := by
  rw [own_cmp hx hy, (compare_eq_iff _ _).mpr (by rw [own_rr_congr h0 g0 e])]
theorem own_zero : val64 0 = RR 0 1 := by decide +kernel
theorem own_one : val64 4607182418800017408 = RR 1 1 := by decide +kernel
/-- x is the number v units of 2^-1074, no negative one -/
def Nn (x : UInt64) (v : Nat) : Prop := ∃ c q, val64 x = .fin false c q ∧ zmag b64 (.fin false c q) = v
theorem own_nn_ne {x : UInt64} {v : Nat} (h : Nn x v) : val64 x ≠ .nan := by obtain ⟨c, q, e, -⟩ := h; rw [e]; exact Datum.noConfusion
theorem own_nn_z {x : UInt64} {v : Nat} (h : Nn x v) : zval b64 (val64 x) = (v : Int) := by obtain ⟨c, q, e, z⟩ := h; rw [e, ← z]; rfl
theorem own_nn_l2d {a : Int64} {n : Nat} (h : a.toInt = n) (hn : n < 2 ^ 53) : Nn (l2d a) (n * 2 ^ 1074) := by
  have hw := l2d_whole (a := a) (by unfold Small53; omega)
  obtain ⟨c, q, e⟩ := l2d_shape a
  rw [h, decide_eq_false (by omega)] at e
  have hz := whole_zval good_b64 (val64_fits (l2d a)) hw
  rw [e, h] at hz
  refine ⟨c, q, e, ?_⟩
  have : ((zmag b64 (.fin false c q) : Nat) : Int) = (n : Int) * ((2 ^ 1074 : Nat) : Int) := hz
  rw [← Int.natCast_mul] at this
  exact Int.ofNat.inj this
/-- K times 2^j units are a number of the format -/
theorem own_rep {K j : Nat} (h : K < 2 ^ 53) (hj : j ≤ 2000) : ∃ V, fits b64 V ∧ V ≠ .nan ∧ zmag b64 V = K * 2 ^ j ∧ zval b64 V = ((K * 2 ^ j : Nat) : Int) := by
  have e1 : b64.qmin = -1074 := by decide
  have e3 : b64.qmax = 971 := by decide
  obtain ⟨c, q, e, u⟩ := round_exact good_b64 false (c := K) (q := (j : Int) - 1074) h (by omega) (by omega)
  have z : inUnits c q b64.qmin = K * 2 ^ j := by
    rw [u]; show K * 2 ^ ((j : Int) - 1074 - b64.qmin).toNat = _
    rw [e1, show ((j : Int) - 1074 - -1074).toNat = j by omega]
  refine ⟨_, round_fits good_b64 (.fin false K ((j : Int) - 1074)), by rw [e]; exact Datum.noConfusion, by rw [e]; exact z, ?_⟩
  rw [e]; show signed false (inUnits c q b64.qmin) = _
  rw [z]; rfl
theorem own_fin {d : Datum} (h : zval b64 d < ((b64.tails * 2 ^ (b64.exps - 2) : Nat) : Int)) (h0 : 0 ≤ zval b64 d) (hn : d ≠ .nan) (hs : sgn d = false) : ∃ c q, d = .fin false c q := by
  cases d with
  | nan => exact absurd rfl hn
  | inf s => cases s with
    | true => cases hs
    | false => exact absurd h (Int.lt_irrefl _)
  | fin s c q => exact ⟨c, q, by rw [show s = false from hs]⟩
theorem own_top {K j : Nat} (h : K < 2 ^ 53) (hj : j ≤ 2000) : ((K * 2 ^ j : Nat) : Int) < ((b64.tails * 2 ^ (b64.exps - 2) : Nat) : Int) := by
  have e1 : b64.tails * 2 ^ (b64.exps - 2) = 2 ^ 52 * 2 ^ (2000 + 46) := by decide +kernel
  rw [e1]
  refine Int.ofNat_lt.mpr ?_
  have h1 : K * 2 ^ j < 2 ^ 53 * 2 ^ j := Nat.mul_lt_mul_of_pos_right h (Nat.two_pow_pos _)
  have h2 : 2 ^ 53 * 2 ^ j ≤ 2 ^ 53 * 2 ^ 2000 := Nat.mul_le_mul_left _ (Nat.pow_le_pow_right (by decide) hj)
  have h3 : 2 ^ 53 * 2 ^ 2000 ≤ 2 ^ 52 * 2 ^ (2000 + 46) := by rw [← Nat.pow_add, ← Nat.pow_add]; exact Nat.pow_le_pow_right (by decide) (by decide)
  exact Nat.lt_of_lt_of_le h1 (Nat.le_trans h2 h3)
theorem own_sum {x y : UInt64} {n m j : Nat} (hx : Nn x (n * 2 ^ j)) (hy : Nn y (m * 2 ^ j)) (h : n + m < 2 ^ 53) (hj : j ≤ 2000) : Nn (dadd x y) ((n + m) * 2 ^ j) := by
  have fx := val64_fits x
  have fy := val64_fits y
  obtain ⟨c, q, e1, z1⟩ := hx
  obtain ⟨d, r, e2, z2⟩ := hy
  rw [e1] at fx; rw [e2] at fy
  obtain ⟨V, v1, v2, v3, v4⟩ := own_rep h hj
  obtain ⟨sg, N, e, s1, s2, s3⟩ := sum_units fx fy
  have s4 : signed sg (inUnits N e b64.qmin) = zval b64 V := by
    rw [s3, v4]
    show ((zmag b64 (.fin false c q) : Nat) : Int) + ((zmag b64 (.fin false d r) : Nat) : Int) = _
    rw [z1, z2, Nat.add_mul]; rfl
  have hv : val64 (dadd x y) = round b64 (.fin sg N e) := by rw [val64_dadd, e1, e2, s1]
  have one : ((2 ^ (b64.qmin - b64.qmin).toNat : Nat) : Int) = 1 := by rw [Int.sub_self]; rfl
  have l1 := zval_round_le good_b64 (s := sg) (c := N) (q := e) (e0 := b64.qmin) v1 v2 (Int.le_refl _) s2 (by rw [one, Int.mul_one, s4]; exact Int.le_refl _)
  have l2 := zval_round_ge good_b64 (s := sg) (c := N) (q := e) (e0 := b64.qmin) v1 v2 (Int.le_refl _) s2 (by rw [one, Int.mul_one, s4]; exact Int.le_refl _)
  have l3 : zval b64 (val64 (dadd x y)) = ((n + m) * 2 ^ j : Nat) := by rw [hv, ← v4]; exact Int.le_antisymm l1 l2
  have sgf : sg = false := by
    have : exactSum (.fin false c q) (.fin false d r) = .fin sg N e := s1
    have h2 : sumSign false false (sumUnits false c q false d r (min q r)) = sg := by
      have h3 := this; unfold exactSum at h3; exact (Datum.fin.inj h3).1
    rw [← h2]; unfold sumSign
    have : 0 ≤ sumUnits false c q false d r (min q r) := by unfold sumUnits signed; exact Int.add_nonneg (Int.natCast_nonneg _) (Int.natCast_nonneg _)
    split
    · rfl
    · exact decide_eq_false (Int.not_lt.mpr this)
  obtain ⟨c', q', e'⟩ := own_fin (by rw [l3]; exact own_top h hj) (by rw [l3]; exact Int.natCast_nonneg _) (by rw [hv]; exact roundRatio_ne_nan _ _ _ _ _) (by rw [hv, sgf]; exact sgn_roundRatio _ _ _ _ _)
  refine ⟨c', q', e', ?_⟩
  rw [e'] at l3
  exact Int.ofNat.inj l3
/-- bounds for a product -/
theorem own_prod {x y : UInt64} {u v : Nat} (hx : Nn x u) (hy : Nn y v) : ∃ N e, val64 (dmul x y) = round b64 (.fin false N e) ∧ 2 * b64.qmin ≤ e ∧ inUnits N e (2 * b64.qmin) = u * v := by
  have fx := val64_fits x
  have fy := val64_fits y
  obtain ⟨c, q, e1, z1⟩ := hx
  obtain ⟨d, r, e2, z2⟩ := hy
  rw [e1] at fx; rw [e2] at fy
  obtain ⟨p1, p2, p3⟩ := product_units fx fy
  exact ⟨c * d, q + r, by rw [val64_dmul, e1, e2, p1]; rfl, p2, by rw [p3, z1, z2]⟩
theorem own_prod_le {x y : UInt64} {u v K j : Nat} (hx : Nn x u) (hy : Nn y v) (hK : K < 2 ^ 53) (hj : j ≤ 2000) (h : u * v ≤ K * 2 ^ j * 2 ^ 1074) : zval b64 (val64 (dmul x y)) ≤ ((K * 2 ^ j : Nat) : Int) := by
  obtain ⟨N, e, p1, p2, p3⟩ := own_prod hx hy
  obtain ⟨V, v1, v2, v3, v4⟩ := own_rep hK hj
  rw [p1, ← v4]
  refine zval_round_le good_b64 (e0 := 2 * b64.qmin) v1 v2 (by decide) p2 ?_
  rw [v4]
  show ((inUnits N e (2 * b64.qmin) : Nat) : Int) ≤ _ * ((2 ^ 1074 : Nat) : Int)
  rw [p3, ← Int.natCast_mul]; exact Int.ofNat_le.mpr h
theorem own_prod_ge {x y : UInt64} {u v K j : Nat} (hx : Nn x u) (hy : Nn y v) (hK : K < 2 ^ 53) (hj : j ≤ 2000) (h : K * 2 ^ j * 2 ^ 1074 ≤ u * v) : ((K * 2 ^ j : Nat) : Int) ≤ zval b64 (val64 (dmul x y)) := by
  obtain ⟨N, e, p1, p2, p3⟩ := own_prod hx hy
  obtain ⟨V, v1, v2, v3, v4⟩ := own_rep hK hj
  rw [p1, ← v4]
  refine zval_round_ge good_b64 (e0 := 2 * b64.qmin) v1 v2 (by decide) p2 ?_
  rw [v4]
  show _ * ((2 ^ 1074 : Nat) : Int) ≤ ((inUnits N e (2 * b64.qmin) : Nat) : Int)
  rw [p3, ← Int.natCast_mul]; exact Int.ofNat_le.mpr h
theorem own_nn_of {x : UInt64} {N : Nat} {e : Int} {v : Nat} (hv : val64 x = round b64 (.fin false N e)) (hz : zval b64 (val64 x) = (v : Int)) (ht : (v : Int) < ((b64.tails * 2 ^ (b64.exps - 2) : Nat) : Int)) : Nn x v := by
  obtain ⟨c', q', e'⟩ := own_fin (by rw [hz]; exact ht) (by rw [hz]; exact Int.natCast_nonneg _) (by rw [hv]; exact roundRatio_ne_nan _ _ _ _ _) (by rw [hv]; exact sgn_roundRatio _ _ _ _ _)
  refine ⟨c', q', e', ?_⟩
  rw [e'] at hz
  exact Int.ofNat.inj hz
theorem own_prod_eq {x y : UInt64} {u v K j : Nat} (hx : Nn x u) (hy : Nn y v) (hK : K < 2 ^ 53) (hj : j ≤ 2000) (h : u * v = K * 2 ^ j * 2 ^ 1074) : Nn (dmul x y) (K * 2 ^ j) := by
  obtain ⟨N, e, p1, -⟩ := own_prod hx hy
  exact own_nn_of p1 (Int.le_antisymm (own_prod_le hx hy hK hj (Nat.le_of_eq h)) (own_prod_ge hx hy hK hj (Nat.le_of_eq h.symm))) (own_top hK hj)
theorem own_quot {x y : UInt64} {a b j : Nat} (hx : Nn x (a * 2 ^ j)) (hy : Nn y (b * 2 ^ j)) (b0 : 0 < b) : val64 (ddiv x y) = RR a b := by
  have fx := val64_fits x
  have fy := val64_fits y
  obtain ⟨c, q, e1, z1⟩ := hx
  obtain ⟨d, r, e2, z2⟩ := hy
  rw [e1] at fx; rw [e2] at fy
  have z1' : c * 2 ^ (q - b64.qmin).toNat = a * 2 ^ j := z1
  have z2' : d * 2 ^ (r - b64.qmin).toNat = b * 2 ^ j := z2
  have e3 : b64.qmin = -1074 := by decide
  have q0 := fx.2.1
  have r0 := fy.2.1
  have d0 : d ≠ 0 := fun z => by
    rw [z, Nat.zero_mul] at z2'
    have := Nat.mul_pos b0 (Nat.two_pow_pos j)
    omega
  rw [val64_ddiv, e1, e2]
  show (if d = 0 then _ else roundRatio b64 (false != false) c d (q - r)) = roundRatio b64 false a b 0
  rw [if_neg d0]
  refine roundRatio_congr (by omega) b0 ?_
  refine Nat.eq_of_mul_eq_mul_right (Nat.two_pow_pos (min q r - b64.qmin).toNat) ?_
  have h1 : (q - r - 0).toNat + (min q r - b64.qmin).toNat = (q - b64.qmin).toNat := by omega
  have h2 : (0 - (q - r)).toNat + (min q r - b64.qmin).toNat = (r - b64.qmin).toNat := by omega
  have g1 : c * b * 2 ^ (q - r - 0).toNat * 2 ^ (min q r - b64.qmin).toNat = c * 2 ^ (q - b64.qmin).toNat * b := by rw [← h1, Nat.pow_add]; ac_rfl
  have g2 : a * d * 2 ^ (0 - (q - r)).toNat * 2 ^ (min q r - b64.qmin).toNat = a * (d * 2 ^ (r - b64.qmin).toNat) := by rw [← h2, Nat.pow_add]; ac_rfl
  rw [g1, g2, z1', z2']; ac_rfl
theorem own_rr_le {A B K : Nat} (B0 : 0 < B) (hK : K < 2 ^ 53) (h : A * 2 ^ 52 ≤ K * B) : zmag b64 (RR A B) ≤ K * 2 ^ 1022 := by
  obtain ⟨V, v1, v2, v3, -⟩ := own_rep hK (j := 1022) (by decide)
  rw [← v3]
  refine zmag_roundRatio_le good_b64 (e0 := b64.qmin) B0 v1 v2 (Int.le_refl _) (by decide) ?_
  rw [v3]
  show A * 2 ^ 1074 ≤ K * 2 ^ 1022 * 2 ^ 0 * B
  rw [show (1074 : Nat) = 52 + 1022 by decide, Nat.pow_add, ← Nat.mul_assoc, Nat.pow_zero, Nat.mul_one, Nat.mul_right_comm K _ B]
  exact Nat.mul_le_mul_right _ h
theorem own_rr_ge {A B K : Nat} (B0 : 0 < B) (hK : K < 2 ^ 53) (h : K * B ≤ A * 2 ^ 52) : K * 2 ^ 1022 ≤ zmag b64 (RR A B) := by
  obtain ⟨V, v1, v2, v3, -⟩ := own_rep hK (j := 1022) (by decide)
  rw [← v3]
  refine zmag_roundRatio_ge good_b64 (e0 := b64.qmin) B0 v1 (Int.le_refl _) (by decide) ?_
  rw [v3]
  show K * 2 ^ 1022 * 2 ^ 0 * B ≤ A * 2 ^ 1074
  rw [show (1074 : Nat) = 52 + 1022 by decide, Nat.pow_add, ← Nat.mul_assoc, Nat.pow_zero, Nat.mul_one, Nat.mul_right_comm K _ B]
  exact Nat.mul_le_mul_right _ h

theorem own_nn_rr {x : UInt64} {a b : Nat} (h : val64 x = RR a b) (b0 : 0 < b) (ab : a ≤ b) : Nn x (zmag b64 (RR a b)) := by
  have hz : zval b64 (val64 x) = ((zmag b64 (RR a b) : Nat) : Int) := by rw [h, own_zv]
  have le := own_rr_le (A := a) (B := b) (K := 2 ^ 52) b0 (by decide) (by rw [Nat.mul_comm]; exact Nat.mul_le_mul_left _ ab)
  have top := own_top (K := 2 ^ 52) (j := 1022) (by decide) (by decide)
  obtain ⟨c', q', e'⟩ := own_fin (by rw [hz]; exact Int.lt_of_le_of_lt (Int.ofNat_le.mpr le) top) (by rw [hz]; exact Int.natCast_nonneg _) (by rw [h]; exact own_rr_ne _ _) (by rw [h]; exact sgn_roundRatio _ _ _ _ _)
  refine ⟨c', q', e', ?_⟩
  rw [e'] at hz
  exact Int.ofNat.inj hz
theorem own_b1 {f n : Nat} (fn : f ≤ n) (n1 : n ≤ 4096) : f * 2 ^ 40 + 1 < 2 ^ 53 := by omega
theorem own_g1 {M A n : Nat} (k1 : M ≤ A * 4096) (n1 : n ≤ 4096) : M + n ≤ (A + 1) * 4096 := by omega
theorem own_g2 {M A n : Nat} (k2 : A * 4096 < M + n) (n1 : n ≤ 4096) : (A - 1) * 4096 ≤ M := by omega
theorem own_e52 (f : Nat) : f * 2 ^ 52 = f * 2 ^ 40 * 4096 := by rw [Nat.mul_assoc]
/-- share times count: within 2^-40 of the failures -/
theorem own_t1 {r w : UInt64} {f n : Nat} (hr : val64 r = RR f n) (hw : Nn w (n * 2 ^ 1074)) (n0 : 0 < n) (fn : f ≤ n) (n1 : n ≤ 4096) : Nn (dmul r w) (zmag b64 (val64 (dmul r w))) ∧ ((f * 2 ^ 40 - 1) * 2 ^ 1034 ≤ zmag b64 (val64 (dmul r w)) ∧ zmag b64 (val64 (dmul r w)) ≤ (f * 2 ^ 40 + 1) * 2 ^ 1034) := by
  have hn := own_nn_rr hr n0 fn
  have k2 := Nat.lt_mul_div_succ (f * 2 ^ 52) n0
  have k1 : f * 2 ^ 52 / n * n ≤ f * 2 ^ 52 := Nat.div_mul_le_self _ _
  generalize f * 2 ^ 52 / n = K at k1 k2
  have k3 : f * 2 ^ 52 ≤ (K + 1) * n := by rw [Nat.mul_comm (K + 1)]; exact Nat.le_of_lt k2
  rw [Nat.mul_add, Nat.mul_one, Nat.mul_comm n K] at k2
  have kb : K ≤ 2 ^ 52 := by
    refine Nat.le_of_mul_le_mul_right (c := n) (Nat.le_trans k1 ?_) n0
    rw [Nat.mul_comm]; exact Nat.mul_le_mul_left _ fn
  have b1 := own_b1 fn n1
  have b2 : f * 2 ^ 40 - 1 < 2 ^ 53 := Nat.lt_of_le_of_lt (Nat.le_trans (Nat.sub_le _ _) (Nat.le_succ _)) b1
  have b3 : K + 1 < 2 ^ 53 := by clear hn hw k3 k2 k1 b1 b2; omega
  have b4 : K < 2 ^ 53 := Nat.lt_of_succ_lt b3
  have g1 : (K + 1) * n ≤ (f * 2 ^ 40 + 1) * 4096 := by rw [Nat.add_mul, Nat.one_mul]; exact own_g1 (own_e52 f ▸ k1) n1
  have g2 : (f * 2 ^ 40 - 1) * 4096 ≤ K * n := own_g2 (own_e52 f ▸ k2) n1
  have r1 := own_rr_ge (A := f) (B := n) (K := K) n0 b4 k1
  have r2 := own_rr_le (A := f) (B := n) (K := K + 1) n0 b3 k3
  have e0 : (2 : Nat) ^ 1034 = 4096 * 2 ^ 1022 := by rw [show (4096 : Nat) = 2 ^ 12 by decide, ← Nat.pow_add]
  have hle := own_prod_le (K := f * 2 ^ 40 + 1) (j := 1034) hn hw b1 (by decide) (by
    refine Nat.le_trans (Nat.mul_le_mul_right _ r2) ?_
    rw [e0]
    generalize (2 : Nat) ^ 1022 = W
    generalize (2 : Nat) ^ 1074 = X
    have := Nat.mul_le_mul_right (W * X) g1
    calc (K + 1) * W * (n * X) = (K + 1) * n * (W * X) := by ac_rfl
      _ ≤ _ := this
      _ = _ := by ac_rfl)
  have hge := own_prod_ge (K := f * 2 ^ 40 - 1) (j := 1034) hn hw b2 (by decide) (by
    refine Nat.le_trans ?_ (Nat.mul_le_mul_right _ r1)
    rw [e0]
    generalize (2 : Nat) ^ 1022 = W
    generalize (2 : Nat) ^ 1074 = X
    have := Nat.mul_le_mul_right (W * X) g2
    calc (f * 2 ^ 40 - 1) * (4096 * W) * X = (f * 2 ^ 40 - 1) * 4096 * (W * X) := by ac_rfl
      _ ≤ _ := this
      _ = _ := by ac_rfl)
  obtain ⟨N, e, p1, -⟩ := own_prod hn hw
  have sg : sgn (val64 (dmul r w)) = false := by rw [p1]; exact sgn_roundRatio _ _ _ _ _
  have hz : zval b64 (val64 (dmul r w)) = ((zmag b64 (val64 (dmul r w)) : Nat) : Int) := by unfold zval; rw [sg]; rfl
  rw [hz] at hle hge
  exact ⟨own_nn_of p1 hz (Int.lt_of_le_of_lt hle (own_top b1 (by decide))), Int.ofNat_le.mp hge, Int.ofNat_le.mp hle⟩
theorem own_t2 {P F : UInt64} {u f : Nat} (hP : Nn P u) (hF : Nn F (f * 2 ^ 1074)) (h1 : (f * 2 ^ 40 - 1) * 2 ^ 1034 ≤ u) (h2 : u ≤ (f * 2 ^ 40 + 1) * 2 ^ 1034) : val64 (dsub P F) ≠ .nan ∧ zval b64 (val64 (dsub P F)) ≤ ((2 ^ 1034 : Nat) : Int) ∧ -((2 ^ 1034 : Nat) : Int) ≤ zval b64 (val64 (dsub P F)) := by
  have fx := val64_fits P
  have fy := val64_fits F
  obtain ⟨c, q, e1, z1⟩ := hP
  obtain ⟨d, r, e2, z2⟩ := hF
  rw [e1] at fx; rw [e2] at fy
  obtain ⟨V, v1, v2, v3, v4⟩ := own_rep (K := 1) (j := 1034) (by decide) (by decide)
  obtain ⟨sg, N, e, s1, s2, s3⟩ := sum_units fx (negate_fits fy)
  have hv : val64 (dsub P F) = round b64 (.fin sg N e) := by rw [val64_dsub, e1, e2, ← s1]; rfl
  have s4 : signed sg (inUnits N e b64.qmin) = (u : Int) - ((f * 2 ^ 1074 : Nat) : Int) := by
    rw [s3]
    show _ + zval b64 (negate (.fin false d r)) = _
    rw [zval_negate]
    show ((zmag b64 (.fin false c q) : Nat) : Int) + -((zmag b64 (.fin false d r) : Nat) : Int) = _
    rw [z1, z2]; rfl
  have one : ((2 ^ (b64.qmin - b64.qmin).toNat : Nat) : Int) = 1 := by rw [Int.sub_self]; rfl
  have e0 : f * 2 ^ 1074 = f * 2 ^ 40 * 2 ^ 1034 := by rw [Nat.mul_assoc, ← Nat.pow_add]
  rw [e0] at s4
  rw [Nat.one_mul] at v4
  generalize (2 : Nat) ^ 1034 = W at *
  rw [Nat.sub_mul, Nat.one_mul] at h1
  rw [Nat.add_mul, Nat.one_mul] at h2
  refine ⟨by rw [hv]; exact roundRatio_ne_nan _ _ _ _ _, ?_, ?_⟩
  · rw [hv, ← v4]
    exact zval_round_le good_b64 (e0 := b64.qmin) v1 v2 (Int.le_refl _) s2 (by rw [one, Int.mul_one, s4, v4]; omega)
  · rw [hv, ← v4, ← zval_negate]
    exact zval_round_ge good_b64 (e0 := b64.qmin) (negate_fits v1) (negate_ne_nan v2) (Int.le_refl _) s2 (by rw [one, Int.mul_one, s4, zval_negate, v4]; omega)
theorem own_eps : ((2 ^ 1034 : Nat) : Int) < zval b64 (val64 4472406533629990549) ∧ zval b64 (val64 13695778570484766357) < -((2 ^ 1034 : Nat) : Int) := by decide +kernel
theorem own_half : val64 4602678819172646912 = RR 1 2 := by decide +kernel
end OwnFl
namespace Jvm.Pilot.@@N@@
open Jvm Jvm.ClassFile Sem Op Lib Jvm.Free Jvm.Stand Jvm.LawKit Jvm.RoadKit Bundle Jvm.Pilot.@@N@@.Jvm.D
theorem own_selp {s : State} {args : Array Value} {C : String} {y : MethodName} (h : (Cond.selects C y y).before args s = true) (hpriv : s.PrivateAt y) (hinst : (Cond.instanceMethod y).before args s = true) (hy : y.cls ≠ "java/lang/invoke/MethodHandle" ∧ y.cls ≠ "java/lang/invoke/VarHandle") :
    (Cond.selects y.cls y y).before args s = true := by
  obtain ⟨c, r, mm, -, hr, hm, -, mk, hmk, hni⟩ := Cond.selects_spec h
  obtain ⟨mk', methM, hnamed, hmethM, -, -⟩ := Cond.instanceMethod_spec hinst
  cases hm.symm.trans hnamed
  have hfound : s.methodFound? y.cls y.name y.desc = some mm := State.methodFound?_of_named hnamed hy
  have hsel : selectMethod {} s.vm mm.cls mm = .method mm := selectMethod_private hmethM (hpriv mm methM hnamed hmethM)
  simp only [Cond.before, Cond.holds, Cond.value, findClass_of_methodNamed hnamed, hfound, hnamed, hsel, hmk]
  simp; exact hni
theorem own_nf {s : State} {a0 : Array Value} {y y' : MethodName} (h : NotFace s y) (hd : (Jvm.Cond.declares y).before a0 s = true) (e : y.cls = y'.cls) : NotFace s y' := fun r0 h0 => by
  obtain ⟨m, meth, hn, -, -, -⟩ := Cond.declares_spec hd
  obtain ⟨kr, hk, hi⟩ := h m hn
  have a := findClass_of_methodNamed hn
  have b := findClass_of_methodNamed h0
  rw [e] at a
  have c := Option.some.inj (a.symm.trans b)
  exact ⟨kr, by rw [← c]; exact hk, hi⟩
theorem own_same {Z : State} {a0 : Array Value} {y : MethodName} (hf : NotFace Z y) (h : (Jvm.Cond.declares y).before a0 Z = true) (hy : y.cls ≠ "java/lang/invoke/MethodHandle" ∧ y.cls ≠ "java/lang/invoke/VarHandle") : (Jvm.Cond.sameMethod y.cls y.cls y.name y.desc).before a0 Z = true := by
  obtain ⟨m, meth, hn, hm, -, -⟩ := Cond.declares_spec h
  have hfc := findClass_of_methodNamed hn
  have hfo := State.methodFound?_of_named hn hy
  have hn' : Z.methodNamed? ⟨y.cls, y.name, y.desc⟩ = some m := hn
  obtain ⟨kr, hk, hi⟩ := hf m hn
  simp [Cond.before, Cond.holds, Cond.value, hfc, hfo, hn', hk, hi]
theorem own_wd {Z : State} {a0 : Array Value} (hw : ∀ d ∈ tables_1, d.before a0 Z = true) (i : Nat) {d : Jvm.Cond} (h : tables_1[i]? = some d) : d.before a0 Z = true := hw _ (List.mem_of_getElem? h)
def own_b (P : Prop) [Decidable P] : Int32 := if P then (1 : Int32) else (0 : Int32)
theorem own_bt {P : Prop} [Decidable P] (h : P) : own_b P = (1 : Int32) := if_pos h
theorem own_bf {P : Prop} [Decidable P] (h : ¬ P) : own_b P = (0 : Int32) := if_neg h
theorem own_btn {P : Prop} [Decidable P] (h : P) : ¬ (own_b P = (0 : Int32)) := by rw [own_bt h]; decide
theorem own_bfn {P : Prop} [Decidable P] (h : ¬ P) : ¬ (own_b P = (1 : Int32)) := by rw [own_bf h]; decide
theorem own_b_congr {P Q : Prop} [Decidable P] [Decidable Q] (h : P ↔ Q) : own_b P = own_b Q := by
  by_cases q : P
  · rw [own_bt q, own_bt (h.mp q)]
  · rw [own_bf q, own_bf fun z => q (h.mpr z)]
theorem own_eqI {args : Array Value} {s : State} {t : Term} {k : Int32} (h : (Jvm.Cond.eq t (.int k)).value args s none s [] = some true) : t.eval args s none [] s = some (.int k) := by
  obtain ⟨x, y, h1, h2, -, h4⟩ := cmp_v (Or.inl h)
  cases Option.some.inj (h2.symm.trans (Term.int_eval k))
  obtain ⟨z, rfl⟩ := h4
  rw [h1, gotT (Cond.eq_ints h1 h2) h]
theorem own_eqR {args : Array Value} {s : State} {t u : Term} {y : Addr} (hu : u.eval args s none [] s = some (.ref y)) (h : (Jvm.Cond.eq t u).value args s none s [] = some true) : t.eval args s none [] s = some (.ref y) := by
  obtain ⟨x, y', h1, h2, -, h4⟩ := cmp_v (Or.inl h)
  cases Option.some.inj (h2.symm.trans hu)
  rw [h1, gotT (eq_R h1 h2 h4.2 rfl) h]
theorem own_len {args : Array Value} {s : State} {t : Term} {a : Addr} {cl : Cell} {ty : FieldType} {k : Int32} (ev : t.eval args s none [] s = some (.ref a)) (A : Arr s s.heap a cl ty) (h : (Term.length t).eval args s none [] s = some (.int k)) : cl.slots.size < 2 ^ 31 ∧ cl.slots.size.toInt32 = k := by
  have ha : s.arrayAt? a = some cl := A.fin (Vm.Alike.refl _)
  by_cases hl : cl.slots.size < 2 ^ 31
  · rw [len_f ev ha hl] at h
    exact ⟨hl, by simpa using h⟩
  · simp [Term.eval, ev, ha, hl] at h
theorem own_eqL {args : Array Value} {s : State} {t : Term} {k : Int64} (h : (Jvm.Cond.eq t (.long k)).value args s none s [] = some true) : t.eval args s none [] s = some (.long k) := by
  obtain ⟨x, y, h1, h2, -, h4⟩ := cmp_v (Or.inl h)
  cases Option.some.inj (h2.symm.trans (long_at k))
  obtain ⟨z, rfl⟩ := h4
  rw [h1, gotT (eq_L h1 h2) h]
theorem own_nnv {x : UInt64} (h : Jvm.FP.Core.val64 x ≠ .nan) : Jvm.Free.Fl.NoNaN64 x := Jvm.Free.Fl.val64_no.mpr h
theorem own_mk {s x : Int32} (e : s = x &&& (1023 : Int32)) : ∃ S : Nat, s.toInt = (S : Int) ∧ S ≤ 1023 := by
  have m := c_mask x (1023 : Int32) 10 (by decide) (by decide)
  rw [← e] at m
  exact ⟨s.toInt.toNat, by omega, by omega⟩
theorem own_kk {s x : Int32} (e : s = (x &&& (1023 : Int32)) + (1 : Int32)) : ∃ S : Nat, s.toInt = (S : Int) ∧ 1 ≤ S ∧ S ≤ 1024 := by
  have m := c_mask x (1023 : Int32) 10 (by decide) (by decide)
  have a := c_iadd (x &&& (1023 : Int32)) (1 : Int32)
  have r := rng32 ((x &&& (1023 : Int32)) + (1 : Int32))
  rw [← e] at a r
  rw [m, show (1 : Int32).toInt = 1 by decide] at a
  exact ⟨s.toInt.toNat, by omega, by omega, by omega⟩
theorem own_eq32 {a b : Int32} (h : a.toInt = b.toInt) : a = b := Int32.toInt_inj.mp h
theorem own_un {e x : Int32} (he : e = x &&& (7 : Int32)) : ∃ E : Nat, E ≤ 7 ∧ OwnFl.Nn (FP.ddiv (4607182418800017408 : UInt64) (FP.i2d ((1 : Int32) <<< (e &&& 31)))) (1 * 2 ^ (1074 - E)) := by
  have m := c_mask x (7 : Int32) 3 (by decide) (by decide)
  rw [← he] at m
  have q : e = 0 ∨ e = 1 ∨ e = 2 ∨ e = 3 ∨ e = 4 ∨ e = 5 ∨ e = 6 ∨ e = 7 := by
    have : e.toInt = 0 ∨ e.toInt = 1 ∨ e.toInt = 2 ∨ e.toInt = 3 ∨ e.toInt = 4 ∨ e.toInt = 5 ∨ e.toInt = 6 ∨ e.toInt = 7 := by omega
    rcases this with h | h | h | h | h | h | h | h
    · exact Or.inl (own_eq32 h)
    · exact Or.inr (Or.inl (own_eq32 h))
    · exact Or.inr (Or.inr (Or.inl (own_eq32 h)))
    · exact Or.inr (Or.inr (Or.inr (Or.inl (own_eq32 h))))
    · exact Or.inr (Or.inr (Or.inr (Or.inr (Or.inl (own_eq32 h)))))
    · exact Or.inr (Or.inr (Or.inr (Or.inr (Or.inr (Or.inl (own_eq32 h))))))
    · exact Or.inr (Or.inr (Or.inr (Or.inr (Or.inr (Or.inr (Or.inl (own_eq32 h)))))))
    · exact Or.inr (Or.inr (Or.inr (Or.inr (Or.inr (Or.inr (Or.inr (own_eq32 h)))))))
  clear m he
  rcases q with rfl | rfl | rfl | rfl | rfl | rfl | rfl | rfl
  · exact ⟨0, by decide, 2 ^ 52, -52, by decide +kernel, by decide +kernel⟩
  · exact ⟨1, by decide, 2 ^ 52, -53, by decide +kernel, by decide +kernel⟩
  · exact ⟨2, by decide, 2 ^ 52, -54, by decide +kernel, by decide +kernel⟩
  · exact ⟨3, by decide, 2 ^ 52, -55, by decide +kernel, by decide +kernel⟩
  · exact ⟨4, by decide, 2 ^ 52, -56, by decide +kernel, by decide +kernel⟩
  · exact ⟨5, by decide, 2 ^ 52, -57, by decide +kernel, by decide +kernel⟩
  · exact ⟨6, by decide, 2 ^ 52, -58, by decide +kernel, by decide +kernel⟩
  · exact ⟨7, by decide, 2 ^ 52, -59, by decide +kernel, by decide +kernel⟩
theorem own_ni {a : Int32} {n : Nat} (e : a.toInt = (n : Int)) : OwnFl.Nn (FP.i2d a) (n * 2 ^ 1074) := by
  have r := rng32 a
  rw [i2d_w]
  exact OwnFl.own_nn_l2d (by rw [Int32.toInt_toInt64]; exact e) (by omega)
theorem own_sc {s u : UInt64} {n E : Nat} (hs : OwnFl.Nn s (n * 2 ^ 1074)) (hu : OwnFl.Nn u (1 * 2 ^ (1074 - E))) (hn : n < 2 ^ 53) : OwnFl.Nn (FP.dmul s u) (n * 2 ^ (1074 - E)) := by
  refine OwnFl.own_prod_eq hs hu hn (by omega) ?_
  rw [Nat.one_mul]; exact Nat.mul_right_comm _ _ _
theorem own_m32 {a b : Int32} {A B : Nat} (ea : a.toInt = (A : Int)) (eb : b.toInt = (B : Int)) (hA : A ≤ 1023) (hB : B ≤ 1024) : (a * b).toInt = ((A * B : Nat) : Int) := by
  have m := c_imul a b
  have r := rng32 (a * b)
  have p : A * B ≤ 1023 * 1024 := Nat.mul_le_mul hA hB
  rw [ea, eb, ← Int.natCast_mul] at m
  omega
theorem own_a32 {a b : Int32} {A B : Nat} (ea : a.toInt = (A : Int)) (eb : b.toInt = (B : Int)) (hA : A ≤ 100000) (hB : B ≤ 100000) : (a + b).toInt = ((A + B : Nat) : Int) := by
  have m := c_iadd a b
  have r := rng32 (a + b)
  omega
theorem own_one1 : (1 : Int32).toInt = ((1 : Nat) : Int) := by decide
section Tot
variable {s f : UInt64} {a b j : Nat}
theorem own_tn (hs : OwnFl.Nn s (a * 2 ^ j)) (hf : OwnFl.Nn f (b * 2 ^ j)) (h : a + b < 2 ^ 53) (hj : j ≤ 2000) : Jvm.Free.Fl.NoNaN64 (FP.dadd s f) := own_nnv (OwnFl.own_nn_ne (OwnFl.own_sum hs hf h hj))
theorem own_tp (hs : OwnFl.Nn s (a * 2 ^ j)) (hf : OwnFl.Nn f (b * 2 ^ j)) (h : a + b < 2 ^ 53) (hj : j ≤ 2000) (p : 0 < a + b) : (0 : Int32) < (cmpValue (FP.dcmp (FP.dadd s f) (0 : UInt64)) .l) := by
  have n := OwnFl.own_sum hs hf h hj
  have z := OwnFl.own_nn_z n
  have e : FP.dcmp (FP.dadd s f) (0 : UInt64) = some .gt := by
    show Jvm.FP.Core.dcmp _ _ = _
    rw [Jvm.FP.Core.dcmp_zval (OwnFl.own_nn_ne n) (by rw [Jvm.FP.Core.val64_zero]; exact Jvm.FP.Core.Datum.noConfusion), z, Jvm.FP.Core.zval64_zero, (Jvm.FP.Core.compare_gt_iff _ _).mpr]
    exact Int.ofNat_lt.mpr (Nat.mul_pos p (Nat.two_pow_pos _))
  rw [e]; decide
theorem own_tz (hs : OwnFl.Nn s (a * 2 ^ j)) (hf : OwnFl.Nn f (b * 2 ^ j)) (h : a + b < 2 ^ 53) (hj : j ≤ 2000) (p : a + b = 0) : ¬ ((0 : Int32) < (cmpValue (FP.dcmp (FP.dadd s f) (0 : UInt64)) .l)) := by
  have n := OwnFl.own_sum hs hf h hj
  have z := OwnFl.own_nn_z n
  rw [p, Nat.zero_mul] at z
  have e : FP.dcmp (FP.dadd s f) (0 : UInt64) = some .eq := by
    show Jvm.FP.Core.dcmp _ _ = _
    rw [Jvm.FP.Core.dcmp_zval (OwnFl.own_nn_ne n) (by rw [Jvm.FP.Core.val64_zero]; exact Jvm.FP.Core.Datum.noConfusion), z, Jvm.FP.Core.zval64_zero]; rfl
  rw [e]; decide
theorem own_tv (hs : OwnFl.Nn s (a * 2 ^ j)) (hf : OwnFl.Nn f (b * 2 ^ j)) (h : a + b < 2 ^ 53) (hj : j ≤ 2000) (p : 0 < a + b) : Jvm.FP.Core.val64 (FP.ddiv f (FP.dadd s f)) = OwnFl.RR b (a + b) := OwnFl.own_quot hf (OwnFl.own_sum hs hf h hj) p
theorem own_td (hs : OwnFl.Nn s (a * 2 ^ j)) (hf : OwnFl.Nn f (b * 2 ^ j)) (h : a + b < 2 ^ 53) (hj : j ≤ 2000) (p : 0 < a + b) : Jvm.Free.Fl.NoNaN64 (FP.ddiv f (FP.dadd s f)) := own_nnv (by rw [own_tv hs hf h hj p]; exact OwnFl.own_rr_ne _ _)
end Tot
theorem own_vlt {r : Option Ordering} (h : r = some .lt) (o : CmpOp) : cmpValue r o < (0 : Int32) := by subst h; cases o <;> decide
theorem own_vgt {r : Option Ordering} (h : r = some .gt) (o : CmpOp) : (0 : Int32) < cmpValue r o := by subst h; cases o <;> decide
theorem own_veq {r : Option Ordering} (h : r = some .eq) (o : CmpOp) : cmpValue r o = (0 : Int32) := by subst h; cases o <;> decide
theorem own_vnl {r : Option Ordering} (h : r = some .eq ∨ r = some .gt) (o : CmpOp) : ¬ (cmpValue r o < (0 : Int32)) := by rcases h with h | h <;> subst h <;> cases o <;> decide
theorem own_vng {r : Option Ordering} (h : r = some .eq ∨ r = some .lt) (o : CmpOp) : ¬ ((0 : Int32) < cmpValue r o) := by rcases h with h | h <;> subst h <;> cases o <;> decide
theorem own_r0 {x : UInt64} {a b : Nat} (h : Jvm.FP.Core.val64 x = OwnFl.RR a b) (b0 : 0 < b) (b1 : b ≤ 2 ^ 17) (ab : a ≤ b) : FP.dcmp x (0 : UInt64) = some .eq ∨ FP.dcmp x (0 : UInt64) = some .gt := by
  rcases Nat.eq_zero_or_pos a with z | z
  · exact Or.inl (OwnFl.own_cmp_eq h OwnFl.own_zero b0 (by decide) (by rw [z]; omega))
  · exact Or.inr (OwnFl.own_cmp_gt h OwnFl.own_zero b0 (by decide) b1 (by decide) ab (by omega))
theorem own_r1 {x : UInt64} {a b : Nat} (h : Jvm.FP.Core.val64 x = OwnFl.RR a b) (b0 : 0 < b) (b1 : b ≤ 2 ^ 17) (ab : a ≤ b) : FP.dcmp x (4607182418800017408 : UInt64) = some .eq ∨ FP.dcmp x (4607182418800017408 : UInt64) = some .lt := by
  rcases Nat.lt_or_ge a b with z | z
  · exact Or.inr (OwnFl.own_cmp_lt h OwnFl.own_one b0 (by decide) b1 (by decide) (by decide) (by omega))
  · exact Or.inl (OwnFl.own_cmp_eq h OwnFl.own_one b0 (by decide) (by omega))
theorem own_le1 {t : UInt64} (n : Jvm.FP.Core.val64 t ≠ .nan) (h : Jvm.FP.Core.zval Jvm.FP.Core.b64 (Jvm.FP.Core.val64 t) ≤ ((2 ^ 1034 : Nat) : Int)) : ¬ ((0 : Int32) < (cmpValue (FP.dcmp t (4472406533629990549 : UInt64)) .g)) := by
  have e : FP.dcmp t (4472406533629990549 : UInt64) = some .lt := by
    show Jvm.FP.Core.dcmp _ _ = _
    rw [Jvm.FP.Core.dcmp_zval n (by decide +kernel), (Jvm.FP.Core.compare_lt_iff _ _).mpr (Int.lt_of_le_of_lt h OwnFl.own_eps.1)]
  exact own_vng (Or.inr e) .g
theorem own_le2 {t : UInt64} (n : Jvm.FP.Core.val64 t ≠ .nan) (h : -((2 ^ 1034 : Nat) : Int) ≤ Jvm.FP.Core.zval Jvm.FP.Core.b64 (Jvm.FP.Core.val64 t)) : ¬ ((cmpValue (FP.dcmp t (13695778570484766357 : UInt64)) .l) < (0 : Int32)) := by
  have e : FP.dcmp t (13695778570484766357 : UInt64) = some .gt := by
    show Jvm.FP.Core.dcmp _ _ = _
    rw [Jvm.FP.Core.dcmp_zval n (by decide +kernel), (Jvm.FP.Core.compare_gt_iff _ _).mpr (Int.lt_of_lt_of_le OwnFl.own_eps.2 h)]
  exact own_vnl (Or.inr e) .l
theorem own_tt {r : UInt64} {n f : Int32} {F N : Nat} (hr : Jvm.FP.Core.val64 r = OwnFl.RR F N) (en : n.toInt = (N : Int)) (ef : f.toInt = (F : Int)) (n0 : 0 < N) (fn : F ≤ N) (n1 : N ≤ 4096) : Jvm.FP.Core.val64 (FP.dmul r (FP.i2d n)) ≠ .nan ∧ (Jvm.FP.Core.val64 (FP.dsub (FP.dmul r (FP.i2d n)) (FP.i2d f)) ≠ .nan ∧ Jvm.FP.Core.zval Jvm.FP.Core.b64 (Jvm.FP.Core.val64 (FP.dsub (FP.dmul r (FP.i2d n)) (FP.i2d f))) ≤ ((2 ^ 1034 : Nat) : Int) ∧ -((2 ^ 1034 : Nat) : Int) ≤ Jvm.FP.Core.zval Jvm.FP.Core.b64 (Jvm.FP.Core.val64 (FP.dsub (FP.dmul r (FP.i2d n)) (FP.i2d f)))) := by
  obtain ⟨t1, t2, t3⟩ := OwnFl.own_t1 hr (own_ni en) n0 fn n1
  exact ⟨OwnFl.own_nn_ne t1, OwnFl.own_t2 t1 (own_ni ef) t2 t3⟩
theorem own_zi {a : Int32} {A : Nat} (e : a.toInt = (A : Int)) : a = (0 : Int32) ↔ A = 0 := by
  rw [← Int32.toInt_inj, e, show (0 : Int32).toInt = 0 by decide]; omega
theorem own_pi {a : Int32} {A : Nat} (e : a.toInt = (A : Int)) : (0 : Int32) < a ↔ 0 < A := by
  rw [Int32.lt_iff_toInt_lt, e, show (0 : Int32).toInt = 0 by decide]; omega
theorem own_ei {a b : Int32} {A B : Nat} (e : a.toInt = (A : Int)) (g : b.toInt = (B : Int)) : a = b ↔ A = B := by
  rw [← Int32.toInt_inj, e, g]; omega
theorem own_ff {S F : Nat} (h : 0 < S) : F * (S + (F + 1)) < (F + 1) * (S + F) := by
  have e1 : F * (S + (F + 1)) = F * (S + F) + F := by rw [← Nat.add_assoc, Nat.mul_add, Nat.mul_one]
  have e2 : (F + 1) * (S + F) = F * (S + F) + (S + F) := by rw [Nat.add_mul, Nat.one_mul]
  omega
theorem own_ss {S F : Nat} (h : 0 < F) : F * (S + F) < F * (S + 1 + F) := Nat.mul_lt_mul_of_pos_left (by omega) h

theorem d2_0 : decode jdk_30_method_1_code 0 = .ok (.aload_n 0, 1) := by decide +kernel
theorem d2_1 : decode jdk_30_method_1_code 1 = .ok (.invokespecial 1, 3) := by decide +kernel
theorem d2_4 : decode jdk_30_method_1_code 4 = .ok (.return_, 1) := by decide +kernel
theorem pn_java_lang_Record : plainName "java/lang/Record" = true := by first | (simp [plainName, overriddenIn]; done) | decide +kernel
theorem ef2 (m : MethodId) (tz : Addr) : entryFrame m #[(.ref tz)] 1 = mkF m 0 #[.val (.ref tz)] [] := by first | (simp [entryFrame, mkF, argsToLocals, Value.category]; done) | rfl
def Q2 (Z : State) (tz : Addr) (h0 : Heap) (n0 : Nat) (v : Option Value) (h : Heap) (L : List Loc) : Prop := v = none ∧ Fr n0 L ∧ h = h0
set_option maxRecDepth 65536 in
set_option maxHeartbeats 40000000 in
theorem rm2 (l : Launch) (Z : State) (a0 : Array Value) (hw : ∀ d ∈ tables_1, d.before a0 Z = true) (ws : List Jvm.Cond) (tz : Addr) (h0 : Heap) (n0 : Nat) (Z0 : n0 ≤ h0.size) (O0 : Old Z n0 h0) :
    MetFree l (⟨"java/lang/Record", "<init>", "()V"⟩ : MethodName) (head1 (Jvm.Cond.code (⟨"java/lang/Record", "<init>", "()V"⟩ : MethodName) jdk_30_method_1_code 1 none :: ws) ({ frames := 1, cells := 0, slots := 0, locals := 12 } : Room)) (fun a U => a = #[(.ref tz)] ∧ Z.Warmed39 U.vm ∧ U.heap = h0) (fun _ _ _ _ _ => True) (fun _ U o U' => ∃ v L, o = .returned v ∧ Q2 Z tz h0 n0 v U'.heap L ∧ FrameEnd U o U' L ({ frames := 1, cells := 0, slots := 0, locals := 12 } : Room).cells ({ frames := 1, cells := 0, slots := 0, locals := 12 } : Room).slots) := by
  refine MetFree.of_bodySF (plainFor_of_name pn_java_lang_Record) hisR ?_
  intro p e s m args below meth c s₁ Bd hml0 hP hK
  obtain ⟨rfl, hZ, hh⟩ := hP
  have hx := Bd.exec
  have hby := Bd.bytes
  have hml : c.maxLocals = 1 := hml0
  have hown : s.vm.findClass "java/lang/Record" = some m.cls := findClass_of_methodNamed Bd.named
  have hnm := (name_of_methodNamed Bd.named Bd.method).1
  have X0 : Stand p l e ({ frames := 1, cells := 0, slots := 0, locals := 12 } : Room) s m #[(.ref tz)] below meth c s₁ [] 0 0 := Stand.of_body Bd
  have e0 : s₁.heap = h0 := by rw [← hh, Bd.state]; rfl
  have N0 := Fr.nil n0
  have K0 : Keep h0 h0 [] := Keep.refl _ _
  have pre0 : ∀ t, Steps p.tables e below (s₁.setTop (mkF m 0 #[.val (.ref tz)] [])) t → Steps p.tables e below (s₁.setTop (entryFrame m #[(.ref tz)] 1)) t := fun t k => castTop (ef2 m tz) k
  obtain ⟨T1, X1, e1, st1⟩ := initO X0 hx hZ hown (own_wd hw 11 rfl) (own_wd hw 12 rfl) (own_wd hw 13 rfl) e0 (g := (mkF m 1 #[.val (.ref tz)] [(.ref tz)])) rfl (by rw [hml]; rfl) rfl (hb hby d2_1) (by decide) (W := 0) (by show 2 * 0 + _ ≤ _; exact Nat.le_of_eq rfl) (by decide)
  obtain ⟨fs, hr, hrun, hended, hW, hsame⟩ := X1.leave (v := none) (fun _ => rfl)
  refine ⟨_, _, pre0 _ ?_, hrun, hended, _, _, rfl, ?_, ⟨_, rfl⟩, hW, hsame.mono (by decide) (by decide)⟩
  · show Steps p.tables e below (s₁.setTop (mkF m 0 #[.val (.ref tz)] [])) _
    refine XS.aloadN X0.here hx rfl (hb hby d2_0) rfl rfl ?_
    show Steps p.tables e below (s₁.setTop (mkF m 1 #[.val (.ref tz)] [(.ref tz)])) _
    refine st1 _ ?_
    show Steps p.tables e below (T1.setTop (mkF m 4 #[.val (.ref tz)] [])) _
    exact X1.returnOut hx Bd.returns (hb hby d2_4) hr
  · show Q2 Z tz h0 n0 _ T1.heap _
    rw [e1]
    exact ⟨rfl, N0, rfl⟩
theorem d1_0 : decode prog_8_method_1_code 0 = .ok (.aload_n 0, 1) := by decide +kernel
theorem pd_0 : parseMethodDescriptor "()V" = some ⟨[], none⟩ := by decide +kernel
theorem d1_1 : decode prog_8_method_1_code 1 = .ok (.invokespecial 3, 3) := by decide +kernel
theorem d1_4 : decode prog_8_method_1_code 4 = .ok (.aload_n 0, 1) := by decide +kernel
theorem d1_5 : decode prog_8_method_1_code 5 = .ok (.dload_n 1, 1) := by decide +kernel
theorem d1_6 : decode prog_8_method_1_code 6 = .ok (.putfield 9, 3) := by decide +kernel
theorem d1_9 : decode prog_8_method_1_code 9 = .ok (.aload_n 0, 1) := by decide +kernel
theorem d1_10 : decode prog_8_method_1_code 10 = .ok (.dload_n 3, 1) := by decide +kernel
theorem d1_11 : decode prog_8_method_1_code 11 = .ok (.putfield 15, 3) := by decide +kernel
theorem d1_14 : decode prog_8_method_1_code 14 = .ok (.aload_n 0, 1) := by decide +kernel
theorem d1_15 : decode prog_8_method_1_code 15 = .ok (.dload 5, 2) := by decide +kernel
theorem d1_17 : decode prog_8_method_1_code 17 = .ok (.putfield 18, 3) := by decide +kernel
theorem d1_20 : decode prog_8_method_1_code 20 = .ok (.return_, 1) := by decide +kernel
theorem pn_com_example_windward_windward_EndpointRecord_Counts : plainName "com/example/windward/windward/EndpointRecord$Counts" = true := by first | (simp [plainName, overriddenIn]; done) | decide +kernel
theorem ef1 (m : MethodId) (tz : Addr) (x1 : UInt64) (x2 : UInt64) (x3 : UInt64) : entryFrame m #[(.ref tz), (.double x1), (.double x2), (.double x3)] 7 = mkF m 0 #[.val (.ref tz), .val (.double x1), .second, .val (.double x2), .second, .val (.double x3), .second] [] := by first | (simp [entryFrame, mkF, argsToLocals, Value.category]; done) | rfl
def Q1 (Z : State) (tz : Addr) (x1 : UInt64) (x2 : UInt64) (x3 : UInt64) (u_tz_successes : Value) (u_tz_failures : Value) (u_tz_successNanos : Value) (h0 : Heap) (n0 : Nat) (v : Option Value) (h : Heap) (L : List Loc) : Prop := v = none ∧ Fr n0 L ∧ Keep h0 h [tz] ∧ Exa Z h tz "com/example/windward/windward/EndpointRecord$Counts" ∧ Fld Z h tz "com/example/windward/windward/EndpointRecord$Counts" "successes" "D" (.double x1) ∧ Fld Z h tz "com/example/windward/windward/EndpointRecord$Counts" "failures" "D" (.double x2)
set_option maxRecDepth 65536 in
set_option maxHeartbeats 40000000 in
theorem rm1 (l : Launch) (Z : State) (a0 : Array Value) (hw : ∀ d ∈ tables_1, d.before a0 Z = true) (ws : List Jvm.Cond) (tz : Addr) (x1 : UInt64) (x2 : UInt64) (x3 : UInt64) (u_tz_successes : Value) (u_tz_failures : Value) (u_tz_successNanos : Value) (h0 : Heap) (n0 : Nat) (Z0 : n0 ≤ h0.size) (O0 : Old Z n0 h0) (E_tz : Exa Z h0 tz "com/example/windward/windward/EndpointRecord$Counts") (F_u_tz_successes : Fld Z h0 tz "com/example/windward/windward/EndpointRecord$Counts" "successes" "D" u_tz_successes) (g_tz : n0 ≤ tz) (F_u_tz_failures : Fld Z h0 tz "com/example/windward/windward/EndpointRecord$Counts" "failures" "D" u_tz_failures) (F_u_tz_successNanos : Fld Z h0 tz "com/example/windward/windward/EndpointRecord$Counts" "successNanos" "D" u_tz_successNanos) :
    MetFree l (⟨"com/example/windward/windward/EndpointRecord$Counts", "<init>", "(DDD)V"⟩ : MethodName) (head1 (Jvm.Cond.code (⟨"com/example/windward/windward/EndpointRecord$Counts", "<init>", "(DDD)V"⟩ : MethodName) prog_8_method_1_code 7 none :: ws) ({ frames := 2, cells := 0, slots := 0, locals := 24 } : Room)) (fun a U => a = #[(.ref tz), (.double x1), (.double x2), (.double x3)] ∧ Z.Warmed39 U.vm ∧ U.heap = h0) (fun _ _ _ _ _ => True) (fun _ U o U' => ∃ v L, o = .returned v ∧ Q1 Z tz x1 x2 x3 u_tz_successes u_tz_failures u_tz_successNanos h0 n0 v U'.heap L ∧ FrameEnd U o U' L ({ frames := 2, cells := 0, slots := 0, locals := 24 } : Room).cells ({ frames := 2, cells := 0, slots := 0, locals := 24 } : Room).slots) := by
  refine MetFree.of_bodySF (plainFor_of_name pn_com_example_windward_windward_EndpointRecord_Counts) hisR ?_
  intro p e s m args below meth c s₁ Bd hml0 hP hK
  obtain ⟨rfl, hZ, hh⟩ := hP
  have hx := Bd.exec
  have hby := Bd.bytes
  have hml : c.maxLocals = 7 := hml0
  have hown : s.vm.findClass "com/example/windward/windward/EndpointRecord$Counts" = some m.cls := findClass_of_methodNamed Bd.named
  have hnm := (name_of_methodNamed Bd.named Bd.method).1
  have X0 : Stand p l e ({ frames := 2, cells := 0, slots := 0, locals := 24 } : Room) s m #[(.ref tz), (.double x1), (.double x2), (.double x3)] below meth c s₁ [] 0 0 := Stand.of_body Bd
  have e0 : s₁.heap = h0 := by rw [← hh, Bd.state]; rfl
  have N0 := Fr.nil n0
  have K0 : Keep h0 h0 [tz] := Keep.refl _ _
  have pre0 : ∀ t, Steps p.tables e below (s₁.setTop (mkF m 0 #[.val (.ref tz), .val (.double x1), .second, .val (.double x2), .second, .val (.double x3), .second] [])) t → Steps p.tables e below (s₁.setTop (entryFrame m #[(.ref tz), (.double x1), (.double x2), (.double x3)] 7)) t := fun t k => castTop (ef1 m tz x1 x2 x3) k
  obtain ⟨_, _, ⟨T2, L2, k2, n2⟩, -, X2, ⟨Lc2, hQ2, l2, y2, z2⟩, st2⟩ := X0.specialBack hx (y := (⟨"java/lang/Record", "<init>", "()V"⟩ : MethodName)) rfl hown (mvT hZ (own_wd hw 6 rfl)) (mvT hZ (own_wd hw 7 rfl)) (mvT hZ (own_wd hw 10 rfl)) (by decide) (backOf (W := 0) (rm2 l Z a0 hw [] tz h0 n0 Z0 O0) hZ (own_wd hw 10 rfl) (own_wd hw 9 rfl) (by decide) (by decide)) (g := (mkF m 1 #[.val (.ref tz), .val (.double x1), .second, .val (.double x2), .second, .val (.double x3), .second] [(.ref tz)])) rfl (by rw [hml]; rfl) (Steps.refl _) (a := tz) (argsL := []) (rest := []) (lenOf pd_0 rfl) rfl (by show 2 * 0 + _ ≤ _; exact Nat.le_of_eq rfl) (hb hby d1_1) (fun _ _ => ⟨rfl, e0, (by decide : 0 + 0 ≤ _), (by decide : 0 + 0 ≤ _)⟩)
  dsimp only [Pt.U, Pt.locs, Pt.cells, Pt.slots] at X2 l2 y2 z2 st2 hQ2
  subst l2 y2 z2
  obtain ⟨rfl, N2q, eh2⟩ := hQ2
  have N2 := Fr.app N0 N2q
  obtain ⟨T3, h3, X3, e3, W3, st3⟩ := putF X2 hx hZ hown (host := "") (Or.inl (own_wd hw 14 rfl)) Via.refl eh2 F_u_tz_successes E_tz (Or.inr ⟨(own_wd hw 15 rfl), rfl, hnm⟩) (own_wd hw 1 rfl) (ty := .double) (by decide) rfl rfl (g := (mkF m 6 #[.val (.ref tz), .val (.double x1), .second, .val (.double x2), .second, .val (.double x3), .second] [(.double x1), (.ref tz)])) rfl rfl (hb hby d1_6)
  have O3 : Old Z n0 h3 := O0.wr W3 g_tz
  have Z3 : n0 ≤ h3.size := Nat.le_trans Z0 (Keep.of_wr W3).1
  have K3 : Keep h0 h3 [tz] := K0.wr W3 (Or.inl (List.mem_of_getElem? (i := 0) rfl))
  have N3 := Fr.snoc X3 N2 g_tz
  have Fw3 : Fld Z h3 tz "com/example/windward/windward/EndpointRecord$Counts" "successes" "D" (.double x1) := F_u_tz_successes.same W3
  have C4 : Exa Z h3 tz "com/example/windward/windward/EndpointRecord$Counts" := (E_tz.wr W3)
  have F5 : Fld Z h3 tz "com/example/windward/windward/EndpointRecord$Counts" "failures" "D" u_tz_failures := (F_u_tz_failures.other W3 (Or.inr (slot_ne (Or.inr (own_wd hw 17 rfl)) (Or.inr (own_wd hw 15 rfl)) (by decide) (t := .double) (t' := .double) (by decide) (by decide))))
  obtain ⟨T6, h6, X6, e6, W6, st6⟩ := putF X3 hx hZ hown (host := "") (Or.inl (own_wd hw 16 rfl)) Via.refl e3 F5 C4 (Or.inr ⟨(own_wd hw 17 rfl), rfl, hnm⟩) (own_wd hw 1 rfl) (ty := .double) (by decide) rfl rfl (g := (mkF m 11 #[.val (.ref tz), .val (.double x1), .second, .val (.double x2), .second, .val (.double x3), .second] [(.double x2), (.ref tz)])) rfl rfl (hb hby d1_11)
  have O6 : Old Z n0 h6 := O3.wr W6 g_tz
  have Z6 : n0 ≤ h6.size := Nat.le_trans Z3 (Keep.of_wr W6).1
  have K6 : Keep h0 h6 [tz] := K3.wr W6 (Or.inl (List.mem_of_getElem? (i := 0) rfl))
  have N6 := Fr.snoc X6 N3 g_tz
  have Fw6 : Fld Z h6 tz "com/example/windward/windward/EndpointRecord$Counts" "failures" "D" (.double x2) := F5.same W6
  have C7 : Exa Z h6 tz "com/example/windward/windward/EndpointRecord$Counts" := (C4.wr W6)
  have F8 : Fld Z h6 tz "com/example/windward/windward/EndpointRecord$Counts" "successNanos" "D" u_tz_successNanos := ((F_u_tz_successNanos.other W3 (Or.inr (slot_ne (Or.inr (own_wd hw 19 rfl)) (Or.inr (own_wd hw 15 rfl)) (by decide) (t := .double) (t' := .double) (by decide) (by decide)))).other W6 (Or.inr (slot_ne (Or.inr (own_wd hw 19 rfl)) (Or.inr (own_wd hw 17 rfl)) (by decide) (t := .double) (t' := .double) (by decide) (by decide))))
  obtain ⟨T9, h9, X9, e9, W9, st9⟩ := putF X6 hx hZ hown (host := "") (Or.inl (own_wd hw 18 rfl)) Via.refl e6 F8 C7 (Or.inr ⟨(own_wd hw 19 rfl), rfl, hnm⟩) (own_wd hw 1 rfl) (ty := .double) (by decide) rfl rfl (g := (mkF m 17 #[.val (.ref tz), .val (.double x1), .second, .val (.double x2), .second, .val (.double x3), .second] [(.double x3), (.ref tz)])) rfl rfl (hb hby d1_17)
  have O9 : Old Z n0 h9 := O6.wr W9 g_tz
  have Z9 : n0 ≤ h9.size := Nat.le_trans Z6 (Keep.of_wr W9).1
  have K9 : Keep h0 h9 [tz] := K6.wr W9 (Or.inl (List.mem_of_getElem? (i := 0) rfl))
  have N9 := Fr.snoc X9 N6 g_tz
  have Fw9 : Fld Z h9 tz "com/example/windward/windward/EndpointRecord$Counts" "successNanos" "D" (.double x3) := F8.same W9
  have C10 : Exa Z h9 tz "com/example/windward/windward/EndpointRecord$Counts" := (C7.wr W9)
  have F11 : Fld Z h9 tz "com/example/windward/windward/EndpointRecord$Counts" "successes" "D" (.double x1) := ((Fw3.other W6 (Or.inr (slot_ne (Or.inr (own_wd hw 15 rfl)) (Or.inr (own_wd hw 17 rfl)) (by decide) (t := .double) (t' := .double) (by decide) (by decide)))).other W9 (Or.inr (slot_ne (Or.inr (own_wd hw 15 rfl)) (Or.inr (own_wd hw 19 rfl)) (by decide) (t := .double) (t' := .double) (by decide) (by decide))))
  have F12 : Fld Z h9 tz "com/example/windward/windward/EndpointRecord$Counts" "failures" "D" (.double x2) := (Fw6.other W9 (Or.inr (slot_ne (Or.inr (own_wd hw 17 rfl)) (Or.inr (own_wd hw 19 rfl)) (by decide) (t := .double) (t' := .double) (by decide) (by decide))))
  obtain ⟨fs, hr, hrun, hended, hW, hsame⟩ := X9.leave (v := none) (fun _ => rfl)
  refine ⟨_, _, pre0 _ ?_, hrun, hended, _, _, rfl, ?_, ⟨_, rfl⟩, hW, hsame.mono (by decide) (by decide)⟩
  · show Steps p.tables e below (s₁.setTop (mkF m 0 #[.val (.ref tz), .val (.double x1), .second, .val (.double x2), .second, .val (.double x3), .second] [])) _
    refine XS.aloadN X0.here hx rfl (hb hby d1_0) rfl rfl ?_
    show Steps p.tables e below (s₁.setTop (mkF m 1 #[.val (.ref tz), .val (.double x1), .second, .val (.double x2), .second, .val (.double x3), .second] [(.ref tz)])) _
    refine st2.trans ?_
    show Steps p.tables e below (T2.setTop (mkF m 4 #[.val (.ref tz), .val (.double x1), .second, .val (.double x2), .second, .val (.double x3), .second] [])) _
    refine XS.aloadN X2.here hx rfl (hb hby d1_4) rfl rfl ?_
    show Steps p.tables e below (T2.setTop (mkF m 5 #[.val (.ref tz), .val (.double x1), .second, .val (.double x2), .second, .val (.double x3), .second] [(.ref tz)])) _
    refine XS.dloadN X2.here hx rfl (hb hby d1_5) rfl ?_
    show Steps p.tables e below (T2.setTop (mkF m 6 #[.val (.ref tz), .val (.double x1), .second, .val (.double x2), .second, .val (.double x3), .second] [(.double x1), (.ref tz)])) _
    refine st3 _ ?_
    show Steps p.tables e below (T3.setTop (mkF m 9 #[.val (.ref tz), .val (.double x1), .second, .val (.double x2), .second, .val (.double x3), .second] [])) _
    refine XS.aloadN X3.here hx rfl (hb hby d1_9) rfl rfl ?_
    show Steps p.tables e below (T3.setTop (mkF m 10 #[.val (.ref tz), .val (.double x1), .second, .val (.double x2), .second, .val (.double x3), .second] [(.ref tz)])) _
    refine XS.dloadN X3.here hx rfl (hb hby d1_10) rfl ?_
    show Steps p.tables e below (T3.setTop (mkF m 11 #[.val (.ref tz), .val (.double x1), .second, .val (.double x2), .second, .val (.double x3), .second] [(.double x2), (.ref tz)])) _
    refine st6 _ ?_
    show Steps p.tables e below (T6.setTop (mkF m 14 #[.val (.ref tz), .val (.double x1), .second, .val (.double x2), .second, .val (.double x3), .second] [])) _
    refine XS.aloadN X6.here hx rfl (hb hby d1_14) rfl rfl ?_
    show Steps p.tables e below (T6.setTop (mkF m 15 #[.val (.ref tz), .val (.double x1), .second, .val (.double x2), .second, .val (.double x3), .second] [(.ref tz)])) _
    refine XS.dload X6.here hx rfl (hb hby d1_15) rfl ?_
    show Steps p.tables e below (T6.setTop (mkF m 17 #[.val (.ref tz), .val (.double x1), .second, .val (.double x2), .second, .val (.double x3), .second] [(.double x3), (.ref tz)])) _
    refine st9 _ ?_
    show Steps p.tables e below (T9.setTop (mkF m 20 #[.val (.ref tz), .val (.double x1), .second, .val (.double x2), .second, .val (.double x3), .second] [])) _
    exact X9.returnOut hx Bd.returns (hb hby d1_20) hr
  · show Q1 Z tz x1 x2 x3 u_tz_successes u_tz_failures u_tz_successNanos h0 n0 _ T9.heap _
    rw [e9]
    exact ⟨rfl, N9, K9, C10, F11, F12⟩
theorem d4_0 : decode prog_8_method_3_code 0 = .ok (.aload_n 0, 1) := by decide +kernel
theorem d4_1 : decode prog_8_method_3_code 1 = .ok (.getfield 9, 3) := by decide +kernel
theorem d4_4 : decode prog_8_method_3_code 4 = .ok (.aload_n 0, 1) := by decide +kernel
theorem d4_5 : decode prog_8_method_3_code 5 = .ok (.getfield 15, 3) := by decide +kernel
theorem d4_8 : decode prog_8_method_3_code 8 = .ok (.dadd, 1) := by decide +kernel
theorem d4_9 : decode prog_8_method_3_code 9 = .ok (.dstore_n 1, 1) := by decide +kernel
theorem d4_10 : decode prog_8_method_3_code 10 = .ok (.dload_n 1, 1) := by decide +kernel
theorem d4_11 : decode prog_8_method_3_code 11 = .ok (.dconst 0, 1) := by decide +kernel
theorem d4_12 : decode prog_8_method_3_code 12 = .ok (.dcmp .l, 1) := by decide +kernel
theorem d4_13 : decode prog_8_method_3_code 13 = .ok (.ifCond .le 12, 3) := by decide +kernel
theorem d4_16 : decode prog_8_method_3_code 16 = .ok (.aload_n 0, 1) := by decide +kernel
theorem d4_17 : decode prog_8_method_3_code 17 = .ok (.getfield 15, 3) := by decide +kernel
theorem d4_20 : decode prog_8_method_3_code 20 = .ok (.dload_n 1, 1) := by decide +kernel
theorem d4_21 : decode prog_8_method_3_code 21 = .ok (.ddiv, 1) := by decide +kernel
theorem d4_22 : decode prog_8_method_3_code 22 = .ok (.goto 4, 3) := by decide +kernel
theorem d4_26 : decode prog_8_method_3_code 26 = .ok (.dreturn, 1) := by decide +kernel
theorem ef4_p (m : MethodId) (tz : Addr) : entryFrame m #[(.ref tz)] 3 = mkF m 0 #[.val (.ref tz), .unset, .unset] [] := by first | (simp [entryFrame, mkF, argsToLocals, Value.category]; done) | rfl
def Q4_p (Z : State) (tz : Addr) (tz_successes : UInt64) (tz_failures : UInt64) (h0 : Heap) (n0 : Nat) (v : Option Value) (h : Heap) (L : List Loc) : Prop := v = some (.double (FP.ddiv tz_failures (FP.dadd tz_successes tz_failures))) ∧ Fr n0 L ∧ h = h0
set_option maxRecDepth 65536 in
set_option maxHeartbeats 40000000 in
theorem rm4_p (l : Launch) (Z : State) (a0 : Array Value) (hw : ∀ d ∈ tables_1, d.before a0 Z = true) (ws : List Jvm.Cond) (tz : Addr) (tz_successes : UInt64) (tz_failures : UInt64) (h0 : Heap) (n0 : Nat) (Z0 : n0 ≤ h0.size) (O0 : Old Z n0 h0) (hs : Jvm.Free.Fl.NoNaN64 (FP.dadd tz_successes tz_failures)) (hp : (0 : Int32) < (cmpValue (FP.dcmp (FP.dadd tz_successes tz_failures) (0 : UInt64)) .l)) (hn : Jvm.Free.Fl.NoNaN64 (FP.ddiv tz_failures (FP.dadd tz_successes tz_failures))) (F_tz_successes : Fld Z h0 tz "com/example/windward/windward/EndpointRecord$Counts" "successes" "D" (.double tz_successes)) (F_tz_failures : Fld Z h0 tz "com/example/windward/windward/EndpointRecord$Counts" "failures" "D" (.double tz_failures)) :
    MetFree l (⟨"com/example/windward/windward/EndpointRecord$Counts", "failureShare", "()D"⟩ : MethodName) (head1 (Jvm.Cond.code (⟨"com/example/windward/windward/EndpointRecord$Counts", "failureShare", "()D"⟩ : MethodName) prog_8_method_3_code 3 (some .double) :: ws) ({ frames := 0, cells := 0, slots := 0, locals := 0 } : Room)) (fun a U => a = #[(.ref tz)] ∧ Z.Warmed39 U.vm ∧ U.heap = h0) (fun _ _ _ _ _ => True) (fun _ U o U' => ∃ v L, o = .returned v ∧ Q4_p Z tz tz_successes tz_failures h0 n0 v U'.heap L ∧ FrameEnd U o U' L ({ frames := 0, cells := 0, slots := 0, locals := 0 } : Room).cells ({ frames := 0, cells := 0, slots := 0, locals := 0 } : Room).slots) := by
  refine MetFree.of_bodySF (plainFor_of_name pn_com_example_windward_windward_EndpointRecord_Counts) hisR ?_
  intro p e s m args below meth c s₁ Bd hml0 hP hK
  obtain ⟨rfl, hZ, hh⟩ := hP
  have hx := Bd.exec
  have hby := Bd.bytes
  have hml : c.maxLocals = 3 := hml0
  have hown : s.vm.findClass "com/example/windward/windward/EndpointRecord$Counts" = some m.cls := findClass_of_methodNamed Bd.named
  have hnm := (name_of_methodNamed Bd.named Bd.method).1
  have X0 : Stand p l e ({ frames := 0, cells := 0, slots := 0, locals := 0 } : Room) s m #[(.ref tz)] below meth c s₁ [] 0 0 := Stand.of_body Bd
  have e0 : s₁.heap = h0 := by rw [← hh, Bd.state]; rfl
  have N0 := Fr.nil n0
  have K0 : Keep h0 h0 [] := Keep.refl _ _
  have pre0 : ∀ t, Steps p.tables e below (s₁.setTop (mkF m 0 #[.val (.ref tz), .unset, .unset] [])) t → Steps p.tables e below (s₁.setTop (entryFrame m #[(.ref tz)] 3)) t := fun t k => castTop (ef4_p m tz) k
  obtain ⟨T13, X13, e13, st13⟩ := getF X0 hx hZ hown (host := "") (Or.inl (own_wd hw 14 rfl)) Via.refl e0 F_tz_successes (g := (mkF m 1 #[.val (.ref tz), .unset, .unset] [(.ref tz)])) rfl rfl (hb hby d4_1)
  obtain ⟨T14, X14, e14, st14⟩ := getF X13 hx hZ hown (host := "") (Or.inl (own_wd hw 16 rfl)) Via.refl e13 F_tz_failures (g := (mkF m 5 #[.val (.ref tz), .unset, .unset] [(.ref tz), (.double tz_successes)])) rfl rfl (hb hby d4_5)
  have nn15 : Jvm.Free.Fl.NoNaN64 (FP.dadd tz_successes tz_failures) := hs
  obtain ⟨T16, X16, e16, st16⟩ := getF X14 hx hZ hown (host := "") (Or.inl (own_wd hw 16 rfl)) Via.refl e14 F_tz_failures (g := (mkF m 17 #[.val (.ref tz), .val (.double (FP.dadd tz_successes tz_failures)), .second] [(.ref tz)])) rfl rfl (hb hby d4_17)
  have nn17 : Jvm.Free.Fl.NoNaN64 (FP.ddiv tz_failures (FP.dadd tz_successes tz_failures)) := hn
  obtain ⟨fs, hr, hrun, hended, hW, hsame⟩ := X16.leave (v := some (.double (FP.ddiv tz_failures (FP.dadd tz_successes tz_failures)))) (fun h => by rw [Bd.returns] at h; cases h)
  refine ⟨_, _, pre0 _ ?_, hrun, hended, _, _, rfl, ?_, ⟨_, rfl⟩, hW, hsame.mono (by decide) (by decide)⟩
  · show Steps p.tables e below (s₁.setTop (mkF m 0 #[.val (.ref tz), .unset, .unset] [])) _
    refine XS.aloadN X0.here hx rfl (hb hby d4_0) rfl rfl ?_
    show Steps p.tables e below (s₁.setTop (mkF m 1 #[.val (.ref tz), .unset, .unset] [(.ref tz)])) _
    refine st13 _ ?_
    show Steps p.tables e below (T13.setTop (mkF m 4 #[.val (.ref tz), .unset, .unset] [(.double tz_successes)])) _
    refine XS.aloadN X13.here hx rfl (hb hby d4_4) rfl rfl ?_
    show Steps p.tables e below (T13.setTop (mkF m 5 #[.val (.ref tz), .unset, .unset] [(.ref tz), (.double tz_successes)])) _
    refine st14 _ ?_
    show Steps p.tables e below (T14.setTop (mkF m 8 #[.val (.ref tz), .unset, .unset] [(.double tz_failures), (.double tz_successes)])) _
    refine XS.daddS X14.here hx rfl (hb hby d4_8) rfl nn15 rfl ?_
    show Steps p.tables e below (T14.setTop (mkF m 9 #[.val (.ref tz), .unset, .unset] [(.double (FP.dadd tz_successes tz_failures))])) _
    refine XS.dstoreN X14.here hx rfl (hb hby d4_9) rfl (l' := #[.val (.ref tz), .val (.double (FP.dadd tz_successes tz_failures)), .second]) rfl ?_
    show Steps p.tables e below (T14.setTop (mkF m 10 #[.val (.ref tz), .val (.double (FP.dadd tz_successes tz_failures)), .second] [])) _
    refine XS.dloadN X14.here hx rfl (hb hby d4_10) rfl ?_
    show Steps p.tables e below (T14.setTop (mkF m 11 #[.val (.ref tz), .val (.double (FP.dadd tz_successes tz_failures)), .second] [(.double (FP.dadd tz_successes tz_failures))])) _
    refine XS.dconst0 X14.here hx rfl (hb hby d4_11) (v := (0 : UInt64)) rfl ?_
    show Steps p.tables e below (T14.setTop (mkF m 12 #[.val (.ref tz), .val (.double (FP.dadd tz_successes tz_failures)), .second] [(.double (0 : UInt64)), (.double (FP.dadd tz_successes tz_failures))])) _
    refine XS.dcmpS X14.here hx rfl (hb hby d4_12) rfl rfl ?_
    show Steps p.tables e below (T14.setTop (mkF m 13 #[.val (.ref tz), .val (.double (FP.dadd tz_successes tz_failures)), .second] [(.int (cmpValue (FP.dcmp (FP.dadd tz_successes tz_failures) (0 : UInt64)) .l))])) _
    refine XS.ifNo X14.here hx rfl (hb hby d4_13) rfl ((if0 _ _).trans (tlt hp).2.2.2) ?_
    show Steps p.tables e below (T14.setTop (mkF m 16 #[.val (.ref tz), .val (.double (FP.dadd tz_successes tz_failures)), .second] [])) _
    refine XS.aloadN X14.here hx rfl (hb hby d4_16) rfl rfl ?_
    show Steps p.tables e below (T14.setTop (mkF m 17 #[.val (.ref tz), .val (.double (FP.dadd tz_successes tz_failures)), .second] [(.ref tz)])) _
    refine st16 _ ?_
    show Steps p.tables e below (T16.setTop (mkF m 20 #[.val (.ref tz), .val (.double (FP.dadd tz_successes tz_failures)), .second] [(.double tz_failures)])) _
    refine XS.dloadN X16.here hx rfl (hb hby d4_20) rfl ?_
    show Steps p.tables e below (T16.setTop (mkF m 21 #[.val (.ref tz), .val (.double (FP.dadd tz_successes tz_failures)), .second] [(.double (FP.dadd tz_successes tz_failures)), (.double tz_failures)])) _
    refine XS.ddivS X16.here hx rfl (hb hby d4_21) rfl nn17 rfl ?_
    show Steps p.tables e below (T16.setTop (mkF m 22 #[.val (.ref tz), .val (.double (FP.dadd tz_successes tz_failures)), .second] [(.double (FP.ddiv tz_failures (FP.dadd tz_successes tz_failures)))])) _
    refine XS.goto X16.here hx rfl (pc0 := 22) (pc' := 26) rfl (hb hby d4_22) (by decide) (by decide) ?_
    show Steps p.tables e below (T16.setTop (mkF m 26 #[.val (.ref tz), .val (.double (FP.dadd tz_successes tz_failures)), .second] [(.double (FP.ddiv tz_failures (FP.dadd tz_successes tz_failures)))])) _
    exact retOut X16 hx Bd.returns rfl (Or.inr (Or.inr (Or.inl ⟨rfl, rfl, _, rfl⟩))) (hb hby d4_26) hr
  · show Q4_p Z tz tz_successes tz_failures h0 n0 _ T16.heap _
    rw [e16]
    exact ⟨rfl, N0, rfl⟩
theorem d4_25 : decode prog_8_method_3_code 25 = .ok (.dconst 0, 1) := by decide +kernel
theorem ef4_z (m : MethodId) (tz : Addr) : entryFrame m #[(.ref tz)] 3 = mkF m 0 #[.val (.ref tz), .unset, .unset] [] := by first | (simp [entryFrame, mkF, argsToLocals, Value.category]; done) | rfl
def Q4_z (Z : State) (tz : Addr) (tz_successes : UInt64) (tz_failures : UInt64) (h0 : Heap) (n0 : Nat) (v : Option Value) (h : Heap) (L : List Loc) : Prop := v = some (.double (0 : UInt64)) ∧ Fr n0 L ∧ h = h0
set_option maxRecDepth 65536 in
set_option maxHeartbeats 40000000 in
theorem rm4_z (l : Launch) (Z : State) (a0 : Array Value) (hw : ∀ d ∈ tables_1, d.before a0 Z = true) (ws : List Jvm.Cond) (tz : Addr) (tz_successes : UInt64) (tz_failures : UInt64) (h0 : Heap) (n0 : Nat) (Z0 : n0 ≤ h0.size) (O0 : Old Z n0 h0) (hs : Jvm.Free.Fl.NoNaN64 (FP.dadd tz_successes tz_failures)) (hp : ¬ ((0 : Int32) < (cmpValue (FP.dcmp (FP.dadd tz_successes tz_failures) (0 : UInt64)) .l))) (F_tz_successes : Fld Z h0 tz "com/example/windward/windward/EndpointRecord$Counts" "successes" "D" (.double tz_successes)) (F_tz_failures : Fld Z h0 tz "com/example/windward/windward/EndpointRecord$Counts" "failures" "D" (.double tz_failures)) :
    MetFree l (⟨"com/example/windward/windward/EndpointRecord$Counts", "failureShare", "()D"⟩ : MethodName) (head1 (Jvm.Cond.code (⟨"com/example/windward/windward/EndpointRecord$Counts", "failureShare", "()D"⟩ : MethodName) prog_8_method_3_code 3 (some .double) :: ws) ({ frames := 0, cells := 0, slots := 0, locals := 0 } : Room)) (fun a U => a = #[(.ref tz)] ∧ Z.Warmed39 U.vm ∧ U.heap = h0) (fun _ _ _ _ _ => True) (fun _ U o U' => ∃ v L, o = .returned v ∧ Q4_z Z tz tz_successes tz_failures h0 n0 v U'.heap L ∧ FrameEnd U o U' L ({ frames := 0, cells := 0, slots := 0, locals := 0 } : Room).cells ({ frames := 0, cells := 0, slots := 0, locals := 0 } : Room).slots) := by
  refine MetFree.of_bodySF (plainFor_of_name pn_com_example_windward_windward_EndpointRecord_Counts) hisR ?_
  intro p e s m args below meth c s₁ Bd hml0 hP hK
  obtain ⟨rfl, hZ, hh⟩ := hP
  have hx := Bd.exec
  have hby := Bd.bytes
  have hml : c.maxLocals = 3 := hml0
  have hown : s.vm.findClass "com/example/windward/windward/EndpointRecord$Counts" = some m.cls := findClass_of_methodNamed Bd.named
  have hnm := (name_of_methodNamed Bd.named Bd.method).1
  have X0 : Stand p l e ({ frames := 0, cells := 0, slots := 0, locals := 0 } : Room) s m #[(.ref tz)] below meth c s₁ [] 0 0 := Stand.of_body Bd
  have e0 : s₁.heap = h0 := by rw [← hh, Bd.state]; rfl
  have N0 := Fr.nil n0
  have K0 : Keep h0 h0 [] := Keep.refl _ _
  have pre0 : ∀ t, Steps p.tables e below (s₁.setTop (mkF m 0 #[.val (.ref tz), .unset, .unset] [])) t → Steps p.tables e below (s₁.setTop (entryFrame m #[(.ref tz)] 3)) t := fun t k => castTop (ef4_z m tz) k
  obtain ⟨T18, X18, e18, st18⟩ := getF X0 hx hZ hown (host := "") (Or.inl (own_wd hw 14 rfl)) Via.refl e0 F_tz_successes (g := (mkF m 1 #[.val (.ref tz), .unset, .unset] [(.ref tz)])) rfl rfl (hb hby d4_1)
  obtain ⟨T19, X19, e19, st19⟩ := getF X18 hx hZ hown (host := "") (Or.inl (own_wd hw 16 rfl)) Via.refl e18 F_tz_failures (g := (mkF m 5 #[.val (.ref tz), .unset, .unset] [(.ref tz), (.double tz_successes)])) rfl rfl (hb hby d4_5)
  have nn20 : Jvm.Free.Fl.NoNaN64 (FP.dadd tz_successes tz_failures) := hs
  obtain ⟨fs, hr, hrun, hended, hW, hsame⟩ := X19.leave (v := some (.double (0 : UInt64))) (fun h => by rw [Bd.returns] at h; cases h)
  refine ⟨_, _, pre0 _ ?_, hrun, hended, _, _, rfl, ?_, ⟨_, rfl⟩, hW, hsame.mono (by decide) (by decide)⟩
  · show Steps p.tables e below (s₁.setTop (mkF m 0 #[.val (.ref tz), .unset, .unset] [])) _
    refine XS.aloadN X0.here hx rfl (hb hby d4_0) rfl rfl ?_
    show Steps p.tables e below (s₁.setTop (mkF m 1 #[.val (.ref tz), .unset, .unset] [(.ref tz)])) _
    refine st18 _ ?_
    show Steps p.tables e below (T18.setTop (mkF m 4 #[.val (.ref tz), .unset, .unset] [(.double tz_successes)])) _
    refine XS.aloadN X18.here hx rfl (hb hby d4_4) rfl rfl ?_
    show Steps p.tables e below (T18.setTop (mkF m 5 #[.val (.ref tz), .unset, .unset] [(.ref tz), (.double tz_successes)])) _
    refine st19 _ ?_
    show Steps p.tables e below (T19.setTop (mkF m 8 #[.val (.ref tz), .unset, .unset] [(.double tz_failures), (.double tz_successes)])) _
    refine XS.daddS X19.here hx rfl (hb hby d4_8) rfl nn20 rfl ?_
    show Steps p.tables e below (T19.setTop (mkF m 9 #[.val (.ref tz), .unset, .unset] [(.double (FP.dadd tz_successes tz_failures))])) _
    refine XS.dstoreN X19.here hx rfl (hb hby d4_9) rfl (l' := #[.val (.ref tz), .val (.double (FP.dadd tz_successes tz_failures)), .second]) rfl ?_
    show Steps p.tables e below (T19.setTop (mkF m 10 #[.val (.ref tz), .val (.double (FP.dadd tz_successes tz_failures)), .second] [])) _
    refine XS.dloadN X19.here hx rfl (hb hby d4_10) rfl ?_
    show Steps p.tables e below (T19.setTop (mkF m 11 #[.val (.ref tz), .val (.double (FP.dadd tz_successes tz_failures)), .second] [(.double (FP.dadd tz_successes tz_failures))])) _
    refine XS.dconst0 X19.here hx rfl (hb hby d4_11) (v := (0 : UInt64)) rfl ?_
    show Steps p.tables e below (T19.setTop (mkF m 12 #[.val (.ref tz), .val (.double (FP.dadd tz_successes tz_failures)), .second] [(.double (0 : UInt64)), (.double (FP.dadd tz_successes tz_failures))])) _
    refine XS.dcmpS X19.here hx rfl (hb hby d4_12) rfl rfl ?_
    show Steps p.tables e below (T19.setTop (mkF m 13 #[.val (.ref tz), .val (.double (FP.dadd tz_successes tz_failures)), .second] [(.int (cmpValue (FP.dcmp (FP.dadd tz_successes tz_failures) (0 : UInt64)) .l))])) _
    refine XS.ifYes X19.here hx rfl (pc0 := 13) (pc' := 25) rfl (hb hby d4_13) rfl ((if0 _ _).trans (flt hp).2.2.2) (by decide) (by decide) ?_
    show Steps p.tables e below (T19.setTop (mkF m 25 #[.val (.ref tz), .val (.double (FP.dadd tz_successes tz_failures)), .second] [])) _
    refine XS.dconst0 X19.here hx rfl (hb hby d4_25) (v := (0 : UInt64)) rfl ?_
    show Steps p.tables e below (T19.setTop (mkF m 26 #[.val (.ref tz), .val (.double (FP.dadd tz_successes tz_failures)), .second] [(.double (0 : UInt64))])) _
    exact retOut X19 hx Bd.returns rfl (Or.inr (Or.inr (Or.inl ⟨rfl, rfl, _, rfl⟩))) (hb hby d4_26) hr
  · show Q4_z Z tz tz_successes tz_failures h0 n0 _ T19.heap _
    rw [e19]
    exact ⟨rfl, N0, rfl⟩
theorem pd_1 : parseMethodDescriptor "(DDD)V" = some ⟨[.double, .double, .double], none⟩ := by decide +kernel
theorem pd_2 : parseMethodDescriptor "()D" = some ⟨[], some .double⟩ := by decide +kernel
theorem pn_com_example_windward_windward_CountsFailureSharePinLaw : plainName "com/example/windward/windward/CountsFailureSharePinLaw" = true := by first | (simp [plainName, overriddenIn]; done) | decide +kernel
theorem ef0 (m : MethodId) (x1 : Int32) (x2 : Int32) (x3 : Int32) (x4 : Int32) (x5 : Int64) : entryFrame m #[(.int x1), (.int x2), (.int x3), (.int x4), (.long x5)] maxLocals = mkF m 0 #[.val (.int x1), .val (.int x2), .val (.int x3), .val (.int x4), .val (.long x5), .second, .unset, .unset, .unset, .unset, .unset, .unset, .unset, .unset, .unset, .unset, .unset, .unset, .unset, .unset, .unset, .unset, .unset, .unset, .unset, .unset, .unset, .unset, .unset, .unset, .unset, .unset, .unset, .unset] [] := by first | (simp [entryFrame, mkF, argsToLocals, Value.category, maxLocals]; done) | rfl
def Q0 (Z : State) (x1 : Int32) (x2 : Int32) (x3 : Int32) (x4 : Int32) (x5 : Int64) (h0 : Heap) (n0 : Nat) (v : Option Value) (h : Heap) (L : List Loc) : Prop := v = some (.int (1 : Int32)) ∧ Fr n0 L ∧ Keep h0 h []
set_option maxRecDepth 65536 in
set_option maxHeartbeats 40000000 in
theorem rm0 (l : Launch) (Z : State) (a0 : Array Value) (hw : ∀ d ∈ tables_1, d.before a0 Z = true) (ws : List Jvm.Cond) (x1 : Int32) (x2 : Int32) (x3 : Int32) (x4 : Int32) (x5 : Int64) (h0 : Heap) (n0 : Nat) (Z0 : n0 ≤ h0.size) (O0 : Old Z n0 h0) :
    MetFree l x (head1 (Jvm.Cond.code x code maxLocals ret :: ws) room_1) (fun a U => a = #[(.int x1), (.int x2), (.int x3), (.int x4), (.long x5)] ∧ Z.Warmed39 U.vm ∧ U.heap = h0) (fun _ _ _ _ _ => True) (fun _ U o U' => ∃ v L, o = .returned v ∧ Q0 Z x1 x2 x3 x4 x5 h0 n0 v U'.heap L ∧ FrameEnd U o U' L room_1.cells room_1.slots) := by
  refine MetFree.of_bodySF (plainFor_of_name pn_com_example_windward_windward_CountsFailureSharePinLaw) hisR ?_
  intro p e s m args below meth c s₁ Bd hml0 hP hK
  obtain ⟨rfl, hZ, hh⟩ := hP
  have hx := Bd.exec
  have hby := Bd.bytes
  have hml : c.maxLocals = 34 := hml0
  have hown : s.vm.findClass "com/example/windward/windward/CountsFailureSharePinLaw" = some m.cls := findClass_of_methodNamed Bd.named
  have hnm := (name_of_methodNamed Bd.named Bd.method).1
  have X0 : Stand p l e room_1 s m #[(.int x1), (.int x2), (.int x3), (.int x4), (.long x5)] below meth c s₁ [] 0 0 := Stand.of_body Bd
  have e0 : s₁.heap = h0 := by rw [← hh, Bd.state]; rfl
  have N0 := Fr.nil n0
  have K0 : Keep h0 h0 [] := Keep.refl _ _
  have pre0 : ∀ t, Steps p.tables e below (s₁.setTop (mkF m 0 #[.val (.int x1), .val (.int x2), .val (.int x3), .val (.int x4), .val (.long x5), .second, .unset, .unset, .unset, .unset, .unset, .unset, .unset, .unset, .unset, .unset, .unset, .unset, .unset, .unset, .unset, .unset, .unset, .unset, .unset, .unset, .unset, .unset, .unset, .unset, .unset, .unset, .unset, .unset] [])) t → Steps p.tables e below (s₁.setTop (entryFrame m #[(.int x1), (.int x2), (.int x3), (.int x4), (.long x5)] maxLocals)) t := fun t k => castTop (ef0 m x1 x2 x3 x4 x5) k
  obtain ⟨sv, hsv⟩ : ∃ z, z = (x1 &&& (1023 : Int32)) := ⟨_, rfl⟩
  have rn21 : (x1 &&& (1023 : Int32)) = sv := hsv.symm
  obtain ⟨S, eS, S1⟩ := own_mk hsv
  obtain ⟨fv, hfv⟩ : ∃ z, z = (x2 &&& (1023 : Int32)) := ⟨_, rfl⟩
  have rn22 : (x2 &&& (1023 : Int32)) = fv := hfv.symm
  obtain ⟨F, eF, F1⟩ := own_mk hfv
  obtain ⟨kv, hkv⟩ : ∃ z, z = ((x3 &&& (1023 : Int32)) + (1 : Int32)) := ⟨_, rfl⟩
  have rn23 : ((x3 &&& (1023 : Int32)) + (1 : Int32)) = kv := hkv.symm
  obtain ⟨K, eK, K1, K2⟩ := own_kk hkv
  obtain ⟨ev, hev⟩ : ∃ z, z = (x4 &&& (7 : Int32)) := ⟨_, rfl⟩
  have rn24 : (x4 &&& (7 : Int32)) = ev := hev.symm
  obtain ⟨E, E1, hU⟩ := own_un hev
  have nn25 : Jvm.Free.Fl.NoNaN64 (FP.ddiv (4607182418800017408 : UInt64) (FP.i2d ((1 : Int32) <<< (ev &&& 31)))) := own_nnv (OwnFl.own_nn_ne hU)
  obtain ⟨uv, huv⟩ : ∃ z, z = (FP.ddiv (4607182418800017408 : UInt64) (FP.i2d ((1 : Int32) <<< (ev &&& 31)))) := ⟨_, rfl⟩
  have rn26 : (FP.ddiv (4607182418800017408 : UInt64) (FP.i2d ((1 : Int32) <<< (ev &&& 31)))) = uv := huv.symm
  rw [← huv] at hU
  have nS3 := own_sc (own_ni eS) hU (by omega)
  have nF3 := own_sc (own_ni eF) hU (by omega)
  have eSK := own_m32 eS eK S1 K2
  have eFK := own_m32 eF eK F1 K2
  have eF1 := own_a32 eF own_one1 (by omega) (by omega)
  have eS1 := own_a32 eS own_one1 (by omega) (by omega)
  obtain ⟨jv, hjv⟩ : ∃ z, z = (FP.l2d x5) := ⟨_, rfl⟩
  have rn27 : (FP.l2d x5) = jv := hjv.symm
  obtain ⟨T28, h28, X28, e28, E28, A28, D28, U28, st28⟩ := newO X0 hx hZ hown (own_wd hw 0 rfl) (own_wd hw 1 rfl) (own_wd hw 2 rfl) e0 (g := (mkF m 43 #[.val (.int x1), .val (.int x2), .val (.int x3), .val (.int x4), .val (.long x5), .second, .val (.int sv), .val (.int fv), .val (.int kv), .val (.int ev), .val (.double uv), .second, .val (.double jv), .second, .unset, .unset, .unset, .unset, .unset, .unset, .unset, .unset, .unset, .unset, .unset, .unset, .unset, .unset, .unset, .unset, .unset, .unset, .unset, .unset] [])) rfl (hb hby at_43) (by decide) (by decide)
  obtain ⟨b28, g28⟩ : ∃ z, z = h0.size := ⟨_, rfl⟩
  rw [← g28] at A28 D28 st28
  have O28 : Old Z n0 h28 := O0.ext E28
  have Z28 : n0 ≤ h28.size := Nat.le_trans Z0 E28.1
  have K28 : Keep h0 h28 [] := K0.ext E28
  have g_b28 : n0 ≤ b28 := Nat.le_trans Z0 (Nat.le_of_eq g28.symm)
  have sz_b28 : h0.size ≤ b28 := Nat.le_trans K0.1 (Nat.le_of_eq g28.symm)
  have F_b28_successes : Fld Z h28 b28 "com/example/windward/windward/EndpointRecord$Counts" "successes" "D" (.double 0) := D28 (Or.inr (own_wd hw 15 rfl)) (ty := .double) (by decide)
  have F_b28_failures : Fld Z h28 b28 "com/example/windward/windward/EndpointRecord$Counts" "failures" "D" (.double 0) := D28 (Or.inr (own_wd hw 17 rfl)) (ty := .double) (by decide)
  have F_b28_successNanos : Fld Z h28 b28 "com/example/windward/windward/EndpointRecord$Counts" "successNanos" "D" (.double 0) := D28 (Or.inr (own_wd hw 19 rfl)) (ty := .double) (by decide)
  obtain ⟨_, _, ⟨T29, L29, k29, n29⟩, -, X29, ⟨Lc29, hQ29, l29, y29, z29⟩, st29⟩ := X28.specialBack hx (y := (⟨"com/example/windward/windward/EndpointRecord$Counts", "<init>", "(DDD)V"⟩ : MethodName)) rfl hown (mvT hZ (own_wd hw 3 rfl)) (mvT hZ (own_wd hw 4 rfl)) (mvT hZ (own_wd hw 5 rfl)) (by decide) (backOf (W := 1) (rm1 l Z a0 hw [] b28 (FP.i2d sv) (FP.i2d fv) jv (.double 0) (.double 0) (.double 0) h28 n0 Z28 O28 A28 F_b28_successes g_b28 F_b28_failures F_b28_successNanos) hZ (own_wd hw 5 rfl) (own_wd hw 2 rfl) (by decide) (by decide)) (g := (mkF m 55 #[.val (.int x1), .val (.int x2), .val (.int x3), .val (.int x4), .val (.long x5), .second, .val (.int sv), .val (.int fv), .val (.int kv), .val (.int ev), .val (.double uv), .second, .val (.double jv), .second, .unset, .unset, .unset, .unset, .unset, .unset, .unset, .unset, .unset, .unset, .unset, .unset, .unset, .unset, .unset, .unset, .unset, .unset, .unset, .unset] [(.double jv), (.double (FP.i2d fv)), (.double (FP.i2d sv)), (.ref b28), (.ref b28)])) rfl (by rw [hml]; rfl) (Steps.refl _) (a := b28) (argsL := [(.double (FP.i2d sv)), (.double (FP.i2d fv)), (.double jv)]) (rest := [(.ref b28)]) (lenOf pd_1 rfl) rfl (by show 2 * 0 + _ ≤ _; exact Nat.le_of_eq rfl) (hb hby at_55) (fun _ _ => ⟨rfl, e28, (by decide : 1 + 0 ≤ _), (by decide : 3 + 0 ≤ _)⟩)
  dsimp only [Pt.U, Pt.locs, Pt.cells, Pt.slots] at X29 l29 y29 z29 st29 hQ29
  subst l29 y29 z29
  obtain ⟨rfl, N29q, KK29, Q29_0, Q29_1, Q29_2⟩ := hQ29
  have N29 := Fr.app N0 N29q
  have O29 : Old Z n0 T29.heap := O28.keep KK29 (allS g_b28 all0)
  have Z29 : n0 ≤ T29.heap.size := Nat.le_trans Z28 KK29.1
  have K29 : Keep h0 T29.heap [] := K28.trans KK29 (allS (Or.inr sz_b28) all0)
  obtain ⟨T30, h30, X30, e30, E30, A30, D30, U30, st30⟩ := newO X29 hx hZ hown (own_wd hw 0 rfl) (own_wd hw 1 rfl) (own_wd hw 2 rfl) rfl (g := (mkF m 60 #[.val (.int x1), .val (.int x2), .val (.int x3), .val (.int x4), .val (.long x5), .second, .val (.int sv), .val (.int fv), .val (.int kv), .val (.int ev), .val (.double uv), .second, .val (.double jv), .second, .val (.ref b28), .unset, .unset, .unset, .unset, .unset, .unset, .unset, .unset, .unset, .unset, .unset, .unset, .unset, .unset, .unset, .unset, .unset, .unset, .unset] [])) rfl (hb hby at_60) (by decide) (by decide)
  obtain ⟨b30, g30⟩ : ∃ z, z = T29.heap.size := ⟨_, rfl⟩
  rw [← g30] at A30 D30 st30
  have O30 : Old Z n0 h30 := O29.ext E30
  have Z30 : n0 ≤ h30.size := Nat.le_trans Z29 E30.1
  have K30 : Keep h0 h30 [] := K29.ext E30
  have g_b30 : n0 ≤ b30 := Nat.le_trans Z29 (Nat.le_of_eq g30.symm)
  have sz_b30 : h0.size ≤ b30 := Nat.le_trans K29.1 (Nat.le_of_eq g30.symm)
  have F_b30_successes : Fld Z h30 b30 "com/example/windward/windward/EndpointRecord$Counts" "successes" "D" (.double 0) := D30 (Or.inr (own_wd hw 15 rfl)) (ty := .double) (by decide)
  have F_b30_failures : Fld Z h30 b30 "com/example/windward/windward/EndpointRecord$Counts" "failures" "D" (.double 0) := D30 (Or.inr (own_wd hw 17 rfl)) (ty := .double) (by decide)
  have F_b30_successNanos : Fld Z h30 b30 "com/example/windward/windward/EndpointRecord$Counts" "successNanos" "D" (.double 0) := D30 (Or.inr (own_wd hw 19 rfl)) (ty := .double) (by decide)
  obtain ⟨_, _, ⟨T31, L31, k31, n31⟩, -, X31, ⟨Lc31, hQ31, l31, y31, z31⟩, st31⟩ := X30.specialBack hx (y := (⟨"com/example/windward/windward/EndpointRecord$Counts", "<init>", "(DDD)V"⟩ : MethodName)) rfl hown (mvT hZ (own_wd hw 3 rfl)) (mvT hZ (own_wd hw 4 rfl)) (mvT hZ (own_wd hw 5 rfl)) (by decide) (backOf (W := 1) (rm1 l Z a0 hw [] b30 (FP.i2d (sv * kv)) (FP.i2d (fv * kv)) (0 : UInt64) (.double 0) (.double 0) (.double 0) h30 n0 Z30 O30 A30 F_b30_successes g_b30 F_b30_failures F_b30_successNanos) hZ (own_wd hw 5 rfl) (own_wd hw 2 rfl) (by decide) (by decide)) (g := (mkF m 77 #[.val (.int x1), .val (.int x2), .val (.int x3), .val (.int x4), .val (.long x5), .second, .val (.int sv), .val (.int fv), .val (.int kv), .val (.int ev), .val (.double uv), .second, .val (.double jv), .second, .val (.ref b28), .unset, .unset, .unset, .unset, .unset, .unset, .unset, .unset, .unset, .unset, .unset, .unset, .unset, .unset, .unset, .unset, .unset, .unset, .unset] [(.double (0 : UInt64)), (.double (FP.i2d (fv * kv))), (.double (FP.i2d (sv * kv))), (.ref b30), (.ref b30)])) rfl (by rw [hml]; rfl) (Steps.refl _) (a := b30) (argsL := [(.double (FP.i2d (sv * kv))), (.double (FP.i2d (fv * kv))), (.double (0 : UInt64))]) (rest := [(.ref b30)]) (lenOf pd_1 rfl) rfl (by show 2 * 0 + _ ≤ _; exact Nat.le_of_eq rfl) (hb hby at_77) (fun _ _ => ⟨rfl, e30, (by decide : 2 + 0 ≤ _), (by decide : 6 + 0 ≤ _)⟩)
  dsimp only [Pt.U, Pt.locs, Pt.cells, Pt.slots] at X31 l31 y31 z31 st31 hQ31
  subst l31 y31 z31
  obtain ⟨rfl, N31q, KK31, Q31_0, Q31_1, Q31_2⟩ := hQ31
  have N31 := Fr.app N29 N31q
  have O31 : Old Z n0 T31.heap := O30.keep KK31 (allS g_b30 all0)
  have Z31 : n0 ≤ T31.heap.size := Nat.le_trans Z30 KK31.1
  have K31 : Keep h0 T31.heap [] := K30.trans KK31 (allS (Or.inr sz_b30) all0)
  obtain ⟨T32, h32, X32, e32, E32, A32, D32, U32, st32⟩ := newO X31 hx hZ hown (own_wd hw 0 rfl) (own_wd hw 1 rfl) (own_wd hw 2 rfl) rfl (g := (mkF m 82 #[.val (.int x1), .val (.int x2), .val (.int x3), .val (.int x4), .val (.long x5), .second, .val (.int sv), .val (.int fv), .val (.int kv), .val (.int ev), .val (.double uv), .second, .val (.double jv), .second, .val (.ref b28), .val (.ref b30), .unset, .unset, .unset, .unset, .unset, .unset, .unset, .unset, .unset, .unset, .unset, .unset, .unset, .unset, .unset, .unset, .unset, .unset] [])) rfl (hb hby at_82) (by decide) (by decide)
  obtain ⟨b32, g32⟩ : ∃ z, z = T31.heap.size := ⟨_, rfl⟩
  rw [← g32] at A32 D32 st32
  have O32 : Old Z n0 h32 := O31.ext E32
  have Z32 : n0 ≤ h32.size := Nat.le_trans Z31 E32.1
  have K32 : Keep h0 h32 [] := K31.ext E32
  have g_b32 : n0 ≤ b32 := Nat.le_trans Z31 (Nat.le_of_eq g32.symm)
  have sz_b32 : h0.size ≤ b32 := Nat.le_trans K31.1 (Nat.le_of_eq g32.symm)
  have F_b32_successes : Fld Z h32 b32 "com/example/windward/windward/EndpointRecord$Counts" "successes" "D" (.double 0) := D32 (Or.inr (own_wd hw 15 rfl)) (ty := .double) (by decide)
  have F_b32_failures : Fld Z h32 b32 "com/example/windward/windward/EndpointRecord$Counts" "failures" "D" (.double 0) := D32 (Or.inr (own_wd hw 17 rfl)) (ty := .double) (by decide)
  have F_b32_successNanos : Fld Z h32 b32 "com/example/windward/windward/EndpointRecord$Counts" "successNanos" "D" (.double 0) := D32 (Or.inr (own_wd hw 19 rfl)) (ty := .double) (by decide)
  have nn33 : Jvm.Free.Fl.NoNaN64 (FP.dmul (FP.i2d sv) uv) := own_nnv (OwnFl.own_nn_ne nS3)
  have nn34 : Jvm.Free.Fl.NoNaN64 (FP.dmul (FP.i2d fv) uv) := own_nnv (OwnFl.own_nn_ne nF3)
  obtain ⟨_, _, ⟨T35, L35, k35, n35⟩, -, X35, ⟨Lc35, hQ35, l35, y35, z35⟩, st35⟩ := X32.specialBack hx (y := (⟨"com/example/windward/windward/EndpointRecord$Counts", "<init>", "(DDD)V"⟩ : MethodName)) rfl hown (mvT hZ (own_wd hw 3 rfl)) (mvT hZ (own_wd hw 4 rfl)) (mvT hZ (own_wd hw 5 rfl)) (by decide) (backOf (W := 1) (rm1 l Z a0 hw [] b32 (FP.dmul (FP.i2d sv) uv) (FP.dmul (FP.i2d fv) uv) (FP.dneg jv) (.double 0) (.double 0) (.double 0) h32 n0 Z32 O32 A32 F_b32_successes g_b32 F_b32_failures F_b32_successNanos) hZ (own_wd hw 5 rfl) (own_wd hw 2 rfl) (by decide) (by decide)) (g := (mkF m 101 #[.val (.int x1), .val (.int x2), .val (.int x3), .val (.int x4), .val (.long x5), .second, .val (.int sv), .val (.int fv), .val (.int kv), .val (.int ev), .val (.double uv), .second, .val (.double jv), .second, .val (.ref b28), .val (.ref b30), .unset, .unset, .unset, .unset, .unset, .unset, .unset, .unset, .unset, .unset, .unset, .unset, .unset, .unset, .unset, .unset, .unset, .unset] [(.double (FP.dneg jv)), (.double (FP.dmul (FP.i2d fv) uv)), (.double (FP.dmul (FP.i2d sv) uv)), (.ref b32), (.ref b32)])) rfl (by rw [hml]; rfl) (Steps.refl _) (a := b32) (argsL := [(.double (FP.dmul (FP.i2d sv) uv)), (.double (FP.dmul (FP.i2d fv) uv)), (.double (FP.dneg jv))]) (rest := [(.ref b32)]) (lenOf pd_1 rfl) rfl (by show 2 * 0 + _ ≤ _; exact Nat.le_of_eq rfl) (hb hby at_101) (fun _ _ => ⟨rfl, e32, (by decide : 3 + 0 ≤ _), (by decide : 9 + 0 ≤ _)⟩)
  dsimp only [Pt.U, Pt.locs, Pt.cells, Pt.slots] at X35 l35 y35 z35 st35 hQ35
  subst l35 y35 z35
  obtain ⟨rfl, N35q, KK35, Q35_0, Q35_1, Q35_2⟩ := hQ35
  have N35 := Fr.app N31 N35q
  have O35 : Old Z n0 T35.heap := O32.keep KK35 (allS g_b32 all0)
  have Z35 : n0 ≤ T35.heap.size := Nat.le_trans Z32 KK35.1
  have K35 : Keep h0 T35.heap [] := K32.trans KK35 (allS (Or.inr sz_b32) all0)
  obtain ⟨T36, h36, X36, e36, E36, A36, D36, U36, st36⟩ := newO X35 hx hZ hown (own_wd hw 0 rfl) (own_wd hw 1 rfl) (own_wd hw 2 rfl) rfl (g := (mkF m 106 #[.val (.int x1), .val (.int x2), .val (.int x3), .val (.int x4), .val (.long x5), .second, .val (.int sv), .val (.int fv), .val (.int kv), .val (.int ev), .val (.double uv), .second, .val (.double jv), .second, .val (.ref b28), .val (.ref b30), .val (.ref b32), .unset, .unset, .unset, .unset, .unset, .unset, .unset, .unset, .unset, .unset, .unset, .unset, .unset, .unset, .unset, .unset, .unset] [])) rfl (hb hby at_106) (by decide) (by decide)
  obtain ⟨b36, g36⟩ : ∃ z, z = T35.heap.size := ⟨_, rfl⟩
  rw [← g36] at A36 D36 st36
  have O36 : Old Z n0 h36 := O35.ext E36
  have Z36 : n0 ≤ h36.size := Nat.le_trans Z35 E36.1
  have K36 : Keep h0 h36 [] := K35.ext E36
  have g_b36 : n0 ≤ b36 := Nat.le_trans Z35 (Nat.le_of_eq g36.symm)
  have sz_b36 : h0.size ≤ b36 := Nat.le_trans K35.1 (Nat.le_of_eq g36.symm)
  have F_b36_successes : Fld Z h36 b36 "com/example/windward/windward/EndpointRecord$Counts" "successes" "D" (.double 0) := D36 (Or.inr (own_wd hw 15 rfl)) (ty := .double) (by decide)
  have F_b36_failures : Fld Z h36 b36 "com/example/windward/windward/EndpointRecord$Counts" "failures" "D" (.double 0) := D36 (Or.inr (own_wd hw 17 rfl)) (ty := .double) (by decide)
  have F_b36_successNanos : Fld Z h36 b36 "com/example/windward/windward/EndpointRecord$Counts" "successNanos" "D" (.double 0) := D36 (Or.inr (own_wd hw 19 rfl)) (ty := .double) (by decide)
  obtain ⟨_, _, ⟨T37, L37, k37, n37⟩, -, X37, ⟨Lc37, hQ37, l37, y37, z37⟩, st37⟩ := X36.specialBack hx (y := (⟨"com/example/windward/windward/EndpointRecord$Counts", "<init>", "(DDD)V"⟩ : MethodName)) rfl hown (mvT hZ (own_wd hw 3 rfl)) (mvT hZ (own_wd hw 4 rfl)) (mvT hZ (own_wd hw 5 rfl)) (by decide) (backOf (W := 1) (rm1 l Z a0 hw [] b36 (FP.i2d sv) (FP.i2d (fv + (1 : Int32))) (0 : UInt64) (.double 0) (.double 0) (.double 0) h36 n0 Z36 O36 A36 F_b36_successes g_b36 F_b36_failures F_b36_successNanos) hZ (own_wd hw 5 rfl) (own_wd hw 2 rfl) (by decide) (by decide)) (g := (mkF m 119 #[.val (.int x1), .val (.int x2), .val (.int x3), .val (.int x4), .val (.long x5), .second, .val (.int sv), .val (.int fv), .val (.int kv), .val (.int ev), .val (.double uv), .second, .val (.double jv), .second, .val (.ref b28), .val (.ref b30), .val (.ref b32), .unset, .unset, .unset, .unset, .unset, .unset, .unset, .unset, .unset, .unset, .unset, .unset, .unset, .unset, .unset, .unset, .unset] [(.double (0 : UInt64)), (.double (FP.i2d (fv + (1 : Int32)))), (.double (FP.i2d sv)), (.ref b36), (.ref b36)])) rfl (by rw [hml]; rfl) (Steps.refl _) (a := b36) (argsL := [(.double (FP.i2d sv)), (.double (FP.i2d (fv + (1 : Int32)))), (.double (0 : UInt64))]) (rest := [(.ref b36)]) (lenOf pd_1 rfl) rfl (by show 2 * 0 + _ ≤ _; exact Nat.le_of_eq rfl) (hb hby at_119) (fun _ _ => ⟨rfl, e36, (by decide : 4 + 0 ≤ _), (by decide : 12 + 0 ≤ _)⟩)
  dsimp only [Pt.U, Pt.locs, Pt.cells, Pt.slots] at X37 l37 y37 z37 st37 hQ37
  subst l37 y37 z37
  obtain ⟨rfl, N37q, KK37, Q37_0, Q37_1, Q37_2⟩ := hQ37
  have N37 := Fr.app N35 N37q
  have O37 : Old Z n0 T37.heap := O36.keep KK37 (allS g_b36 all0)
  have Z37 : n0 ≤ T37.heap.size := Nat.le_trans Z36 KK37.1
  have K37 : Keep h0 T37.heap [] := K36.trans KK37 (allS (Or.inr sz_b36) all0)
  obtain ⟨T38, h38, X38, e38, E38, A38, D38, U38, st38⟩ := newO X37 hx hZ hown (own_wd hw 0 rfl) (own_wd hw 1 rfl) (own_wd hw 2 rfl) rfl (g := (mkF m 124 #[.val (.int x1), .val (.int x2), .val (.int x3), .val (.int x4), .val (.long x5), .second, .val (.int sv), .val (.int fv), .val (.int kv), .val (.int ev), .val (.double uv), .second, .val (.double jv), .second, .val (.ref b28), .val (.ref b30), .val (.ref b32), .val (.ref b36), .unset, .unset, .unset, .unset, .unset, .unset, .unset, .unset, .unset, .unset, .unset, .unset, .unset, .unset, .unset, .unset] [])) rfl (hb hby at_124) (by decide) (by decide)
  obtain ⟨b38, g38⟩ : ∃ z, z = T37.heap.size := ⟨_, rfl⟩
  rw [← g38] at A38 D38 st38
  have O38 : Old Z n0 h38 := O37.ext E38
  have Z38 : n0 ≤ h38.size := Nat.le_trans Z37 E38.1
  have K38 : Keep h0 h38 [] := K37.ext E38
  have g_b38 : n0 ≤ b38 := Nat.le_trans Z37 (Nat.le_of_eq g38.symm)
  have sz_b38 : h0.size ≤ b38 := Nat.le_trans K37.1 (Nat.le_of_eq g38.symm)
  have F_b38_successes : Fld Z h38 b38 "com/example/windward/windward/EndpointRecord$Counts" "successes" "D" (.double 0) := D38 (Or.inr (own_wd hw 15 rfl)) (ty := .double) (by decide)
  have F_b38_failures : Fld Z h38 b38 "com/example/windward/windward/EndpointRecord$Counts" "failures" "D" (.double 0) := D38 (Or.inr (own_wd hw 17 rfl)) (ty := .double) (by decide)
  have F_b38_successNanos : Fld Z h38 b38 "com/example/windward/windward/EndpointRecord$Counts" "successNanos" "D" (.double 0) := D38 (Or.inr (own_wd hw 19 rfl)) (ty := .double) (by decide)
  obtain ⟨_, _, ⟨T39, L39, k39, n39⟩, -, X39, ⟨Lc39, hQ39, l39, y39, z39⟩, st39⟩ := X38.specialBack hx (y := (⟨"com/example/windward/windward/EndpointRecord$Counts", "<init>", "(DDD)V"⟩ : MethodName)) rfl hown (mvT hZ (own_wd hw 3 rfl)) (mvT hZ (own_wd hw 4 rfl)) (mvT hZ (own_wd hw 5 rfl)) (by decide) (backOf (W := 1) (rm1 l Z a0 hw [] b38 (FP.i2d (sv + (1 : Int32))) (FP.i2d fv) (0 : UInt64) (.double 0) (.double 0) (.double 0) h38 n0 Z38 O38 A38 F_b38_successes g_b38 F_b38_failures F_b38_successNanos) hZ (own_wd hw 5 rfl) (own_wd hw 2 rfl) (by decide) (by decide)) (g := (mkF m 137 #[.val (.int x1), .val (.int x2), .val (.int x3), .val (.int x4), .val (.long x5), .second, .val (.int sv), .val (.int fv), .val (.int kv), .val (.int ev), .val (.double uv), .second, .val (.double jv), .second, .val (.ref b28), .val (.ref b30), .val (.ref b32), .val (.ref b36), .unset, .unset, .unset, .unset, .unset, .unset, .unset, .unset, .unset, .unset, .unset, .unset, .unset, .unset, .unset, .unset] [(.double (0 : UInt64)), (.double (FP.i2d fv)), (.double (FP.i2d (sv + (1 : Int32)))), (.ref b38), (.ref b38)])) rfl (by rw [hml]; rfl) (Steps.refl _) (a := b38) (argsL := [(.double (FP.i2d (sv + (1 : Int32)))), (.double (FP.i2d fv)), (.double (0 : UInt64))]) (rest := [(.ref b38)]) (lenOf pd_1 rfl) rfl (by show 2 * 0 + _ ≤ _; exact Nat.le_of_eq rfl) (hb hby at_137) (fun _ _ => ⟨rfl, e38, (by decide : 5 + 0 ≤ _), (by decide : 15 + 0 ≤ _)⟩)
  dsimp only [Pt.U, Pt.locs, Pt.cells, Pt.slots] at X39 l39 y39 z39 st39 hQ39
  subst l39 y39 z39
  obtain ⟨rfl, N39q, KK39, Q39_0, Q39_1, Q39_2⟩ := hQ39
  have N39 := Fr.app N37 N39q
  have O39 : Old Z n0 T39.heap := O38.keep KK39 (allS g_b38 all0)
  have Z39 : n0 ≤ T39.heap.size := Nat.le_trans Z38 KK39.1
  have K39 : Keep h0 T39.heap [] := K38.trans KK39 (allS (Or.inr sz_b38) all0)
  have hbk : S * K + F * K < 2 ^ 53 := by have p1 : S * K ≤ 1023 * 1024 := Nat.mul_le_mul S1 K2; have p2 : F * K ≤ 1023 * 1024 := Nat.mul_le_mul F1 K2; omega
  have pre40 : ∀ t, Steps p.tables e below (T39.setTop (mkF m 142 #[.val (.int x1), .val (.int x2), .val (.int x3), .val (.int x4), .val (.long x5), .second, .val (.int sv), .val (.int fv), .val (.int kv), .val (.int ev), .val (.double uv), .second, .val (.double jv), .second, .val (.ref b28), .val (.ref b30), .val (.ref b32), .val (.ref b36), .val (.ref b38), .unset, .unset, .unset, .unset, .unset, .unset, .unset, .unset, .unset, .unset, .unset, .unset, .unset, .unset, .unset] [])) t → Steps p.tables e below (s₁.setTop (entryFrame m #[(.int x1), (.int x2), (.int x3), (.int x4), (.long x5)] maxLocals)) t := by
    intro t kt
    refine pre0 t ?_
    show Steps p.tables e below (s₁.setTop (mkF m 0 #[.val (.int x1), .val (.int x2), .val (.int x3), .val (.int x4), .val (.long x5), .second, .unset, .unset, .unset, .unset, .unset, .unset, .unset, .unset, .unset, .unset, .unset, .unset, .unset, .unset, .unset, .unset, .unset, .unset, .unset, .unset, .unset, .unset, .unset, .unset, .unset, .unset, .unset, .unset] [])) _
    refine XS.iloadN X0.here hx rfl (hb hby at_0) rfl ?_
    show Steps p.tables e below (s₁.setTop (mkF m 1 #[.val (.int x1), .val (.int x2), .val (.int x3), .val (.int x4), .val (.long x5), .second, .unset, .unset, .unset, .unset, .unset, .unset, .unset, .unset, .unset, .unset, .unset, .unset, .unset, .unset, .unset, .unset, .unset, .unset, .unset, .unset, .unset, .unset, .unset, .unset, .unset, .unset, .unset, .unset] [(.int x1)])) _
    refine XS.sipush X0.here hx rfl (hb hby at_1) ?_
    show Steps p.tables e below (s₁.setTop (mkF m 4 #[.val (.int x1), .val (.int x2), .val (.int x3), .val (.int x4), .val (.long x5), .second, .unset, .unset, .unset, .unset, .unset, .unset, .unset, .unset, .unset, .unset, .unset, .unset, .unset, .unset, .unset, .unset, .unset, .unset, .unset, .unset, .unset, .unset, .unset, .unset, .unset, .unset, .unset, .unset] [(.int (1023 : Int32)), (.int x1)])) _
    refine XS.iand X0.here hx rfl (hb hby at_4) rfl ?_
    show Steps p.tables e below (s₁.setTop (mkF m 5 #[.val (.int x1), .val (.int x2), .val (.int x3), .val (.int x4), .val (.long x5), .second, .unset, .unset, .unset, .unset, .unset, .unset, .unset, .unset, .unset, .unset, .unset, .unset, .unset, .unset, .unset, .unset, .unset, .unset, .unset, .unset, .unset, .unset, .unset, .unset, .unset, .unset, .unset, .unset] [(.int (x1 &&& (1023 : Int32)))])) _
    refine XS.istore X0.here hx rfl (hb hby at_5) rfl (l' := #[.val (.int x1), .val (.int x2), .val (.int x3), .val (.int x4), .val (.long x5), .second, .val (.int (x1 &&& (1023 : Int32))), .unset, .unset, .unset, .unset, .unset, .unset, .unset, .unset, .unset, .unset, .unset, .unset, .unset, .unset, .unset, .unset, .unset, .unset, .unset, .unset, .unset, .unset, .unset, .unset, .unset, .unset, .unset]) rfl ?_
    show Steps p.tables e below (s₁.setTop (mkF m 7 #[.val (.int x1), .val (.int x2), .val (.int x3), .val (.int x4), .val (.long x5), .second, .val (.int (x1 &&& (1023 : Int32))), .unset, .unset, .unset, .unset, .unset, .unset, .unset, .unset, .unset, .unset, .unset, .unset, .unset, .unset, .unset, .unset, .unset, .unset, .unset, .unset, .unset, .unset, .unset, .unset, .unset, .unset, .unset] [])) _
    rw [rn21]
    show Steps p.tables e below (s₁.setTop (mkF m 7 #[.val (.int x1), .val (.int x2), .val (.int x3), .val (.int x4), .val (.long x5), .second, .val (.int sv), .unset, .unset, .unset, .unset, .unset, .unset, .unset, .unset, .unset, .unset, .unset, .unset, .unset, .unset, .unset, .unset, .unset, .unset, .unset, .unset, .unset, .unset, .unset, .unset, .unset, .unset, .unset] [])) _
    refine XS.iloadN X0.here hx rfl (hb hby at_7) rfl ?_
    show Steps p.tables e below (s₁.setTop (mkF m 8 #[.val (.int x1), .val (.int x2), .val (.int x3), .val (.int x4), .val (.long x5), .second, .val (.int sv), .unset, .unset, .unset, .unset, .unset, .unset, .unset, .unset, .unset, .unset, .unset, .unset, .unset, .unset, .unset, .unset, .unset, .unset, .unset, .unset, .unset, .unset, .unset, .unset, .unset, .unset, .unset] [(.int x2)])) _
    refine XS.sipush X0.here hx rfl (hb hby at_8) ?_
    show Steps p.tables e below (s₁.setTop (mkF m 11 #[.val (.int x1), .val (.int x2), .val (.int x3), .val (.int x4), .val (.long x5), .second, .val (.int sv), .unset, .unset, .unset, .unset, .unset, .unset, .unset, .unset, .unset, .unset, .unset, .unset, .unset, .unset, .unset, .unset, .unset, .unset, .unset, .unset, .unset, .unset, .unset, .unset, .unset, .unset, .unset] [(.int (1023 : Int32)), (.int x2)])) _
    refine XS.iand X0.here hx rfl (hb hby at_11) rfl ?_
    show Steps p.tables e below (s₁.setTop (mkF m 12 #[.val (.int x1), .val (.int x2), .val (.int x3), .val (.int x4), .val (.long x5), .second, .val (.int sv), .unset, .unset, .unset, .unset, .unset, .unset, .unset, .unset, .unset, .unset, .unset, .unset, .unset, .unset, .unset, .unset, .unset, .unset, .unset, .unset, .unset, .unset, .unset, .unset, .unset, .unset, .unset] [(.int (x2 &&& (1023 : Int32)))])) _
    refine XS.istore X0.here hx rfl (hb hby at_12) rfl (l' := #[.val (.int x1), .val (.int x2), .val (.int x3), .val (.int x4), .val (.long x5), .second, .val (.int sv), .val (.int (x2 &&& (1023 : Int32))), .unset, .unset, .unset, .unset, .unset, .unset, .unset, .unset, .unset, .unset, .unset, .unset, .unset, .unset, .unset, .unset, .unset, .unset, .unset, .unset, .unset, .unset, .unset, .unset, .unset, .unset]) rfl ?_
    show Steps p.tables e below (s₁.setTop (mkF m 14 #[.val (.int x1), .val (.int x2), .val (.int x3), .val (.int x4), .val (.long x5), .second, .val (.int sv), .val (.int (x2 &&& (1023 : Int32))), .unset, .unset, .unset, .unset, .unset, .unset, .unset, .unset, .unset, .unset, .unset, .unset, .unset, .unset, .unset, .unset, .unset, .unset, .unset, .unset, .unset, .unset, .unset, .unset, .unset, .unset] [])) _
    rw [rn22]
    show Steps p.tables e below (s₁.setTop (mkF m 14 #[.val (.int x1), .val (.int x2), .val (.int x3), .val (.int x4), .val (.long x5), .second, .val (.int sv), .val (.int fv), .unset, .unset, .unset, .unset, .unset, .unset, .unset, .unset, .unset, .unset, .unset, .unset, .unset, .unset, .unset, .unset, .unset, .unset, .unset, .unset, .unset, .unset, .unset, .unset, .unset, .unset] [])) _
    refine XS.iloadN X0.here hx rfl (hb hby at_14) rfl ?_
    show Steps p.tables e below (s₁.setTop (mkF m 15 #[.val (.int x1), .val (.int x2), .val (.int x3), .val (.int x4), .val (.long x5), .second, .val (.int sv), .val (.int fv), .unset, .unset, .unset, .unset, .unset, .unset, .unset, .unset, .unset, .unset, .unset, .unset, .unset, .unset, .unset, .unset, .unset, .unset, .unset, .unset, .unset, .unset, .unset, .unset, .unset, .unset] [(.int x3)])) _
    refine XS.sipush X0.here hx rfl (hb hby at_15) ?_
    show Steps p.tables e below (s₁.setTop (mkF m 18 #[.val (.int x1), .val (.int x2), .val (.int x3), .val (.int x4), .val (.long x5), .second, .val (.int sv), .val (.int fv), .unset, .unset, .unset, .unset, .unset, .unset, .unset, .unset, .unset, .unset, .unset, .unset, .unset, .unset, .unset, .unset, .unset, .unset, .unset, .unset, .unset, .unset, .unset, .unset, .unset, .unset] [(.int (1023 : Int32)), (.int x3)])) _
    refine XS.iand X0.here hx rfl (hb hby at_18) rfl ?_
    show Steps p.tables e below (s₁.setTop (mkF m 19 #[.val (.int x1), .val (.int x2), .val (.int x3), .val (.int x4), .val (.long x5), .second, .val (.int sv), .val (.int fv), .unset, .unset, .unset, .unset, .unset, .unset, .unset, .unset, .unset, .unset, .unset, .unset, .unset, .unset, .unset, .unset, .unset, .unset, .unset, .unset, .unset, .unset, .unset, .unset, .unset, .unset] [(.int (x3 &&& (1023 : Int32)))])) _
    refine XS.iconst X0.here hx rfl (hb hby at_19) ?_
    show Steps p.tables e below (s₁.setTop (mkF m 20 #[.val (.int x1), .val (.int x2), .val (.int x3), .val (.int x4), .val (.long x5), .second, .val (.int sv), .val (.int fv), .unset, .unset, .unset, .unset, .unset, .unset, .unset, .unset, .unset, .unset, .unset, .unset, .unset, .unset, .unset, .unset, .unset, .unset, .unset, .unset, .unset, .unset, .unset, .unset, .unset, .unset] [(.int (1 : Int32)), (.int (x3 &&& (1023 : Int32)))])) _
    refine XS.iadd X0.here hx rfl (hb hby at_20) rfl ?_
    show Steps p.tables e below (s₁.setTop (mkF m 21 #[.val (.int x1), .val (.int x2), .val (.int x3), .val (.int x4), .val (.long x5), .second, .val (.int sv), .val (.int fv), .unset, .unset, .unset, .unset, .unset, .unset, .unset, .unset, .unset, .unset, .unset, .unset, .unset, .unset, .unset, .unset, .unset, .unset, .unset, .unset, .unset, .unset, .unset, .unset, .unset, .unset] [(.int ((x3 &&& (1023 : Int32)) + (1 : Int32)))])) _
    refine XS.istore X0.here hx rfl (hb hby at_21) rfl (l' := #[.val (.int x1), .val (.int x2), .val (.int x3), .val (.int x4), .val (.long x5), .second, .val (.int sv), .val (.int fv), .val (.int ((x3 &&& (1023 : Int32)) + (1 : Int32))), .unset, .unset, .unset, .unset, .unset, .unset, .unset, .unset, .unset, .unset, .unset, .unset, .unset, .unset, .unset, .unset, .unset, .unset, .unset, .unset, .unset, .unset, .unset, .unset, .unset]) rfl ?_
    show Steps p.tables e below (s₁.setTop (mkF m 23 #[.val (.int x1), .val (.int x2), .val (.int x3), .val (.int x4), .val (.long x5), .second, .val (.int sv), .val (.int fv), .val (.int ((x3 &&& (1023 : Int32)) + (1 : Int32))), .unset, .unset, .unset, .unset, .unset, .unset, .unset, .unset, .unset, .unset, .unset, .unset, .unset, .unset, .unset, .unset, .unset, .unset, .unset, .unset, .unset, .unset, .unset, .unset, .unset] [])) _
    rw [rn23]
    show Steps p.tables e below (s₁.setTop (mkF m 23 #[.val (.int x1), .val (.int x2), .val (.int x3), .val (.int x4), .val (.long x5), .second, .val (.int sv), .val (.int fv), .val (.int kv), .unset, .unset, .unset, .unset, .unset, .unset, .unset, .unset, .unset, .unset, .unset, .unset, .unset, .unset, .unset, .unset, .unset, .unset, .unset, .unset, .unset, .unset, .unset, .unset, .unset] [])) _
    refine XS.iloadN X0.here hx rfl (hb hby at_23) rfl ?_
    show Steps p.tables e below (s₁.setTop (mkF m 24 #[.val (.int x1), .val (.int x2), .val (.int x3), .val (.int x4), .val (.long x5), .second, .val (.int sv), .val (.int fv), .val (.int kv), .unset, .unset, .unset, .unset, .unset, .unset, .unset, .unset, .unset, .unset, .unset, .unset, .unset, .unset, .unset, .unset, .unset, .unset, .unset, .unset, .unset, .unset, .unset, .unset, .unset] [(.int x4)])) _
    refine XS.bipush X0.here hx rfl (hb hby at_24) ?_
    show Steps p.tables e below (s₁.setTop (mkF m 26 #[.val (.int x1), .val (.int x2), .val (.int x3), .val (.int x4), .val (.long x5), .second, .val (.int sv), .val (.int fv), .val (.int kv), .unset, .unset, .unset, .unset, .unset, .unset, .unset, .unset, .unset, .unset, .unset, .unset, .unset, .unset, .unset, .unset, .unset, .unset, .unset, .unset, .unset, .unset, .unset, .unset, .unset] [(.int (7 : Int32)), (.int x4)])) _
    refine XS.iand X0.here hx rfl (hb hby at_26) rfl ?_
    show Steps p.tables e below (s₁.setTop (mkF m 27 #[.val (.int x1), .val (.int x2), .val (.int x3), .val (.int x4), .val (.long x5), .second, .val (.int sv), .val (.int fv), .val (.int kv), .unset, .unset, .unset, .unset, .unset, .unset, .unset, .unset, .unset, .unset, .unset, .unset, .unset, .unset, .unset, .unset, .unset, .unset, .unset, .unset, .unset, .unset, .unset, .unset, .unset] [(.int (x4 &&& (7 : Int32)))])) _
    refine XS.istore X0.here hx rfl (hb hby at_27) rfl (l' := #[.val (.int x1), .val (.int x2), .val (.int x3), .val (.int x4), .val (.long x5), .second, .val (.int sv), .val (.int fv), .val (.int kv), .val (.int (x4 &&& (7 : Int32))), .unset, .unset, .unset, .unset, .unset, .unset, .unset, .unset, .unset, .unset, .unset, .unset, .unset, .unset, .unset, .unset, .unset, .unset, .unset, .unset, .unset, .unset, .unset, .unset]) rfl ?_
    show Steps p.tables e below (s₁.setTop (mkF m 29 #[.val (.int x1), .val (.int x2), .val (.int x3), .val (.int x4), .val (.long x5), .second, .val (.int sv), .val (.int fv), .val (.int kv), .val (.int (x4 &&& (7 : Int32))), .unset, .unset, .unset, .unset, .unset, .unset, .unset, .unset, .unset, .unset, .unset, .unset, .unset, .unset, .unset, .unset, .unset, .unset, .unset, .unset, .unset, .unset, .unset, .unset] [])) _
    rw [rn24]
    show Steps p.tables e below (s₁.setTop (mkF m 29 #[.val (.int x1), .val (.int x2), .val (.int x3), .val (.int x4), .val (.long x5), .second, .val (.int sv), .val (.int fv), .val (.int kv), .val (.int ev), .unset, .unset, .unset, .unset, .unset, .unset, .unset, .unset, .unset, .unset, .unset, .unset, .unset, .unset, .unset, .unset, .unset, .unset, .unset, .unset, .unset, .unset, .unset, .unset] [])) _
    refine XS.dconst1 X0.here hx rfl (hb hby at_29) (v := (4607182418800017408 : UInt64)) rfl ?_
    show Steps p.tables e below (s₁.setTop (mkF m 30 #[.val (.int x1), .val (.int x2), .val (.int x3), .val (.int x4), .val (.long x5), .second, .val (.int sv), .val (.int fv), .val (.int kv), .val (.int ev), .unset, .unset, .unset, .unset, .unset, .unset, .unset, .unset, .unset, .unset, .unset, .unset, .unset, .unset, .unset, .unset, .unset, .unset, .unset, .unset, .unset, .unset, .unset, .unset] [(.double (4607182418800017408 : UInt64))])) _
    refine XS.iconst X0.here hx rfl (hb hby at_30) ?_
    show Steps p.tables e below (s₁.setTop (mkF m 31 #[.val (.int x1), .val (.int x2), .val (.int x3), .val (.int x4), .val (.long x5), .second, .val (.int sv), .val (.int fv), .val (.int kv), .val (.int ev), .unset, .unset, .unset, .unset, .unset, .unset, .unset, .unset, .unset, .unset, .unset, .unset, .unset, .unset, .unset, .unset, .unset, .unset, .unset, .unset, .unset, .unset, .unset, .unset] [(.int (1 : Int32)), (.double (4607182418800017408 : UInt64))])) _
    refine XS.iload X0.here hx rfl (hb hby at_31) rfl ?_
    show Steps p.tables e below (s₁.setTop (mkF m 33 #[.val (.int x1), .val (.int x2), .val (.int x3), .val (.int x4), .val (.long x5), .second, .val (.int sv), .val (.int fv), .val (.int kv), .val (.int ev), .unset, .unset, .unset, .unset, .unset, .unset, .unset, .unset, .unset, .unset, .unset, .unset, .unset, .unset, .unset, .unset, .unset, .unset, .unset, .unset, .unset, .unset, .unset, .unset] [(.int ev), (.int (1 : Int32)), (.double (4607182418800017408 : UInt64))])) _
    refine XS.ishl X0.here hx rfl (hb hby at_33) rfl ?_
    show Steps p.tables e below (s₁.setTop (mkF m 34 #[.val (.int x1), .val (.int x2), .val (.int x3), .val (.int x4), .val (.long x5), .second, .val (.int sv), .val (.int fv), .val (.int kv), .val (.int ev), .unset, .unset, .unset, .unset, .unset, .unset, .unset, .unset, .unset, .unset, .unset, .unset, .unset, .unset, .unset, .unset, .unset, .unset, .unset, .unset, .unset, .unset, .unset, .unset] [(.int ((1 : Int32) <<< (ev &&& 31))), (.double (4607182418800017408 : UInt64))])) _
    refine XS.i2dS X0.here hx rfl (hb hby at_34) rfl rfl ?_
    show Steps p.tables e below (s₁.setTop (mkF m 35 #[.val (.int x1), .val (.int x2), .val (.int x3), .val (.int x4), .val (.long x5), .second, .val (.int sv), .val (.int fv), .val (.int kv), .val (.int ev), .unset, .unset, .unset, .unset, .unset, .unset, .unset, .unset, .unset, .unset, .unset, .unset, .unset, .unset, .unset, .unset, .unset, .unset, .unset, .unset, .unset, .unset, .unset, .unset] [(.double (FP.i2d ((1 : Int32) <<< (ev &&& 31)))), (.double (4607182418800017408 : UInt64))])) _
    refine XS.ddivS X0.here hx rfl (hb hby at_35) rfl nn25 rfl ?_
    show Steps p.tables e below (s₁.setTop (mkF m 36 #[.val (.int x1), .val (.int x2), .val (.int x3), .val (.int x4), .val (.long x5), .second, .val (.int sv), .val (.int fv), .val (.int kv), .val (.int ev), .unset, .unset, .unset, .unset, .unset, .unset, .unset, .unset, .unset, .unset, .unset, .unset, .unset, .unset, .unset, .unset, .unset, .unset, .unset, .unset, .unset, .unset, .unset, .unset] [(.double (FP.ddiv (4607182418800017408 : UInt64) (FP.i2d ((1 : Int32) <<< (ev &&& 31)))))])) _
    refine XS.dstore X0.here hx rfl (hb hby at_36) rfl (l' := #[.val (.int x1), .val (.int x2), .val (.int x3), .val (.int x4), .val (.long x5), .second, .val (.int sv), .val (.int fv), .val (.int kv), .val (.int ev), .val (.double (FP.ddiv (4607182418800017408 : UInt64) (FP.i2d ((1 : Int32) <<< (ev &&& 31))))), .second, .unset, .unset, .unset, .unset, .unset, .unset, .unset, .unset, .unset, .unset, .unset, .unset, .unset, .unset, .unset, .unset, .unset, .unset, .unset, .unset, .unset, .unset]) rfl ?_
    show Steps p.tables e below (s₁.setTop (mkF m 38 #[.val (.int x1), .val (.int x2), .val (.int x3), .val (.int x4), .val (.long x5), .second, .val (.int sv), .val (.int fv), .val (.int kv), .val (.int ev), .val (.double (FP.ddiv (4607182418800017408 : UInt64) (FP.i2d ((1 : Int32) <<< (ev &&& 31))))), .second, .unset, .unset, .unset, .unset, .unset, .unset, .unset, .unset, .unset, .unset, .unset, .unset, .unset, .unset, .unset, .unset, .unset, .unset, .unset, .unset, .unset, .unset] [])) _
    rw [rn26]
    show Steps p.tables e below (s₁.setTop (mkF m 38 #[.val (.int x1), .val (.int x2), .val (.int x3), .val (.int x4), .val (.long x5), .second, .val (.int sv), .val (.int fv), .val (.int kv), .val (.int ev), .val (.double uv), .second, .unset, .unset, .unset, .unset, .unset, .unset, .unset, .unset, .unset, .unset, .unset, .unset, .unset, .unset, .unset, .unset, .unset, .unset, .unset, .unset, .unset, .unset] [])) _
    refine XS.lload X0.here hx rfl (hb hby at_38) rfl ?_
    show Steps p.tables e below (s₁.setTop (mkF m 40 #[.val (.int x1), .val (.int x2), .val (.int x3), .val (.int x4), .val (.long x5), .second, .val (.int sv), .val (.int fv), .val (.int kv), .val (.int ev), .val (.double uv), .second, .unset, .unset, .unset, .unset, .unset, .unset, .unset, .unset, .unset, .unset, .unset, .unset, .unset, .unset, .unset, .unset, .unset, .unset, .unset, .unset, .unset, .unset] [(.long x5)])) _
    refine XS.l2dS X0.here hx rfl (hb hby at_40) rfl rfl ?_
    show Steps p.tables e below (s₁.setTop (mkF m 41 #[.val (.int x1), .val (.int x2), .val (.int x3), .val (.int x4), .val (.long x5), .second, .val (.int sv), .val (.int fv), .val (.int kv), .val (.int ev), .val (.double uv), .second, .unset, .unset, .unset, .unset, .unset, .unset, .unset, .unset, .unset, .unset, .unset, .unset, .unset, .unset, .unset, .unset, .unset, .unset, .unset, .unset, .unset, .unset] [(.double (FP.l2d x5))])) _
    refine XS.dstore X0.here hx rfl (hb hby at_41) rfl (l' := #[.val (.int x1), .val (.int x2), .val (.int x3), .val (.int x4), .val (.long x5), .second, .val (.int sv), .val (.int fv), .val (.int kv), .val (.int ev), .val (.double uv), .second, .val (.double (FP.l2d x5)), .second, .unset, .unset, .unset, .unset, .unset, .unset, .unset, .unset, .unset, .unset, .unset, .unset, .unset, .unset, .unset, .unset, .unset, .unset, .unset, .unset]) rfl ?_
    show Steps p.tables e below (s₁.setTop (mkF m 43 #[.val (.int x1), .val (.int x2), .val (.int x3), .val (.int x4), .val (.long x5), .second, .val (.int sv), .val (.int fv), .val (.int kv), .val (.int ev), .val (.double uv), .second, .val (.double (FP.l2d x5)), .second, .unset, .unset, .unset, .unset, .unset, .unset, .unset, .unset, .unset, .unset, .unset, .unset, .unset, .unset, .unset, .unset, .unset, .unset, .unset, .unset] [])) _
    rw [rn27]
    show Steps p.tables e below (s₁.setTop (mkF m 43 #[.val (.int x1), .val (.int x2), .val (.int x3), .val (.int x4), .val (.long x5), .second, .val (.int sv), .val (.int fv), .val (.int kv), .val (.int ev), .val (.double uv), .second, .val (.double jv), .second, .unset, .unset, .unset, .unset, .unset, .unset, .unset, .unset, .unset, .unset, .unset, .unset, .unset, .unset, .unset, .unset, .unset, .unset, .unset, .unset] [])) _
    refine st28 _ ?_
    show Steps p.tables e below (T28.setTop (mkF m 46 #[.val (.int x1), .val (.int x2), .val (.int x3), .val (.int x4), .val (.long x5), .second, .val (.int sv), .val (.int fv), .val (.int kv), .val (.int ev), .val (.double uv), .second, .val (.double jv), .second, .unset, .unset, .unset, .unset, .unset, .unset, .unset, .unset, .unset, .unset, .unset, .unset, .unset, .unset, .unset, .unset, .unset, .unset, .unset, .unset] [(.ref b28)])) _
    refine XS.dup X28.here hx rfl (hb hby at_46) rfl rfl ?_
    show Steps p.tables e below (T28.setTop (mkF m 47 #[.val (.int x1), .val (.int x2), .val (.int x3), .val (.int x4), .val (.long x5), .second, .val (.int sv), .val (.int fv), .val (.int kv), .val (.int ev), .val (.double uv), .second, .val (.double jv), .second, .unset, .unset, .unset, .unset, .unset, .unset, .unset, .unset, .unset, .unset, .unset, .unset, .unset, .unset, .unset, .unset, .unset, .unset, .unset, .unset] [(.ref b28), (.ref b28)])) _
    refine XS.iload X28.here hx rfl (hb hby at_47) rfl ?_
    show Steps p.tables e below (T28.setTop (mkF m 49 #[.val (.int x1), .val (.int x2), .val (.int x3), .val (.int x4), .val (.long x5), .second, .val (.int sv), .val (.int fv), .val (.int kv), .val (.int ev), .val (.double uv), .second, .val (.double jv), .second, .unset, .unset, .unset, .unset, .unset, .unset, .unset, .unset, .unset, .unset, .unset, .unset, .unset, .unset, .unset, .unset, .unset, .unset, .unset, .unset] [(.int sv), (.ref b28), (.ref b28)])) _
    refine XS.i2dS X28.here hx rfl (hb hby at_49) rfl rfl ?_
    show Steps p.tables e below (T28.setTop (mkF m 50 #[.val (.int x1), .val (.int x2), .val (.int x3), .val (.int x4), .val (.long x5), .second, .val (.int sv), .val (.int fv), .val (.int kv), .val (.int ev), .val (.double uv), .second, .val (.double jv), .second, .unset, .unset, .unset, .unset, .unset, .unset, .unset, .unset, .unset, .unset, .unset, .unset, .unset, .unset, .unset, .unset, .unset, .unset, .unset, .unset] [(.double (FP.i2d sv)), (.ref b28), (.ref b28)])) _
    refine XS.iload X28.here hx rfl (hb hby at_50) rfl ?_
    show Steps p.tables e below (T28.setTop (mkF m 52 #[.val (.int x1), .val (.int x2), .val (.int x3), .val (.int x4), .val (.long x5), .second, .val (.int sv), .val (.int fv), .val (.int kv), .val (.int ev), .val (.double uv), .second, .val (.double jv), .second, .unset, .unset, .unset, .unset, .unset, .unset, .unset, .unset, .unset, .unset, .unset, .unset, .unset, .unset, .unset, .unset, .unset, .unset, .unset, .unset] [(.int fv), (.double (FP.i2d sv)), (.ref b28), (.ref b28)])) _
    refine XS.i2dS X28.here hx rfl (hb hby at_52) rfl rfl ?_
    show Steps p.tables e below (T28.setTop (mkF m 53 #[.val (.int x1), .val (.int x2), .val (.int x3), .val (.int x4), .val (.long x5), .second, .val (.int sv), .val (.int fv), .val (.int kv), .val (.int ev), .val (.double uv), .second, .val (.double jv), .second, .unset, .unset, .unset, .unset, .unset, .unset, .unset, .unset, .unset, .unset, .unset, .unset, .unset, .unset, .unset, .unset, .unset, .unset, .unset, .unset] [(.double (FP.i2d fv)), (.double (FP.i2d sv)), (.ref b28), (.ref b28)])) _
    refine XS.dload X28.here hx rfl (hb hby at_53) rfl ?_
    show Steps p.tables e below (T28.setTop (mkF m 55 #[.val (.int x1), .val (.int x2), .val (.int x3), .val (.int x4), .val (.long x5), .second, .val (.int sv), .val (.int fv), .val (.int kv), .val (.int ev), .val (.double uv), .second, .val (.double jv), .second, .unset, .unset, .unset, .unset, .unset, .unset, .unset, .unset, .unset, .unset, .unset, .unset, .unset, .unset, .unset, .unset, .unset, .unset, .unset, .unset] [(.double jv), (.double (FP.i2d fv)), (.double (FP.i2d sv)), (.ref b28), (.ref b28)])) _
    refine st29.trans ?_
    show Steps p.tables e below (T29.setTop (mkF m 58 #[.val (.int x1), .val (.int x2), .val (.int x3), .val (.int x4), .val (.long x5), .second, .val (.int sv), .val (.int fv), .val (.int kv), .val (.int ev), .val (.double uv), .second, .val (.double jv), .second, .unset, .unset, .unset, .unset, .unset, .unset, .unset, .unset, .unset, .unset, .unset, .unset, .unset, .unset, .unset, .unset, .unset, .unset, .unset, .unset] [(.ref b28)])) _
    refine XS.astore X29.here hx rfl (hb hby at_58) rfl rfl (l' := #[.val (.int x1), .val (.int x2), .val (.int x3), .val (.int x4), .val (.long x5), .second, .val (.int sv), .val (.int fv), .val (.int kv), .val (.int ev), .val (.double uv), .second, .val (.double jv), .second, .val (.ref b28), .unset, .unset, .unset, .unset, .unset, .unset, .unset, .unset, .unset, .unset, .unset, .unset, .unset, .unset, .unset, .unset, .unset, .unset, .unset]) rfl ?_
    show Steps p.tables e below (T29.setTop (mkF m 60 #[.val (.int x1), .val (.int x2), .val (.int x3), .val (.int x4), .val (.long x5), .second, .val (.int sv), .val (.int fv), .val (.int kv), .val (.int ev), .val (.double uv), .second, .val (.double jv), .second, .val (.ref b28), .unset, .unset, .unset, .unset, .unset, .unset, .unset, .unset, .unset, .unset, .unset, .unset, .unset, .unset, .unset, .unset, .unset, .unset, .unset] [])) _
    refine st30 _ ?_
    show Steps p.tables e below (T30.setTop (mkF m 63 #[.val (.int x1), .val (.int x2), .val (.int x3), .val (.int x4), .val (.long x5), .second, .val (.int sv), .val (.int fv), .val (.int kv), .val (.int ev), .val (.double uv), .second, .val (.double jv), .second, .val (.ref b28), .unset, .unset, .unset, .unset, .unset, .unset, .unset, .unset, .unset, .unset, .unset, .unset, .unset, .unset, .unset, .unset, .unset, .unset, .unset] [(.ref b30)])) _
    refine XS.dup X30.here hx rfl (hb hby at_63) rfl rfl ?_
    show Steps p.tables e below (T30.setTop (mkF m 64 #[.val (.int x1), .val (.int x2), .val (.int x3), .val (.int x4), .val (.long x5), .second, .val (.int sv), .val (.int fv), .val (.int kv), .val (.int ev), .val (.double uv), .second, .val (.double jv), .second, .val (.ref b28), .unset, .unset, .unset, .unset, .unset, .unset, .unset, .unset, .unset, .unset, .unset, .unset, .unset, .unset, .unset, .unset, .unset, .unset, .unset] [(.ref b30), (.ref b30)])) _
    refine XS.iload X30.here hx rfl (hb hby at_64) rfl ?_
    show Steps p.tables e below (T30.setTop (mkF m 66 #[.val (.int x1), .val (.int x2), .val (.int x3), .val (.int x4), .val (.long x5), .second, .val (.int sv), .val (.int fv), .val (.int kv), .val (.int ev), .val (.double uv), .second, .val (.double jv), .second, .val (.ref b28), .unset, .unset, .unset, .unset, .unset, .unset, .unset, .unset, .unset, .unset, .unset, .unset, .unset, .unset, .unset, .unset, .unset, .unset, .unset] [(.int sv), (.ref b30), (.ref b30)])) _
    refine XS.iload X30.here hx rfl (hb hby at_66) rfl ?_
    show Steps p.tables e below (T30.setTop (mkF m 68 #[.val (.int x1), .val (.int x2), .val (.int x3), .val (.int x4), .val (.long x5), .second, .val (.int sv), .val (.int fv), .val (.int kv), .val (.int ev), .val (.double uv), .second, .val (.double jv), .second, .val (.ref b28), .unset, .unset, .unset, .unset, .unset, .unset, .unset, .unset, .unset, .unset, .unset, .unset, .unset, .unset, .unset, .unset, .unset, .unset, .unset] [(.int kv), (.int sv), (.ref b30), (.ref b30)])) _
    refine XS.imul X30.here hx rfl (hb hby at_68) rfl ?_
    show Steps p.tables e below (T30.setTop (mkF m 69 #[.val (.int x1), .val (.int x2), .val (.int x3), .val (.int x4), .val (.long x5), .second, .val (.int sv), .val (.int fv), .val (.int kv), .val (.int ev), .val (.double uv), .second, .val (.double jv), .second, .val (.ref b28), .unset, .unset, .unset, .unset, .unset, .unset, .unset, .unset, .unset, .unset, .unset, .unset, .unset, .unset, .unset, .unset, .unset, .unset, .unset] [(.int (sv * kv)), (.ref b30), (.ref b30)])) _
    refine XS.i2dS X30.here hx rfl (hb hby at_69) rfl rfl ?_
    show Steps p.tables e below (T30.setTop (mkF m 70 #[.val (.int x1), .val (.int x2), .val (.int x3), .val (.int x4), .val (.long x5), .second, .val (.int sv), .val (.int fv), .val (.int kv), .val (.int ev), .val (.double uv), .second, .val (.double jv), .second, .val (.ref b28), .unset, .unset, .unset, .unset, .unset, .unset, .unset, .unset, .unset, .unset, .unset, .unset, .unset, .unset, .unset, .unset, .unset, .unset, .unset] [(.double (FP.i2d (sv * kv))), (.ref b30), (.ref b30)])) _
    refine XS.iload X30.here hx rfl (hb hby at_70) rfl ?_
    show Steps p.tables e below (T30.setTop (mkF m 72 #[.val (.int x1), .val (.int x2), .val (.int x3), .val (.int x4), .val (.long x5), .second, .val (.int sv), .val (.int fv), .val (.int kv), .val (.int ev), .val (.double uv), .second, .val (.double jv), .second, .val (.ref b28), .unset, .unset, .unset, .unset, .unset, .unset, .unset, .unset, .unset, .unset, .unset, .unset, .unset, .unset, .unset, .unset, .unset, .unset, .unset] [(.int fv), (.double (FP.i2d (sv * kv))), (.ref b30), (.ref b30)])) _
    refine XS.iload X30.here hx rfl (hb hby at_72) rfl ?_
    show Steps p.tables e below (T30.setTop (mkF m 74 #[.val (.int x1), .val (.int x2), .val (.int x3), .val (.int x4), .val (.long x5), .second, .val (.int sv), .val (.int fv), .val (.int kv), .val (.int ev), .val (.double uv), .second, .val (.double jv), .second, .val (.ref b28), .unset, .unset, .unset, .unset, .unset, .unset, .unset, .unset, .unset, .unset, .unset, .unset, .unset, .unset, .unset, .unset, .unset, .unset, .unset] [(.int kv), (.int fv), (.double (FP.i2d (sv * kv))), (.ref b30), (.ref b30)])) _
    refine XS.imul X30.here hx rfl (hb hby at_74) rfl ?_
    show Steps p.tables e below (T30.setTop (mkF m 75 #[.val (.int x1), .val (.int x2), .val (.int x3), .val (.int x4), .val (.long x5), .second, .val (.int sv), .val (.int fv), .val (.int kv), .val (.int ev), .val (.double uv), .second, .val (.double jv), .second, .val (.ref b28), .unset, .unset, .unset, .unset, .unset, .unset, .unset, .unset, .unset, .unset, .unset, .unset, .unset, .unset, .unset, .unset, .unset, .unset, .unset] [(.int (fv * kv)), (.double (FP.i2d (sv * kv))), (.ref b30), (.ref b30)])) _
    refine XS.i2dS X30.here hx rfl (hb hby at_75) rfl rfl ?_
    show Steps p.tables e below (T30.setTop (mkF m 76 #[.val (.int x1), .val (.int x2), .val (.int x3), .val (.int x4), .val (.long x5), .second, .val (.int sv), .val (.int fv), .val (.int kv), .val (.int ev), .val (.double uv), .second, .val (.double jv), .second, .val (.ref b28), .unset, .unset, .unset, .unset, .unset, .unset, .unset, .unset, .unset, .unset, .unset, .unset, .unset, .unset, .unset, .unset, .unset, .unset, .unset] [(.double (FP.i2d (fv * kv))), (.double (FP.i2d (sv * kv))), (.ref b30), (.ref b30)])) _
    refine XS.dconst0 X30.here hx rfl (hb hby at_76) (v := (0 : UInt64)) rfl ?_
    show Steps p.tables e below (T30.setTop (mkF m 77 #[.val (.int x1), .val (.int x2), .val (.int x3), .val (.int x4), .val (.long x5), .second, .val (.int sv), .val (.int fv), .val (.int kv), .val (.int ev), .val (.double uv), .second, .val (.double jv), .second, .val (.ref b28), .unset, .unset, .unset, .unset, .unset, .unset, .unset, .unset, .unset, .unset, .unset, .unset, .unset, .unset, .unset, .unset, .unset, .unset, .unset] [(.double (0 : UInt64)), (.double (FP.i2d (fv * kv))), (.double (FP.i2d (sv * kv))), (.ref b30), (.ref b30)])) _
    refine st31.trans ?_
    show Steps p.tables e below (T31.setTop (mkF m 80 #[.val (.int x1), .val (.int x2), .val (.int x3), .val (.int x4), .val (.long x5), .second, .val (.int sv), .val (.int fv), .val (.int kv), .val (.int ev), .val (.double uv), .second, .val (.double jv), .second, .val (.ref b28), .unset, .unset, .unset, .unset, .unset, .unset, .unset, .unset, .unset, .unset, .unset, .unset, .unset, .unset, .unset, .unset, .unset, .unset, .unset] [(.ref b30)])) _
    refine XS.astore X31.here hx rfl (hb hby at_80) rfl rfl (l' := #[.val (.int x1), .val (.int x2), .val (.int x3), .val (.int x4), .val (.long x5), .second, .val (.int sv), .val (.int fv), .val (.int kv), .val (.int ev), .val (.double uv), .second, .val (.double jv), .second, .val (.ref b28), .val (.ref b30), .unset, .unset, .unset, .unset, .unset, .unset, .unset, .unset, .unset, .unset, .unset, .unset, .unset, .unset, .unset, .unset, .unset, .unset]) rfl ?_
    show Steps p.tables e below (T31.setTop (mkF m 82 #[.val (.int x1), .val (.int x2), .val (.int x3), .val (.int x4), .val (.long x5), .second, .val (.int sv), .val (.int fv), .val (.int kv), .val (.int ev), .val (.double uv), .second, .val (.double jv), .second, .val (.ref b28), .val (.ref b30), .unset, .unset, .unset, .unset, .unset, .unset, .unset, .unset, .unset, .unset, .unset, .unset, .unset, .unset, .unset, .unset, .unset, .unset] [])) _
    refine st32 _ ?_
    show Steps p.tables e below (T32.setTop (mkF m 85 #[.val (.int x1), .val (.int x2), .val (.int x3), .val (.int x4), .val (.long x5), .second, .val (.int sv), .val (.int fv), .val (.int kv), .val (.int ev), .val (.double uv), .second, .val (.double jv), .second, .val (.ref b28), .val (.ref b30), .unset, .unset, .unset, .unset, .unset, .unset, .unset, .unset, .unset, .unset, .unset, .unset, .unset, .unset, .unset, .unset, .unset, .unset] [(.ref b32)])) _
    refine XS.dup X32.here hx rfl (hb hby at_85) rfl rfl ?_
    show Steps p.tables e below (T32.setTop (mkF m 86 #[.val (.int x1), .val (.int x2), .val (.int x3), .val (.int x4), .val (.long x5), .second, .val (.int sv), .val (.int fv), .val (.int kv), .val (.int ev), .val (.double uv), .second, .val (.double jv), .second, .val (.ref b28), .val (.ref b30), .unset, .unset, .unset, .unset, .unset, .unset, .unset, .unset, .unset, .unset, .unset, .unset, .unset, .unset, .unset, .unset, .unset, .unset] [(.ref b32), (.ref b32)])) _
    refine XS.iload X32.here hx rfl (hb hby at_86) rfl ?_
    show Steps p.tables e below (T32.setTop (mkF m 88 #[.val (.int x1), .val (.int x2), .val (.int x3), .val (.int x4), .val (.long x5), .second, .val (.int sv), .val (.int fv), .val (.int kv), .val (.int ev), .val (.double uv), .second, .val (.double jv), .second, .val (.ref b28), .val (.ref b30), .unset, .unset, .unset, .unset, .unset, .unset, .unset, .unset, .unset, .unset, .unset, .unset, .unset, .unset, .unset, .unset, .unset, .unset] [(.int sv), (.ref b32), (.ref b32)])) _
    refine XS.i2dS X32.here hx rfl (hb hby at_88) rfl rfl ?_
    show Steps p.tables e below (T32.setTop (mkF m 89 #[.val (.int x1), .val (.int x2), .val (.int x3), .val (.int x4), .val (.long x5), .second, .val (.int sv), .val (.int fv), .val (.int kv), .val (.int ev), .val (.double uv), .second, .val (.double jv), .second, .val (.ref b28), .val (.ref b30), .unset, .unset, .unset, .unset, .unset, .unset, .unset, .unset, .unset, .unset, .unset, .unset, .unset, .unset, .unset, .unset, .unset, .unset] [(.double (FP.i2d sv)), (.ref b32), (.ref b32)])) _
    refine XS.dload X32.here hx rfl (hb hby at_89) rfl ?_
    show Steps p.tables e below (T32.setTop (mkF m 91 #[.val (.int x1), .val (.int x2), .val (.int x3), .val (.int x4), .val (.long x5), .second, .val (.int sv), .val (.int fv), .val (.int kv), .val (.int ev), .val (.double uv), .second, .val (.double jv), .second, .val (.ref b28), .val (.ref b30), .unset, .unset, .unset, .unset, .unset, .unset, .unset, .unset, .unset, .unset, .unset, .unset, .unset, .unset, .unset, .unset, .unset, .unset] [(.double uv), (.double (FP.i2d sv)), (.ref b32), (.ref b32)])) _
    refine XS.dmulS X32.here hx rfl (hb hby at_91) rfl nn33 rfl ?_
    show Steps p.tables e below (T32.setTop (mkF m 92 #[.val (.int x1), .val (.int x2), .val (.int x3), .val (.int x4), .val (.long x5), .second, .val (.int sv), .val (.int fv), .val (.int kv), .val (.int ev), .val (.double uv), .second, .val (.double jv), .second, .val (.ref b28), .val (.ref b30), .unset, .unset, .unset, .unset, .unset, .unset, .unset, .unset, .unset, .unset, .unset, .unset, .unset, .unset, .unset, .unset, .unset, .unset] [(.double (FP.dmul (FP.i2d sv) uv)), (.ref b32), (.ref b32)])) _
    refine XS.iload X32.here hx rfl (hb hby at_92) rfl ?_
    show Steps p.tables e below (T32.setTop (mkF m 94 #[.val (.int x1), .val (.int x2), .val (.int x3), .val (.int x4), .val (.long x5), .second, .val (.int sv), .val (.int fv), .val (.int kv), .val (.int ev), .val (.double uv), .second, .val (.double jv), .second, .val (.ref b28), .val (.ref b30), .unset, .unset, .unset, .unset, .unset, .unset, .unset, .unset, .unset, .unset, .unset, .unset, .unset, .unset, .unset, .unset, .unset, .unset] [(.int fv), (.double (FP.dmul (FP.i2d sv) uv)), (.ref b32), (.ref b32)])) _
    refine XS.i2dS X32.here hx rfl (hb hby at_94) rfl rfl ?_
    show Steps p.tables e below (T32.setTop (mkF m 95 #[.val (.int x1), .val (.int x2), .val (.int x3), .val (.int x4), .val (.long x5), .second, .val (.int sv), .val (.int fv), .val (.int kv), .val (.int ev), .val (.double uv), .second, .val (.double jv), .second, .val (.ref b28), .val (.ref b30), .unset, .unset, .unset, .unset, .unset, .unset, .unset, .unset, .unset, .unset, .unset, .unset, .unset, .unset, .unset, .unset, .unset, .unset] [(.double (FP.i2d fv)), (.double (FP.dmul (FP.i2d sv) uv)), (.ref b32), (.ref b32)])) _
    refine XS.dload X32.here hx rfl (hb hby at_95) rfl ?_
    show Steps p.tables e below (T32.setTop (mkF m 97 #[.val (.int x1), .val (.int x2), .val (.int x3), .val (.int x4), .val (.long x5), .second, .val (.int sv), .val (.int fv), .val (.int kv), .val (.int ev), .val (.double uv), .second, .val (.double jv), .second, .val (.ref b28), .val (.ref b30), .unset, .unset, .unset, .unset, .unset, .unset, .unset, .unset, .unset, .unset, .unset, .unset, .unset, .unset, .unset, .unset, .unset, .unset] [(.double uv), (.double (FP.i2d fv)), (.double (FP.dmul (FP.i2d sv) uv)), (.ref b32), (.ref b32)])) _
    refine XS.dmulS X32.here hx rfl (hb hby at_97) rfl nn34 rfl ?_
    show Steps p.tables e below (T32.setTop (mkF m 98 #[.val (.int x1), .val (.int x2), .val (.int x3), .val (.int x4), .val (.long x5), .second, .val (.int sv), .val (.int fv), .val (.int kv), .val (.int ev), .val (.double uv), .second, .val (.double jv), .second, .val (.ref b28), .val (.ref b30), .unset, .unset, .unset, .unset, .unset, .unset, .unset, .unset, .unset, .unset, .unset, .unset, .unset, .unset, .unset, .unset, .unset, .unset] [(.double (FP.dmul (FP.i2d fv) uv)), (.double (FP.dmul (FP.i2d sv) uv)), (.ref b32), (.ref b32)])) _
    refine XS.dload X32.here hx rfl (hb hby at_98) rfl ?_
    show Steps p.tables e below (T32.setTop (mkF m 100 #[.val (.int x1), .val (.int x2), .val (.int x3), .val (.int x4), .val (.long x5), .second, .val (.int sv), .val (.int fv), .val (.int kv), .val (.int ev), .val (.double uv), .second, .val (.double jv), .second, .val (.ref b28), .val (.ref b30), .unset, .unset, .unset, .unset, .unset, .unset, .unset, .unset, .unset, .unset, .unset, .unset, .unset, .unset, .unset, .unset, .unset, .unset] [(.double jv), (.double (FP.dmul (FP.i2d fv) uv)), (.double (FP.dmul (FP.i2d sv) uv)), (.ref b32), (.ref b32)])) _
    refine XS.dnegS X32.here hx rfl (hb hby at_100) rfl rfl ?_
    show Steps p.tables e below (T32.setTop (mkF m 101 #[.val (.int x1), .val (.int x2), .val (.int x3), .val (.int x4), .val (.long x5), .second, .val (.int sv), .val (.int fv), .val (.int kv), .val (.int ev), .val (.double uv), .second, .val (.double jv), .second, .val (.ref b28), .val (.ref b30), .unset, .unset, .unset, .unset, .unset, .unset, .unset, .unset, .unset, .unset, .unset, .unset, .unset, .unset, .unset, .unset, .unset, .unset] [(.double (FP.dneg jv)), (.double (FP.dmul (FP.i2d fv) uv)), (.double (FP.dmul (FP.i2d sv) uv)), (.ref b32), (.ref b32)])) _
    refine st35.trans ?_
    show Steps p.tables e below (T35.setTop (mkF m 104 #[.val (.int x1), .val (.int x2), .val (.int x3), .val (.int x4), .val (.long x5), .second, .val (.int sv), .val (.int fv), .val (.int kv), .val (.int ev), .val (.double uv), .second, .val (.double jv), .second, .val (.ref b28), .val (.ref b30), .unset, .unset, .unset, .unset, .unset, .unset, .unset, .unset, .unset, .unset, .unset, .unset, .unset, .unset, .unset, .unset, .unset, .unset] [(.ref b32)])) _
    refine XS.astore X35.here hx rfl (hb hby at_104) rfl rfl (l' := #[.val (.int x1), .val (.int x2), .val (.int x3), .val (.int x4), .val (.long x5), .second, .val (.int sv), .val (.int fv), .val (.int kv), .val (.int ev), .val (.double uv), .second, .val (.double jv), .second, .val (.ref b28), .val (.ref b30), .val (.ref b32), .unset, .unset, .unset, .unset, .unset, .unset, .unset, .unset, .unset, .unset, .unset, .unset, .unset, .unset, .unset, .unset, .unset]) rfl ?_
    show Steps p.tables e below (T35.setTop (mkF m 106 #[.val (.int x1), .val (.int x2), .val (.int x3), .val (.int x4), .val (.long x5), .second, .val (.int sv), .val (.int fv), .val (.int kv), .val (.int ev), .val (.double uv), .second, .val (.double jv), .second, .val (.ref b28), .val (.ref b30), .val (.ref b32), .unset, .unset, .unset, .unset, .unset, .unset, .unset, .unset, .unset, .unset, .unset, .unset, .unset, .unset, .unset, .unset, .unset] [])) _
    refine st36 _ ?_
    show Steps p.tables e below (T36.setTop (mkF m 109 #[.val (.int x1), .val (.int x2), .val (.int x3), .val (.int x4), .val (.long x5), .second, .val (.int sv), .val (.int fv), .val (.int kv), .val (.int ev), .val (.double uv), .second, .val (.double jv), .second, .val (.ref b28), .val (.ref b30), .val (.ref b32), .unset, .unset, .unset, .unset, .unset, .unset, .unset, .unset, .unset, .unset, .unset, .unset, .unset, .unset, .unset, .unset, .unset] [(.ref b36)])) _
    refine XS.dup X36.here hx rfl (hb hby at_109) rfl rfl ?_
    show Steps p.tables e below (T36.setTop (mkF m 110 #[.val (.int x1), .val (.int x2), .val (.int x3), .val (.int x4), .val (.long x5), .second, .val (.int sv), .val (.int fv), .val (.int kv), .val (.int ev), .val (.double uv), .second, .val (.double jv), .second, .val (.ref b28), .val (.ref b30), .val (.ref b32), .unset, .unset, .unset, .unset, .unset, .unset, .unset, .unset, .unset, .unset, .unset, .unset, .unset, .unset, .unset, .unset, .unset] [(.ref b36), (.ref b36)])) _
    refine XS.iload X36.here hx rfl (hb hby at_110) rfl ?_
    show Steps p.tables e below (T36.setTop (mkF m 112 #[.val (.int x1), .val (.int x2), .val (.int x3), .val (.int x4), .val (.long x5), .second, .val (.int sv), .val (.int fv), .val (.int kv), .val (.int ev), .val (.double uv), .second, .val (.double jv), .second, .val (.ref b28), .val (.ref b30), .val (.ref b32), .unset, .unset, .unset, .unset, .unset, .unset, .unset, .unset, .unset, .unset, .unset, .unset, .unset, .unset, .unset, .unset, .unset] [(.int sv), (.ref b36), (.ref b36)])) _
    refine XS.i2dS X36.here hx rfl (hb hby at_112) rfl rfl ?_
    show Steps p.tables e below (T36.setTop (mkF m 113 #[.val (.int x1), .val (.int x2), .val (.int x3), .val (.int x4), .val (.long x5), .second, .val (.int sv), .val (.int fv), .val (.int kv), .val (.int ev), .val (.double uv), .second, .val (.double jv), .second, .val (.ref b28), .val (.ref b30), .val (.ref b32), .unset, .unset, .unset, .unset, .unset, .unset, .unset, .unset, .unset, .unset, .unset, .unset, .unset, .unset, .unset, .unset, .unset] [(.double (FP.i2d sv)), (.ref b36), (.ref b36)])) _
    refine XS.iload X36.here hx rfl (hb hby at_113) rfl ?_
    show Steps p.tables e below (T36.setTop (mkF m 115 #[.val (.int x1), .val (.int x2), .val (.int x3), .val (.int x4), .val (.long x5), .second, .val (.int sv), .val (.int fv), .val (.int kv), .val (.int ev), .val (.double uv), .second, .val (.double jv), .second, .val (.ref b28), .val (.ref b30), .val (.ref b32), .unset, .unset, .unset, .unset, .unset, .unset, .unset, .unset, .unset, .unset, .unset, .unset, .unset, .unset, .unset, .unset, .unset] [(.int fv), (.double (FP.i2d sv)), (.ref b36), (.ref b36)])) _
    refine XS.iconst X36.here hx rfl (hb hby at_115) ?_
    show Steps p.tables e below (T36.setTop (mkF m 116 #[.val (.int x1), .val (.int x2), .val (.int x3), .val (.int x4), .val (.long x5), .second, .val (.int sv), .val (.int fv), .val (.int kv), .val (.int ev), .val (.double uv), .second, .val (.double jv), .second, .val (.ref b28), .val (.ref b30), .val (.ref b32), .unset, .unset, .unset, .unset, .unset, .unset, .unset, .unset, .unset, .unset, .unset, .unset, .unset, .unset, .unset, .unset, .unset] [(.int (1 : Int32)), (.int fv), (.double (FP.i2d sv)), (.ref b36), (.ref b36)])) _
    refine XS.iadd X36.here hx rfl (hb hby at_116) rfl ?_
    show Steps p.tables e below (T36.setTop (mkF m 117 #[.val (.int x1), .val (.int x2), .val (.int x3), .val (.int x4), .val (.long x5), .second, .val (.int sv), .val (.int fv), .val (.int kv), .val (.int ev), .val (.double uv), .second, .val (.double jv), .second, .val (.ref b28), .val (.ref b30), .val (.ref b32), .unset, .unset, .unset, .unset, .unset, .unset, .unset, .unset, .unset, .unset, .unset, .unset, .unset, .unset, .unset, .unset, .unset] [(.int (fv + (1 : Int32))), (.double (FP.i2d sv)), (.ref b36), (.ref b36)])) _
    refine XS.i2dS X36.here hx rfl (hb hby at_117) rfl rfl ?_
    show Steps p.tables e below (T36.setTop (mkF m 118 #[.val (.int x1), .val (.int x2), .val (.int x3), .val (.int x4), .val (.long x5), .second, .val (.int sv), .val (.int fv), .val (.int kv), .val (.int ev), .val (.double uv), .second, .val (.double jv), .second, .val (.ref b28), .val (.ref b30), .val (.ref b32), .unset, .unset, .unset, .unset, .unset, .unset, .unset, .unset, .unset, .unset, .unset, .unset, .unset, .unset, .unset, .unset, .unset] [(.double (FP.i2d (fv + (1 : Int32)))), (.double (FP.i2d sv)), (.ref b36), (.ref b36)])) _
    refine XS.dconst0 X36.here hx rfl (hb hby at_118) (v := (0 : UInt64)) rfl ?_
    show Steps p.tables e below (T36.setTop (mkF m 119 #[.val (.int x1), .val (.int x2), .val (.int x3), .val (.int x4), .val (.long x5), .second, .val (.int sv), .val (.int fv), .val (.int kv), .val (.int ev), .val (.double uv), .second, .val (.double jv), .second, .val (.ref b28), .val (.ref b30), .val (.ref b32), .unset, .unset, .unset, .unset, .unset, .unset, .unset, .unset, .unset, .unset, .unset, .unset, .unset, .unset, .unset, .unset, .unset] [(.double (0 : UInt64)), (.double (FP.i2d (fv + (1 : Int32)))), (.double (FP.i2d sv)), (.ref b36), (.ref b36)])) _
    refine st37.trans ?_
    show Steps p.tables e below (T37.setTop (mkF m 122 #[.val (.int x1), .val (.int x2), .val (.int x3), .val (.int x4), .val (.long x5), .second, .val (.int sv), .val (.int fv), .val (.int kv), .val (.int ev), .val (.double uv), .second, .val (.double jv), .second, .val (.ref b28), .val (.ref b30), .val (.ref b32), .unset, .unset, .unset, .unset, .unset, .unset, .unset, .unset, .unset, .unset, .unset, .unset, .unset, .unset, .unset, .unset, .unset] [(.ref b36)])) _
    refine XS.astore X37.here hx rfl (hb hby at_122) rfl rfl (l' := #[.val (.int x1), .val (.int x2), .val (.int x3), .val (.int x4), .val (.long x5), .second, .val (.int sv), .val (.int fv), .val (.int kv), .val (.int ev), .val (.double uv), .second, .val (.double jv), .second, .val (.ref b28), .val (.ref b30), .val (.ref b32), .val (.ref b36), .unset, .unset, .unset, .unset, .unset, .unset, .unset, .unset, .unset, .unset, .unset, .unset, .unset, .unset, .unset, .unset]) rfl ?_
    show Steps p.tables e below (T37.setTop (mkF m 124 #[.val (.int x1), .val (.int x2), .val (.int x3), .val (.int x4), .val (.long x5), .second, .val (.int sv), .val (.int fv), .val (.int kv), .val (.int ev), .val (.double uv), .second, .val (.double jv), .second, .val (.ref b28), .val (.ref b30), .val (.ref b32), .val (.ref b36), .unset, .unset, .unset, .unset, .unset, .unset, .unset, .unset, .unset, .unset, .unset, .unset, .unset, .unset, .unset, .unset] [])) _
    refine st38 _ ?_
    show Steps p.tables e below (T38.setTop (mkF m 127 #[.val (.int x1), .val (.int x2), .val (.int x3), .val (.int x4), .val (.long x5), .second, .val (.int sv), .val (.int fv), .val (.int kv), .val (.int ev), .val (.double uv), .second, .val (.double jv), .second, .val (.ref b28), .val (.ref b30), .val (.ref b32), .val (.ref b36), .unset, .unset, .unset, .unset, .unset, .unset, .unset, .unset, .unset, .unset, .unset, .unset, .unset, .unset, .unset, .unset] [(.ref b38)])) _
    refine XS.dup X38.here hx rfl (hb hby at_127) rfl rfl ?_
    show Steps p.tables e below (T38.setTop (mkF m 128 #[.val (.int x1), .val (.int x2), .val (.int x3), .val (.int x4), .val (.long x5), .second, .val (.int sv), .val (.int fv), .val (.int kv), .val (.int ev), .val (.double uv), .second, .val (.double jv), .second, .val (.ref b28), .val (.ref b30), .val (.ref b32), .val (.ref b36), .unset, .unset, .unset, .unset, .unset, .unset, .unset, .unset, .unset, .unset, .unset, .unset, .unset, .unset, .unset, .unset] [(.ref b38), (.ref b38)])) _
    refine XS.iload X38.here hx rfl (hb hby at_128) rfl ?_
    show Steps p.tables e below (T38.setTop (mkF m 130 #[.val (.int x1), .val (.int x2), .val (.int x3), .val (.int x4), .val (.long x5), .second, .val (.int sv), .val (.int fv), .val (.int kv), .val (.int ev), .val (.double uv), .second, .val (.double jv), .second, .val (.ref b28), .val (.ref b30), .val (.ref b32), .val (.ref b36), .unset, .unset, .unset, .unset, .unset, .unset, .unset, .unset, .unset, .unset, .unset, .unset, .unset, .unset, .unset, .unset] [(.int sv), (.ref b38), (.ref b38)])) _
    refine XS.iconst X38.here hx rfl (hb hby at_130) ?_
    show Steps p.tables e below (T38.setTop (mkF m 131 #[.val (.int x1), .val (.int x2), .val (.int x3), .val (.int x4), .val (.long x5), .second, .val (.int sv), .val (.int fv), .val (.int kv), .val (.int ev), .val (.double uv), .second, .val (.double jv), .second, .val (.ref b28), .val (.ref b30), .val (.ref b32), .val (.ref b36), .unset, .unset, .unset, .unset, .unset, .unset, .unset, .unset, .unset, .unset, .unset, .unset, .unset, .unset, .unset, .unset] [(.int (1 : Int32)), (.int sv), (.ref b38), (.ref b38)])) _
    refine XS.iadd X38.here hx rfl (hb hby at_131) rfl ?_
    show Steps p.tables e below (T38.setTop (mkF m 132 #[.val (.int x1), .val (.int x2), .val (.int x3), .val (.int x4), .val (.long x5), .second, .val (.int sv), .val (.int fv), .val (.int kv), .val (.int ev), .val (.double uv), .second, .val (.double jv), .second, .val (.ref b28), .val (.ref b30), .val (.ref b32), .val (.ref b36), .unset, .unset, .unset, .unset, .unset, .unset, .unset, .unset, .unset, .unset, .unset, .unset, .unset, .unset, .unset, .unset] [(.int (sv + (1 : Int32))), (.ref b38), (.ref b38)])) _
    refine XS.i2dS X38.here hx rfl (hb hby at_132) rfl rfl ?_
    show Steps p.tables e below (T38.setTop (mkF m 133 #[.val (.int x1), .val (.int x2), .val (.int x3), .val (.int x4), .val (.long x5), .second, .val (.int sv), .val (.int fv), .val (.int kv), .val (.int ev), .val (.double uv), .second, .val (.double jv), .second, .val (.ref b28), .val (.ref b30), .val (.ref b32), .val (.ref b36), .unset, .unset, .unset, .unset, .unset, .unset, .unset, .unset, .unset, .unset, .unset, .unset, .unset, .unset, .unset, .unset] [(.double (FP.i2d (sv + (1 : Int32)))), (.ref b38), (.ref b38)])) _
    refine XS.iload X38.here hx rfl (hb hby at_133) rfl ?_
    show Steps p.tables e below (T38.setTop (mkF m 135 #[.val (.int x1), .val (.int x2), .val (.int x3), .val (.int x4), .val (.long x5), .second, .val (.int sv), .val (.int fv), .val (.int kv), .val (.int ev), .val (.double uv), .second, .val (.double jv), .second, .val (.ref b28), .val (.ref b30), .val (.ref b32), .val (.ref b36), .unset, .unset, .unset, .unset, .unset, .unset, .unset, .unset, .unset, .unset, .unset, .unset, .unset, .unset, .unset, .unset] [(.int fv), (.double (FP.i2d (sv + (1 : Int32)))), (.ref b38), (.ref b38)])) _
    refine XS.i2dS X38.here hx rfl (hb hby at_135) rfl rfl ?_
    show Steps p.tables e below (T38.setTop (mkF m 136 #[.val (.int x1), .val (.int x2), .val (.int x3), .val (.int x4), .val (.long x5), .second, .val (.int sv), .val (.int fv), .val (.int kv), .val (.int ev), .val (.double uv), .second, .val (.double jv), .second, .val (.ref b28), .val (.ref b30), .val (.ref b32), .val (.ref b36), .unset, .unset, .unset, .unset, .unset, .unset, .unset, .unset, .unset, .unset, .unset, .unset, .unset, .unset, .unset, .unset] [(.double (FP.i2d fv)), (.double (FP.i2d (sv + (1 : Int32)))), (.ref b38), (.ref b38)])) _
    refine XS.dconst0 X38.here hx rfl (hb hby at_136) (v := (0 : UInt64)) rfl ?_
    show Steps p.tables e below (T38.setTop (mkF m 137 #[.val (.int x1), .val (.int x2), .val (.int x3), .val (.int x4), .val (.long x5), .second, .val (.int sv), .val (.int fv), .val (.int kv), .val (.int ev), .val (.double uv), .second, .val (.double jv), .second, .val (.ref b28), .val (.ref b30), .val (.ref b32), .val (.ref b36), .unset, .unset, .unset, .unset, .unset, .unset, .unset, .unset, .unset, .unset, .unset, .unset, .unset, .unset, .unset, .unset] [(.double (0 : UInt64)), (.double (FP.i2d fv)), (.double (FP.i2d (sv + (1 : Int32)))), (.ref b38), (.ref b38)])) _
    refine st39.trans ?_
    show Steps p.tables e below (T39.setTop (mkF m 140 #[.val (.int x1), .val (.int x2), .val (.int x3), .val (.int x4), .val (.long x5), .second, .val (.int sv), .val (.int fv), .val (.int kv), .val (.int ev), .val (.double uv), .second, .val (.double jv), .second, .val (.ref b28), .val (.ref b30), .val (.ref b32), .val (.ref b36), .unset, .unset, .unset, .unset, .unset, .unset, .unset, .unset, .unset, .unset, .unset, .unset, .unset, .unset, .unset, .unset] [(.ref b38)])) _
    refine XS.astore X39.here hx rfl (hb hby at_140) rfl rfl (l' := #[.val (.int x1), .val (.int x2), .val (.int x3), .val (.int x4), .val (.long x5), .second, .val (.int sv), .val (.int fv), .val (.int kv), .val (.int ev), .val (.double uv), .second, .val (.double jv), .second, .val (.ref b28), .val (.ref b30), .val (.ref b32), .val (.ref b36), .val (.ref b38), .unset, .unset, .unset, .unset, .unset, .unset, .unset, .unset, .unset, .unset, .unset, .unset, .unset, .unset, .unset]) rfl ?_
    exact kt
  rcases Nat.eq_zero_or_pos (S + F) with hn0 | hn0
  · skip
    have hn0k : S * K + F * K = 0 := by rw [← Nat.add_mul, hn0, Nat.zero_mul]
    have F41 : Fld Z T39.heap b28 "com/example/windward/windward/EndpointRecord$Counts" "successes" "D" (.double (FP.i2d sv)) := ((((((((Q29_1.ext E30).keep KK31 (ninS (Nat.ne_of_lt (Nat.lt_of_lt_of_le Q29_0.lt (Nat.le_of_eq g30.symm))) nin0)).ext E32).keep KK35 (ninS (Nat.ne_of_lt (Nat.lt_of_lt_of_le ((Q29_0.ext E30).keep KK31).lt (Nat.le_of_eq g32.symm))) nin0)).ext E36).keep KK37 (ninS (Nat.ne_of_lt (Nat.lt_of_lt_of_le ((((Q29_0.ext E30).keep KK31).ext E32).keep KK35).lt (Nat.le_of_eq g36.symm))) nin0)).ext E38).keep KK39 (ninS (Nat.ne_of_lt (Nat.lt_of_lt_of_le ((((((Q29_0.ext E30).keep KK31).ext E32).keep KK35).ext E36).keep KK37).lt (Nat.le_of_eq g38.symm))) nin0))
    have F42 : Fld Z T39.heap b28 "com/example/windward/windward/EndpointRecord$Counts" "failures" "D" (.double (FP.i2d fv)) := ((((((((Q29_2.ext E30).keep KK31 (ninS (Nat.ne_of_lt (Nat.lt_of_lt_of_le Q29_0.lt (Nat.le_of_eq g30.symm))) nin0)).ext E32).keep KK35 (ninS (Nat.ne_of_lt (Nat.lt_of_lt_of_le ((Q29_0.ext E30).keep KK31).lt (Nat.le_of_eq g32.symm))) nin0)).ext E36).keep KK37 (ninS (Nat.ne_of_lt (Nat.lt_of_lt_of_le ((((Q29_0.ext E30).keep KK31).ext E32).keep KK35).lt (Nat.le_of_eq g36.symm))) nin0)).ext E38).keep KK39 (ninS (Nat.ne_of_lt (Nat.lt_of_lt_of_le ((((((Q29_0.ext E30).keep KK31).ext E32).keep KK35).ext E36).keep KK37).lt (Nat.le_of_eq g38.symm))) nin0))
    have pp43 : Jvm.Free.Fl.NoNaN64 (FP.dadd (FP.i2d sv) (FP.i2d fv)) := (own_tn (own_ni eS) (own_ni eF) (by omega) (by decide))
    have pp44 : ¬ ((0 : Int32) < (cmpValue (FP.dcmp (FP.dadd (FP.i2d sv) (FP.i2d fv)) (0 : UInt64)) .l)) := (own_tz (own_ni eS) (own_ni eF) (by omega) (by decide) hn0)
    have C46 : Exa Z T39.heap b28 "com/example/windward/windward/EndpointRecord$Counts" := ((((((((Q29_0.ext E30).keep KK31).ext E32).keep KK35).ext E36).keep KK37).ext E38).keep KK39)
    obtain ⟨cq45, kq45, q45a, q45b, q45c⟩ := isOf hZ rfl C46
    obtain ⟨_, _, ⟨T45, L45, k45, n45⟩, -, X45, ⟨Lc45, hQ45, l45, y45, z45⟩, st45⟩ := X39.virtualBack hx (y := (⟨"com/example/windward/windward/EndpointRecord$Counts", "failureShare", "()D"⟩ : MethodName)) (z := (⟨"com/example/windward/windward/EndpointRecord$Counts", "failureShare", "()D"⟩ : MethodName)) hown (mvT hZ (own_wd hw 20 rfl)) (mvT hZ (own_wd hw 21 rfl)) (notFace_of_selects (args := #[]) (mvT hZ (own_wd hw 23 rfl))) (mvT hZ (own_wd hw 23 rfl)) (mvT hZ (own_wd hw 22 rfl)) (by decide) (backOf (W := 0) (rm4_z l Z a0 hw [] b28 (FP.i2d sv) (FP.i2d fv) T39.heap n0 Z39 O39 pp43 pp44 F41 F42) hZ (own_wd hw 24 rfl) (own_wd hw 2 rfl) (by decide) (by decide)) q45a q45c (g := (mkF m 144 #[.val (.int x1), .val (.int x2), .val (.int x3), .val (.int x4), .val (.long x5), .second, .val (.int sv), .val (.int fv), .val (.int kv), .val (.int ev), .val (.double uv), .second, .val (.double jv), .second, .val (.ref b28), .val (.ref b30), .val (.ref b32), .val (.ref b36), .val (.ref b38), .unset, .unset, .unset, .unset, .unset, .unset, .unset, .unset, .unset, .unset, .unset, .unset, .unset, .unset, .unset] [(.ref b28)])) rfl (by rw [hml]; rfl) (Steps.refl _) (argsL := []) (rest := []) (lenOf pd_2 rfl) rfl (by show 2 * 0 + _ ≤ _; exact Nat.le_of_eq rfl) (hb hby at_144) (fun _ _ => ⟨rfl, rfl, (by decide : 5 + 0 ≤ _), (by decide : 15 + 0 ≤ _)⟩)
    dsimp only [Pt.U, Pt.locs, Pt.cells, Pt.slots] at X45 l45 y45 z45 st45 hQ45
    subst l45 y45 z45
    obtain ⟨rfl, N45q, eh45⟩ := hQ45
    have N45 := Fr.app N39 N45q
    have F47 : Fld Z T39.heap b30 "com/example/windward/windward/EndpointRecord$Counts" "successes" "D" (.double (FP.i2d (sv * kv))) := ((((((Q31_1.ext E32).keep KK35 (ninS (Nat.ne_of_lt (Nat.lt_of_lt_of_le Q31_0.lt (Nat.le_of_eq g32.symm))) nin0)).ext E36).keep KK37 (ninS (Nat.ne_of_lt (Nat.lt_of_lt_of_le ((Q31_0.ext E32).keep KK35).lt (Nat.le_of_eq g36.symm))) nin0)).ext E38).keep KK39 (ninS (Nat.ne_of_lt (Nat.lt_of_lt_of_le ((((Q31_0.ext E32).keep KK35).ext E36).keep KK37).lt (Nat.le_of_eq g38.symm))) nin0))
    have F48 : Fld Z T39.heap b30 "com/example/windward/windward/EndpointRecord$Counts" "failures" "D" (.double (FP.i2d (fv * kv))) := ((((((Q31_2.ext E32).keep KK35 (ninS (Nat.ne_of_lt (Nat.lt_of_lt_of_le Q31_0.lt (Nat.le_of_eq g32.symm))) nin0)).ext E36).keep KK37 (ninS (Nat.ne_of_lt (Nat.lt_of_lt_of_le ((Q31_0.ext E32).keep KK35).lt (Nat.le_of_eq g36.symm))) nin0)).ext E38).keep KK39 (ninS (Nat.ne_of_lt (Nat.lt_of_lt_of_le ((((Q31_0.ext E32).keep KK35).ext E36).keep KK37).lt (Nat.le_of_eq g38.symm))) nin0))
    have pp49 : Jvm.Free.Fl.NoNaN64 (FP.dadd (FP.i2d (sv * kv)) (FP.i2d (fv * kv))) := (own_tn (own_ni eSK) (own_ni eFK) hbk (by decide))
    have pp50 : ¬ ((0 : Int32) < (cmpValue (FP.dcmp (FP.dadd (FP.i2d (sv * kv)) (FP.i2d (fv * kv))) (0 : UInt64)) .l)) := (own_tz (own_ni eSK) (own_ni eFK) hbk (by decide) hn0k)
    have C52 : Exa Z T39.heap b30 "com/example/windward/windward/EndpointRecord$Counts" := ((((((Q31_0.ext E32).keep KK35).ext E36).keep KK37).ext E38).keep KK39)
    obtain ⟨cq51, kq51, q51a, q51b, q51c⟩ := isOf hZ eh45 C52
    obtain ⟨_, _, ⟨T51, L51, k51, n51⟩, -, X51, ⟨Lc51, hQ51, l51, y51, z51⟩, st51⟩ := X45.virtualBack hx (y := (⟨"com/example/windward/windward/EndpointRecord$Counts", "failureShare", "()D"⟩ : MethodName)) (z := (⟨"com/example/windward/windward/EndpointRecord$Counts", "failureShare", "()D"⟩ : MethodName)) hown (mvT hZ (own_wd hw 20 rfl)) (mvT hZ (own_wd hw 21 rfl)) (notFace_of_selects (args := #[]) (mvT hZ (own_wd hw 23 rfl))) (mvT hZ (own_wd hw 23 rfl)) (mvT hZ (own_wd hw 22 rfl)) (by decide) (backOf (W := 0) (rm4_z l Z a0 hw [] b30 (FP.i2d (sv * kv)) (FP.i2d (fv * kv)) T39.heap n0 Z39 O39 pp49 pp50 F47 F48) hZ (own_wd hw 24 rfl) (own_wd hw 2 rfl) (by decide) (by decide)) q51a q51c (g := (mkF m 151 #[.val (.int x1), .val (.int x2), .val (.int x3), .val (.int x4), .val (.long x5), .second, .val (.int sv), .val (.int fv), .val (.int kv), .val (.int ev), .val (.double uv), .second, .val (.double jv), .second, .val (.ref b28), .val (.ref b30), .val (.ref b32), .val (.ref b36), .val (.ref b38), .val (.double (0 : UInt64)), .second, .unset, .unset, .unset, .unset, .unset, .unset, .unset, .unset, .unset, .unset, .unset, .unset, .unset] [(.ref b30)])) rfl (by rw [hml]; rfl) (Steps.refl _) (argsL := []) (rest := []) (lenOf pd_2 rfl) rfl (by show 2 * 0 + _ ≤ _; exact Nat.le_of_eq rfl) (hb hby at_151) (fun _ _ => ⟨rfl, eh45, (by decide : 5 + 0 ≤ _), (by decide : 15 + 0 ≤ _)⟩)
    dsimp only [Pt.U, Pt.locs, Pt.cells, Pt.slots] at X51 l51 y51 z51 st51 hQ51
    subst l51 y51 z51
    obtain ⟨rfl, N51q, eh51⟩ := hQ51
    have N51 := Fr.app N45 N51q
    have F53 : Fld Z T39.heap b32 "com/example/windward/windward/EndpointRecord$Counts" "successes" "D" (.double (FP.dmul (FP.i2d sv) uv)) := ((((Q35_1.ext E36).keep KK37 (ninS (Nat.ne_of_lt (Nat.lt_of_lt_of_le Q35_0.lt (Nat.le_of_eq g36.symm))) nin0)).ext E38).keep KK39 (ninS (Nat.ne_of_lt (Nat.lt_of_lt_of_le ((Q35_0.ext E36).keep KK37).lt (Nat.le_of_eq g38.symm))) nin0))
    have F54 : Fld Z T39.heap b32 "com/example/windward/windward/EndpointRecord$Counts" "failures" "D" (.double (FP.dmul (FP.i2d fv) uv)) := ((((Q35_2.ext E36).keep KK37 (ninS (Nat.ne_of_lt (Nat.lt_of_lt_of_le Q35_0.lt (Nat.le_of_eq g36.symm))) nin0)).ext E38).keep KK39 (ninS (Nat.ne_of_lt (Nat.lt_of_lt_of_le ((Q35_0.ext E36).keep KK37).lt (Nat.le_of_eq g38.symm))) nin0))
    have pp55 : Jvm.Free.Fl.NoNaN64 (FP.dadd (FP.dmul (FP.i2d sv) uv) (FP.dmul (FP.i2d fv) uv)) := (own_tn nS3 nF3 (by omega) (by omega))
    have pp56 : ¬ ((0 : Int32) < (cmpValue (FP.dcmp (FP.dadd (FP.dmul (FP.i2d sv) uv) (FP.dmul (FP.i2d fv) uv)) (0 : UInt64)) .l)) := (own_tz nS3 nF3 (by omega) (by omega) hn0)
    have C58 : Exa Z T39.heap b32 "com/example/windward/windward/EndpointRecord$Counts" := ((((Q35_0.ext E36).keep KK37).ext E38).keep KK39)
    obtain ⟨cq57, kq57, q57a, q57b, q57c⟩ := isOf hZ eh51 C58
    obtain ⟨_, _, ⟨T57, L57, k57, n57⟩, -, X57, ⟨Lc57, hQ57, l57, y57, z57⟩, st57⟩ := X51.virtualBack hx (y := (⟨"com/example/windward/windward/EndpointRecord$Counts", "failureShare", "()D"⟩ : MethodName)) (z := (⟨"com/example/windward/windward/EndpointRecord$Counts", "failureShare", "()D"⟩ : MethodName)) hown (mvT hZ (own_wd hw 20 rfl)) (mvT hZ (own_wd hw 21 rfl)) (notFace_of_selects (args := #[]) (mvT hZ (own_wd hw 23 rfl))) (mvT hZ (own_wd hw 23 rfl)) (mvT hZ (own_wd hw 22 rfl)) (by decide) (backOf (W := 0) (rm4_z l Z a0 hw [] b32 (FP.dmul (FP.i2d sv) uv) (FP.dmul (FP.i2d fv) uv) T39.heap n0 Z39 O39 pp55 pp56 F53 F54) hZ (own_wd hw 24 rfl) (own_wd hw 2 rfl) (by decide) (by decide)) q57a q57c (g := (mkF m 158 #[.val (.int x1), .val (.int x2), .val (.int x3), .val (.int x4), .val (.long x5), .second, .val (.int sv), .val (.int fv), .val (.int kv), .val (.int ev), .val (.double uv), .second, .val (.double jv), .second, .val (.ref b28), .val (.ref b30), .val (.ref b32), .val (.ref b36), .val (.ref b38), .val (.double (0 : UInt64)), .second, .val (.double (0 : UInt64)), .second, .unset, .unset, .unset, .unset, .unset, .unset, .unset, .unset, .unset, .unset, .unset] [(.ref b32)])) rfl (by rw [hml]; rfl) (Steps.refl _) (argsL := []) (rest := []) (lenOf pd_2 rfl) rfl (by show 2 * 0 + _ ≤ _; exact Nat.le_of_eq rfl) (hb hby at_158) (fun _ _ => ⟨rfl, eh51, (by decide : 5 + 0 ≤ _), (by decide : 15 + 0 ≤ _)⟩)
    dsimp only [Pt.U, Pt.locs, Pt.cells, Pt.slots] at X57 l57 y57 z57 st57 hQ57
    subst l57 y57 z57
    obtain ⟨rfl, N57q, eh57⟩ := hQ57
    have N57 := Fr.app N51 N57q
    have F59 : Fld Z T39.heap b36 "com/example/windward/windward/EndpointRecord$Counts" "successes" "D" (.double (FP.i2d sv)) := ((Q37_1.ext E38).keep KK39 (ninS (Nat.ne_of_lt (Nat.lt_of_lt_of_le Q37_0.lt (Nat.le_of_eq g38.symm))) nin0))
    have F60 : Fld Z T39.heap b36 "com/example/windward/windward/EndpointRecord$Counts" "failures" "D" (.double (FP.i2d (fv + (1 : Int32)))) := ((Q37_2.ext E38).keep KK39 (ninS (Nat.ne_of_lt (Nat.lt_of_lt_of_le Q37_0.lt (Nat.le_of_eq g38.symm))) nin0))
    have pp61 : Jvm.Free.Fl.NoNaN64 (FP.dadd (FP.i2d sv) (FP.i2d (fv + (1 : Int32)))) := (own_tn (own_ni eS) (own_ni eF1) (by omega) (by decide))
    have pp62 : (0 : Int32) < (cmpValue (FP.dcmp (FP.dadd (FP.i2d sv) (FP.i2d (fv + (1 : Int32)))) (0 : UInt64)) .l) := (own_tp (own_ni eS) (own_ni eF1) (by omega) (by decide) (by omega))
    have pp63 : Jvm.Free.Fl.NoNaN64 (FP.ddiv (FP.i2d (fv + (1 : Int32))) (FP.dadd (FP.i2d sv) (FP.i2d (fv + (1 : Int32))))) := (own_td (own_ni eS) (own_ni eF1) (by omega) (by decide) (by omega))
    have C65 : Exa Z T39.heap b36 "com/example/windward/windward/EndpointRecord$Counts" := ((Q37_0.ext E38).keep KK39)
    obtain ⟨cq64, kq64, q64a, q64b, q64c⟩ := isOf hZ eh57 C65
    obtain ⟨_, _, ⟨T64, L64, k64, n64⟩, -, X64, ⟨Lc64, hQ64, l64, y64, z64⟩, st64⟩ := X57.virtualBack hx (y := (⟨"com/example/windward/windward/EndpointRecord$Counts", "failureShare", "()D"⟩ : MethodName)) (z := (⟨"com/example/windward/windward/EndpointRecord$Counts", "failureShare", "()D"⟩ : MethodName)) hown (mvT hZ (own_wd hw 20 rfl)) (mvT hZ (own_wd hw 21 rfl)) (notFace_of_selects (args := #[]) (mvT hZ (own_wd hw 23 rfl))) (mvT hZ (own_wd hw 23 rfl)) (mvT hZ (own_wd hw 22 rfl)) (by decide) (backOf (W := 0) (rm4_p l Z a0 hw [] b36 (FP.i2d sv) (FP.i2d (fv + (1 : Int32))) T39.heap n0 Z39 O39 pp61 pp62 pp63 F59 F60) hZ (own_wd hw 24 rfl) (own_wd hw 2 rfl) (by decide) (by decide)) q64a q64c (g := (mkF m 165 #[.val (.int x1), .val (.int x2), .val (.int x3), .val (.int x4), .val (.long x5), .second, .val (.int sv), .val (.int fv), .val (.int kv), .val (.int ev), .val (.double uv), .second, .val (.double jv), .second, .val (.ref b28), .val (.ref b30), .val (.ref b32), .val (.ref b36), .val (.ref b38), .val (.double (0 : UInt64)), .second, .val (.double (0 : UInt64)), .second, .val (.double (0 : UInt64)), .second, .unset, .unset, .unset, .unset, .unset, .unset, .unset, .unset, .unset] [(.ref b36)])) rfl (by rw [hml]; rfl) (Steps.refl _) (argsL := []) (rest := []) (lenOf pd_2 rfl) rfl (by show 2 * 0 + _ ≤ _; exact Nat.le_of_eq rfl) (hb hby at_165) (fun _ _ => ⟨rfl, eh57, (by decide : 5 + 0 ≤ _), (by decide : 15 + 0 ≤ _)⟩)
    dsimp only [Pt.U, Pt.locs, Pt.cells, Pt.slots] at X64 l64 y64 z64 st64 hQ64
    subst l64 y64 z64
    obtain ⟨rfl, N64q, eh64⟩ := hQ64
    have N64 := Fr.app N57 N64q
    obtain ⟨r4, hr4⟩ : ∃ z, z = (FP.ddiv (FP.i2d (fv + (1 : Int32))) (FP.dadd (FP.i2d sv) (FP.i2d (fv + (1 : Int32))))) := ⟨_, rfl⟩
    have rn66 : (FP.ddiv (FP.i2d (fv + (1 : Int32))) (FP.dadd (FP.i2d sv) (FP.i2d (fv + (1 : Int32))))) = r4 := hr4.symm
    have vr4 : Jvm.FP.Core.val64 r4 = OwnFl.RR (F + 1) (S + (F + 1)) := by rw [hr4]; exact own_tv (own_ni eS) (own_ni eF1) (by omega) (by decide) (by omega)
    have pp67 : Jvm.Free.Fl.NoNaN64 (FP.dadd (FP.i2d (sv + (1 : Int32))) (FP.i2d fv)) := (own_tn (own_ni eS1) (own_ni eF) (by omega) (by decide))
    have pp68 : (0 : Int32) < (cmpValue (FP.dcmp (FP.dadd (FP.i2d (sv + (1 : Int32))) (FP.i2d fv)) (0 : UInt64)) .l) := (own_tp (own_ni eS1) (own_ni eF) (by omega) (by decide) (by omega))
    have pp69 : Jvm.Free.Fl.NoNaN64 (FP.ddiv (FP.i2d fv) (FP.dadd (FP.i2d (sv + (1 : Int32))) (FP.i2d fv))) := (own_td (own_ni eS1) (own_ni eF) (by omega) (by decide) (by omega))
    obtain ⟨cq70, kq70, q70a, q70b, q70c⟩ := isOf hZ eh64 Q39_0
    obtain ⟨_, _, ⟨T70, L70, k70, n70⟩, -, X70, ⟨Lc70, hQ70, l70, y70, z70⟩, st70⟩ := X64.virtualBack hx (y := (⟨"com/example/windward/windward/EndpointRecord$Counts", "failureShare", "()D"⟩ : MethodName)) (z := (⟨"com/example/windward/windward/EndpointRecord$Counts", "failureShare", "()D"⟩ : MethodName)) hown (mvT hZ (own_wd hw 20 rfl)) (mvT hZ (own_wd hw 21 rfl)) (notFace_of_selects (args := #[]) (mvT hZ (own_wd hw 23 rfl))) (mvT hZ (own_wd hw 23 rfl)) (mvT hZ (own_wd hw 22 rfl)) (by decide) (backOf (W := 0) (rm4_p l Z a0 hw [] b38 (FP.i2d (sv + (1 : Int32))) (FP.i2d fv) T39.heap n0 Z39 O39 pp67 pp68 pp69 Q39_1 Q39_2) hZ (own_wd hw 24 rfl) (own_wd hw 2 rfl) (by decide) (by decide)) q70a q70c (g := (mkF m 172 #[.val (.int x1), .val (.int x2), .val (.int x3), .val (.int x4), .val (.long x5), .second, .val (.int sv), .val (.int fv), .val (.int kv), .val (.int ev), .val (.double uv), .second, .val (.double jv), .second, .val (.ref b28), .val (.ref b30), .val (.ref b32), .val (.ref b36), .val (.ref b38), .val (.double (0 : UInt64)), .second, .val (.double (0 : UInt64)), .second, .val (.double (0 : UInt64)), .second, .val (.double r4), .second, .unset, .unset, .unset, .unset, .unset, .unset, .unset] [(.ref b38)])) rfl (by rw [hml]; rfl) (Steps.refl _) (argsL := []) (rest := []) (lenOf pd_2 rfl) rfl (by show 2 * 0 + _ ≤ _; exact Nat.le_of_eq rfl) (hb hby at_172) (fun _ _ => ⟨rfl, eh64, (by decide : 5 + 0 ≤ _), (by decide : 15 + 0 ≤ _)⟩)
    dsimp only [Pt.U, Pt.locs, Pt.cells, Pt.slots] at X70 l70 y70 z70 st70 hQ70
    subst l70 y70 z70
    obtain ⟨rfl, N70q, eh70⟩ := hQ70
    have N70 := Fr.app N64 N70q
    obtain ⟨r5, hr5⟩ : ∃ z, z = (FP.ddiv (FP.i2d fv) (FP.dadd (FP.i2d (sv + (1 : Int32))) (FP.i2d fv))) := ⟨_, rfl⟩
    have rn71 : (FP.ddiv (FP.i2d fv) (FP.dadd (FP.i2d (sv + (1 : Int32))) (FP.i2d fv))) = r5 := hr5.symm
    have vr5 : Jvm.FP.Core.val64 r5 = OwnFl.RR F (S + 1 + F) := by rw [hr5]; exact own_tv (own_ni eS1) (own_ni eF) (by omega) (by decide) (by omega)
    obtain ⟨nv, hnv⟩ : ∃ z, z = (sv + fv) := ⟨_, rfl⟩
    have rn72 : (sv + fv) = nv := hnv.symm
    have eN : nv.toInt = ((S + F : Nat) : Int) := by rw [hnv]; exact own_a32 eS eF (by omega) (by omega)
    obtain ⟨fs, hr, hrun, hended, hW, hsame⟩ := X70.leave (v := some (.int (1 : Int32))) (fun h => by rw [Bd.returns] at h; cases h)
    refine ⟨_, _, pre40 _ ?_, hrun, hended, _, _, rfl, ?_, ⟨_, rfl⟩, hW, hsame.mono (by decide) (by decide)⟩
    · show Steps p.tables e below (T39.setTop (mkF m 142 #[.val (.int x1), .val (.int x2), .val (.int x3), .val (.int x4), .val (.long x5), .second, .val (.int sv), .val (.int fv), .val (.int kv), .val (.int ev), .val (.double uv), .second, .val (.double jv), .second, .val (.ref b28), .val (.ref b30), .val (.ref b32), .val (.ref b36), .val (.ref b38), .unset, .unset, .unset, .unset, .unset, .unset, .unset, .unset, .unset, .unset, .unset, .unset, .unset, .unset, .unset] [])) _
      show Steps p.tables e below (T39.setTop (mkF m 142 #[.val (.int x1), .val (.int x2), .val (.int x3), .val (.int x4), .val (.long x5), .second, .val (.int sv), .val (.int fv), .val (.int kv), .val (.int ev), .val (.double uv), .second, .val (.double jv), .second, .val (.ref b28), .val (.ref b30), .val (.ref b32), .val (.ref b36), .val (.ref b38), .unset, .unset, .unset, .unset, .unset, .unset, .unset, .unset, .unset, .unset, .unset, .unset, .unset, .unset, .unset] [])) _
      refine XS.aload X39.here hx rfl (hb hby at_142) rfl rfl ?_
      show Steps p.tables e below (T39.setTop (mkF m 144 #[.val (.int x1), .val (.int x2), .val (.int x3), .val (.int x4), .val (.long x5), .second, .val (.int sv), .val (.int fv), .val (.int kv), .val (.int ev), .val (.double uv), .second, .val (.double jv), .second, .val (.ref b28), .val (.ref b30), .val (.ref b32), .val (.ref b36), .val (.ref b38), .unset, .unset, .unset, .unset, .unset, .unset, .unset, .unset, .unset, .unset, .unset, .unset, .unset, .unset, .unset] [(.ref b28)])) _
      refine st45.trans ?_
      show Steps p.tables e below (T45.setTop (mkF m 147 #[.val (.int x1), .val (.int x2), .val (.int x3), .val (.int x4), .val (.long x5), .second, .val (.int sv), .val (.int fv), .val (.int kv), .val (.int ev), .val (.double uv), .second, .val (.double jv), .second, .val (.ref b28), .val (.ref b30), .val (.ref b32), .val (.ref b36), .val (.ref b38), .unset, .unset, .unset, .unset, .unset, .unset, .unset, .unset, .unset, .unset, .unset, .unset, .unset, .unset, .unset] [(.double (0 : UInt64))])) _
      refine XS.dstore X45.here hx rfl (hb hby at_147) rfl (l' := #[.val (.int x1), .val (.int x2), .val (.int x3), .val (.int x4), .val (.long x5), .second, .val (.int sv), .val (.int fv), .val (.int kv), .val (.int ev), .val (.double uv), .second, .val (.double jv), .second, .val (.ref b28), .val (.ref b30), .val (.ref b32), .val (.ref b36), .val (.ref b38), .val (.double (0 : UInt64)), .second, .unset, .unset, .unset, .unset, .unset, .unset, .unset, .unset, .unset, .unset, .unset, .unset, .unset]) rfl ?_
      show Steps p.tables e below (T45.setTop (mkF m 149 #[.val (.int x1), .val (.int x2), .val (.int x3), .val (.int x4), .val (.long x5), .second, .val (.int sv), .val (.int fv), .val (.int kv), .val (.int ev), .val (.double uv), .second, .val (.double jv), .second, .val (.ref b28), .val (.ref b30), .val (.ref b32), .val (.ref b36), .val (.ref b38), .val (.double (0 : UInt64)), .second, .unset, .unset, .unset, .unset, .unset, .unset, .unset, .unset, .unset, .unset, .unset, .unset, .unset] [])) _
      refine XS.aload X45.here hx rfl (hb hby at_149) rfl rfl ?_
      show Steps p.tables e below (T45.setTop (mkF m 151 #[.val (.int x1), .val (.int x2), .val (.int x3), .val (.int x4), .val (.long x5), .second, .val (.int sv), .val (.int fv), .val (.int kv), .val (.int ev), .val (.double uv), .second, .val (.double jv), .second, .val (.ref b28), .val (.ref b30), .val (.ref b32), .val (.ref b36), .val (.ref b38), .val (.double (0 : UInt64)), .second, .unset, .unset, .unset, .unset, .unset, .unset, .unset, .unset, .unset, .unset, .unset, .unset, .unset] [(.ref b30)])) _
      refine st51.trans ?_
      show Steps p.tables e below (T51.setTop (mkF m 154 #[.val (.int x1), .val (.int x2), .val (.int x3), .val (.int x4), .val (.long x5), .second, .val (.int sv), .val (.int fv), .val (.int kv), .val (.int ev), .val (.double uv), .second, .val (.double jv), .second, .val (.ref b28), .val (.ref b30), .val (.ref b32), .val (.ref b36), .val (.ref b38), .val (.double (0 : UInt64)), .second, .unset, .unset, .unset, .unset, .unset, .unset, .unset, .unset, .unset, .unset, .unset, .unset, .unset] [(.double (0 : UInt64))])) _
      refine XS.dstore X51.here hx rfl (hb hby at_154) rfl (l' := #[.val (.int x1), .val (.int x2), .val (.int x3), .val (.int x4), .val (.long x5), .second, .val (.int sv), .val (.int fv), .val (.int kv), .val (.int ev), .val (.double uv), .second, .val (.double jv), .second, .val (.ref b28), .val (.ref b30), .val (.ref b32), .val (.ref b36), .val (.ref b38), .val (.double (0 : UInt64)), .second, .val (.double (0 : UInt64)), .second, .unset, .unset, .unset, .unset, .unset, .unset, .unset, .unset, .unset, .unset, .unset]) rfl ?_
      show Steps p.tables e below (T51.setTop (mkF m 156 #[.val (.int x1), .val (.int x2), .val (.int x3), .val (.int x4), .val (.long x5), .second, .val (.int sv), .val (.int fv), .val (.int kv), .val (.int ev), .val (.double uv), .second, .val (.double jv), .second, .val (.ref b28), .val (.ref b30), .val (.ref b32), .val (.ref b36), .val (.ref b38), .val (.double (0 : UInt64)), .second, .val (.double (0 : UInt64)), .second, .unset, .unset, .unset, .unset, .unset, .unset, .unset, .unset, .unset, .unset, .unset] [])) _
      refine XS.aload X51.here hx rfl (hb hby at_156) rfl rfl ?_
      show Steps p.tables e below (T51.setTop (mkF m 158 #[.val (.int x1), .val (.int x2), .val (.int x3), .val (.int x4), .val (.long x5), .second, .val (.int sv), .val (.int fv), .val (.int kv), .val (.int ev), .val (.double uv), .second, .val (.double jv), .second, .val (.ref b28), .val (.ref b30), .val (.ref b32), .val (.ref b36), .val (.ref b38), .val (.double (0 : UInt64)), .second, .val (.double (0 : UInt64)), .second, .unset, .unset, .unset, .unset, .unset, .unset, .unset, .unset, .unset, .unset, .unset] [(.ref b32)])) _
      refine st57.trans ?_
      show Steps p.tables e below (T57.setTop (mkF m 161 #[.val (.int x1), .val (.int x2), .val (.int x3), .val (.int x4), .val (.long x5), .second, .val (.int sv), .val (.int fv), .val (.int kv), .val (.int ev), .val (.double uv), .second, .val (.double jv), .second, .val (.ref b28), .val (.ref b30), .val (.ref b32), .val (.ref b36), .val (.ref b38), .val (.double (0 : UInt64)), .second, .val (.double (0 : UInt64)), .second, .unset, .unset, .unset, .unset, .unset, .unset, .unset, .unset, .unset, .unset, .unset] [(.double (0 : UInt64))])) _
      refine XS.dstore X57.here hx rfl (hb hby at_161) rfl (l' := #[.val (.int x1), .val (.int x2), .val (.int x3), .val (.int x4), .val (.long x5), .second, .val (.int sv), .val (.int fv), .val (.int kv), .val (.int ev), .val (.double uv), .second, .val (.double jv), .second, .val (.ref b28), .val (.ref b30), .val (.ref b32), .val (.ref b36), .val (.ref b38), .val (.double (0 : UInt64)), .second, .val (.double (0 : UInt64)), .second, .val (.double (0 : UInt64)), .second, .unset, .unset, .unset, .unset, .unset, .unset, .unset, .unset, .unset]) rfl ?_
      show Steps p.tables e below (T57.setTop (mkF m 163 #[.val (.int x1), .val (.int x2), .val (.int x3), .val (.int x4), .val (.long x5), .second, .val (.int sv), .val (.int fv), .val (.int kv), .val (.int ev), .val (.double uv), .second, .val (.double jv), .second, .val (.ref b28), .val (.ref b30), .val (.ref b32), .val (.ref b36), .val (.ref b38), .val (.double (0 : UInt64)), .second, .val (.double (0 : UInt64)), .second, .val (.double (0 : UInt64)), .second, .unset, .unset, .unset, .unset, .unset, .unset, .unset, .unset, .unset] [])) _
      refine XS.aload X57.here hx rfl (hb hby at_163) rfl rfl ?_
      show Steps p.tables e below (T57.setTop (mkF m 165 #[.val (.int x1), .val (.int x2), .val (.int x3), .val (.int x4), .val (.long x5), .second, .val (.int sv), .val (.int fv), .val (.int kv), .val (.int ev), .val (.double uv), .second, .val (.double jv), .second, .val (.ref b28), .val (.ref b30), .val (.ref b32), .val (.ref b36), .val (.ref b38), .val (.double (0 : UInt64)), .second, .val (.double (0 : UInt64)), .second, .val (.double (0 : UInt64)), .second, .unset, .unset, .unset, .unset, .unset, .unset, .unset, .unset, .unset] [(.ref b36)])) _
      refine st64.trans ?_
      show Steps p.tables e below (T64.setTop (mkF m 168 #[.val (.int x1), .val (.int x2), .val (.int x3), .val (.int x4), .val (.long x5), .second, .val (.int sv), .val (.int fv), .val (.int kv), .val (.int ev), .val (.double uv), .second, .val (.double jv), .second, .val (.ref b28), .val (.ref b30), .val (.ref b32), .val (.ref b36), .val (.ref b38), .val (.double (0 : UInt64)), .second, .val (.double (0 : UInt64)), .second, .val (.double (0 : UInt64)), .second, .unset, .unset, .unset, .unset, .unset, .unset, .unset, .unset, .unset] [(.double (FP.ddiv (FP.i2d (fv + (1 : Int32))) (FP.dadd (FP.i2d sv) (FP.i2d (fv + (1 : Int32))))))])) _
      refine XS.dstore X64.here hx rfl (hb hby at_168) rfl (l' := #[.val (.int x1), .val (.int x2), .val (.int x3), .val (.int x4), .val (.long x5), .second, .val (.int sv), .val (.int fv), .val (.int kv), .val (.int ev), .val (.double uv), .second, .val (.double jv), .second, .val (.ref b28), .val (.ref b30), .val (.ref b32), .val (.ref b36), .val (.ref b38), .val (.double (0 : UInt64)), .second, .val (.double (0 : UInt64)), .second, .val (.double (0 : UInt64)), .second, .val (.double (FP.ddiv (FP.i2d (fv + (1 : Int32))) (FP.dadd (FP.i2d sv) (FP.i2d (fv + (1 : Int32)))))), .second, .unset, .unset, .unset, .unset, .unset, .unset, .unset]) rfl ?_
      show Steps p.tables e below (T64.setTop (mkF m 170 #[.val (.int x1), .val (.int x2), .val (.int x3), .val (.int x4), .val (.long x5), .second, .val (.int sv), .val (.int fv), .val (.int kv), .val (.int ev), .val (.double uv), .second, .val (.double jv), .second, .val (.ref b28), .val (.ref b30), .val (.ref b32), .val (.ref b36), .val (.ref b38), .val (.double (0 : UInt64)), .second, .val (.double (0 : UInt64)), .second, .val (.double (0 : UInt64)), .second, .val (.double (FP.ddiv (FP.i2d (fv + (1 : Int32))) (FP.dadd (FP.i2d sv) (FP.i2d (fv + (1 : Int32)))))), .second, .unset, .unset, .unset, .unset, .unset, .unset, .unset] [])) _
      rw [rn66]
      show Steps p.tables e below (T64.setTop (mkF m 170 #[.val (.int x1), .val (.int x2), .val (.int x3), .val (.int x4), .val (.long x5), .second, .val (.int sv), .val (.int fv), .val (.int kv), .val (.int ev), .val (.double uv), .second, .val (.double jv), .second, .val (.ref b28), .val (.ref b30), .val (.ref b32), .val (.ref b36), .val (.ref b38), .val (.double (0 : UInt64)), .second, .val (.double (0 : UInt64)), .second, .val (.double (0 : UInt64)), .second, .val (.double r4), .second, .unset, .unset, .unset, .unset, .unset, .unset, .unset] [])) _
      refine XS.aload X64.here hx rfl (hb hby at_170) rfl rfl ?_
      show Steps p.tables e below (T64.setTop (mkF m 172 #[.val (.int x1), .val (.int x2), .val (.int x3), .val (.int x4), .val (.long x5), .second, .val (.int sv), .val (.int fv), .val (.int kv), .val (.int ev), .val (.double uv), .second, .val (.double jv), .second, .val (.ref b28), .val (.ref b30), .val (.ref b32), .val (.ref b36), .val (.ref b38), .val (.double (0 : UInt64)), .second, .val (.double (0 : UInt64)), .second, .val (.double (0 : UInt64)), .second, .val (.double r4), .second, .unset, .unset, .unset, .unset, .unset, .unset, .unset] [(.ref b38)])) _
      refine st70.trans ?_
      show Steps p.tables e below (T70.setTop (mkF m 175 #[.val (.int x1), .val (.int x2), .val (.int x3), .val (.int x4), .val (.long x5), .second, .val (.int sv), .val (.int fv), .val (.int kv), .val (.int ev), .val (.double uv), .second, .val (.double jv), .second, .val (.ref b28), .val (.ref b30), .val (.ref b32), .val (.ref b36), .val (.ref b38), .val (.double (0 : UInt64)), .second, .val (.double (0 : UInt64)), .second, .val (.double (0 : UInt64)), .second, .val (.double r4), .second, .unset, .unset, .unset, .unset, .unset, .unset, .unset] [(.double (FP.ddiv (FP.i2d fv) (FP.dadd (FP.i2d (sv + (1 : Int32))) (FP.i2d fv))))])) _
      refine XS.dstore X70.here hx rfl (hb hby at_175) rfl (l' := #[.val (.int x1), .val (.int x2), .val (.int x3), .val (.int x4), .val (.long x5), .second, .val (.int sv), .val (.int fv), .val (.int kv), .val (.int ev), .val (.double uv), .second, .val (.double jv), .second, .val (.ref b28), .val (.ref b30), .val (.ref b32), .val (.ref b36), .val (.ref b38), .val (.double (0 : UInt64)), .second, .val (.double (0 : UInt64)), .second, .val (.double (0 : UInt64)), .second, .val (.double r4), .second, .val (.double (FP.ddiv (FP.i2d fv) (FP.dadd (FP.i2d (sv + (1 : Int32))) (FP.i2d fv)))), .second, .unset, .unset, .unset, .unset, .unset]) rfl ?_
      show Steps p.tables e below (T70.setTop (mkF m 177 #[.val (.int x1), .val (.int x2), .val (.int x3), .val (.int x4), .val (.long x5), .second, .val (.int sv), .val (.int fv), .val (.int kv), .val (.int ev), .val (.double uv), .second, .val (.double jv), .second, .val (.ref b28), .val (.ref b30), .val (.ref b32), .val (.ref b36), .val (.ref b38), .val (.double (0 : UInt64)), .second, .val (.double (0 : UInt64)), .second, .val (.double (0 : UInt64)), .second, .val (.double r4), .second, .val (.double (FP.ddiv (FP.i2d fv) (FP.dadd (FP.i2d (sv + (1 : Int32))) (FP.i2d fv)))), .second, .unset, .unset, .unset, .unset, .unset] [])) _
      rw [rn71]
      show Steps p.tables e below (T70.setTop (mkF m 177 #[.val (.int x1), .val (.int x2), .val (.int x3), .val (.int x4), .val (.long x5), .second, .val (.int sv), .val (.int fv), .val (.int kv), .val (.int ev), .val (.double uv), .second, .val (.double jv), .second, .val (.ref b28), .val (.ref b30), .val (.ref b32), .val (.ref b36), .val (.ref b38), .val (.double (0 : UInt64)), .second, .val (.double (0 : UInt64)), .second, .val (.double (0 : UInt64)), .second, .val (.double r4), .second, .val (.double r5), .second, .unset, .unset, .unset, .unset, .unset] [])) _
      refine XS.iload X70.here hx rfl (hb hby at_177) rfl ?_
      show Steps p.tables e below (T70.setTop (mkF m 179 #[.val (.int x1), .val (.int x2), .val (.int x3), .val (.int x4), .val (.long x5), .second, .val (.int sv), .val (.int fv), .val (.int kv), .val (.int ev), .val (.double uv), .second, .val (.double jv), .second, .val (.ref b28), .val (.ref b30), .val (.ref b32), .val (.ref b36), .val (.ref b38), .val (.double (0 : UInt64)), .second, .val (.double (0 : UInt64)), .second, .val (.double (0 : UInt64)), .second, .val (.double r4), .second, .val (.double r5), .second, .unset, .unset, .unset, .unset, .unset] [(.int sv)])) _
      refine XS.iload X70.here hx rfl (hb hby at_179) rfl ?_
      show Steps p.tables e below (T70.setTop (mkF m 181 #[.val (.int x1), .val (.int x2), .val (.int x3), .val (.int x4), .val (.long x5), .second, .val (.int sv), .val (.int fv), .val (.int kv), .val (.int ev), .val (.double uv), .second, .val (.double jv), .second, .val (.ref b28), .val (.ref b30), .val (.ref b32), .val (.ref b36), .val (.ref b38), .val (.double (0 : UInt64)), .second, .val (.double (0 : UInt64)), .second, .val (.double (0 : UInt64)), .second, .val (.double r4), .second, .val (.double r5), .second, .unset, .unset, .unset, .unset, .unset] [(.int fv), (.int sv)])) _
      refine XS.iadd X70.here hx rfl (hb hby at_181) rfl ?_
      show Steps p.tables e below (T70.setTop (mkF m 182 #[.val (.int x1), .val (.int x2), .val (.int x3), .val (.int x4), .val (.long x5), .second, .val (.int sv), .val (.int fv), .val (.int kv), .val (.int ev), .val (.double uv), .second, .val (.double jv), .second, .val (.ref b28), .val (.ref b30), .val (.ref b32), .val (.ref b36), .val (.ref b38), .val (.double (0 : UInt64)), .second, .val (.double (0 : UInt64)), .second, .val (.double (0 : UInt64)), .second, .val (.double r4), .second, .val (.double r5), .second, .unset, .unset, .unset, .unset, .unset] [(.int (sv + fv))])) _
      refine XS.istore X70.here hx rfl (hb hby at_182) rfl (l' := #[.val (.int x1), .val (.int x2), .val (.int x3), .val (.int x4), .val (.long x5), .second, .val (.int sv), .val (.int fv), .val (.int kv), .val (.int ev), .val (.double uv), .second, .val (.double jv), .second, .val (.ref b28), .val (.ref b30), .val (.ref b32), .val (.ref b36), .val (.ref b38), .val (.double (0 : UInt64)), .second, .val (.double (0 : UInt64)), .second, .val (.double (0 : UInt64)), .second, .val (.double r4), .second, .val (.double r5), .second, .val (.int (sv + fv)), .unset, .unset, .unset, .unset]) rfl ?_
      show Steps p.tables e below (T70.setTop (mkF m 184 #[.val (.int x1), .val (.int x2), .val (.int x3), .val (.int x4), .val (.long x5), .second, .val (.int sv), .val (.int fv), .val (.int kv), .val (.int ev), .val (.double uv), .second, .val (.double jv), .second, .val (.ref b28), .val (.ref b30), .val (.ref b32), .val (.ref b36), .val (.ref b38), .val (.double (0 : UInt64)), .second, .val (.double (0 : UInt64)), .second, .val (.double (0 : UInt64)), .second, .val (.double r4), .second, .val (.double r5), .second, .val (.int (sv + fv)), .unset, .unset, .unset, .unset] [])) _
      rw [rn72]
      show Steps p.tables e below (T70.setTop (mkF m 184 #[.val (.int x1), .val (.int x2), .val (.int x3), .val (.int x4), .val (.long x5), .second, .val (.int sv), .val (.int fv), .val (.int kv), .val (.int ev), .val (.double uv), .second, .val (.double jv), .second, .val (.ref b28), .val (.ref b30), .val (.ref b32), .val (.ref b36), .val (.ref b38), .val (.double (0 : UInt64)), .second, .val (.double (0 : UInt64)), .second, .val (.double (0 : UInt64)), .second, .val (.double r4), .second, .val (.double r5), .second, .val (.int nv), .unset, .unset, .unset, .unset] [])) _
      refine XS.iload X70.here hx rfl (hb hby at_184) rfl ?_
      show Steps p.tables e below (T70.setTop (mkF m 186 #[.val (.int x1), .val (.int x2), .val (.int x3), .val (.int x4), .val (.long x5), .second, .val (.int sv), .val (.int fv), .val (.int kv), .val (.int ev), .val (.double uv), .second, .val (.double jv), .second, .val (.ref b28), .val (.ref b30), .val (.ref b32), .val (.ref b36), .val (.ref b38), .val (.double (0 : UInt64)), .second, .val (.double (0 : UInt64)), .second, .val (.double (0 : UInt64)), .second, .val (.double r4), .second, .val (.double r5), .second, .val (.int nv), .unset, .unset, .unset, .unset] [(.int nv)])) _
      refine XS.ifNo X70.here hx rfl (hb hby at_186) rfl ((if0 _ _).trans (teq ((own_zi eN).mpr hn0)).2) ?_
      show Steps p.tables e below (T70.setTop (mkF m 189 #[.val (.int x1), .val (.int x2), .val (.int x3), .val (.int x4), .val (.long x5), .second, .val (.int sv), .val (.int fv), .val (.int kv), .val (.int ev), .val (.double uv), .second, .val (.double jv), .second, .val (.ref b28), .val (.ref b30), .val (.ref b32), .val (.ref b36), .val (.ref b38), .val (.double (0 : UInt64)), .second, .val (.double (0 : UInt64)), .second, .val (.double (0 : UInt64)), .second, .val (.double r4), .second, .val (.double r5), .second, .val (.int nv), .unset, .unset, .unset, .unset] [])) _
      refine XS.dload X70.here hx rfl (hb hby at_189) rfl ?_
      show Steps p.tables e below (T70.setTop (mkF m 191 #[.val (.int x1), .val (.int x2), .val (.int x3), .val (.int x4), .val (.long x5), .second, .val (.int sv), .val (.int fv), .val (.int kv), .val (.int ev), .val (.double uv), .second, .val (.double jv), .second, .val (.ref b28), .val (.ref b30), .val (.ref b32), .val (.ref b36), .val (.ref b38), .val (.double (0 : UInt64)), .second, .val (.double (0 : UInt64)), .second, .val (.double (0 : UInt64)), .second, .val (.double r4), .second, .val (.double r5), .second, .val (.int nv), .unset, .unset, .unset, .unset] [(.double (0 : UInt64))])) _
      refine XS.dconst0 X70.here hx rfl (hb hby at_191) (v := (0 : UInt64)) rfl ?_
      show Steps p.tables e below (T70.setTop (mkF m 192 #[.val (.int x1), .val (.int x2), .val (.int x3), .val (.int x4), .val (.long x5), .second, .val (.int sv), .val (.int fv), .val (.int kv), .val (.int ev), .val (.double uv), .second, .val (.double jv), .second, .val (.ref b28), .val (.ref b30), .val (.ref b32), .val (.ref b36), .val (.ref b38), .val (.double (0 : UInt64)), .second, .val (.double (0 : UInt64)), .second, .val (.double (0 : UInt64)), .second, .val (.double r4), .second, .val (.double r5), .second, .val (.int nv), .unset, .unset, .unset, .unset] [(.double (0 : UInt64)), (.double (0 : UInt64))])) _
      refine XS.dcmpS X70.here hx rfl (hb hby at_192) rfl rfl ?_
      show Steps p.tables e below (T70.setTop (mkF m 193 #[.val (.int x1), .val (.int x2), .val (.int x3), .val (.int x4), .val (.long x5), .second, .val (.int sv), .val (.int fv), .val (.int kv), .val (.int ev), .val (.double uv), .second, .val (.double jv), .second, .val (.ref b28), .val (.ref b30), .val (.ref b32), .val (.ref b36), .val (.ref b38), .val (.double (0 : UInt64)), .second, .val (.double (0 : UInt64)), .second, .val (.double (0 : UInt64)), .second, .val (.double r4), .second, .val (.double r5), .second, .val (.int nv), .unset, .unset, .unset, .unset] [(.int (cmpValue (FP.dcmp (0 : UInt64) (0 : UInt64)) .l))])) _
      refine XS.ifNo X70.here hx rfl (hb hby at_193) rfl ((if0 _ _).trans (teq (by decide +kernel)).2) ?_
      show Steps p.tables e below (T70.setTop (mkF m 196 #[.val (.int x1), .val (.int x2), .val (.int x3), .val (.int x4), .val (.long x5), .second, .val (.int sv), .val (.int fv), .val (.int kv), .val (.int ev), .val (.double uv), .second, .val (.double jv), .second, .val (.ref b28), .val (.ref b30), .val (.ref b32), .val (.ref b36), .val (.ref b38), .val (.double (0 : UInt64)), .second, .val (.double (0 : UInt64)), .second, .val (.double (0 : UInt64)), .second, .val (.double r4), .second, .val (.double r5), .second, .val (.int nv), .unset, .unset, .unset, .unset] [])) _
      refine XS.dload X70.here hx rfl (hb hby at_196) rfl ?_
      show Steps p.tables e below (T70.setTop (mkF m 198 #[.val (.int x1), .val (.int x2), .val (.int x3), .val (.int x4), .val (.long x5), .second, .val (.int sv), .val (.int fv), .val (.int kv), .val (.int ev), .val (.double uv), .second, .val (.double jv), .second, .val (.ref b28), .val (.ref b30), .val (.ref b32), .val (.ref b36), .val (.ref b38), .val (.double (0 : UInt64)), .second, .val (.double (0 : UInt64)), .second, .val (.double (0 : UInt64)), .second, .val (.double r4), .second, .val (.double r5), .second, .val (.int nv), .unset, .unset, .unset, .unset] [(.double (0 : UInt64))])) _
      refine XS.dconst0 X70.here hx rfl (hb hby at_198) (v := (0 : UInt64)) rfl ?_
      show Steps p.tables e below (T70.setTop (mkF m 199 #[.val (.int x1), .val (.int x2), .val (.int x3), .val (.int x4), .val (.long x5), .second, .val (.int sv), .val (.int fv), .val (.int kv), .val (.int ev), .val (.double uv), .second, .val (.double jv), .second, .val (.ref b28), .val (.ref b30), .val (.ref b32), .val (.ref b36), .val (.ref b38), .val (.double (0 : UInt64)), .second, .val (.double (0 : UInt64)), .second, .val (.double (0 : UInt64)), .second, .val (.double r4), .second, .val (.double r5), .second, .val (.int nv), .unset, .unset, .unset, .unset] [(.double (0 : UInt64)), (.double (0 : UInt64))])) _
      refine XS.dcmpS X70.here hx rfl (hb hby at_199) rfl rfl ?_
      show Steps p.tables e below (T70.setTop (mkF m 200 #[.val (.int x1), .val (.int x2), .val (.int x3), .val (.int x4), .val (.long x5), .second, .val (.int sv), .val (.int fv), .val (.int kv), .val (.int ev), .val (.double uv), .second, .val (.double jv), .second, .val (.ref b28), .val (.ref b30), .val (.ref b32), .val (.ref b36), .val (.ref b38), .val (.double (0 : UInt64)), .second, .val (.double (0 : UInt64)), .second, .val (.double (0 : UInt64)), .second, .val (.double r4), .second, .val (.double r5), .second, .val (.int nv), .unset, .unset, .unset, .unset] [(.int (cmpValue (FP.dcmp (0 : UInt64) (0 : UInt64)) .l))])) _
      refine XS.ifNo X70.here hx rfl (hb hby at_200) rfl ((if0 _ _).trans (teq (by decide +kernel)).2) ?_
      show Steps p.tables e below (T70.setTop (mkF m 203 #[.val (.int x1), .val (.int x2), .val (.int x3), .val (.int x4), .val (.long x5), .second, .val (.int sv), .val (.int fv), .val (.int kv), .val (.int ev), .val (.double uv), .second, .val (.double jv), .second, .val (.ref b28), .val (.ref b30), .val (.ref b32), .val (.ref b36), .val (.ref b38), .val (.double (0 : UInt64)), .second, .val (.double (0 : UInt64)), .second, .val (.double (0 : UInt64)), .second, .val (.double r4), .second, .val (.double r5), .second, .val (.int nv), .unset, .unset, .unset, .unset] [])) _
      refine XS.dload X70.here hx rfl (hb hby at_203) rfl ?_
      show Steps p.tables e below (T70.setTop (mkF m 205 #[.val (.int x1), .val (.int x2), .val (.int x3), .val (.int x4), .val (.long x5), .second, .val (.int sv), .val (.int fv), .val (.int kv), .val (.int ev), .val (.double uv), .second, .val (.double jv), .second, .val (.ref b28), .val (.ref b30), .val (.ref b32), .val (.ref b36), .val (.ref b38), .val (.double (0 : UInt64)), .second, .val (.double (0 : UInt64)), .second, .val (.double (0 : UInt64)), .second, .val (.double r4), .second, .val (.double r5), .second, .val (.int nv), .unset, .unset, .unset, .unset] [(.double (0 : UInt64))])) _
      refine XS.dconst0 X70.here hx rfl (hb hby at_205) (v := (0 : UInt64)) rfl ?_
      show Steps p.tables e below (T70.setTop (mkF m 206 #[.val (.int x1), .val (.int x2), .val (.int x3), .val (.int x4), .val (.long x5), .second, .val (.int sv), .val (.int fv), .val (.int kv), .val (.int ev), .val (.double uv), .second, .val (.double jv), .second, .val (.ref b28), .val (.ref b30), .val (.ref b32), .val (.ref b36), .val (.ref b38), .val (.double (0 : UInt64)), .second, .val (.double (0 : UInt64)), .second, .val (.double (0 : UInt64)), .second, .val (.double r4), .second, .val (.double r5), .second, .val (.int nv), .unset, .unset, .unset, .unset] [(.double (0 : UInt64)), (.double (0 : UInt64))])) _
      refine XS.dcmpS X70.here hx rfl (hb hby at_206) rfl rfl ?_
      show Steps p.tables e below (T70.setTop (mkF m 207 #[.val (.int x1), .val (.int x2), .val (.int x3), .val (.int x4), .val (.long x5), .second, .val (.int sv), .val (.int fv), .val (.int kv), .val (.int ev), .val (.double uv), .second, .val (.double jv), .second, .val (.ref b28), .val (.ref b30), .val (.ref b32), .val (.ref b36), .val (.ref b38), .val (.double (0 : UInt64)), .second, .val (.double (0 : UInt64)), .second, .val (.double (0 : UInt64)), .second, .val (.double r4), .second, .val (.double r5), .second, .val (.int nv), .unset, .unset, .unset, .unset] [(.int (cmpValue (FP.dcmp (0 : UInt64) (0 : UInt64)) .l))])) _
      refine XS.ifNo X70.here hx rfl (hb hby at_207) rfl ((if0 _ _).trans (teq (by decide +kernel)).2) ?_
      show Steps p.tables e below (T70.setTop (mkF m 210 #[.val (.int x1), .val (.int x2), .val (.int x3), .val (.int x4), .val (.long x5), .second, .val (.int sv), .val (.int fv), .val (.int kv), .val (.int ev), .val (.double uv), .second, .val (.double jv), .second, .val (.ref b28), .val (.ref b30), .val (.ref b32), .val (.ref b36), .val (.ref b38), .val (.double (0 : UInt64)), .second, .val (.double (0 : UInt64)), .second, .val (.double (0 : UInt64)), .second, .val (.double r4), .second, .val (.double r5), .second, .val (.int nv), .unset, .unset, .unset, .unset] [])) _
      refine XS.dload X70.here hx rfl (hb hby at_210) rfl ?_
      show Steps p.tables e below (T70.setTop (mkF m 212 #[.val (.int x1), .val (.int x2), .val (.int x3), .val (.int x4), .val (.long x5), .second, .val (.int sv), .val (.int fv), .val (.int kv), .val (.int ev), .val (.double uv), .second, .val (.double jv), .second, .val (.ref b28), .val (.ref b30), .val (.ref b32), .val (.ref b36), .val (.ref b38), .val (.double (0 : UInt64)), .second, .val (.double (0 : UInt64)), .second, .val (.double (0 : UInt64)), .second, .val (.double r4), .second, .val (.double r5), .second, .val (.int nv), .unset, .unset, .unset, .unset] [(.double r4)])) _
      refine XS.dconst1 X70.here hx rfl (hb hby at_212) (v := (4607182418800017408 : UInt64)) rfl ?_
      show Steps p.tables e below (T70.setTop (mkF m 213 #[.val (.int x1), .val (.int x2), .val (.int x3), .val (.int x4), .val (.long x5), .second, .val (.int sv), .val (.int fv), .val (.int kv), .val (.int ev), .val (.double uv), .second, .val (.double jv), .second, .val (.ref b28), .val (.ref b30), .val (.ref b32), .val (.ref b36), .val (.ref b38), .val (.double (0 : UInt64)), .second, .val (.double (0 : UInt64)), .second, .val (.double (0 : UInt64)), .second, .val (.double r4), .second, .val (.double r5), .second, .val (.int nv), .unset, .unset, .unset, .unset] [(.double (4607182418800017408 : UInt64)), (.double r4)])) _
      refine XS.dcmpS X70.here hx rfl (hb hby at_213) rfl rfl ?_
      show Steps p.tables e below (T70.setTop (mkF m 214 #[.val (.int x1), .val (.int x2), .val (.int x3), .val (.int x4), .val (.long x5), .second, .val (.int sv), .val (.int fv), .val (.int kv), .val (.int ev), .val (.double uv), .second, .val (.double jv), .second, .val (.ref b28), .val (.ref b30), .val (.ref b32), .val (.ref b36), .val (.ref b38), .val (.double (0 : UInt64)), .second, .val (.double (0 : UInt64)), .second, .val (.double (0 : UInt64)), .second, .val (.double r4), .second, .val (.double r5), .second, .val (.int nv), .unset, .unset, .unset, .unset] [(.int (cmpValue (FP.dcmp r4 (4607182418800017408 : UInt64)) .l))])) _
      refine XS.ifNo X70.here hx rfl (hb hby at_214) rfl ((if0 _ _).trans (teq (own_veq (OwnFl.own_cmp_eq vr4 OwnFl.own_one (by omega) (by decide) (by omega)) .l)).2) ?_
      show Steps p.tables e below (T70.setTop (mkF m 217 #[.val (.int x1), .val (.int x2), .val (.int x3), .val (.int x4), .val (.long x5), .second, .val (.int sv), .val (.int fv), .val (.int kv), .val (.int ev), .val (.double uv), .second, .val (.double jv), .second, .val (.ref b28), .val (.ref b30), .val (.ref b32), .val (.ref b36), .val (.ref b38), .val (.double (0 : UInt64)), .second, .val (.double (0 : UInt64)), .second, .val (.double (0 : UInt64)), .second, .val (.double r4), .second, .val (.double r5), .second, .val (.int nv), .unset, .unset, .unset, .unset] [])) _
      refine XS.dload X70.here hx rfl (hb hby at_217) rfl ?_
      show Steps p.tables e below (T70.setTop (mkF m 219 #[.val (.int x1), .val (.int x2), .val (.int x3), .val (.int x4), .val (.long x5), .second, .val (.int sv), .val (.int fv), .val (.int kv), .val (.int ev), .val (.double uv), .second, .val (.double jv), .second, .val (.ref b28), .val (.ref b30), .val (.ref b32), .val (.ref b36), .val (.ref b38), .val (.double (0 : UInt64)), .second, .val (.double (0 : UInt64)), .second, .val (.double (0 : UInt64)), .second, .val (.double r4), .second, .val (.double r5), .second, .val (.int nv), .unset, .unset, .unset, .unset] [(.double r5)])) _
      refine XS.dconst0 X70.here hx rfl (hb hby at_219) (v := (0 : UInt64)) rfl ?_
      show Steps p.tables e below (T70.setTop (mkF m 220 #[.val (.int x1), .val (.int x2), .val (.int x3), .val (.int x4), .val (.long x5), .second, .val (.int sv), .val (.int fv), .val (.int kv), .val (.int ev), .val (.double uv), .second, .val (.double jv), .second, .val (.ref b28), .val (.ref b30), .val (.ref b32), .val (.ref b36), .val (.ref b38), .val (.double (0 : UInt64)), .second, .val (.double (0 : UInt64)), .second, .val (.double (0 : UInt64)), .second, .val (.double r4), .second, .val (.double r5), .second, .val (.int nv), .unset, .unset, .unset, .unset] [(.double (0 : UInt64)), (.double r5)])) _
      refine XS.dcmpS X70.here hx rfl (hb hby at_220) rfl rfl ?_
      show Steps p.tables e below (T70.setTop (mkF m 221 #[.val (.int x1), .val (.int x2), .val (.int x3), .val (.int x4), .val (.long x5), .second, .val (.int sv), .val (.int fv), .val (.int kv), .val (.int ev), .val (.double uv), .second, .val (.double jv), .second, .val (.ref b28), .val (.ref b30), .val (.ref b32), .val (.ref b36), .val (.ref b38), .val (.double (0 : UInt64)), .second, .val (.double (0 : UInt64)), .second, .val (.double (0 : UInt64)), .second, .val (.double r4), .second, .val (.double r5), .second, .val (.int nv), .unset, .unset, .unset, .unset] [(.int (cmpValue (FP.dcmp r5 (0 : UInt64)) .l))])) _
      refine XS.ifNo X70.here hx rfl (hb hby at_221) rfl ((if0 _ _).trans (teq (own_veq (OwnFl.own_cmp_eq vr5 OwnFl.own_zero (by omega) (by decide) (by omega)) .l)).2) ?_
      show Steps p.tables e below (T70.setTop (mkF m 224 #[.val (.int x1), .val (.int x2), .val (.int x3), .val (.int x4), .val (.long x5), .second, .val (.int sv), .val (.int fv), .val (.int kv), .val (.int ev), .val (.double uv), .second, .val (.double jv), .second, .val (.ref b28), .val (.ref b30), .val (.ref b32), .val (.ref b36), .val (.ref b38), .val (.double (0 : UInt64)), .second, .val (.double (0 : UInt64)), .second, .val (.double (0 : UInt64)), .second, .val (.double r4), .second, .val (.double r5), .second, .val (.int nv), .unset, .unset, .unset, .unset] [])) _
      refine XS.iconst X70.here hx rfl (hb hby at_224) ?_
      show Steps p.tables e below (T70.setTop (mkF m 225 #[.val (.int x1), .val (.int x2), .val (.int x3), .val (.int x4), .val (.long x5), .second, .val (.int sv), .val (.int fv), .val (.int kv), .val (.int ev), .val (.double uv), .second, .val (.double jv), .second, .val (.ref b28), .val (.ref b30), .val (.ref b32), .val (.ref b36), .val (.ref b38), .val (.double (0 : UInt64)), .second, .val (.double (0 : UInt64)), .second, .val (.double (0 : UInt64)), .second, .val (.double r4), .second, .val (.double r5), .second, .val (.int nv), .unset, .unset, .unset, .unset] [(.int (1 : Int32))])) _
      refine XS.goto X70.here hx rfl (pc0 := 225) (pc' := 229) rfl (hb hby at_225) (by decide) (by decide) ?_
      show Steps p.tables e below (T70.setTop (mkF m 229 #[.val (.int x1), .val (.int x2), .val (.int x3), .val (.int x4), .val (.long x5), .second, .val (.int sv), .val (.int fv), .val (.int kv), .val (.int ev), .val (.double uv), .second, .val (.double jv), .second, .val (.ref b28), .val (.ref b30), .val (.ref b32), .val (.ref b36), .val (.ref b38), .val (.double (0 : UInt64)), .second, .val (.double (0 : UInt64)), .second, .val (.double (0 : UInt64)), .second, .val (.double r4), .second, .val (.double r5), .second, .val (.int nv), .unset, .unset, .unset, .unset] [(.int (1 : Int32))])) _
      exact retN X70 hx (t := .boolean) Bd.returns (by simp) (hb hby at_229) hr
    · show Q0 Z x1 x2 x3 x4 x5 h0 n0 _ T70.heap _
      rw [eh70]
      exact ⟨rfl, N70, K39⟩
  · skip
    have hn0k : 0 < S * K + F * K := by rw [← Nat.add_mul]; exact Nat.mul_pos hn0 (by omega)
    have F73 : Fld Z T39.heap b28 "com/example/windward/windward/EndpointRecord$Counts" "successes" "D" (.double (FP.i2d sv)) := ((((((((Q29_1.ext E30).keep KK31 (ninS (Nat.ne_of_lt (Nat.lt_of_lt_of_le Q29_0.lt (Nat.le_of_eq g30.symm))) nin0)).ext E32).keep KK35 (ninS (Nat.ne_of_lt (Nat.lt_of_lt_of_le ((Q29_0.ext E30).keep KK31).lt (Nat.le_of_eq g32.symm))) nin0)).ext E36).keep KK37 (ninS (Nat.ne_of_lt (Nat.lt_of_lt_of_le ((((Q29_0.ext E30).keep KK31).ext E32).keep KK35).lt (Nat.le_of_eq g36.symm))) nin0)).ext E38).keep KK39 (ninS (Nat.ne_of_lt (Nat.lt_of_lt_of_le ((((((Q29_0.ext E30).keep KK31).ext E32).keep KK35).ext E36).keep KK37).lt (Nat.le_of_eq g38.symm))) nin0))
    have F74 : Fld Z T39.heap b28 "com/example/windward/windward/EndpointRecord$Counts" "failures" "D" (.double (FP.i2d fv)) := ((((((((Q29_2.ext E30).keep KK31 (ninS (Nat.ne_of_lt (Nat.lt_of_lt_of_le Q29_0.lt (Nat.le_of_eq g30.symm))) nin0)).ext E32).keep KK35 (ninS (Nat.ne_of_lt (Nat.lt_of_lt_of_le ((Q29_0.ext E30).keep KK31).lt (Nat.le_of_eq g32.symm))) nin0)).ext E36).keep KK37 (ninS (Nat.ne_of_lt (Nat.lt_of_lt_of_le ((((Q29_0.ext E30).keep KK31).ext E32).keep KK35).lt (Nat.le_of_eq g36.symm))) nin0)).ext E38).keep KK39 (ninS (Nat.ne_of_lt (Nat.lt_of_lt_of_le ((((((Q29_0.ext E30).keep KK31).ext E32).keep KK35).ext E36).keep KK37).lt (Nat.le_of_eq g38.symm))) nin0))
    have pp75 : Jvm.Free.Fl.NoNaN64 (FP.dadd (FP.i2d sv) (FP.i2d fv)) := (own_tn (own_ni eS) (own_ni eF) (by omega) (by decide))
    have pp76 : (0 : Int32) < (cmpValue (FP.dcmp (FP.dadd (FP.i2d sv) (FP.i2d fv)) (0 : UInt64)) .l) := (own_tp (own_ni eS) (own_ni eF) (by omega) (by decide) hn0)
    have pp77 : Jvm.Free.Fl.NoNaN64 (FP.ddiv (FP.i2d fv) (FP.dadd (FP.i2d sv) (FP.i2d fv))) := (own_td (own_ni eS) (own_ni eF) (by omega) (by decide) hn0)
    have C79 : Exa Z T39.heap b28 "com/example/windward/windward/EndpointRecord$Counts" := ((((((((Q29_0.ext E30).keep KK31).ext E32).keep KK35).ext E36).keep KK37).ext E38).keep KK39)
    obtain ⟨cq78, kq78, q78a, q78b, q78c⟩ := isOf hZ rfl C79
    obtain ⟨_, _, ⟨T78, L78, k78, n78⟩, -, X78, ⟨Lc78, hQ78, l78, y78, z78⟩, st78⟩ := X39.virtualBack hx (y := (⟨"com/example/windward/windward/EndpointRecord$Counts", "failureShare", "()D"⟩ : MethodName)) (z := (⟨"com/example/windward/windward/EndpointRecord$Counts", "failureShare", "()D"⟩ : MethodName)) hown (mvT hZ (own_wd hw 20 rfl)) (mvT hZ (own_wd hw 21 rfl)) (notFace_of_selects (args := #[]) (mvT hZ (own_wd hw 23 rfl))) (mvT hZ (own_wd hw 23 rfl)) (mvT hZ (own_wd hw 22 rfl)) (by decide) (backOf (W := 0) (rm4_p l Z a0 hw [] b28 (FP.i2d sv) (FP.i2d fv) T39.heap n0 Z39 O39 pp75 pp76 pp77 F73 F74) hZ (own_wd hw 24 rfl) (own_wd hw 2 rfl) (by decide) (by decide)) q78a q78c (g := (mkF m 144 #[.val (.int x1), .val (.int x2), .val (.int x3), .val (.int x4), .val (.long x5), .second, .val (.int sv), .val (.int fv), .val (.int kv), .val (.int ev), .val (.double uv), .second, .val (.double jv), .second, .val (.ref b28), .val (.ref b30), .val (.ref b32), .val (.ref b36), .val (.ref b38), .unset, .unset, .unset, .unset, .unset, .unset, .unset, .unset, .unset, .unset, .unset, .unset, .unset, .unset, .unset] [(.ref b28)])) rfl (by rw [hml]; rfl) (Steps.refl _) (argsL := []) (rest := []) (lenOf pd_2 rfl) rfl (by show 2 * 0 + _ ≤ _; exact Nat.le_of_eq rfl) (hb hby at_144) (fun _ _ => ⟨rfl, rfl, (by decide : 5 + 0 ≤ _), (by decide : 15 + 0 ≤ _)⟩)
    dsimp only [Pt.U, Pt.locs, Pt.cells, Pt.slots] at X78 l78 y78 z78 st78 hQ78
    subst l78 y78 z78
    obtain ⟨rfl, N78q, eh78⟩ := hQ78
    have N78 := Fr.app N39 N78q
    obtain ⟨r1, hr1⟩ : ∃ z, z = (FP.ddiv (FP.i2d fv) (FP.dadd (FP.i2d sv) (FP.i2d fv))) := ⟨_, rfl⟩
    have rn80 : (FP.ddiv (FP.i2d fv) (FP.dadd (FP.i2d sv) (FP.i2d fv))) = r1 := hr1.symm
    have vr1 : Jvm.FP.Core.val64 r1 = OwnFl.RR F (S + F) := by rw [hr1]; exact own_tv (own_ni eS) (own_ni eF) (by omega) (by decide) hn0
    have F81 : Fld Z T39.heap b30 "com/example/windward/windward/EndpointRecord$Counts" "successes" "D" (.double (FP.i2d (sv * kv))) := ((((((Q31_1.ext E32).keep KK35 (ninS (Nat.ne_of_lt (Nat.lt_of_lt_of_le Q31_0.lt (Nat.le_of_eq g32.symm))) nin0)).ext E36).keep KK37 (ninS (Nat.ne_of_lt (Nat.lt_of_lt_of_le ((Q31_0.ext E32).keep KK35).lt (Nat.le_of_eq g36.symm))) nin0)).ext E38).keep KK39 (ninS (Nat.ne_of_lt (Nat.lt_of_lt_of_le ((((Q31_0.ext E32).keep KK35).ext E36).keep KK37).lt (Nat.le_of_eq g38.symm))) nin0))
    have F82 : Fld Z T39.heap b30 "com/example/windward/windward/EndpointRecord$Counts" "failures" "D" (.double (FP.i2d (fv * kv))) := ((((((Q31_2.ext E32).keep KK35 (ninS (Nat.ne_of_lt (Nat.lt_of_lt_of_le Q31_0.lt (Nat.le_of_eq g32.symm))) nin0)).ext E36).keep KK37 (ninS (Nat.ne_of_lt (Nat.lt_of_lt_of_le ((Q31_0.ext E32).keep KK35).lt (Nat.le_of_eq g36.symm))) nin0)).ext E38).keep KK39 (ninS (Nat.ne_of_lt (Nat.lt_of_lt_of_le ((((Q31_0.ext E32).keep KK35).ext E36).keep KK37).lt (Nat.le_of_eq g38.symm))) nin0))
    have pp83 : Jvm.Free.Fl.NoNaN64 (FP.dadd (FP.i2d (sv * kv)) (FP.i2d (fv * kv))) := (own_tn (own_ni eSK) (own_ni eFK) hbk (by decide))
    have pp84 : (0 : Int32) < (cmpValue (FP.dcmp (FP.dadd (FP.i2d (sv * kv)) (FP.i2d (fv * kv))) (0 : UInt64)) .l) := (own_tp (own_ni eSK) (own_ni eFK) hbk (by decide) hn0k)
    have pp85 : Jvm.Free.Fl.NoNaN64 (FP.ddiv (FP.i2d (fv * kv)) (FP.dadd (FP.i2d (sv * kv)) (FP.i2d (fv * kv)))) := (own_td (own_ni eSK) (own_ni eFK) hbk (by decide) hn0k)
    have C87 : Exa Z T39.heap b30 "com/example/windward/windward/EndpointRecord$Counts" := ((((((Q31_0.ext E32).keep KK35).ext E36).keep KK37).ext E38).keep KK39)
    obtain ⟨cq86, kq86, q86a, q86b, q86c⟩ := isOf hZ eh78 C87
    obtain ⟨_, _, ⟨T86, L86, k86, n86⟩, -, X86, ⟨Lc86, hQ86, l86, y86, z86⟩, st86⟩ := X78.virtualBack hx (y := (⟨"com/example/windward/windward/EndpointRecord$Counts", "failureShare", "()D"⟩ : MethodName)) (z := (⟨"com/example/windward/windward/EndpointRecord$Counts", "failureShare", "()D"⟩ : MethodName)) hown (mvT hZ (own_wd hw 20 rfl)) (mvT hZ (own_wd hw 21 rfl)) (notFace_of_selects (args := #[]) (mvT hZ (own_wd hw 23 rfl))) (mvT hZ (own_wd hw 23 rfl)) (mvT hZ (own_wd hw 22 rfl)) (by decide) (backOf (W := 0) (rm4_p l Z a0 hw [] b30 (FP.i2d (sv * kv)) (FP.i2d (fv * kv)) T39.heap n0 Z39 O39 pp83 pp84 pp85 F81 F82) hZ (own_wd hw 24 rfl) (own_wd hw 2 rfl) (by decide) (by decide)) q86a q86c (g := (mkF m 151 #[.val (.int x1), .val (.int x2), .val (.int x3), .val (.int x4), .val (.long x5), .second, .val (.int sv), .val (.int fv), .val (.int kv), .val (.int ev), .val (.double uv), .second, .val (.double jv), .second, .val (.ref b28), .val (.ref b30), .val (.ref b32), .val (.ref b36), .val (.ref b38), .val (.double r1), .second, .unset, .unset, .unset, .unset, .unset, .unset, .unset, .unset, .unset, .unset, .unset, .unset, .unset] [(.ref b30)])) rfl (by rw [hml]; rfl) (Steps.refl _) (argsL := []) (rest := []) (lenOf pd_2 rfl) rfl (by show 2 * 0 + _ ≤ _; exact Nat.le_of_eq rfl) (hb hby at_151) (fun _ _ => ⟨rfl, eh78, (by decide : 5 + 0 ≤ _), (by decide : 15 + 0 ≤ _)⟩)
    dsimp only [Pt.U, Pt.locs, Pt.cells, Pt.slots] at X86 l86 y86 z86 st86 hQ86
    subst l86 y86 z86
    obtain ⟨rfl, N86q, eh86⟩ := hQ86
    have N86 := Fr.app N78 N86q
    obtain ⟨r2, hr2⟩ : ∃ z, z = (FP.ddiv (FP.i2d (fv * kv)) (FP.dadd (FP.i2d (sv * kv)) (FP.i2d (fv * kv)))) := ⟨_, rfl⟩
    have rn88 : (FP.ddiv (FP.i2d (fv * kv)) (FP.dadd (FP.i2d (sv * kv)) (FP.i2d (fv * kv)))) = r2 := hr2.symm
    have vr2 : Jvm.FP.Core.val64 r2 = OwnFl.RR F (S + F) := by rw [hr2]; exact (own_tv (own_ni eSK) (own_ni eFK) hbk (by decide) hn0k).trans (OwnFl.own_rr_congr hn0k hn0 (by rw [← Nat.add_mul]; ac_rfl))
    have F89 : Fld Z T39.heap b32 "com/example/windward/windward/EndpointRecord$Counts" "successes" "D" (.double (FP.dmul (FP.i2d sv) uv)) := ((((Q35_1.ext E36).keep KK37 (ninS (Nat.ne_of_lt (Nat.lt_of_lt_of_le Q35_0.lt (Nat.le_of_eq g36.symm))) nin0)).ext E38).keep KK39 (ninS (Nat.ne_of_lt (Nat.lt_of_lt_of_le ((Q35_0.ext E36).keep KK37).lt (Nat.le_of_eq g38.symm))) nin0))
    have F90 : Fld Z T39.heap b32 "com/example/windward/windward/EndpointRecord$Counts" "failures" "D" (.double (FP.dmul (FP.i2d fv) uv)) := ((((Q35_2.ext E36).keep KK37 (ninS (Nat.ne_of_lt (Nat.lt_of_lt_of_le Q35_0.lt (Nat.le_of_eq g36.symm))) nin0)).ext E38).keep KK39 (ninS (Nat.ne_of_lt (Nat.lt_of_lt_of_le ((Q35_0.ext E36).keep KK37).lt (Nat.le_of_eq g38.symm))) nin0))
    have pp91 : Jvm.Free.Fl.NoNaN64 (FP.dadd (FP.dmul (FP.i2d sv) uv) (FP.dmul (FP.i2d fv) uv)) := (own_tn nS3 nF3 (by omega) (by omega))
    have pp92 : (0 : Int32) < (cmpValue (FP.dcmp (FP.dadd (FP.dmul (FP.i2d sv) uv) (FP.dmul (FP.i2d fv) uv)) (0 : UInt64)) .l) := (own_tp nS3 nF3 (by omega) (by omega) hn0)
    have pp93 : Jvm.Free.Fl.NoNaN64 (FP.ddiv (FP.dmul (FP.i2d fv) uv) (FP.dadd (FP.dmul (FP.i2d sv) uv) (FP.dmul (FP.i2d fv) uv))) := (own_td nS3 nF3 (by omega) (by omega) hn0)
    have C95 : Exa Z T39.heap b32 "com/example/windward/windward/EndpointRecord$Counts" := ((((Q35_0.ext E36).keep KK37).ext E38).keep KK39)
    obtain ⟨cq94, kq94, q94a, q94b, q94c⟩ := isOf hZ eh86 C95
    obtain ⟨_, _, ⟨T94, L94, k94, n94⟩, -, X94, ⟨Lc94, hQ94, l94, y94, z94⟩, st94⟩ := X86.virtualBack hx (y := (⟨"com/example/windward/windward/EndpointRecord$Counts", "failureShare", "()D"⟩ : MethodName)) (z := (⟨"com/example/windward/windward/EndpointRecord$Counts", "failureShare", "()D"⟩ : MethodName)) hown (mvT hZ (own_wd hw 20 rfl)) (mvT hZ (own_wd hw 21 rfl)) (notFace_of_selects (args := #[]) (mvT hZ (own_wd hw 23 rfl))) (mvT hZ (own_wd hw 23 rfl)) (mvT hZ (own_wd hw 22 rfl)) (by decide) (backOf (W := 0) (rm4_p l Z a0 hw [] b32 (FP.dmul (FP.i2d sv) uv) (FP.dmul (FP.i2d fv) uv) T39.heap n0 Z39 O39 pp91 pp92 pp93 F89 F90) hZ (own_wd hw 24 rfl) (own_wd hw 2 rfl) (by decide) (by decide)) q94a q94c (g := (mkF m 158 #[.val (.int x1), .val (.int x2), .val (.int x3), .val (.int x4), .val (.long x5), .second, .val (.int sv), .val (.int fv), .val (.int kv), .val (.int ev), .val (.double uv), .second, .val (.double jv), .second, .val (.ref b28), .val (.ref b30), .val (.ref b32), .val (.ref b36), .val (.ref b38), .val (.double r1), .second, .val (.double r2), .second, .unset, .unset, .unset, .unset, .unset, .unset, .unset, .unset, .unset, .unset, .unset] [(.ref b32)])) rfl (by rw [hml]; rfl) (Steps.refl _) (argsL := []) (rest := []) (lenOf pd_2 rfl) rfl (by show 2 * 0 + _ ≤ _; exact Nat.le_of_eq rfl) (hb hby at_158) (fun _ _ => ⟨rfl, eh86, (by decide : 5 + 0 ≤ _), (by decide : 15 + 0 ≤ _)⟩)
    dsimp only [Pt.U, Pt.locs, Pt.cells, Pt.slots] at X94 l94 y94 z94 st94 hQ94
    subst l94 y94 z94
    obtain ⟨rfl, N94q, eh94⟩ := hQ94
    have N94 := Fr.app N86 N94q
    obtain ⟨r3, hr3⟩ : ∃ z, z = (FP.ddiv (FP.dmul (FP.i2d fv) uv) (FP.dadd (FP.dmul (FP.i2d sv) uv) (FP.dmul (FP.i2d fv) uv))) := ⟨_, rfl⟩
    have rn96 : (FP.ddiv (FP.dmul (FP.i2d fv) uv) (FP.dadd (FP.dmul (FP.i2d sv) uv) (FP.dmul (FP.i2d fv) uv))) = r3 := hr3.symm
    have vr3 : Jvm.FP.Core.val64 r3 = OwnFl.RR F (S + F) := by rw [hr3]; exact own_tv nS3 nF3 (by omega) (by omega) hn0
    have F97 : Fld Z T39.heap b36 "com/example/windward/windward/EndpointRecord$Counts" "successes" "D" (.double (FP.i2d sv)) := ((Q37_1.ext E38).keep KK39 (ninS (Nat.ne_of_lt (Nat.lt_of_lt_of_le Q37_0.lt (Nat.le_of_eq g38.symm))) nin0))
    have F98 : Fld Z T39.heap b36 "com/example/windward/windward/EndpointRecord$Counts" "failures" "D" (.double (FP.i2d (fv + (1 : Int32)))) := ((Q37_2.ext E38).keep KK39 (ninS (Nat.ne_of_lt (Nat.lt_of_lt_of_le Q37_0.lt (Nat.le_of_eq g38.symm))) nin0))
    have pp99 : Jvm.Free.Fl.NoNaN64 (FP.dadd (FP.i2d sv) (FP.i2d (fv + (1 : Int32)))) := (own_tn (own_ni eS) (own_ni eF1) (by omega) (by decide))
    have pp100 : (0 : Int32) < (cmpValue (FP.dcmp (FP.dadd (FP.i2d sv) (FP.i2d (fv + (1 : Int32)))) (0 : UInt64)) .l) := (own_tp (own_ni eS) (own_ni eF1) (by omega) (by decide) (by omega))
    have pp101 : Jvm.Free.Fl.NoNaN64 (FP.ddiv (FP.i2d (fv + (1 : Int32))) (FP.dadd (FP.i2d sv) (FP.i2d (fv + (1 : Int32))))) := (own_td (own_ni eS) (own_ni eF1) (by omega) (by decide) (by omega))
    have C103 : Exa Z T39.heap b36 "com/example/windward/windward/EndpointRecord$Counts" := ((Q37_0.ext E38).keep KK39)
    obtain ⟨cq102, kq102, q102a, q102b, q102c⟩ := isOf hZ eh94 C103
    obtain ⟨_, _, ⟨T102, L102, k102, n102⟩, -, X102, ⟨Lc102, hQ102, l102, y102, z102⟩, st102⟩ := X94.virtualBack hx (y := (⟨"com/example/windward/windward/EndpointRecord$Counts", "failureShare", "()D"⟩ : MethodName)) (z := (⟨"com/example/windward/windward/EndpointRecord$Counts", "failureShare", "()D"⟩ : MethodName)) hown (mvT hZ (own_wd hw 20 rfl)) (mvT hZ (own_wd hw 21 rfl)) (notFace_of_selects (args := #[]) (mvT hZ (own_wd hw 23 rfl))) (mvT hZ (own_wd hw 23 rfl)) (mvT hZ (own_wd hw 22 rfl)) (by decide) (backOf (W := 0) (rm4_p l Z a0 hw [] b36 (FP.i2d sv) (FP.i2d (fv + (1 : Int32))) T39.heap n0 Z39 O39 pp99 pp100 pp101 F97 F98) hZ (own_wd hw 24 rfl) (own_wd hw 2 rfl) (by decide) (by decide)) q102a q102c (g := (mkF m 165 #[.val (.int x1), .val (.int x2), .val (.int x3), .val (.int x4), .val (.long x5), .second, .val (.int sv), .val (.int fv), .val (.int kv), .val (.int ev), .val (.double uv), .second, .val (.double jv), .second, .val (.ref b28), .val (.ref b30), .val (.ref b32), .val (.ref b36), .val (.ref b38), .val (.double r1), .second, .val (.double r2), .second, .val (.double r3), .second, .unset, .unset, .unset, .unset, .unset, .unset, .unset, .unset, .unset] [(.ref b36)])) rfl (by rw [hml]; rfl) (Steps.refl _) (argsL := []) (rest := []) (lenOf pd_2 rfl) rfl (by show 2 * 0 + _ ≤ _; exact Nat.le_of_eq rfl) (hb hby at_165) (fun _ _ => ⟨rfl, eh94, (by decide : 5 + 0 ≤ _), (by decide : 15 + 0 ≤ _)⟩)
    dsimp only [Pt.U, Pt.locs, Pt.cells, Pt.slots] at X102 l102 y102 z102 st102 hQ102
    subst l102 y102 z102
    obtain ⟨rfl, N102q, eh102⟩ := hQ102
    have N102 := Fr.app N94 N102q
    obtain ⟨r4, hr4⟩ : ∃ z, z = (FP.ddiv (FP.i2d (fv + (1 : Int32))) (FP.dadd (FP.i2d sv) (FP.i2d (fv + (1 : Int32))))) := ⟨_, rfl⟩
    have rn104 : (FP.ddiv (FP.i2d (fv + (1 : Int32))) (FP.dadd (FP.i2d sv) (FP.i2d (fv + (1 : Int32))))) = r4 := hr4.symm
    have vr4 : Jvm.FP.Core.val64 r4 = OwnFl.RR (F + 1) (S + (F + 1)) := by rw [hr4]; exact own_tv (own_ni eS) (own_ni eF1) (by omega) (by decide) (by omega)
    have pp105 : Jvm.Free.Fl.NoNaN64 (FP.dadd (FP.i2d (sv + (1 : Int32))) (FP.i2d fv)) := (own_tn (own_ni eS1) (own_ni eF) (by omega) (by decide))
    have pp106 : (0 : Int32) < (cmpValue (FP.dcmp (FP.dadd (FP.i2d (sv + (1 : Int32))) (FP.i2d fv)) (0 : UInt64)) .l) := (own_tp (own_ni eS1) (own_ni eF) (by omega) (by decide) (by omega))
    have pp107 : Jvm.Free.Fl.NoNaN64 (FP.ddiv (FP.i2d fv) (FP.dadd (FP.i2d (sv + (1 : Int32))) (FP.i2d fv))) := (own_td (own_ni eS1) (own_ni eF) (by omega) (by decide) (by omega))
    obtain ⟨cq108, kq108, q108a, q108b, q108c⟩ := isOf hZ eh102 Q39_0
    obtain ⟨_, _, ⟨T108, L108, k108, n108⟩, -, X108, ⟨Lc108, hQ108, l108, y108, z108⟩, st108⟩ := X102.virtualBack hx (y := (⟨"com/example/windward/windward/EndpointRecord$Counts", "failureShare", "()D"⟩ : MethodName)) (z := (⟨"com/example/windward/windward/EndpointRecord$Counts", "failureShare", "()D"⟩ : MethodName)) hown (mvT hZ (own_wd hw 20 rfl)) (mvT hZ (own_wd hw 21 rfl)) (notFace_of_selects (args := #[]) (mvT hZ (own_wd hw 23 rfl))) (mvT hZ (own_wd hw 23 rfl)) (mvT hZ (own_wd hw 22 rfl)) (by decide) (backOf (W := 0) (rm4_p l Z a0 hw [] b38 (FP.i2d (sv + (1 : Int32))) (FP.i2d fv) T39.heap n0 Z39 O39 pp105 pp106 pp107 Q39_1 Q39_2) hZ (own_wd hw 24 rfl) (own_wd hw 2 rfl) (by decide) (by decide)) q108a q108c (g := (mkF m 172 #[.val (.int x1), .val (.int x2), .val (.int x3), .val (.int x4), .val (.long x5), .second, .val (.int sv), .val (.int fv), .val (.int kv), .val (.int ev), .val (.double uv), .second, .val (.double jv), .second, .val (.ref b28), .val (.ref b30), .val (.ref b32), .val (.ref b36), .val (.ref b38), .val (.double r1), .second, .val (.double r2), .second, .val (.double r3), .second, .val (.double r4), .second, .unset, .unset, .unset, .unset, .unset, .unset, .unset] [(.ref b38)])) rfl (by rw [hml]; rfl) (Steps.refl _) (argsL := []) (rest := []) (lenOf pd_2 rfl) rfl (by show 2 * 0 + _ ≤ _; exact Nat.le_of_eq rfl) (hb hby at_172) (fun _ _ => ⟨rfl, eh102, (by decide : 5 + 0 ≤ _), (by decide : 15 + 0 ≤ _)⟩)
    dsimp only [Pt.U, Pt.locs, Pt.cells, Pt.slots] at X108 l108 y108 z108 st108 hQ108
    subst l108 y108 z108
    obtain ⟨rfl, N108q, eh108⟩ := hQ108
    have N108 := Fr.app N102 N108q
    obtain ⟨r5, hr5⟩ : ∃ z, z = (FP.ddiv (FP.i2d fv) (FP.dadd (FP.i2d (sv + (1 : Int32))) (FP.i2d fv))) := ⟨_, rfl⟩
    have rn109 : (FP.ddiv (FP.i2d fv) (FP.dadd (FP.i2d (sv + (1 : Int32))) (FP.i2d fv))) = r5 := hr5.symm
    have vr5 : Jvm.FP.Core.val64 r5 = OwnFl.RR F (S + 1 + F) := by rw [hr5]; exact own_tv (own_ni eS1) (own_ni eF) (by omega) (by decide) (by omega)
    obtain ⟨nv, hnv⟩ : ∃ z, z = (sv + fv) := ⟨_, rfl⟩
    have rn110 : (sv + fv) = nv := hnv.symm
    have eN : nv.toInt = ((S + F : Nat) : Int) := by rw [hnv]; exact own_a32 eS eF (by omega) (by omega)
    have nn111 : Jvm.Free.Fl.NoNaN64 (FP.dmul r1 (FP.i2d nv)) := own_nnv (own_tt vr1 eN eF hn0 (by omega) (by omega)).1
    have nn112 : Jvm.Free.Fl.NoNaN64 (FP.dsub (FP.dmul r1 (FP.i2d nv)) (FP.i2d fv)) := own_nnv (own_tt vr1 eN eF hn0 (by omega) (by omega)).2.1
    obtain ⟨tv, htv⟩ : ∃ z, z = (FP.dsub (FP.dmul r1 (FP.i2d nv)) (FP.i2d fv)) := ⟨_, rfl⟩
    have rn113 : (FP.dsub (FP.dmul r1 (FP.i2d nv)) (FP.i2d fv)) = tv := htv.symm
    have htt := own_tt vr1 eN eF hn0 (by omega) (by omega)
    rw [← htv] at htt
    obtain ⟨-, htv1, htv2, htv3⟩ := htt
    have pre114 : ∀ t, Steps p.tables e below (T108.setTop (mkF m 296 #[.val (.int x1), .val (.int x2), .val (.int x3), .val (.int x4), .val (.long x5), .second, .val (.int sv), .val (.int fv), .val (.int kv), .val (.int ev), .val (.double uv), .second, .val (.double jv), .second, .val (.ref b28), .val (.ref b30), .val (.ref b32), .val (.ref b36), .val (.ref b38), .val (.double r1), .second, .val (.double r2), .second, .val (.double r3), .second, .val (.double r4), .second, .val (.double r5), .second, .val (.int nv), .val (.double tv), .second, .unset, .unset] [])) t → Steps p.tables e below (s₁.setTop (entryFrame m #[(.int x1), (.int x2), (.int x3), (.int x4), (.long x5)] maxLocals)) t := by
      intro t kt
      refine pre40 t ?_
      show Steps p.tables e below (T39.setTop (mkF m 142 #[.val (.int x1), .val (.int x2), .val (.int x3), .val (.int x4), .val (.long x5), .second, .val (.int sv), .val (.int fv), .val (.int kv), .val (.int ev), .val (.double uv), .second, .val (.double jv), .second, .val (.ref b28), .val (.ref b30), .val (.ref b32), .val (.ref b36), .val (.ref b38), .unset, .unset, .unset, .unset, .unset, .unset, .unset, .unset, .unset, .unset, .unset, .unset, .unset, .unset, .unset] [])) _
      show Steps p.tables e below (T39.setTop (mkF m 142 #[.val (.int x1), .val (.int x2), .val (.int x3), .val (.int x4), .val (.long x5), .second, .val (.int sv), .val (.int fv), .val (.int kv), .val (.int ev), .val (.double uv), .second, .val (.double jv), .second, .val (.ref b28), .val (.ref b30), .val (.ref b32), .val (.ref b36), .val (.ref b38), .unset, .unset, .unset, .unset, .unset, .unset, .unset, .unset, .unset, .unset, .unset, .unset, .unset, .unset, .unset] [])) _
      refine XS.aload X39.here hx rfl (hb hby at_142) rfl rfl ?_
      show Steps p.tables e below (T39.setTop (mkF m 144 #[.val (.int x1), .val (.int x2), .val (.int x3), .val (.int x4), .val (.long x5), .second, .val (.int sv), .val (.int fv), .val (.int kv), .val (.int ev), .val (.double uv), .second, .val (.double jv), .second, .val (.ref b28), .val (.ref b30), .val (.ref b32), .val (.ref b36), .val (.ref b38), .unset, .unset, .unset, .unset, .unset, .unset, .unset, .unset, .unset, .unset, .unset, .unset, .unset, .unset, .unset] [(.ref b28)])) _
      refine st78.trans ?_
      show Steps p.tables e below (T78.setTop (mkF m 147 #[.val (.int x1), .val (.int x2), .val (.int x3), .val (.int x4), .val (.long x5), .second, .val (.int sv), .val (.int fv), .val (.int kv), .val (.int ev), .val (.double uv), .second, .val (.double jv), .second, .val (.ref b28), .val (.ref b30), .val (.ref b32), .val (.ref b36), .val (.ref b38), .unset, .unset, .unset, .unset, .unset, .unset, .unset, .unset, .unset, .unset, .unset, .unset, .unset, .unset, .unset] [(.double (FP.ddiv (FP.i2d fv) (FP.dadd (FP.i2d sv) (FP.i2d fv))))])) _
      refine XS.dstore X78.here hx rfl (hb hby at_147) rfl (l' := #[.val (.int x1), .val (.int x2), .val (.int x3), .val (.int x4), .val (.long x5), .second, .val (.int sv), .val (.int fv), .val (.int kv), .val (.int ev), .val (.double uv), .second, .val (.double jv), .second, .val (.ref b28), .val (.ref b30), .val (.ref b32), .val (.ref b36), .val (.ref b38), .val (.double (FP.ddiv (FP.i2d fv) (FP.dadd (FP.i2d sv) (FP.i2d fv)))), .second, .unset, .unset, .unset, .unset, .unset, .unset, .unset, .unset, .unset, .unset, .unset, .unset, .unset]) rfl ?_
      show Steps p.tables e below (T78.setTop (mkF m 149 #[.val (.int x1), .val (.int x2), .val (.int x3), .val (.int x4), .val (.long x5), .second, .val (.int sv), .val (.int fv), .val (.int kv), .val (.int ev), .val (.double uv), .second, .val (.double jv), .second, .val (.ref b28), .val (.ref b30), .val (.ref b32), .val (.ref b36), .val (.ref b38), .val (.double (FP.ddiv (FP.i2d fv) (FP.dadd (FP.i2d sv) (FP.i2d fv)))), .second, .unset, .unset, .unset, .unset, .unset, .unset, .unset, .unset, .unset, .unset, .unset, .unset, .unset] [])) _
      rw [rn80]
      show Steps p.tables e below (T78.setTop (mkF m 149 #[.val (.int x1), .val (.int x2), .val (.int x3), .val (.int x4), .val (.long x5), .second, .val (.int sv), .val (.int fv), .val (.int kv), .val (.int ev), .val (.double uv), .second, .val (.double jv), .second, .val (.ref b28), .val (.ref b30), .val (.ref b32), .val (.ref b36), .val (.ref b38), .val (.double r1), .second, .unset, .unset, .unset, .unset, .unset, .unset, .unset, .unset, .unset, .unset, .unset, .unset, .unset] [])) _
      refine XS.aload X78.here hx rfl (hb hby at_149) rfl rfl ?_
      show Steps p.tables e below (T78.setTop (mkF m 151 #[.val (.int x1), .val (.int x2), .val (.int x3), .val (.int x4), .val (.long x5), .second, .val (.int sv), .val (.int fv), .val (.int kv), .val (.int ev), .val (.double uv), .second, .val (.double jv), .second, .val (.ref b28), .val (.ref b30), .val (.ref b32), .val (.ref b36), .val (.ref b38), .val (.double r1), .second, .unset, .unset, .unset, .unset, .unset, .unset, .unset, .unset, .unset, .unset, .unset, .unset, .unset] [(.ref b30)])) _
      refine st86.trans ?_
      show Steps p.tables e below (T86.setTop (mkF m 154 #[.val (.int x1), .val (.int x2), .val (.int x3), .val (.int x4), .val (.long x5), .second, .val (.int sv), .val (.int fv), .val (.int kv), .val (.int ev), .val (.double uv), .second, .val (.double jv), .second, .val (.ref b28), .val (.ref b30), .val (.ref b32), .val (.ref b36), .val (.ref b38), .val (.double r1), .second, .unset, .unset, .unset, .unset, .unset, .unset, .unset, .unset, .unset, .unset, .unset, .unset, .unset] [(.double (FP.ddiv (FP.i2d (fv * kv)) (FP.dadd (FP.i2d (sv * kv)) (FP.i2d (fv * kv)))))])) _
      refine XS.dstore X86.here hx rfl (hb hby at_154) rfl (l' := #[.val (.int x1), .val (.int x2), .val (.int x3), .val (.int x4), .val (.long x5), .second, .val (.int sv), .val (.int fv), .val (.int kv), .val (.int ev), .val (.double uv), .second, .val (.double jv), .second, .val (.ref b28), .val (.ref b30), .val (.ref b32), .val (.ref b36), .val (.ref b38), .val (.double r1), .second, .val (.double (FP.ddiv (FP.i2d (fv * kv)) (FP.dadd (FP.i2d (sv * kv)) (FP.i2d (fv * kv))))), .second, .unset, .unset, .unset, .unset, .unset, .unset, .unset, .unset, .unset, .unset, .unset]) rfl ?_
      show Steps p.tables e below (T86.setTop (mkF m 156 #[.val (.int x1), .val (.int x2), .val (.int x3), .val (.int x4), .val (.long x5), .second, .val (.int sv), .val (.int fv), .val (.int kv), .val (.int ev), .val (.double uv), .second, .val (.double jv), .second, .val (.ref b28), .val (.ref b30), .val (.ref b32), .val (.ref b36), .val (.ref b38), .val (.double r1), .second, .val (.double (FP.ddiv (FP.i2d (fv * kv)) (FP.dadd (FP.i2d (sv * kv)) (FP.i2d (fv * kv))))), .second, .unset, .unset, .unset, .unset, .unset, .unset, .unset, .unset, .unset, .unset, .unset] [])) _
      rw [rn88]
      show Steps p.tables e below (T86.setTop (mkF m 156 #[.val (.int x1), .val (.int x2), .val (.int x3), .val (.int x4), .val (.long x5), .second, .val (.int sv), .val (.int fv), .val (.int kv), .val (.int ev), .val (.double uv), .second, .val (.double jv), .second, .val (.ref b28), .val (.ref b30), .val (.ref b32), .val (.ref b36), .val (.ref b38), .val (.double r1), .second, .val (.double r2), .second, .unset, .unset, .unset, .unset, .unset, .unset, .unset, .unset, .unset, .unset, .unset] [])) _
      refine XS.aload X86.here hx rfl (hb hby at_156) rfl rfl ?_
      show Steps p.tables e below (T86.setTop (mkF m 158 #[.val (.int x1), .val (.int x2), .val (.int x3), .val (.int x4), .val (.long x5), .second, .val (.int sv), .val (.int fv), .val (.int kv), .val (.int ev), .val (.double uv), .second, .val (.double jv), .second, .val (.ref b28), .val (.ref b30), .val (.ref b32), .val (.ref b36), .val (.ref b38), .val (.double r1), .second, .val (.double r2), .second, .unset, .unset, .unset, .unset, .unset, .unset, .unset, .unset, .unset, .unset, .unset] [(.ref b32)])) _
      refine st94.trans ?_
      show Steps p.tables e below (T94.setTop (mkF m 161 #[.val (.int x1), .val (.int x2), .val (.int x3), .val (.int x4), .val (.long x5), .second, .val (.int sv), .val (.int fv), .val (.int kv), .val (.int ev), .val (.double uv), .second, .val (.double jv), .second, .val (.ref b28), .val (.ref b30), .val (.ref b32), .val (.ref b36), .val (.ref b38), .val (.double r1), .second, .val (.double r2), .second, .unset, .unset, .unset, .unset, .unset, .unset, .unset, .unset, .unset, .unset, .unset] [(.double (FP.ddiv (FP.dmul (FP.i2d fv) uv) (FP.dadd (FP.dmul (FP.i2d sv) uv) (FP.dmul (FP.i2d fv) uv))))])) _
      refine XS.dstore X94.here hx rfl (hb hby at_161) rfl (l' := #[.val (.int x1), .val (.int x2), .val (.int x3), .val (.int x4), .val (.long x5), .second, .val (.int sv), .val (.int fv), .val (.int kv), .val (.int ev), .val (.double uv), .second, .val (.double jv), .second, .val (.ref b28), .val (.ref b30), .val (.ref b32), .val (.ref b36), .val (.ref b38), .val (.double r1), .second, .val (.double r2), .second, .val (.double (FP.ddiv (FP.dmul (FP.i2d fv) uv) (FP.dadd (FP.dmul (FP.i2d sv) uv) (FP.dmul (FP.i2d fv) uv)))), .second, .unset, .unset, .unset, .unset, .unset, .unset, .unset, .unset, .unset]) rfl ?_
      show Steps p.tables e below (T94.setTop (mkF m 163 #[.val (.int x1), .val (.int x2), .val (.int x3), .val (.int x4), .val (.long x5), .second, .val (.int sv), .val (.int fv), .val (.int kv), .val (.int ev), .val (.double uv), .second, .val (.double jv), .second, .val (.ref b28), .val (.ref b30), .val (.ref b32), .val (.ref b36), .val (.ref b38), .val (.double r1), .second, .val (.double r2), .second, .val (.double (FP.ddiv (FP.dmul (FP.i2d fv) uv) (FP.dadd (FP.dmul (FP.i2d sv) uv) (FP.dmul (FP.i2d fv) uv)))), .second, .unset, .unset, .unset, .unset, .unset, .unset, .unset, .unset, .unset] [])) _
      rw [rn96]
      show Steps p.tables e below (T94.setTop (mkF m 163 #[.val (.int x1), .val (.int x2), .val (.int x3), .val (.int x4), .val (.long x5), .second, .val (.int sv), .val (.int fv), .val (.int kv), .val (.int ev), .val (.double uv), .second, .val (.double jv), .second, .val (.ref b28), .val (.ref b30), .val (.ref b32), .val (.ref b36), .val (.ref b38), .val (.double r1), .second, .val (.double r2), .second, .val (.double r3), .second, .unset, .unset, .unset, .unset, .unset, .unset, .unset, .unset, .unset] [])) _
      refine XS.aload X94.here hx rfl (hb hby at_163) rfl rfl ?_
      show Steps p.tables e below (T94.setTop (mkF m 165 #[.val (.int x1), .val (.int x2), .val (.int x3), .val (.int x4), .val (.long x5), .second, .val (.int sv), .val (.int fv), .val (.int kv), .val (.int ev), .val (.double uv), .second, .val (.double jv), .second, .val (.ref b28), .val (.ref b30), .val (.ref b32), .val (.ref b36), .val (.ref b38), .val (.double r1), .second, .val (.double r2), .second, .val (.double r3), .second, .unset, .unset, .unset, .unset, .unset, .unset, .unset, .unset, .unset] [(.ref b36)])) _
      refine st102.trans ?_
      show Steps p.tables e below (T102.setTop (mkF m 168 #[.val (.int x1), .val (.int x2), .val (.int x3), .val (.int x4), .val (.long x5), .second, .val (.int sv), .val (.int fv), .val (.int kv), .val (.int ev), .val (.double uv), .second, .val (.double jv), .second, .val (.ref b28), .val (.ref b30), .val (.ref b32), .val (.ref b36), .val (.ref b38), .val (.double r1), .second, .val (.double r2), .second, .val (.double r3), .second, .unset, .unset, .unset, .unset, .unset, .unset, .unset, .unset, .unset] [(.double (FP.ddiv (FP.i2d (fv + (1 : Int32))) (FP.dadd (FP.i2d sv) (FP.i2d (fv + (1 : Int32))))))])) _
      refine XS.dstore X102.here hx rfl (hb hby at_168) rfl (l' := #[.val (.int x1), .val (.int x2), .val (.int x3), .val (.int x4), .val (.long x5), .second, .val (.int sv), .val (.int fv), .val (.int kv), .val (.int ev), .val (.double uv), .second, .val (.double jv), .second, .val (.ref b28), .val (.ref b30), .val (.ref b32), .val (.ref b36), .val (.ref b38), .val (.double r1), .second, .val (.double r2), .second, .val (.double r3), .second, .val (.double (FP.ddiv (FP.i2d (fv + (1 : Int32))) (FP.dadd (FP.i2d sv) (FP.i2d (fv + (1 : Int32)))))), .second, .unset, .unset, .unset, .unset, .unset, .unset, .unset]) rfl ?_
      show Steps p.tables e below (T102.setTop (mkF m 170 #[.val (.int x1), .val (.int x2), .val (.int x3), .val (.int x4), .val (.long x5), .second, .val (.int sv), .val (.int fv), .val (.int kv), .val (.int ev), .val (.double uv), .second, .val (.double jv), .second, .val (.ref b28), .val (.ref b30), .val (.ref b32), .val (.ref b36), .val (.ref b38), .val (.double r1), .second, .val (.double r2), .second, .val (.double r3), .second, .val (.double (FP.ddiv (FP.i2d (fv + (1 : Int32))) (FP.dadd (FP.i2d sv) (FP.i2d (fv + (1 : Int32)))))), .second, .unset, .unset, .unset, .unset, .unset, .unset, .unset] [])) _
      rw [rn104]
      show Steps p.tables e below (T102.setTop (mkF m 170 #[.val (.int x1), .val (.int x2), .val (.int x3), .val (.int x4), .val (.long x5), .second, .val (.int sv), .val (.int fv), .val (.int kv), .val (.int ev), .val (.double uv), .second, .val (.double jv), .second, .val (.ref b28), .val (.ref b30), .val (.ref b32), .val (.ref b36), .val (.ref b38), .val (.double r1), .second, .val (.double r2), .second, .val (.double r3), .second, .val (.double r4), .second, .unset, .unset, .unset, .unset, .unset, .unset, .unset] [])) _
      refine XS.aload X102.here hx rfl (hb hby at_170) rfl rfl ?_
      show Steps p.tables e below (T102.setTop (mkF m 172 #[.val (.int x1), .val (.int x2), .val (.int x3), .val (.int x4), .val (.long x5), .second, .val (.int sv), .val (.int fv), .val (.int kv), .val (.int ev), .val (.double uv), .second, .val (.double jv), .second, .val (.ref b28), .val (.ref b30), .val (.ref b32), .val (.ref b36), .val (.ref b38), .val (.double r1), .second, .val (.double r2), .second, .val (.double r3), .second, .val (.double r4), .second, .unset, .unset, .unset, .unset, .unset, .unset, .unset] [(.ref b38)])) _
      refine st108.trans ?_
      show Steps p.tables e below (T108.setTop (mkF m 175 #[.val (.int x1), .val (.int x2), .val (.int x3), .val (.int x4), .val (.long x5), .second, .val (.int sv), .val (.int fv), .val (.int kv), .val (.int ev), .val (.double uv), .second, .val (.double jv), .second, .val (.ref b28), .val (.ref b30), .val (.ref b32), .val (.ref b36), .val (.ref b38), .val (.double r1), .second, .val (.double r2), .second, .val (.double r3), .second, .val (.double r4), .second, .unset, .unset, .unset, .unset, .unset, .unset, .unset] [(.double (FP.ddiv (FP.i2d fv) (FP.dadd (FP.i2d (sv + (1 : Int32))) (FP.i2d fv))))])) _
      refine XS.dstore X108.here hx rfl (hb hby at_175) rfl (l' := #[.val (.int x1), .val (.int x2), .val (.int x3), .val (.int x4), .val (.long x5), .second, .val (.int sv), .val (.int fv), .val (.int kv), .val (.int ev), .val (.double uv), .second, .val (.double jv), .second, .val (.ref b28), .val (.ref b30), .val (.ref b32), .val (.ref b36), .val (.ref b38), .val (.double r1), .second, .val (.double r2), .second, .val (.double r3), .second, .val (.double r4), .second, .val (.double (FP.ddiv (FP.i2d fv) (FP.dadd (FP.i2d (sv + (1 : Int32))) (FP.i2d fv)))), .second, .unset, .unset, .unset, .unset, .unset]) rfl ?_
      show Steps p.tables e below (T108.setTop (mkF m 177 #[.val (.int x1), .val (.int x2), .val (.int x3), .val (.int x4), .val (.long x5), .second, .val (.int sv), .val (.int fv), .val (.int kv), .val (.int ev), .val (.double uv), .second, .val (.double jv), .second, .val (.ref b28), .val (.ref b30), .val (.ref b32), .val (.ref b36), .val (.ref b38), .val (.double r1), .second, .val (.double r2), .second, .val (.double r3), .second, .val (.double r4), .second, .val (.double (FP.ddiv (FP.i2d fv) (FP.dadd (FP.i2d (sv + (1 : Int32))) (FP.i2d fv)))), .second, .unset, .unset, .unset, .unset, .unset] [])) _
      rw [rn109]
      show Steps p.tables e below (T108.setTop (mkF m 177 #[.val (.int x1), .val (.int x2), .val (.int x3), .val (.int x4), .val (.long x5), .second, .val (.int sv), .val (.int fv), .val (.int kv), .val (.int ev), .val (.double uv), .second, .val (.double jv), .second, .val (.ref b28), .val (.ref b30), .val (.ref b32), .val (.ref b36), .val (.ref b38), .val (.double r1), .second, .val (.double r2), .second, .val (.double r3), .second, .val (.double r4), .second, .val (.double r5), .second, .unset, .unset, .unset, .unset, .unset] [])) _
      refine XS.iload X108.here hx rfl (hb hby at_177) rfl ?_
      show Steps p.tables e below (T108.setTop (mkF m 179 #[.val (.int x1), .val (.int x2), .val (.int x3), .val (.int x4), .val (.long x5), .second, .val (.int sv), .val (.int fv), .val (.int kv), .val (.int ev), .val (.double uv), .second, .val (.double jv), .second, .val (.ref b28), .val (.ref b30), .val (.ref b32), .val (.ref b36), .val (.ref b38), .val (.double r1), .second, .val (.double r2), .second, .val (.double r3), .second, .val (.double r4), .second, .val (.double r5), .second, .unset, .unset, .unset, .unset, .unset] [(.int sv)])) _
      refine XS.iload X108.here hx rfl (hb hby at_179) rfl ?_
      show Steps p.tables e below (T108.setTop (mkF m 181 #[.val (.int x1), .val (.int x2), .val (.int x3), .val (.int x4), .val (.long x5), .second, .val (.int sv), .val (.int fv), .val (.int kv), .val (.int ev), .val (.double uv), .second, .val (.double jv), .second, .val (.ref b28), .val (.ref b30), .val (.ref b32), .val (.ref b36), .val (.ref b38), .val (.double r1), .second, .val (.double r2), .second, .val (.double r3), .second, .val (.double r4), .second, .val (.double r5), .second, .unset, .unset, .unset, .unset, .unset] [(.int fv), (.int sv)])) _
      refine XS.iadd X108.here hx rfl (hb hby at_181) rfl ?_
      show Steps p.tables e below (T108.setTop (mkF m 182 #[.val (.int x1), .val (.int x2), .val (.int x3), .val (.int x4), .val (.long x5), .second, .val (.int sv), .val (.int fv), .val (.int kv), .val (.int ev), .val (.double uv), .second, .val (.double jv), .second, .val (.ref b28), .val (.ref b30), .val (.ref b32), .val (.ref b36), .val (.ref b38), .val (.double r1), .second, .val (.double r2), .second, .val (.double r3), .second, .val (.double r4), .second, .val (.double r5), .second, .unset, .unset, .unset, .unset, .unset] [(.int (sv + fv))])) _
      refine XS.istore X108.here hx rfl (hb hby at_182) rfl (l' := #[.val (.int x1), .val (.int x2), .val (.int x3), .val (.int x4), .val (.long x5), .second, .val (.int sv), .val (.int fv), .val (.int kv), .val (.int ev), .val (.double uv), .second, .val (.double jv), .second, .val (.ref b28), .val (.ref b30), .val (.ref b32), .val (.ref b36), .val (.ref b38), .val (.double r1), .second, .val (.double r2), .second, .val (.double r3), .second, .val (.double r4), .second, .val (.double r5), .second, .val (.int (sv + fv)), .unset, .unset, .unset, .unset]) rfl ?_
      show Steps p.tables e below (T108.setTop (mkF m 184 #[.val (.int x1), .val (.int x2), .val (.int x3), .val (.int x4), .val (.long x5), .second, .val (.int sv), .val (.int fv), .val (.int kv), .val (.int ev), .val (.double uv), .second, .val (.double jv), .second, .val (.ref b28), .val (.ref b30), .val (.ref b32), .val (.ref b36), .val (.ref b38), .val (.double r1), .second, .val (.double r2), .second, .val (.double r3), .second, .val (.double r4), .second, .val (.double r5), .second, .val (.int (sv + fv)), .unset, .unset, .unset, .unset] [])) _
      rw [rn110]
      show Steps p.tables e below (T108.setTop (mkF m 184 #[.val (.int x1), .val (.int x2), .val (.int x3), .val (.int x4), .val (.long x5), .second, .val (.int sv), .val (.int fv), .val (.int kv), .val (.int ev), .val (.double uv), .second, .val (.double jv), .second, .val (.ref b28), .val (.ref b30), .val (.ref b32), .val (.ref b36), .val (.ref b38), .val (.double r1), .second, .val (.double r2), .second, .val (.double r3), .second, .val (.double r4), .second, .val (.double r5), .second, .val (.int nv), .unset, .unset, .unset, .unset] [])) _
      refine XS.iload X108.here hx rfl (hb hby at_184) rfl ?_
      show Steps p.tables e below (T108.setTop (mkF m 186 #[.val (.int x1), .val (.int x2), .val (.int x3), .val (.int x4), .val (.long x5), .second, .val (.int sv), .val (.int fv), .val (.int kv), .val (.int ev), .val (.double uv), .second, .val (.double jv), .second, .val (.ref b28), .val (.ref b30), .val (.ref b32), .val (.ref b36), .val (.ref b38), .val (.double r1), .second, .val (.double r2), .second, .val (.double r3), .second, .val (.double r4), .second, .val (.double r5), .second, .val (.int nv), .unset, .unset, .unset, .unset] [(.int nv)])) _
      refine XS.ifYes X108.here hx rfl (pc0 := 186) (pc' := 230) rfl (hb hby at_186) rfl ((if0 _ _).trans (feq (fun q => by have := (own_zi eN).mp q; omega)).2) (by decide) (by decide) ?_
      show Steps p.tables e below (T108.setTop (mkF m 230 #[.val (.int x1), .val (.int x2), .val (.int x3), .val (.int x4), .val (.long x5), .second, .val (.int sv), .val (.int fv), .val (.int kv), .val (.int ev), .val (.double uv), .second, .val (.double jv), .second, .val (.ref b28), .val (.ref b30), .val (.ref b32), .val (.ref b36), .val (.ref b38), .val (.double r1), .second, .val (.double r2), .second, .val (.double r3), .second, .val (.double r4), .second, .val (.double r5), .second, .val (.int nv), .unset, .unset, .unset, .unset] [])) _
      refine XS.dload X108.here hx rfl (hb hby at_230) rfl ?_
      show Steps p.tables e below (T108.setTop (mkF m 232 #[.val (.int x1), .val (.int x2), .val (.int x3), .val (.int x4), .val (.long x5), .second, .val (.int sv), .val (.int fv), .val (.int kv), .val (.int ev), .val (.double uv), .second, .val (.double jv), .second, .val (.ref b28), .val (.ref b30), .val (.ref b32), .val (.ref b36), .val (.ref b38), .val (.double r1), .second, .val (.double r2), .second, .val (.double r3), .second, .val (.double r4), .second, .val (.double r5), .second, .val (.int nv), .unset, .unset, .unset, .unset] [(.double r2)])) _
      refine XS.dload X108.here hx rfl (hb hby at_232) rfl ?_
      show Steps p.tables e below (T108.setTop (mkF m 234 #[.val (.int x1), .val (.int x2), .val (.int x3), .val (.int x4), .val (.long x5), .second, .val (.int sv), .val (.int fv), .val (.int kv), .val (.int ev), .val (.double uv), .second, .val (.double jv), .second, .val (.ref b28), .val (.ref b30), .val (.ref b32), .val (.ref b36), .val (.ref b38), .val (.double r1), .second, .val (.double r2), .second, .val (.double r3), .second, .val (.double r4), .second, .val (.double r5), .second, .val (.int nv), .unset, .unset, .unset, .unset] [(.double r1), (.double r2)])) _
      refine XS.dcmpS X108.here hx rfl (hb hby at_234) rfl rfl ?_
      show Steps p.tables e below (T108.setTop (mkF m 235 #[.val (.int x1), .val (.int x2), .val (.int x3), .val (.int x4), .val (.long x5), .second, .val (.int sv), .val (.int fv), .val (.int kv), .val (.int ev), .val (.double uv), .second, .val (.double jv), .second, .val (.ref b28), .val (.ref b30), .val (.ref b32), .val (.ref b36), .val (.ref b38), .val (.double r1), .second, .val (.double r2), .second, .val (.double r3), .second, .val (.double r4), .second, .val (.double r5), .second, .val (.int nv), .unset, .unset, .unset, .unset] [(.int (cmpValue (FP.dcmp r2 r1) .l))])) _
      refine XS.ifNo X108.here hx rfl (hb hby at_235) rfl ((if0 _ _).trans (teq (own_veq (OwnFl.own_cmp_eq vr2 vr1 hn0 hn0 rfl) .l)).2) ?_
      show Steps p.tables e below (T108.setTop (mkF m 238 #[.val (.int x1), .val (.int x2), .val (.int x3), .val (.int x4), .val (.long x5), .second, .val (.int sv), .val (.int fv), .val (.int kv), .val (.int ev), .val (.double uv), .second, .val (.double jv), .second, .val (.ref b28), .val (.ref b30), .val (.ref b32), .val (.ref b36), .val (.ref b38), .val (.double r1), .second, .val (.double r2), .second, .val (.double r3), .second, .val (.double r4), .second, .val (.double r5), .second, .val (.int nv), .unset, .unset, .unset, .unset] [])) _
      refine XS.dload X108.here hx rfl (hb hby at_238) rfl ?_
      show Steps p.tables e below (T108.setTop (mkF m 240 #[.val (.int x1), .val (.int x2), .val (.int x3), .val (.int x4), .val (.long x5), .second, .val (.int sv), .val (.int fv), .val (.int kv), .val (.int ev), .val (.double uv), .second, .val (.double jv), .second, .val (.ref b28), .val (.ref b30), .val (.ref b32), .val (.ref b36), .val (.ref b38), .val (.double r1), .second, .val (.double r2), .second, .val (.double r3), .second, .val (.double r4), .second, .val (.double r5), .second, .val (.int nv), .unset, .unset, .unset, .unset] [(.double r3)])) _
      refine XS.dload X108.here hx rfl (hb hby at_240) rfl ?_
      show Steps p.tables e below (T108.setTop (mkF m 242 #[.val (.int x1), .val (.int x2), .val (.int x3), .val (.int x4), .val (.long x5), .second, .val (.int sv), .val (.int fv), .val (.int kv), .val (.int ev), .val (.double uv), .second, .val (.double jv), .second, .val (.ref b28), .val (.ref b30), .val (.ref b32), .val (.ref b36), .val (.ref b38), .val (.double r1), .second, .val (.double r2), .second, .val (.double r3), .second, .val (.double r4), .second, .val (.double r5), .second, .val (.int nv), .unset, .unset, .unset, .unset] [(.double r1), (.double r3)])) _
      refine XS.dcmpS X108.here hx rfl (hb hby at_242) rfl rfl ?_
      show Steps p.tables e below (T108.setTop (mkF m 243 #[.val (.int x1), .val (.int x2), .val (.int x3), .val (.int x4), .val (.long x5), .second, .val (.int sv), .val (.int fv), .val (.int kv), .val (.int ev), .val (.double uv), .second, .val (.double jv), .second, .val (.ref b28), .val (.ref b30), .val (.ref b32), .val (.ref b36), .val (.ref b38), .val (.double r1), .second, .val (.double r2), .second, .val (.double r3), .second, .val (.double r4), .second, .val (.double r5), .second, .val (.int nv), .unset, .unset, .unset, .unset] [(.int (cmpValue (FP.dcmp r3 r1) .l))])) _
      refine XS.ifYes X108.here hx rfl (pc0 := 243) (pc' := 248) rfl (hb hby at_243) rfl ((if0 _ _).trans (teq (own_veq (OwnFl.own_cmp_eq vr3 vr1 hn0 hn0 rfl) .l)).1) (by decide) (by decide) ?_
      show Steps p.tables e below (T108.setTop (mkF m 248 #[.val (.int x1), .val (.int x2), .val (.int x3), .val (.int x4), .val (.long x5), .second, .val (.int sv), .val (.int fv), .val (.int kv), .val (.int ev), .val (.double uv), .second, .val (.double jv), .second, .val (.ref b28), .val (.ref b30), .val (.ref b32), .val (.ref b36), .val (.ref b38), .val (.double r1), .second, .val (.double r2), .second, .val (.double r3), .second, .val (.double r4), .second, .val (.double r5), .second, .val (.int nv), .unset, .unset, .unset, .unset] [])) _
      refine XS.dload X108.here hx rfl (hb hby at_248) rfl ?_
      show Steps p.tables e below (T108.setTop (mkF m 250 #[.val (.int x1), .val (.int x2), .val (.int x3), .val (.int x4), .val (.long x5), .second, .val (.int sv), .val (.int fv), .val (.int kv), .val (.int ev), .val (.double uv), .second, .val (.double jv), .second, .val (.ref b28), .val (.ref b30), .val (.ref b32), .val (.ref b36), .val (.ref b38), .val (.double r1), .second, .val (.double r2), .second, .val (.double r3), .second, .val (.double r4), .second, .val (.double r5), .second, .val (.int nv), .unset, .unset, .unset, .unset] [(.double r1)])) _
      refine XS.dconst0 X108.here hx rfl (hb hby at_250) (v := (0 : UInt64)) rfl ?_
      show Steps p.tables e below (T108.setTop (mkF m 251 #[.val (.int x1), .val (.int x2), .val (.int x3), .val (.int x4), .val (.long x5), .second, .val (.int sv), .val (.int fv), .val (.int kv), .val (.int ev), .val (.double uv), .second, .val (.double jv), .second, .val (.ref b28), .val (.ref b30), .val (.ref b32), .val (.ref b36), .val (.ref b38), .val (.double r1), .second, .val (.double r2), .second, .val (.double r3), .second, .val (.double r4), .second, .val (.double r5), .second, .val (.int nv), .unset, .unset, .unset, .unset] [(.double (0 : UInt64)), (.double r1)])) _
      refine XS.dcmpS X108.here hx rfl (hb hby at_251) rfl rfl ?_
      show Steps p.tables e below (T108.setTop (mkF m 252 #[.val (.int x1), .val (.int x2), .val (.int x3), .val (.int x4), .val (.long x5), .second, .val (.int sv), .val (.int fv), .val (.int kv), .val (.int ev), .val (.double uv), .second, .val (.double jv), .second, .val (.ref b28), .val (.ref b30), .val (.ref b32), .val (.ref b36), .val (.ref b38), .val (.double r1), .second, .val (.double r2), .second, .val (.double r3), .second, .val (.double r4), .second, .val (.double r5), .second, .val (.int nv), .unset, .unset, .unset, .unset] [(.int (cmpValue (FP.dcmp r1 (0 : UInt64)) .l))])) _
      refine XS.ifNo X108.here hx rfl (hb hby at_252) rfl ((if0 _ _).trans (flt (own_vnl (own_r0 vr1 hn0 (by omega) (by omega)) .l)).1) ?_
      show Steps p.tables e below (T108.setTop (mkF m 255 #[.val (.int x1), .val (.int x2), .val (.int x3), .val (.int x4), .val (.long x5), .second, .val (.int sv), .val (.int fv), .val (.int kv), .val (.int ev), .val (.double uv), .second, .val (.double jv), .second, .val (.ref b28), .val (.ref b30), .val (.ref b32), .val (.ref b36), .val (.ref b38), .val (.double r1), .second, .val (.double r2), .second, .val (.double r3), .second, .val (.double r4), .second, .val (.double r5), .second, .val (.int nv), .unset, .unset, .unset, .unset] [])) _
      refine XS.dload X108.here hx rfl (hb hby at_255) rfl ?_
      show Steps p.tables e below (T108.setTop (mkF m 257 #[.val (.int x1), .val (.int x2), .val (.int x3), .val (.int x4), .val (.long x5), .second, .val (.int sv), .val (.int fv), .val (.int kv), .val (.int ev), .val (.double uv), .second, .val (.double jv), .second, .val (.ref b28), .val (.ref b30), .val (.ref b32), .val (.ref b36), .val (.ref b38), .val (.double r1), .second, .val (.double r2), .second, .val (.double r3), .second, .val (.double r4), .second, .val (.double r5), .second, .val (.int nv), .unset, .unset, .unset, .unset] [(.double r1)])) _
      refine XS.dconst1 X108.here hx rfl (hb hby at_257) (v := (4607182418800017408 : UInt64)) rfl ?_
      show Steps p.tables e below (T108.setTop (mkF m 258 #[.val (.int x1), .val (.int x2), .val (.int x3), .val (.int x4), .val (.long x5), .second, .val (.int sv), .val (.int fv), .val (.int kv), .val (.int ev), .val (.double uv), .second, .val (.double jv), .second, .val (.ref b28), .val (.ref b30), .val (.ref b32), .val (.ref b36), .val (.ref b38), .val (.double r1), .second, .val (.double r2), .second, .val (.double r3), .second, .val (.double r4), .second, .val (.double r5), .second, .val (.int nv), .unset, .unset, .unset, .unset] [(.double (4607182418800017408 : UInt64)), (.double r1)])) _
      refine XS.dcmpS X108.here hx rfl (hb hby at_258) rfl rfl ?_
      show Steps p.tables e below (T108.setTop (mkF m 259 #[.val (.int x1), .val (.int x2), .val (.int x3), .val (.int x4), .val (.long x5), .second, .val (.int sv), .val (.int fv), .val (.int kv), .val (.int ev), .val (.double uv), .second, .val (.double jv), .second, .val (.ref b28), .val (.ref b30), .val (.ref b32), .val (.ref b36), .val (.ref b38), .val (.double r1), .second, .val (.double r2), .second, .val (.double r3), .second, .val (.double r4), .second, .val (.double r5), .second, .val (.int nv), .unset, .unset, .unset, .unset] [(.int (cmpValue (FP.dcmp r1 (4607182418800017408 : UInt64)) .g))])) _
      refine XS.ifYes X108.here hx rfl (pc0 := 259) (pc' := 264) rfl (hb hby at_259) rfl ((if0 _ _).trans (flt (own_vng (own_r1 vr1 hn0 (by omega) (by omega)) .g)).2.2.2) (by decide) (by decide) ?_
      show Steps p.tables e below (T108.setTop (mkF m 264 #[.val (.int x1), .val (.int x2), .val (.int x3), .val (.int x4), .val (.long x5), .second, .val (.int sv), .val (.int fv), .val (.int kv), .val (.int ev), .val (.double uv), .second, .val (.double jv), .second, .val (.ref b28), .val (.ref b30), .val (.ref b32), .val (.ref b36), .val (.ref b38), .val (.double r1), .second, .val (.double r2), .second, .val (.double r3), .second, .val (.double r4), .second, .val (.double r5), .second, .val (.int nv), .unset, .unset, .unset, .unset] [])) _
      refine XS.dload X108.here hx rfl (hb hby at_264) rfl ?_
      show Steps p.tables e below (T108.setTop (mkF m 266 #[.val (.int x1), .val (.int x2), .val (.int x3), .val (.int x4), .val (.long x5), .second, .val (.int sv), .val (.int fv), .val (.int kv), .val (.int ev), .val (.double uv), .second, .val (.double jv), .second, .val (.ref b28), .val (.ref b30), .val (.ref b32), .val (.ref b36), .val (.ref b38), .val (.double r1), .second, .val (.double r2), .second, .val (.double r3), .second, .val (.double r4), .second, .val (.double r5), .second, .val (.int nv), .unset, .unset, .unset, .unset] [(.double r1)])) _
      refine XS.iload X108.here hx rfl (hb hby at_266) rfl ?_
      show Steps p.tables e below (T108.setTop (mkF m 268 #[.val (.int x1), .val (.int x2), .val (.int x3), .val (.int x4), .val (.long x5), .second, .val (.int sv), .val (.int fv), .val (.int kv), .val (.int ev), .val (.double uv), .second, .val (.double jv), .second, .val (.ref b28), .val (.ref b30), .val (.ref b32), .val (.ref b36), .val (.ref b38), .val (.double r1), .second, .val (.double r2), .second, .val (.double r3), .second, .val (.double r4), .second, .val (.double r5), .second, .val (.int nv), .unset, .unset, .unset, .unset] [(.int nv), (.double r1)])) _
      refine XS.i2dS X108.here hx rfl (hb hby at_268) rfl rfl ?_
      show Steps p.tables e below (T108.setTop (mkF m 269 #[.val (.int x1), .val (.int x2), .val (.int x3), .val (.int x4), .val (.long x5), .second, .val (.int sv), .val (.int fv), .val (.int kv), .val (.int ev), .val (.double uv), .second, .val (.double jv), .second, .val (.ref b28), .val (.ref b30), .val (.ref b32), .val (.ref b36), .val (.ref b38), .val (.double r1), .second, .val (.double r2), .second, .val (.double r3), .second, .val (.double r4), .second, .val (.double r5), .second, .val (.int nv), .unset, .unset, .unset, .unset] [(.double (FP.i2d nv)), (.double r1)])) _
      refine XS.dmulS X108.here hx rfl (hb hby at_269) rfl nn111 rfl ?_
      show Steps p.tables e below (T108.setTop (mkF m 270 #[.val (.int x1), .val (.int x2), .val (.int x3), .val (.int x4), .val (.long x5), .second, .val (.int sv), .val (.int fv), .val (.int kv), .val (.int ev), .val (.double uv), .second, .val (.double jv), .second, .val (.ref b28), .val (.ref b30), .val (.ref b32), .val (.ref b36), .val (.ref b38), .val (.double r1), .second, .val (.double r2), .second, .val (.double r3), .second, .val (.double r4), .second, .val (.double r5), .second, .val (.int nv), .unset, .unset, .unset, .unset] [(.double (FP.dmul r1 (FP.i2d nv)))])) _
      refine XS.iload X108.here hx rfl (hb hby at_270) rfl ?_
      show Steps p.tables e below (T108.setTop (mkF m 272 #[.val (.int x1), .val (.int x2), .val (.int x3), .val (.int x4), .val (.long x5), .second, .val (.int sv), .val (.int fv), .val (.int kv), .val (.int ev), .val (.double uv), .second, .val (.double jv), .second, .val (.ref b28), .val (.ref b30), .val (.ref b32), .val (.ref b36), .val (.ref b38), .val (.double r1), .second, .val (.double r2), .second, .val (.double r3), .second, .val (.double r4), .second, .val (.double r5), .second, .val (.int nv), .unset, .unset, .unset, .unset] [(.int fv), (.double (FP.dmul r1 (FP.i2d nv)))])) _
      refine XS.i2dS X108.here hx rfl (hb hby at_272) rfl rfl ?_
      show Steps p.tables e below (T108.setTop (mkF m 273 #[.val (.int x1), .val (.int x2), .val (.int x3), .val (.int x4), .val (.long x5), .second, .val (.int sv), .val (.int fv), .val (.int kv), .val (.int ev), .val (.double uv), .second, .val (.double jv), .second, .val (.ref b28), .val (.ref b30), .val (.ref b32), .val (.ref b36), .val (.ref b38), .val (.double r1), .second, .val (.double r2), .second, .val (.double r3), .second, .val (.double r4), .second, .val (.double r5), .second, .val (.int nv), .unset, .unset, .unset, .unset] [(.double (FP.i2d fv)), (.double (FP.dmul r1 (FP.i2d nv)))])) _
      refine XS.dsubS X108.here hx rfl (hb hby at_273) rfl nn112 rfl ?_
      show Steps p.tables e below (T108.setTop (mkF m 274 #[.val (.int x1), .val (.int x2), .val (.int x3), .val (.int x4), .val (.long x5), .second, .val (.int sv), .val (.int fv), .val (.int kv), .val (.int ev), .val (.double uv), .second, .val (.double jv), .second, .val (.ref b28), .val (.ref b30), .val (.ref b32), .val (.ref b36), .val (.ref b38), .val (.double r1), .second, .val (.double r2), .second, .val (.double r3), .second, .val (.double r4), .second, .val (.double r5), .second, .val (.int nv), .unset, .unset, .unset, .unset] [(.double (FP.dsub (FP.dmul r1 (FP.i2d nv)) (FP.i2d fv)))])) _
      refine XS.dstore X108.here hx rfl (hb hby at_274) rfl (l' := #[.val (.int x1), .val (.int x2), .val (.int x3), .val (.int x4), .val (.long x5), .second, .val (.int sv), .val (.int fv), .val (.int kv), .val (.int ev), .val (.double uv), .second, .val (.double jv), .second, .val (.ref b28), .val (.ref b30), .val (.ref b32), .val (.ref b36), .val (.ref b38), .val (.double r1), .second, .val (.double r2), .second, .val (.double r3), .second, .val (.double r4), .second, .val (.double r5), .second, .val (.int nv), .val (.double (FP.dsub (FP.dmul r1 (FP.i2d nv)) (FP.i2d fv))), .second, .unset, .unset]) rfl ?_
      show Steps p.tables e below (T108.setTop (mkF m 276 #[.val (.int x1), .val (.int x2), .val (.int x3), .val (.int x4), .val (.long x5), .second, .val (.int sv), .val (.int fv), .val (.int kv), .val (.int ev), .val (.double uv), .second, .val (.double jv), .second, .val (.ref b28), .val (.ref b30), .val (.ref b32), .val (.ref b36), .val (.ref b38), .val (.double r1), .second, .val (.double r2), .second, .val (.double r3), .second, .val (.double r4), .second, .val (.double r5), .second, .val (.int nv), .val (.double (FP.dsub (FP.dmul r1 (FP.i2d nv)) (FP.i2d fv))), .second, .unset, .unset] [])) _
      rw [rn113]
      show Steps p.tables e below (T108.setTop (mkF m 276 #[.val (.int x1), .val (.int x2), .val (.int x3), .val (.int x4), .val (.long x5), .second, .val (.int sv), .val (.int fv), .val (.int kv), .val (.int ev), .val (.double uv), .second, .val (.double jv), .second, .val (.ref b28), .val (.ref b30), .val (.ref b32), .val (.ref b36), .val (.ref b38), .val (.double r1), .second, .val (.double r2), .second, .val (.double r3), .second, .val (.double r4), .second, .val (.double r5), .second, .val (.int nv), .val (.double tv), .second, .unset, .unset] [])) _
      refine XS.dload X108.here hx rfl (hb hby at_276) rfl ?_
      show Steps p.tables e below (T108.setTop (mkF m 278 #[.val (.int x1), .val (.int x2), .val (.int x3), .val (.int x4), .val (.long x5), .second, .val (.int sv), .val (.int fv), .val (.int kv), .val (.int ev), .val (.double uv), .second, .val (.double jv), .second, .val (.ref b28), .val (.ref b30), .val (.ref b32), .val (.ref b36), .val (.ref b38), .val (.double r1), .second, .val (.double r2), .second, .val (.double r3), .second, .val (.double r4), .second, .val (.double r5), .second, .val (.int nv), .val (.double tv), .second, .unset, .unset] [(.double tv)])) _
      refine X108.ldc2DoubleC hx hown (mvT hZ (own_wd hw 25 rfl)) (g := (mkF m 278 #[.val (.int x1), .val (.int x2), .val (.int x3), .val (.int x4), .val (.long x5), .second, .val (.int sv), .val (.int fv), .val (.int kv), .val (.int ev), .val (.double uv), .second, .val (.double jv), .second, .val (.ref b28), .val (.ref b30), .val (.ref b32), .val (.ref b36), .val (.ref b38), .val (.double r1), .second, .val (.double r2), .second, .val (.double r3), .second, .val (.double r4), .second, .val (.double r5), .second, .val (.int nv), .val (.double tv), .second, .unset, .unset] [(.double tv)])) rfl (hb hby at_278) _ ?_
      show Steps p.tables e below (T108.setTop (mkF m 281 #[.val (.int x1), .val (.int x2), .val (.int x3), .val (.int x4), .val (.long x5), .second, .val (.int sv), .val (.int fv), .val (.int kv), .val (.int ev), .val (.double uv), .second, .val (.double jv), .second, .val (.ref b28), .val (.ref b30), .val (.ref b32), .val (.ref b36), .val (.ref b38), .val (.double r1), .second, .val (.double r2), .second, .val (.double r3), .second, .val (.double r4), .second, .val (.double r5), .second, .val (.int nv), .val (.double tv), .second, .unset, .unset] [(.double (4472406533629990549 : UInt64)), (.double tv)])) _
      refine XS.dcmpS X108.here hx rfl (hb hby at_281) rfl rfl ?_
      show Steps p.tables e below (T108.setTop (mkF m 282 #[.val (.int x1), .val (.int x2), .val (.int x3), .val (.int x4), .val (.long x5), .second, .val (.int sv), .val (.int fv), .val (.int kv), .val (.int ev), .val (.double uv), .second, .val (.double jv), .second, .val (.ref b28), .val (.ref b30), .val (.ref b32), .val (.ref b36), .val (.ref b38), .val (.double r1), .second, .val (.double r2), .second, .val (.double r3), .second, .val (.double r4), .second, .val (.double r5), .second, .val (.int nv), .val (.double tv), .second, .unset, .unset] [(.int (cmpValue (FP.dcmp tv (4472406533629990549 : UInt64)) .g))])) _
      refine XS.ifNo X108.here hx rfl (hb hby at_282) rfl ((if0 _ _).trans (flt (own_le1 htv1 htv2)).2.2.1) ?_
      show Steps p.tables e below (T108.setTop (mkF m 285 #[.val (.int x1), .val (.int x2), .val (.int x3), .val (.int x4), .val (.long x5), .second, .val (.int sv), .val (.int fv), .val (.int kv), .val (.int ev), .val (.double uv), .second, .val (.double jv), .second, .val (.ref b28), .val (.ref b30), .val (.ref b32), .val (.ref b36), .val (.ref b38), .val (.double r1), .second, .val (.double r2), .second, .val (.double r3), .second, .val (.double r4), .second, .val (.double r5), .second, .val (.int nv), .val (.double tv), .second, .unset, .unset] [])) _
      refine XS.dload X108.here hx rfl (hb hby at_285) rfl ?_
      show Steps p.tables e below (T108.setTop (mkF m 287 #[.val (.int x1), .val (.int x2), .val (.int x3), .val (.int x4), .val (.long x5), .second, .val (.int sv), .val (.int fv), .val (.int kv), .val (.int ev), .val (.double uv), .second, .val (.double jv), .second, .val (.ref b28), .val (.ref b30), .val (.ref b32), .val (.ref b36), .val (.ref b38), .val (.double r1), .second, .val (.double r2), .second, .val (.double r3), .second, .val (.double r4), .second, .val (.double r5), .second, .val (.int nv), .val (.double tv), .second, .unset, .unset] [(.double tv)])) _
      refine X108.ldc2DoubleC hx hown (mvT hZ (own_wd hw 26 rfl)) (g := (mkF m 287 #[.val (.int x1), .val (.int x2), .val (.int x3), .val (.int x4), .val (.long x5), .second, .val (.int sv), .val (.int fv), .val (.int kv), .val (.int ev), .val (.double uv), .second, .val (.double jv), .second, .val (.ref b28), .val (.ref b30), .val (.ref b32), .val (.ref b36), .val (.ref b38), .val (.double r1), .second, .val (.double r2), .second, .val (.double r3), .second, .val (.double r4), .second, .val (.double r5), .second, .val (.int nv), .val (.double tv), .second, .unset, .unset] [(.double tv)])) rfl (hb hby at_287) _ ?_
      show Steps p.tables e below (T108.setTop (mkF m 290 #[.val (.int x1), .val (.int x2), .val (.int x3), .val (.int x4), .val (.long x5), .second, .val (.int sv), .val (.int fv), .val (.int kv), .val (.int ev), .val (.double uv), .second, .val (.double jv), .second, .val (.ref b28), .val (.ref b30), .val (.ref b32), .val (.ref b36), .val (.ref b38), .val (.double r1), .second, .val (.double r2), .second, .val (.double r3), .second, .val (.double r4), .second, .val (.double r5), .second, .val (.int nv), .val (.double tv), .second, .unset, .unset] [(.double (13695778570484766357 : UInt64)), (.double tv)])) _
      refine XS.dcmpS X108.here hx rfl (hb hby at_290) rfl rfl ?_
      show Steps p.tables e below (T108.setTop (mkF m 291 #[.val (.int x1), .val (.int x2), .val (.int x3), .val (.int x4), .val (.long x5), .second, .val (.int sv), .val (.int fv), .val (.int kv), .val (.int ev), .val (.double uv), .second, .val (.double jv), .second, .val (.ref b28), .val (.ref b30), .val (.ref b32), .val (.ref b36), .val (.ref b38), .val (.double r1), .second, .val (.double r2), .second, .val (.double r3), .second, .val (.double r4), .second, .val (.double r5), .second, .val (.int nv), .val (.double tv), .second, .unset, .unset] [(.int (cmpValue (FP.dcmp tv (13695778570484766357 : UInt64)) .l))])) _
      refine XS.ifYes X108.here hx rfl (pc0 := 291) (pc' := 296) rfl (hb hby at_291) rfl ((if0 _ _).trans (flt (own_le2 htv1 htv3)).2.1) (by decide) (by decide) ?_
      exact kt
    obtain ⟨T115, L115, X115, e115, N115, k115⟩ : ∃  (T115 : State) (L115 : List Loc), Stand p l e room_1 s m #[(.int x1), (.int x2), (.int x3), (.int x4), (.long x5)] below meth c T115 L115 5 15 ∧ T115.heap = T39.heap ∧ Fr n0 L115 ∧ ∀ t, Steps p.tables e below (T115.setTop (mkF m 310 #[.val (.int x1), .val (.int x2), .val (.int x3), .val (.int x4), .val (.long x5), .second, .val (.int sv), .val (.int fv), .val (.int kv), .val (.int ev), .val (.double uv), .second, .val (.double jv), .second, .val (.ref b28), .val (.ref b30), .val (.ref b32), .val (.ref b36), .val (.ref b38), .val (.double r1), .second, .val (.double r2), .second, .val (.double r3), .second, .val (.double r4), .second, .val (.double r5), .second, .val (.int nv), .val (.double tv), .second, .unset, .unset] [])) t → Steps p.tables e below (T108.setTop (mkF m 296 #[.val (.int x1), .val (.int x2), .val (.int x3), .val (.int x4), .val (.long x5), .second, .val (.int sv), .val (.int fv), .val (.int kv), .val (.int ev), .val (.double uv), .second, .val (.double jv), .second, .val (.ref b28), .val (.ref b30), .val (.ref b32), .val (.ref b36), .val (.ref b38), .val (.double r1), .second, .val (.double r2), .second, .val (.double r3), .second, .val (.double r4), .second, .val (.double r5), .second, .val (.int nv), .val (.double tv), .second, .unset, .unset] [])) t := by
      have pj115 : ∀ t, Steps p.tables e below (T108.setTop (mkF m 296 #[.val (.int x1), .val (.int x2), .val (.int x3), .val (.int x4), .val (.long x5), .second, .val (.int sv), .val (.int fv), .val (.int kv), .val (.int ev), .val (.double uv), .second, .val (.double jv), .second, .val (.ref b28), .val (.ref b30), .val (.ref b32), .val (.ref b36), .val (.ref b38), .val (.double r1), .second, .val (.double r2), .second, .val (.double r3), .second, .val (.double r4), .second, .val (.double r5), .second, .val (.int nv), .val (.double tv), .second, .unset, .unset] [])) t → Steps p.tables e below (T108.setTop (mkF m 296 #[.val (.int x1), .val (.int x2), .val (.int x3), .val (.int x4), .val (.long x5), .second, .val (.int sv), .val (.int fv), .val (.int kv), .val (.int ev), .val (.double uv), .second, .val (.double jv), .second, .val (.ref b28), .val (.ref b30), .val (.ref b32), .val (.ref b36), .val (.ref b38), .val (.double r1), .second, .val (.double r2), .second, .val (.double r3), .second, .val (.double r4), .second, .val (.double r5), .second, .val (.int nv), .val (.double tv), .second, .unset, .unset] [])) t := fun _ k => k
      have pre116 : ∀ t, Steps p.tables e below (T108.setTop (mkF m 298 #[.val (.int x1), .val (.int x2), .val (.int x3), .val (.int x4), .val (.long x5), .second, .val (.int sv), .val (.int fv), .val (.int kv), .val (.int ev), .val (.double uv), .second, .val (.double jv), .second, .val (.ref b28), .val (.ref b30), .val (.ref b32), .val (.ref b36), .val (.ref b38), .val (.double r1), .second, .val (.double r2), .second, .val (.double r3), .second, .val (.double r4), .second, .val (.double r5), .second, .val (.int nv), .val (.double tv), .second, .unset, .unset] [(.int fv)])) t → Steps p.tables e below (T108.setTop (mkF m 296 #[.val (.int x1), .val (.int x2), .val (.int x3), .val (.int x4), .val (.long x5), .second, .val (.int sv), .val (.int fv), .val (.int kv), .val (.int ev), .val (.double uv), .second, .val (.double jv), .second, .val (.ref b28), .val (.ref b30), .val (.ref b32), .val (.ref b36), .val (.ref b38), .val (.double r1), .second, .val (.double r2), .second, .val (.double r3), .second, .val (.double r4), .second, .val (.double r5), .second, .val (.int nv), .val (.double tv), .second, .unset, .unset] [])) t := by
        intro t kt
        refine pj115 t ?_
        show Steps p.tables e below (T108.setTop (mkF m 296 #[.val (.int x1), .val (.int x2), .val (.int x3), .val (.int x4), .val (.long x5), .second, .val (.int sv), .val (.int fv), .val (.int kv), .val (.int ev), .val (.double uv), .second, .val (.double jv), .second, .val (.ref b28), .val (.ref b30), .val (.ref b32), .val (.ref b36), .val (.ref b38), .val (.double r1), .second, .val (.double r2), .second, .val (.double r3), .second, .val (.double r4), .second, .val (.double r5), .second, .val (.int nv), .val (.double tv), .second, .unset, .unset] [])) _
        refine XS.iload X108.here hx rfl (hb hby at_296) rfl ?_
        exact kt
      by_cases hc298 : fv = (0 : Int32)
      · skip
        have pre117 : ∀ t, Steps p.tables e below (T108.setTop (mkF m 310 #[.val (.int x1), .val (.int x2), .val (.int x3), .val (.int x4), .val (.long x5), .second, .val (.int sv), .val (.int fv), .val (.int kv), .val (.int ev), .val (.double uv), .second, .val (.double jv), .second, .val (.ref b28), .val (.ref b30), .val (.ref b32), .val (.ref b36), .val (.ref b38), .val (.double r1), .second, .val (.double r2), .second, .val (.double r3), .second, .val (.double r4), .second, .val (.double r5), .second, .val (.int nv), .val (.double tv), .second, .unset, .unset] [])) t → Steps p.tables e below (T108.setTop (mkF m 296 #[.val (.int x1), .val (.int x2), .val (.int x3), .val (.int x4), .val (.long x5), .second, .val (.int sv), .val (.int fv), .val (.int kv), .val (.int ev), .val (.double uv), .second, .val (.double jv), .second, .val (.ref b28), .val (.ref b30), .val (.ref b32), .val (.ref b36), .val (.ref b38), .val (.double r1), .second, .val (.double r2), .second, .val (.double r3), .second, .val (.double r4), .second, .val (.double r5), .second, .val (.int nv), .val (.double tv), .second, .unset, .unset] [])) t := by
          intro t kt
          refine pre116 t ?_
          show Steps p.tables e below (T108.setTop (mkF m 298 #[.val (.int x1), .val (.int x2), .val (.int x3), .val (.int x4), .val (.long x5), .second, .val (.int sv), .val (.int fv), .val (.int kv), .val (.int ev), .val (.double uv), .second, .val (.double jv), .second, .val (.ref b28), .val (.ref b30), .val (.ref b32), .val (.ref b36), .val (.ref b38), .val (.double r1), .second, .val (.double r2), .second, .val (.double r3), .second, .val (.double r4), .second, .val (.double r5), .second, .val (.int nv), .val (.double tv), .second, .unset, .unset] [(.int fv)])) _
          refine XS.ifNo X108.here hx rfl (hb hby at_298) rfl ((if0 _ _).trans (teq hc298).2) ?_
          show Steps p.tables e below (T108.setTop (mkF m 301 #[.val (.int x1), .val (.int x2), .val (.int x3), .val (.int x4), .val (.long x5), .second, .val (.int sv), .val (.int fv), .val (.int kv), .val (.int ev), .val (.double uv), .second, .val (.double jv), .second, .val (.ref b28), .val (.ref b30), .val (.ref b32), .val (.ref b36), .val (.ref b38), .val (.double r1), .second, .val (.double r2), .second, .val (.double r3), .second, .val (.double r4), .second, .val (.double r5), .second, .val (.int nv), .val (.double tv), .second, .unset, .unset] [])) _
          refine XS.dload X108.here hx rfl (hb hby at_301) rfl ?_
          show Steps p.tables e below (T108.setTop (mkF m 303 #[.val (.int x1), .val (.int x2), .val (.int x3), .val (.int x4), .val (.long x5), .second, .val (.int sv), .val (.int fv), .val (.int kv), .val (.int ev), .val (.double uv), .second, .val (.double jv), .second, .val (.ref b28), .val (.ref b30), .val (.ref b32), .val (.ref b36), .val (.ref b38), .val (.double r1), .second, .val (.double r2), .second, .val (.double r3), .second, .val (.double r4), .second, .val (.double r5), .second, .val (.int nv), .val (.double tv), .second, .unset, .unset] [(.double r1)])) _
          refine XS.dconst0 X108.here hx rfl (hb hby at_303) (v := (0 : UInt64)) rfl ?_
          show Steps p.tables e below (T108.setTop (mkF m 304 #[.val (.int x1), .val (.int x2), .val (.int x3), .val (.int x4), .val (.long x5), .second, .val (.int sv), .val (.int fv), .val (.int kv), .val (.int ev), .val (.double uv), .second, .val (.double jv), .second, .val (.ref b28), .val (.ref b30), .val (.ref b32), .val (.ref b36), .val (.ref b38), .val (.double r1), .second, .val (.double r2), .second, .val (.double r3), .second, .val (.double r4), .second, .val (.double r5), .second, .val (.int nv), .val (.double tv), .second, .unset, .unset] [(.double (0 : UInt64)), (.double r1)])) _
          refine XS.dcmpS X108.here hx rfl (hb hby at_304) rfl rfl ?_
          show Steps p.tables e below (T108.setTop (mkF m 305 #[.val (.int x1), .val (.int x2), .val (.int x3), .val (.int x4), .val (.long x5), .second, .val (.int sv), .val (.int fv), .val (.int kv), .val (.int ev), .val (.double uv), .second, .val (.double jv), .second, .val (.ref b28), .val (.ref b30), .val (.ref b32), .val (.ref b36), .val (.ref b38), .val (.double r1), .second, .val (.double r2), .second, .val (.double r3), .second, .val (.double r4), .second, .val (.double r5), .second, .val (.int nv), .val (.double tv), .second, .unset, .unset] [(.int (cmpValue (FP.dcmp r1 (0 : UInt64)) .l))])) _
          refine XS.ifYes X108.here hx rfl (pc0 := 305) (pc' := 310) rfl (hb hby at_305) rfl ((if0 _ _).trans (teq (own_veq (OwnFl.own_cmp_eq vr1 OwnFl.own_zero hn0 (by decide) (by have := (own_zi eF).mp hc298; subst this; omega)) .l)).1) (by decide) (by decide) ?_
          exact kt
        exact ⟨T108, _, X108, eh108, N108, pre117⟩
      · skip
        have pre118 : ∀ t, Steps p.tables e below (T108.setTop (mkF m 310 #[.val (.int x1), .val (.int x2), .val (.int x3), .val (.int x4), .val (.long x5), .second, .val (.int sv), .val (.int fv), .val (.int kv), .val (.int ev), .val (.double uv), .second, .val (.double jv), .second, .val (.ref b28), .val (.ref b30), .val (.ref b32), .val (.ref b36), .val (.ref b38), .val (.double r1), .second, .val (.double r2), .second, .val (.double r3), .second, .val (.double r4), .second, .val (.double r5), .second, .val (.int nv), .val (.double tv), .second, .unset, .unset] [])) t → Steps p.tables e below (T108.setTop (mkF m 296 #[.val (.int x1), .val (.int x2), .val (.int x3), .val (.int x4), .val (.long x5), .second, .val (.int sv), .val (.int fv), .val (.int kv), .val (.int ev), .val (.double uv), .second, .val (.double jv), .second, .val (.ref b28), .val (.ref b30), .val (.ref b32), .val (.ref b36), .val (.ref b38), .val (.double r1), .second, .val (.double r2), .second, .val (.double r3), .second, .val (.double r4), .second, .val (.double r5), .second, .val (.int nv), .val (.double tv), .second, .unset, .unset] [])) t := by
          intro t kt
          refine pre116 t ?_
          show Steps p.tables e below (T108.setTop (mkF m 298 #[.val (.int x1), .val (.int x2), .val (.int x3), .val (.int x4), .val (.long x5), .second, .val (.int sv), .val (.int fv), .val (.int kv), .val (.int ev), .val (.double uv), .second, .val (.double jv), .second, .val (.ref b28), .val (.ref b30), .val (.ref b32), .val (.ref b36), .val (.ref b38), .val (.double r1), .second, .val (.double r2), .second, .val (.double r3), .second, .val (.double r4), .second, .val (.double r5), .second, .val (.int nv), .val (.double tv), .second, .unset, .unset] [(.int fv)])) _
          refine XS.ifYes X108.here hx rfl (pc0 := 298) (pc' := 310) rfl (hb hby at_298) rfl ((if0 _ _).trans (feq hc298).2) (by decide) (by decide) ?_
          exact kt
        exact ⟨T108, _, X108, eh108, N108, pre118⟩
    have pre119 : ∀ t, Steps p.tables e below (T115.setTop (mkF m 310 #[.val (.int x1), .val (.int x2), .val (.int x3), .val (.int x4), .val (.long x5), .second, .val (.int sv), .val (.int fv), .val (.int kv), .val (.int ev), .val (.double uv), .second, .val (.double jv), .second, .val (.ref b28), .val (.ref b30), .val (.ref b32), .val (.ref b36), .val (.ref b38), .val (.double r1), .second, .val (.double r2), .second, .val (.double r3), .second, .val (.double r4), .second, .val (.double r5), .second, .val (.int nv), .val (.double tv), .second, .unset, .unset] [])) t → Steps p.tables e below (s₁.setTop (entryFrame m #[(.int x1), (.int x2), (.int x3), (.int x4), (.long x5)] maxLocals)) t := by
      intro t kt
      refine pre114 t ?_
      show Steps p.tables e below (T108.setTop (mkF m 296 #[.val (.int x1), .val (.int x2), .val (.int x3), .val (.int x4), .val (.long x5), .second, .val (.int sv), .val (.int fv), .val (.int kv), .val (.int ev), .val (.double uv), .second, .val (.double jv), .second, .val (.ref b28), .val (.ref b30), .val (.ref b32), .val (.ref b36), .val (.ref b38), .val (.double r1), .second, .val (.double r2), .second, .val (.double r3), .second, .val (.double r4), .second, .val (.double r5), .second, .val (.int nv), .val (.double tv), .second, .unset, .unset] [])) _
      refine k115 _ ?_
      exact kt
    obtain ⟨T120, L120, X120, e120, N120, k120⟩ : ∃  (T120 : State) (L120 : List Loc), Stand p l e room_1 s m #[(.int x1), (.int x2), (.int x3), (.int x4), (.long x5)] below meth c T120 L120 5 15 ∧ T120.heap = T39.heap ∧ Fr n0 L120 ∧ ∀ t, Steps p.tables e below (T120.setTop (mkF m 324 #[.val (.int x1), .val (.int x2), .val (.int x3), .val (.int x4), .val (.long x5), .second, .val (.int sv), .val (.int fv), .val (.int kv), .val (.int ev), .val (.double uv), .second, .val (.double jv), .second, .val (.ref b28), .val (.ref b30), .val (.ref b32), .val (.ref b36), .val (.ref b38), .val (.double r1), .second, .val (.double r2), .second, .val (.double r3), .second, .val (.double r4), .second, .val (.double r5), .second, .val (.int nv), .val (.double tv), .second, .unset, .unset] [])) t → Steps p.tables e below (T115.setTop (mkF m 310 #[.val (.int x1), .val (.int x2), .val (.int x3), .val (.int x4), .val (.long x5), .second, .val (.int sv), .val (.int fv), .val (.int kv), .val (.int ev), .val (.double uv), .second, .val (.double jv), .second, .val (.ref b28), .val (.ref b30), .val (.ref b32), .val (.ref b36), .val (.ref b38), .val (.double r1), .second, .val (.double r2), .second, .val (.double r3), .second, .val (.double r4), .second, .val (.double r5), .second, .val (.int nv), .val (.double tv), .second, .unset, .unset] [])) t := by
      have pj120 : ∀ t, Steps p.tables e below (T115.setTop (mkF m 310 #[.val (.int x1), .val (.int x2), .val (.int x3), .val (.int x4), .val (.long x5), .second, .val (.int sv), .val (.int fv), .val (.int kv), .val (.int ev), .val (.double uv), .second, .val (.double jv), .second, .val (.ref b28), .val (.ref b30), .val (.ref b32), .val (.ref b36), .val (.ref b38), .val (.double r1), .second, .val (.double r2), .second, .val (.double r3), .second, .val (.double r4), .second, .val (.double r5), .second, .val (.int nv), .val (.double tv), .second, .unset, .unset] [])) t → Steps p.tables e below (T115.setTop (mkF m 310 #[.val (.int x1), .val (.int x2), .val (.int x3), .val (.int x4), .val (.long x5), .second, .val (.int sv), .val (.int fv), .val (.int kv), .val (.int ev), .val (.double uv), .second, .val (.double jv), .second, .val (.ref b28), .val (.ref b30), .val (.ref b32), .val (.ref b36), .val (.ref b38), .val (.double r1), .second, .val (.double r2), .second, .val (.double r3), .second, .val (.double r4), .second, .val (.double r5), .second, .val (.int nv), .val (.double tv), .second, .unset, .unset] [])) t := fun _ k => k
      have pre121 : ∀ t, Steps p.tables e below (T115.setTop (mkF m 312 #[.val (.int x1), .val (.int x2), .val (.int x3), .val (.int x4), .val (.long x5), .second, .val (.int sv), .val (.int fv), .val (.int kv), .val (.int ev), .val (.double uv), .second, .val (.double jv), .second, .val (.ref b28), .val (.ref b30), .val (.ref b32), .val (.ref b36), .val (.ref b38), .val (.double r1), .second, .val (.double r2), .second, .val (.double r3), .second, .val (.double r4), .second, .val (.double r5), .second, .val (.int nv), .val (.double tv), .second, .unset, .unset] [(.int sv)])) t → Steps p.tables e below (T115.setTop (mkF m 310 #[.val (.int x1), .val (.int x2), .val (.int x3), .val (.int x4), .val (.long x5), .second, .val (.int sv), .val (.int fv), .val (.int kv), .val (.int ev), .val (.double uv), .second, .val (.double jv), .second, .val (.ref b28), .val (.ref b30), .val (.ref b32), .val (.ref b36), .val (.ref b38), .val (.double r1), .second, .val (.double r2), .second, .val (.double r3), .second, .val (.double r4), .second, .val (.double r5), .second, .val (.int nv), .val (.double tv), .second, .unset, .unset] [])) t := by
        intro t kt
        refine pj120 t ?_
        show Steps p.tables e below (T115.setTop (mkF m 310 #[.val (.int x1), .val (.int x2), .val (.int x3), .val (.int x4), .val (.long x5), .second, .val (.int sv), .val (.int fv), .val (.int kv), .val (.int ev), .val (.double uv), .second, .val (.double jv), .second, .val (.ref b28), .val (.ref b30), .val (.ref b32), .val (.ref b36), .val (.ref b38), .val (.double r1), .second, .val (.double r2), .second, .val (.double r3), .second, .val (.double r4), .second, .val (.double r5), .second, .val (.int nv), .val (.double tv), .second, .unset, .unset] [])) _
        refine XS.iload X115.here hx rfl (hb hby at_310) rfl ?_
        exact kt
      by_cases hc312 : sv = (0 : Int32)
      · skip
        have pre122 : ∀ t, Steps p.tables e below (T115.setTop (mkF m 324 #[.val (.int x1), .val (.int x2), .val (.int x3), .val (.int x4), .val (.long x5), .second, .val (.int sv), .val (.int fv), .val (.int kv), .val (.int ev), .val (.double uv), .second, .val (.double jv), .second, .val (.ref b28), .val (.ref b30), .val (.ref b32), .val (.ref b36), .val (.ref b38), .val (.double r1), .second, .val (.double r2), .second, .val (.double r3), .second, .val (.double r4), .second, .val (.double r5), .second, .val (.int nv), .val (.double tv), .second, .unset, .unset] [])) t → Steps p.tables e below (T115.setTop (mkF m 310 #[.val (.int x1), .val (.int x2), .val (.int x3), .val (.int x4), .val (.long x5), .second, .val (.int sv), .val (.int fv), .val (.int kv), .val (.int ev), .val (.double uv), .second, .val (.double jv), .second, .val (.ref b28), .val (.ref b30), .val (.ref b32), .val (.ref b36), .val (.ref b38), .val (.double r1), .second, .val (.double r2), .second, .val (.double r3), .second, .val (.double r4), .second, .val (.double r5), .second, .val (.int nv), .val (.double tv), .second, .unset, .unset] [])) t := by
          intro t kt
          refine pre121 t ?_
          show Steps p.tables e below (T115.setTop (mkF m 312 #[.val (.int x1), .val (.int x2), .val (.int x3), .val (.int x4), .val (.long x5), .second, .val (.int sv), .val (.int fv), .val (.int kv), .val (.int ev), .val (.double uv), .second, .val (.double jv), .second, .val (.ref b28), .val (.ref b30), .val (.ref b32), .val (.ref b36), .val (.ref b38), .val (.double r1), .second, .val (.double r2), .second, .val (.double r3), .second, .val (.double r4), .second, .val (.double r5), .second, .val (.int nv), .val (.double tv), .second, .unset, .unset] [(.int sv)])) _
          refine XS.ifNo X115.here hx rfl (hb hby at_312) rfl ((if0 _ _).trans (teq hc312).2) ?_
          show Steps p.tables e below (T115.setTop (mkF m 315 #[.val (.int x1), .val (.int x2), .val (.int x3), .val (.int x4), .val (.long x5), .second, .val (.int sv), .val (.int fv), .val (.int kv), .val (.int ev), .val (.double uv), .second, .val (.double jv), .second, .val (.ref b28), .val (.ref b30), .val (.ref b32), .val (.ref b36), .val (.ref b38), .val (.double r1), .second, .val (.double r2), .second, .val (.double r3), .second, .val (.double r4), .second, .val (.double r5), .second, .val (.int nv), .val (.double tv), .second, .unset, .unset] [])) _
          refine XS.dload X115.here hx rfl (hb hby at_315) rfl ?_
          show Steps p.tables e below (T115.setTop (mkF m 317 #[.val (.int x1), .val (.int x2), .val (.int x3), .val (.int x4), .val (.long x5), .second, .val (.int sv), .val (.int fv), .val (.int kv), .val (.int ev), .val (.double uv), .second, .val (.double jv), .second, .val (.ref b28), .val (.ref b30), .val (.ref b32), .val (.ref b36), .val (.ref b38), .val (.double r1), .second, .val (.double r2), .second, .val (.double r3), .second, .val (.double r4), .second, .val (.double r5), .second, .val (.int nv), .val (.double tv), .second, .unset, .unset] [(.double r1)])) _
          refine XS.dconst1 X115.here hx rfl (hb hby at_317) (v := (4607182418800017408 : UInt64)) rfl ?_
          show Steps p.tables e below (T115.setTop (mkF m 318 #[.val (.int x1), .val (.int x2), .val (.int x3), .val (.int x4), .val (.long x5), .second, .val (.int sv), .val (.int fv), .val (.int kv), .val (.int ev), .val (.double uv), .second, .val (.double jv), .second, .val (.ref b28), .val (.ref b30), .val (.ref b32), .val (.ref b36), .val (.ref b38), .val (.double r1), .second, .val (.double r2), .second, .val (.double r3), .second, .val (.double r4), .second, .val (.double r5), .second, .val (.int nv), .val (.double tv), .second, .unset, .unset] [(.double (4607182418800017408 : UInt64)), (.double r1)])) _
          refine XS.dcmpS X115.here hx rfl (hb hby at_318) rfl rfl ?_
          show Steps p.tables e below (T115.setTop (mkF m 319 #[.val (.int x1), .val (.int x2), .val (.int x3), .val (.int x4), .val (.long x5), .second, .val (.int sv), .val (.int fv), .val (.int kv), .val (.int ev), .val (.double uv), .second, .val (.double jv), .second, .val (.ref b28), .val (.ref b30), .val (.ref b32), .val (.ref b36), .val (.ref b38), .val (.double r1), .second, .val (.double r2), .second, .val (.double r3), .second, .val (.double r4), .second, .val (.double r5), .second, .val (.int nv), .val (.double tv), .second, .unset, .unset] [(.int (cmpValue (FP.dcmp r1 (4607182418800017408 : UInt64)) .l))])) _
          refine XS.ifYes X115.here hx rfl (pc0 := 319) (pc' := 324) rfl (hb hby at_319) rfl ((if0 _ _).trans (teq (own_veq (OwnFl.own_cmp_eq vr1 OwnFl.own_one hn0 (by decide) (by have := (own_zi eS).mp hc312; omega)) .l)).1) (by decide) (by decide) ?_
          exact kt
        exact ⟨T115, _, X115, e115, N115, pre122⟩
      · skip
        have pre123 : ∀ t, Steps p.tables e below (T115.setTop (mkF m 324 #[.val (.int x1), .val (.int x2), .val (.int x3), .val (.int x4), .val (.long x5), .second, .val (.int sv), .val (.int fv), .val (.int kv), .val (.int ev), .val (.double uv), .second, .val (.double jv), .second, .val (.ref b28), .val (.ref b30), .val (.ref b32), .val (.ref b36), .val (.ref b38), .val (.double r1), .second, .val (.double r2), .second, .val (.double r3), .second, .val (.double r4), .second, .val (.double r5), .second, .val (.int nv), .val (.double tv), .second, .unset, .unset] [])) t → Steps p.tables e below (T115.setTop (mkF m 310 #[.val (.int x1), .val (.int x2), .val (.int x3), .val (.int x4), .val (.long x5), .second, .val (.int sv), .val (.int fv), .val (.int kv), .val (.int ev), .val (.double uv), .second, .val (.double jv), .second, .val (.ref b28), .val (.ref b30), .val (.ref b32), .val (.ref b36), .val (.ref b38), .val (.double r1), .second, .val (.double r2), .second, .val (.double r3), .second, .val (.double r4), .second, .val (.double r5), .second, .val (.int nv), .val (.double tv), .second, .unset, .unset] [])) t := by
          intro t kt
          refine pre121 t ?_
          show Steps p.tables e below (T115.setTop (mkF m 312 #[.val (.int x1), .val (.int x2), .val (.int x3), .val (.int x4), .val (.long x5), .second, .val (.int sv), .val (.int fv), .val (.int kv), .val (.int ev), .val (.double uv), .second, .val (.double jv), .second, .val (.ref b28), .val (.ref b30), .val (.ref b32), .val (.ref b36), .val (.ref b38), .val (.double r1), .second, .val (.double r2), .second, .val (.double r3), .second, .val (.double r4), .second, .val (.double r5), .second, .val (.int nv), .val (.double tv), .second, .unset, .unset] [(.int sv)])) _
          refine XS.ifYes X115.here hx rfl (pc0 := 312) (pc' := 324) rfl (hb hby at_312) rfl ((if0 _ _).trans (feq hc312).2) (by decide) (by decide) ?_
          exact kt
        exact ⟨T115, _, X115, e115, N115, pre123⟩
    have pre124 : ∀ t, Steps p.tables e below (T120.setTop (mkF m 324 #[.val (.int x1), .val (.int x2), .val (.int x3), .val (.int x4), .val (.long x5), .second, .val (.int sv), .val (.int fv), .val (.int kv), .val (.int ev), .val (.double uv), .second, .val (.double jv), .second, .val (.ref b28), .val (.ref b30), .val (.ref b32), .val (.ref b36), .val (.ref b38), .val (.double r1), .second, .val (.double r2), .second, .val (.double r3), .second, .val (.double r4), .second, .val (.double r5), .second, .val (.int nv), .val (.double tv), .second, .unset, .unset] [])) t → Steps p.tables e below (s₁.setTop (entryFrame m #[(.int x1), (.int x2), (.int x3), (.int x4), (.long x5)] maxLocals)) t := by
      intro t kt
      refine pre119 t ?_
      show Steps p.tables e below (T115.setTop (mkF m 310 #[.val (.int x1), .val (.int x2), .val (.int x3), .val (.int x4), .val (.long x5), .second, .val (.int sv), .val (.int fv), .val (.int kv), .val (.int ev), .val (.double uv), .second, .val (.double jv), .second, .val (.ref b28), .val (.ref b30), .val (.ref b32), .val (.ref b36), .val (.ref b38), .val (.double r1), .second, .val (.double r2), .second, .val (.double r3), .second, .val (.double r4), .second, .val (.double r5), .second, .val (.int nv), .val (.double tv), .second, .unset, .unset] [])) _
      refine k120 _ ?_
      exact kt
    obtain ⟨T125, L125, X125, e125, N125, k125⟩ : ∃  (T125 : State) (L125 : List Loc), Stand p l e room_1 s m #[(.int x1), (.int x2), (.int x3), (.int x4), (.long x5)] below meth c T125 L125 5 15 ∧ T125.heap = T39.heap ∧ Fr n0 L125 ∧ ∀ t, Steps p.tables e below (T125.setTop (mkF m 342 #[.val (.int x1), .val (.int x2), .val (.int x3), .val (.int x4), .val (.long x5), .second, .val (.int sv), .val (.int fv), .val (.int kv), .val (.int ev), .val (.double uv), .second, .val (.double jv), .second, .val (.ref b28), .val (.ref b30), .val (.ref b32), .val (.ref b36), .val (.ref b38), .val (.double r1), .second, .val (.double r2), .second, .val (.double r3), .second, .val (.double r4), .second, .val (.double r5), .second, .val (.int nv), .val (.double tv), .second, .unset, .unset] [])) t → Steps p.tables e below (T120.setTop (mkF m 324 #[.val (.int x1), .val (.int x2), .val (.int x3), .val (.int x4), .val (.long x5), .second, .val (.int sv), .val (.int fv), .val (.int kv), .val (.int ev), .val (.double uv), .second, .val (.double jv), .second, .val (.ref b28), .val (.ref b30), .val (.ref b32), .val (.ref b36), .val (.ref b38), .val (.double r1), .second, .val (.double r2), .second, .val (.double r3), .second, .val (.double r4), .second, .val (.double r5), .second, .val (.int nv), .val (.double tv), .second, .unset, .unset] [])) t := by
      have pj125 : ∀ t, Steps p.tables e below (T120.setTop (mkF m 324 #[.val (.int x1), .val (.int x2), .val (.int x3), .val (.int x4), .val (.long x5), .second, .val (.int sv), .val (.int fv), .val (.int kv), .val (.int ev), .val (.double uv), .second, .val (.double jv), .second, .val (.ref b28), .val (.ref b30), .val (.ref b32), .val (.ref b36), .val (.ref b38), .val (.double r1), .second, .val (.double r2), .second, .val (.double r3), .second, .val (.double r4), .second, .val (.double r5), .second, .val (.int nv), .val (.double tv), .second, .unset, .unset] [])) t → Steps p.tables e below (T120.setTop (mkF m 324 #[.val (.int x1), .val (.int x2), .val (.int x3), .val (.int x4), .val (.long x5), .second, .val (.int sv), .val (.int fv), .val (.int kv), .val (.int ev), .val (.double uv), .second, .val (.double jv), .second, .val (.ref b28), .val (.ref b30), .val (.ref b32), .val (.ref b36), .val (.ref b38), .val (.double r1), .second, .val (.double r2), .second, .val (.double r3), .second, .val (.double r4), .second, .val (.double r5), .second, .val (.int nv), .val (.double tv), .second, .unset, .unset] [])) t := fun _ k => k
      have pre126 : ∀ t, Steps p.tables e below (T120.setTop (mkF m 328 #[.val (.int x1), .val (.int x2), .val (.int x3), .val (.int x4), .val (.long x5), .second, .val (.int sv), .val (.int fv), .val (.int kv), .val (.int ev), .val (.double uv), .second, .val (.double jv), .second, .val (.ref b28), .val (.ref b30), .val (.ref b32), .val (.ref b36), .val (.ref b38), .val (.double r1), .second, .val (.double r2), .second, .val (.double r3), .second, .val (.double r4), .second, .val (.double r5), .second, .val (.int nv), .val (.double tv), .second, .unset, .unset] [(.int fv), (.int sv)])) t → Steps p.tables e below (T120.setTop (mkF m 324 #[.val (.int x1), .val (.int x2), .val (.int x3), .val (.int x4), .val (.long x5), .second, .val (.int sv), .val (.int fv), .val (.int kv), .val (.int ev), .val (.double uv), .second, .val (.double jv), .second, .val (.ref b28), .val (.ref b30), .val (.ref b32), .val (.ref b36), .val (.ref b38), .val (.double r1), .second, .val (.double r2), .second, .val (.double r3), .second, .val (.double r4), .second, .val (.double r5), .second, .val (.int nv), .val (.double tv), .second, .unset, .unset] [])) t := by
        intro t kt
        refine pj125 t ?_
        show Steps p.tables e below (T120.setTop (mkF m 324 #[.val (.int x1), .val (.int x2), .val (.int x3), .val (.int x4), .val (.long x5), .second, .val (.int sv), .val (.int fv), .val (.int kv), .val (.int ev), .val (.double uv), .second, .val (.double jv), .second, .val (.ref b28), .val (.ref b30), .val (.ref b32), .val (.ref b36), .val (.ref b38), .val (.double r1), .second, .val (.double r2), .second, .val (.double r3), .second, .val (.double r4), .second, .val (.double r5), .second, .val (.int nv), .val (.double tv), .second, .unset, .unset] [])) _
        refine XS.iload X120.here hx rfl (hb hby at_324) rfl ?_
        show Steps p.tables e below (T120.setTop (mkF m 326 #[.val (.int x1), .val (.int x2), .val (.int x3), .val (.int x4), .val (.long x5), .second, .val (.int sv), .val (.int fv), .val (.int kv), .val (.int ev), .val (.double uv), .second, .val (.double jv), .second, .val (.ref b28), .val (.ref b30), .val (.ref b32), .val (.ref b36), .val (.ref b38), .val (.double r1), .second, .val (.double r2), .second, .val (.double r3), .second, .val (.double r4), .second, .val (.double r5), .second, .val (.int nv), .val (.double tv), .second, .unset, .unset] [(.int sv)])) _
        refine XS.iload X120.here hx rfl (hb hby at_326) rfl ?_
        exact kt
      by_cases hc328 : sv = fv
      · skip
        have pre127 : ∀ t, Steps p.tables e below (T120.setTop (mkF m 342 #[.val (.int x1), .val (.int x2), .val (.int x3), .val (.int x4), .val (.long x5), .second, .val (.int sv), .val (.int fv), .val (.int kv), .val (.int ev), .val (.double uv), .second, .val (.double jv), .second, .val (.ref b28), .val (.ref b30), .val (.ref b32), .val (.ref b36), .val (.ref b38), .val (.double r1), .second, .val (.double r2), .second, .val (.double r3), .second, .val (.double r4), .second, .val (.double r5), .second, .val (.int nv), .val (.double tv), .second, .unset, .unset] [])) t → Steps p.tables e below (T120.setTop (mkF m 324 #[.val (.int x1), .val (.int x2), .val (.int x3), .val (.int x4), .val (.long x5), .second, .val (.int sv), .val (.int fv), .val (.int kv), .val (.int ev), .val (.double uv), .second, .val (.double jv), .second, .val (.ref b28), .val (.ref b30), .val (.ref b32), .val (.ref b36), .val (.ref b38), .val (.double r1), .second, .val (.double r2), .second, .val (.double r3), .second, .val (.double r4), .second, .val (.double r5), .second, .val (.int nv), .val (.double tv), .second, .unset, .unset] [])) t := by
          intro t kt
          refine pre126 t ?_
          show Steps p.tables e below (T120.setTop (mkF m 328 #[.val (.int x1), .val (.int x2), .val (.int x3), .val (.int x4), .val (.long x5), .second, .val (.int sv), .val (.int fv), .val (.int kv), .val (.int ev), .val (.double uv), .second, .val (.double jv), .second, .val (.ref b28), .val (.ref b30), .val (.ref b32), .val (.ref b36), .val (.ref b38), .val (.double r1), .second, .val (.double r2), .second, .val (.double r3), .second, .val (.double r4), .second, .val (.double r5), .second, .val (.int nv), .val (.double tv), .second, .unset, .unset] [(.int fv), (.int sv)])) _
          refine XS.icmpNo X120.here hx rfl (hb hby at_328) rfl (teq hc328).2 ?_
          show Steps p.tables e below (T120.setTop (mkF m 331 #[.val (.int x1), .val (.int x2), .val (.int x3), .val (.int x4), .val (.long x5), .second, .val (.int sv), .val (.int fv), .val (.int kv), .val (.int ev), .val (.double uv), .second, .val (.double jv), .second, .val (.ref b28), .val (.ref b30), .val (.ref b32), .val (.ref b36), .val (.ref b38), .val (.double r1), .second, .val (.double r2), .second, .val (.double r3), .second, .val (.double r4), .second, .val (.double r5), .second, .val (.int nv), .val (.double tv), .second, .unset, .unset] [])) _
          refine XS.dload X120.here hx rfl (hb hby at_331) rfl ?_
          show Steps p.tables e below (T120.setTop (mkF m 333 #[.val (.int x1), .val (.int x2), .val (.int x3), .val (.int x4), .val (.long x5), .second, .val (.int sv), .val (.int fv), .val (.int kv), .val (.int ev), .val (.double uv), .second, .val (.double jv), .second, .val (.ref b28), .val (.ref b30), .val (.ref b32), .val (.ref b36), .val (.ref b38), .val (.double r1), .second, .val (.double r2), .second, .val (.double r3), .second, .val (.double r4), .second, .val (.double r5), .second, .val (.int nv), .val (.double tv), .second, .unset, .unset] [(.double r1)])) _
          refine X120.ldc2DoubleC hx hown (mvT hZ (own_wd hw 27 rfl)) (g := (mkF m 333 #[.val (.int x1), .val (.int x2), .val (.int x3), .val (.int x4), .val (.long x5), .second, .val (.int sv), .val (.int fv), .val (.int kv), .val (.int ev), .val (.double uv), .second, .val (.double jv), .second, .val (.ref b28), .val (.ref b30), .val (.ref b32), .val (.ref b36), .val (.ref b38), .val (.double r1), .second, .val (.double r2), .second, .val (.double r3), .second, .val (.double r4), .second, .val (.double r5), .second, .val (.int nv), .val (.double tv), .second, .unset, .unset] [(.double r1)])) rfl (hb hby at_333) _ ?_
          show Steps p.tables e below (T120.setTop (mkF m 336 #[.val (.int x1), .val (.int x2), .val (.int x3), .val (.int x4), .val (.long x5), .second, .val (.int sv), .val (.int fv), .val (.int kv), .val (.int ev), .val (.double uv), .second, .val (.double jv), .second, .val (.ref b28), .val (.ref b30), .val (.ref b32), .val (.ref b36), .val (.ref b38), .val (.double r1), .second, .val (.double r2), .second, .val (.double r3), .second, .val (.double r4), .second, .val (.double r5), .second, .val (.int nv), .val (.double tv), .second, .unset, .unset] [(.double (4602678819172646912 : UInt64)), (.double r1)])) _
          refine XS.dcmpS X120.here hx rfl (hb hby at_336) rfl rfl ?_
          show Steps p.tables e below (T120.setTop (mkF m 337 #[.val (.int x1), .val (.int x2), .val (.int x3), .val (.int x4), .val (.long x5), .second, .val (.int sv), .val (.int fv), .val (.int kv), .val (.int ev), .val (.double uv), .second, .val (.double jv), .second, .val (.ref b28), .val (.ref b30), .val (.ref b32), .val (.ref b36), .val (.ref b38), .val (.double r1), .second, .val (.double r2), .second, .val (.double r3), .second, .val (.double r4), .second, .val (.double r5), .second, .val (.int nv), .val (.double tv), .second, .unset, .unset] [(.int (cmpValue (FP.dcmp r1 (4602678819172646912 : UInt64)) .l))])) _
          refine XS.ifYes X120.here hx rfl (pc0 := 337) (pc' := 342) rfl (hb hby at_337) rfl ((if0 _ _).trans (teq (own_veq (OwnFl.own_cmp_eq vr1 OwnFl.own_half hn0 (by decide) (by have := (own_ei eS eF).mp hc328; omega)) .l)).1) (by decide) (by decide) ?_
          exact kt
        exact ⟨T120, _, X120, e120, N120, pre127⟩
      · skip
        have pre128 : ∀ t, Steps p.tables e below (T120.setTop (mkF m 342 #[.val (.int x1), .val (.int x2), .val (.int x3), .val (.int x4), .val (.long x5), .second, .val (.int sv), .val (.int fv), .val (.int kv), .val (.int ev), .val (.double uv), .second, .val (.double jv), .second, .val (.ref b28), .val (.ref b30), .val (.ref b32), .val (.ref b36), .val (.ref b38), .val (.double r1), .second, .val (.double r2), .second, .val (.double r3), .second, .val (.double r4), .second, .val (.double r5), .second, .val (.int nv), .val (.double tv), .second, .unset, .unset] [])) t → Steps p.tables e below (T120.setTop (mkF m 324 #[.val (.int x1), .val (.int x2), .val (.int x3), .val (.int x4), .val (.long x5), .second, .val (.int sv), .val (.int fv), .val (.int kv), .val (.int ev), .val (.double uv), .second, .val (.double jv), .second, .val (.ref b28), .val (.ref b30), .val (.ref b32), .val (.ref b36), .val (.ref b38), .val (.double r1), .second, .val (.double r2), .second, .val (.double r3), .second, .val (.double r4), .second, .val (.double r5), .second, .val (.int nv), .val (.double tv), .second, .unset, .unset] [])) t := by
          intro t kt
          refine pre126 t ?_
          show Steps p.tables e below (T120.setTop (mkF m 328 #[.val (.int x1), .val (.int x2), .val (.int x3), .val (.int x4), .val (.long x5), .second, .val (.int sv), .val (.int fv), .val (.int kv), .val (.int ev), .val (.double uv), .second, .val (.double jv), .second, .val (.ref b28), .val (.ref b30), .val (.ref b32), .val (.ref b36), .val (.ref b38), .val (.double r1), .second, .val (.double r2), .second, .val (.double r3), .second, .val (.double r4), .second, .val (.double r5), .second, .val (.int nv), .val (.double tv), .second, .unset, .unset] [(.int fv), (.int sv)])) _
          refine XS.icmpYes X120.here hx rfl (pc0 := 328) (pc' := 342) rfl (hb hby at_328) rfl (feq hc328).2 (by decide) (by decide) ?_
          exact kt
        exact ⟨T120, _, X120, e120, N120, pre128⟩
    have pre129 : ∀ t, Steps p.tables e below (T125.setTop (mkF m 342 #[.val (.int x1), .val (.int x2), .val (.int x3), .val (.int x4), .val (.long x5), .second, .val (.int sv), .val (.int fv), .val (.int kv), .val (.int ev), .val (.double uv), .second, .val (.double jv), .second, .val (.ref b28), .val (.ref b30), .val (.ref b32), .val (.ref b36), .val (.ref b38), .val (.double r1), .second, .val (.double r2), .second, .val (.double r3), .second, .val (.double r4), .second, .val (.double r5), .second, .val (.int nv), .val (.double tv), .second, .unset, .unset] [])) t → Steps p.tables e below (s₁.setTop (entryFrame m #[(.int x1), (.int x2), (.int x3), (.int x4), (.long x5)] maxLocals)) t := by
      intro t kt
      refine pre124 t ?_
      show Steps p.tables e below (T120.setTop (mkF m 324 #[.val (.int x1), .val (.int x2), .val (.int x3), .val (.int x4), .val (.long x5), .second, .val (.int sv), .val (.int fv), .val (.int kv), .val (.int ev), .val (.double uv), .second, .val (.double jv), .second, .val (.ref b28), .val (.ref b30), .val (.ref b32), .val (.ref b36), .val (.ref b38), .val (.double r1), .second, .val (.double r2), .second, .val (.double r3), .second, .val (.double r4), .second, .val (.double r5), .second, .val (.int nv), .val (.double tv), .second, .unset, .unset] [])) _
      refine k125 _ ?_
      exact kt
    obtain ⟨T130, L130, X130, e130, N130, k130⟩ : ∃  (T130 : State) (L130 : List Loc), Stand p l e room_1 s m #[(.int x1), (.int x2), (.int x3), (.int x4), (.long x5)] below meth c T130 L130 5 15 ∧ T130.heap = T39.heap ∧ Fr n0 L130 ∧ ∀ t, Steps p.tables e below (T130.setTop (mkF m 375 #[.val (.int x1), .val (.int x2), .val (.int x3), .val (.int x4), .val (.long x5), .second, .val (.int sv), .val (.int fv), .val (.int kv), .val (.int ev), .val (.double uv), .second, .val (.double jv), .second, .val (.ref b28), .val (.ref b30), .val (.ref b32), .val (.ref b36), .val (.ref b38), .val (.double r1), .second, .val (.double r2), .second, .val (.double r3), .second, .val (.double r4), .second, .val (.double r5), .second, .val (.int nv), .val (.double tv), .second, .unset, .unset] [(.int (1 : Int32))])) t → Steps p.tables e below (T125.setTop (mkF m 342 #[.val (.int x1), .val (.int x2), .val (.int x3), .val (.int x4), .val (.long x5), .second, .val (.int sv), .val (.int fv), .val (.int kv), .val (.int ev), .val (.double uv), .second, .val (.double jv), .second, .val (.ref b28), .val (.ref b30), .val (.ref b32), .val (.ref b36), .val (.ref b38), .val (.double r1), .second, .val (.double r2), .second, .val (.double r3), .second, .val (.double r4), .second, .val (.double r5), .second, .val (.int nv), .val (.double tv), .second, .unset, .unset] [])) t := by
      have pj130 : ∀ t, Steps p.tables e below (T125.setTop (mkF m 342 #[.val (.int x1), .val (.int x2), .val (.int x3), .val (.int x4), .val (.long x5), .second, .val (.int sv), .val (.int fv), .val (.int kv), .val (.int ev), .val (.double uv), .second, .val (.double jv), .second, .val (.ref b28), .val (.ref b30), .val (.ref b32), .val (.ref b36), .val (.ref b38), .val (.double r1), .second, .val (.double r2), .second, .val (.double r3), .second, .val (.double r4), .second, .val (.double r5), .second, .val (.int nv), .val (.double tv), .second, .unset, .unset] [])) t → Steps p.tables e below (T125.setTop (mkF m 342 #[.val (.int x1), .val (.int x2), .val (.int x3), .val (.int x4), .val (.long x5), .second, .val (.int sv), .val (.int fv), .val (.int kv), .val (.int ev), .val (.double uv), .second, .val (.double jv), .second, .val (.ref b28), .val (.ref b30), .val (.ref b32), .val (.ref b36), .val (.ref b38), .val (.double r1), .second, .val (.double r2), .second, .val (.double r3), .second, .val (.double r4), .second, .val (.double r5), .second, .val (.int nv), .val (.double tv), .second, .unset, .unset] [])) t := fun _ k => k
      have pre131 : ∀ t, Steps p.tables e below (T125.setTop (mkF m 344 #[.val (.int x1), .val (.int x2), .val (.int x3), .val (.int x4), .val (.long x5), .second, .val (.int sv), .val (.int fv), .val (.int kv), .val (.int ev), .val (.double uv), .second, .val (.double jv), .second, .val (.ref b28), .val (.ref b30), .val (.ref b32), .val (.ref b36), .val (.ref b38), .val (.double r1), .second, .val (.double r2), .second, .val (.double r3), .second, .val (.double r4), .second, .val (.double r5), .second, .val (.int nv), .val (.double tv), .second, .unset, .unset] [(.int sv)])) t → Steps p.tables e below (T125.setTop (mkF m 342 #[.val (.int x1), .val (.int x2), .val (.int x3), .val (.int x4), .val (.long x5), .second, .val (.int sv), .val (.int fv), .val (.int kv), .val (.int ev), .val (.double uv), .second, .val (.double jv), .second, .val (.ref b28), .val (.ref b30), .val (.ref b32), .val (.ref b36), .val (.ref b38), .val (.double r1), .second, .val (.double r2), .second, .val (.double r3), .second, .val (.double r4), .second, .val (.double r5), .second, .val (.int nv), .val (.double tv), .second, .unset, .unset] [])) t := by
        intro t kt
        refine pj130 t ?_
        show Steps p.tables e below (T125.setTop (mkF m 342 #[.val (.int x1), .val (.int x2), .val (.int x3), .val (.int x4), .val (.long x5), .second, .val (.int sv), .val (.int fv), .val (.int kv), .val (.int ev), .val (.double uv), .second, .val (.double jv), .second, .val (.ref b28), .val (.ref b30), .val (.ref b32), .val (.ref b36), .val (.ref b38), .val (.double r1), .second, .val (.double r2), .second, .val (.double r3), .second, .val (.double r4), .second, .val (.double r5), .second, .val (.int nv), .val (.double tv), .second, .unset, .unset] [])) _
        refine XS.iload X125.here hx rfl (hb hby at_342) rfl ?_
        exact kt
      by_cases hc344 : (0 : Int32) < sv
      · skip
        have pre132 : ∀ t, Steps p.tables e below (T125.setTop (mkF m 375 #[.val (.int x1), .val (.int x2), .val (.int x3), .val (.int x4), .val (.long x5), .second, .val (.int sv), .val (.int fv), .val (.int kv), .val (.int ev), .val (.double uv), .second, .val (.double jv), .second, .val (.ref b28), .val (.ref b30), .val (.ref b32), .val (.ref b36), .val (.ref b38), .val (.double r1), .second, .val (.double r2), .second, .val (.double r3), .second, .val (.double r4), .second, .val (.double r5), .second, .val (.int nv), .val (.double tv), .second, .unset, .unset] [(.int (1 : Int32))])) t → Steps p.tables e below (T125.setTop (mkF m 342 #[.val (.int x1), .val (.int x2), .val (.int x3), .val (.int x4), .val (.long x5), .second, .val (.int sv), .val (.int fv), .val (.int kv), .val (.int ev), .val (.double uv), .second, .val (.double jv), .second, .val (.ref b28), .val (.ref b30), .val (.ref b32), .val (.ref b36), .val (.ref b38), .val (.double r1), .second, .val (.double r2), .second, .val (.double r3), .second, .val (.double r4), .second, .val (.double r5), .second, .val (.int nv), .val (.double tv), .second, .unset, .unset] [])) t := by
          intro t kt
          refine pre131 t ?_
          show Steps p.tables e below (T125.setTop (mkF m 344 #[.val (.int x1), .val (.int x2), .val (.int x3), .val (.int x4), .val (.long x5), .second, .val (.int sv), .val (.int fv), .val (.int kv), .val (.int ev), .val (.double uv), .second, .val (.double jv), .second, .val (.ref b28), .val (.ref b30), .val (.ref b32), .val (.ref b36), .val (.ref b38), .val (.double r1), .second, .val (.double r2), .second, .val (.double r3), .second, .val (.double r4), .second, .val (.double r5), .second, .val (.int nv), .val (.double tv), .second, .unset, .unset] [(.int sv)])) _
          refine XS.ifNo X125.here hx rfl (hb hby at_344) rfl ((if0 _ _).trans (tlt hc344).2.2.2) ?_
          show Steps p.tables e below (T125.setTop (mkF m 347 #[.val (.int x1), .val (.int x2), .val (.int x3), .val (.int x4), .val (.long x5), .second, .val (.int sv), .val (.int fv), .val (.int kv), .val (.int ev), .val (.double uv), .second, .val (.double jv), .second, .val (.ref b28), .val (.ref b30), .val (.ref b32), .val (.ref b36), .val (.ref b38), .val (.double r1), .second, .val (.double r2), .second, .val (.double r3), .second, .val (.double r4), .second, .val (.double r5), .second, .val (.int nv), .val (.double tv), .second, .unset, .unset] [])) _
          refine XS.dload X125.here hx rfl (hb hby at_347) rfl ?_
          show Steps p.tables e below (T125.setTop (mkF m 349 #[.val (.int x1), .val (.int x2), .val (.int x3), .val (.int x4), .val (.long x5), .second, .val (.int sv), .val (.int fv), .val (.int kv), .val (.int ev), .val (.double uv), .second, .val (.double jv), .second, .val (.ref b28), .val (.ref b30), .val (.ref b32), .val (.ref b36), .val (.ref b38), .val (.double r1), .second, .val (.double r2), .second, .val (.double r3), .second, .val (.double r4), .second, .val (.double r5), .second, .val (.int nv), .val (.double tv), .second, .unset, .unset] [(.double r4)])) _
          refine XS.dload X125.here hx rfl (hb hby at_349) rfl ?_
          show Steps p.tables e below (T125.setTop (mkF m 351 #[.val (.int x1), .val (.int x2), .val (.int x3), .val (.int x4), .val (.long x5), .second, .val (.int sv), .val (.int fv), .val (.int kv), .val (.int ev), .val (.double uv), .second, .val (.double jv), .second, .val (.ref b28), .val (.ref b30), .val (.ref b32), .val (.ref b36), .val (.ref b38), .val (.double r1), .second, .val (.double r2), .second, .val (.double r3), .second, .val (.double r4), .second, .val (.double r5), .second, .val (.int nv), .val (.double tv), .second, .unset, .unset] [(.double r1), (.double r4)])) _
          refine XS.dcmpS X125.here hx rfl (hb hby at_351) rfl rfl ?_
          show Steps p.tables e below (T125.setTop (mkF m 352 #[.val (.int x1), .val (.int x2), .val (.int x3), .val (.int x4), .val (.long x5), .second, .val (.int sv), .val (.int fv), .val (.int kv), .val (.int ev), .val (.double uv), .second, .val (.double jv), .second, .val (.ref b28), .val (.ref b30), .val (.ref b32), .val (.ref b36), .val (.ref b38), .val (.double r1), .second, .val (.double r2), .second, .val (.double r3), .second, .val (.double r4), .second, .val (.double r5), .second, .val (.int nv), .val (.double tv), .second, .unset, .unset] [(.int (cmpValue (FP.dcmp r4 r1) .l))])) _
          refine XS.ifNo X125.here hx rfl (hb hby at_352) rfl ((if0 _ _).trans (tlt (own_vgt (OwnFl.own_cmp_gt vr4 vr1 (by omega) hn0 (by omega) (by omega) (by omega) (own_ff ((own_pi eS).mp hc344))) .l)).2.2.2) ?_
          show Steps p.tables e below (T125.setTop (mkF m 355 #[.val (.int x1), .val (.int x2), .val (.int x3), .val (.int x4), .val (.long x5), .second, .val (.int sv), .val (.int fv), .val (.int kv), .val (.int ev), .val (.double uv), .second, .val (.double jv), .second, .val (.ref b28), .val (.ref b30), .val (.ref b32), .val (.ref b36), .val (.ref b38), .val (.double r1), .second, .val (.double r2), .second, .val (.double r3), .second, .val (.double r4), .second, .val (.double r5), .second, .val (.int nv), .val (.double tv), .second, .unset, .unset] [])) _
          refine XS.iconst X125.here hx rfl (hb hby at_355) ?_
          show Steps p.tables e below (T125.setTop (mkF m 356 #[.val (.int x1), .val (.int x2), .val (.int x3), .val (.int x4), .val (.long x5), .second, .val (.int sv), .val (.int fv), .val (.int kv), .val (.int ev), .val (.double uv), .second, .val (.double jv), .second, .val (.ref b28), .val (.ref b30), .val (.ref b32), .val (.ref b36), .val (.ref b38), .val (.double r1), .second, .val (.double r2), .second, .val (.double r3), .second, .val (.double r4), .second, .val (.double r5), .second, .val (.int nv), .val (.double tv), .second, .unset, .unset] [(.int (1 : Int32))])) _
          refine XS.goto X125.here hx rfl (pc0 := 356) (pc' := 375) rfl (hb hby at_356) (by decide) (by decide) ?_
          exact kt
        exact ⟨T125, _, X125, e125, N125, pre132⟩
      · skip
        have pre133 : ∀ t, Steps p.tables e below (T125.setTop (mkF m 375 #[.val (.int x1), .val (.int x2), .val (.int x3), .val (.int x4), .val (.long x5), .second, .val (.int sv), .val (.int fv), .val (.int kv), .val (.int ev), .val (.double uv), .second, .val (.double jv), .second, .val (.ref b28), .val (.ref b30), .val (.ref b32), .val (.ref b36), .val (.ref b38), .val (.double r1), .second, .val (.double r2), .second, .val (.double r3), .second, .val (.double r4), .second, .val (.double r5), .second, .val (.int nv), .val (.double tv), .second, .unset, .unset] [(.int (1 : Int32))])) t → Steps p.tables e below (T125.setTop (mkF m 342 #[.val (.int x1), .val (.int x2), .val (.int x3), .val (.int x4), .val (.long x5), .second, .val (.int sv), .val (.int fv), .val (.int kv), .val (.int ev), .val (.double uv), .second, .val (.double jv), .second, .val (.ref b28), .val (.ref b30), .val (.ref b32), .val (.ref b36), .val (.ref b38), .val (.double r1), .second, .val (.double r2), .second, .val (.double r3), .second, .val (.double r4), .second, .val (.double r5), .second, .val (.int nv), .val (.double tv), .second, .unset, .unset] [])) t := by
          intro t kt
          refine pre131 t ?_
          show Steps p.tables e below (T125.setTop (mkF m 344 #[.val (.int x1), .val (.int x2), .val (.int x3), .val (.int x4), .val (.long x5), .second, .val (.int sv), .val (.int fv), .val (.int kv), .val (.int ev), .val (.double uv), .second, .val (.double jv), .second, .val (.ref b28), .val (.ref b30), .val (.ref b32), .val (.ref b36), .val (.ref b38), .val (.double r1), .second, .val (.double r2), .second, .val (.double r3), .second, .val (.double r4), .second, .val (.double r5), .second, .val (.int nv), .val (.double tv), .second, .unset, .unset] [(.int sv)])) _
          refine XS.ifYes X125.here hx rfl (pc0 := 344) (pc' := 363) rfl (hb hby at_344) rfl ((if0 _ _).trans (flt hc344).2.2.2) (by decide) (by decide) ?_
          show Steps p.tables e below (T125.setTop (mkF m 363 #[.val (.int x1), .val (.int x2), .val (.int x3), .val (.int x4), .val (.long x5), .second, .val (.int sv), .val (.int fv), .val (.int kv), .val (.int ev), .val (.double uv), .second, .val (.double jv), .second, .val (.ref b28), .val (.ref b30), .val (.ref b32), .val (.ref b36), .val (.ref b38), .val (.double r1), .second, .val (.double r2), .second, .val (.double r3), .second, .val (.double r4), .second, .val (.double r5), .second, .val (.int nv), .val (.double tv), .second, .unset, .unset] [])) _
          refine XS.dload X125.here hx rfl (hb hby at_363) rfl ?_
          show Steps p.tables e below (T125.setTop (mkF m 365 #[.val (.int x1), .val (.int x2), .val (.int x3), .val (.int x4), .val (.long x5), .second, .val (.int sv), .val (.int fv), .val (.int kv), .val (.int ev), .val (.double uv), .second, .val (.double jv), .second, .val (.ref b28), .val (.ref b30), .val (.ref b32), .val (.ref b36), .val (.ref b38), .val (.double r1), .second, .val (.double r2), .second, .val (.double r3), .second, .val (.double r4), .second, .val (.double r5), .second, .val (.int nv), .val (.double tv), .second, .unset, .unset] [(.double r4)])) _
          refine XS.dconst1 X125.here hx rfl (hb hby at_365) (v := (4607182418800017408 : UInt64)) rfl ?_
          show Steps p.tables e below (T125.setTop (mkF m 366 #[.val (.int x1), .val (.int x2), .val (.int x3), .val (.int x4), .val (.long x5), .second, .val (.int sv), .val (.int fv), .val (.int kv), .val (.int ev), .val (.double uv), .second, .val (.double jv), .second, .val (.ref b28), .val (.ref b30), .val (.ref b32), .val (.ref b36), .val (.ref b38), .val (.double r1), .second, .val (.double r2), .second, .val (.double r3), .second, .val (.double r4), .second, .val (.double r5), .second, .val (.int nv), .val (.double tv), .second, .unset, .unset] [(.double (4607182418800017408 : UInt64)), (.double r4)])) _
          refine XS.dcmpS X125.here hx rfl (hb hby at_366) rfl rfl ?_
          show Steps p.tables e below (T125.setTop (mkF m 367 #[.val (.int x1), .val (.int x2), .val (.int x3), .val (.int x4), .val (.long x5), .second, .val (.int sv), .val (.int fv), .val (.int kv), .val (.int ev), .val (.double uv), .second, .val (.double jv), .second, .val (.ref b28), .val (.ref b30), .val (.ref b32), .val (.ref b36), .val (.ref b38), .val (.double r1), .second, .val (.double r2), .second, .val (.double r3), .second, .val (.double r4), .second, .val (.double r5), .second, .val (.int nv), .val (.double tv), .second, .unset, .unset] [(.int (cmpValue (FP.dcmp r4 (4607182418800017408 : UInt64)) .l))])) _
          refine XS.ifNo X125.here hx rfl (hb hby at_367) rfl ((if0 _ _).trans (teq (own_veq (OwnFl.own_cmp_eq vr4 OwnFl.own_one (by omega) (by decide) (by have : ¬ 0 < S := fun q => hc344 ((own_pi eS).mpr q); omega)) .l)).2) ?_
          show Steps p.tables e below (T125.setTop (mkF m 370 #[.val (.int x1), .val (.int x2), .val (.int x3), .val (.int x4), .val (.long x5), .second, .val (.int sv), .val (.int fv), .val (.int kv), .val (.int ev), .val (.double uv), .second, .val (.double jv), .second, .val (.ref b28), .val (.ref b30), .val (.ref b32), .val (.ref b36), .val (.ref b38), .val (.double r1), .second, .val (.double r2), .second, .val (.double r3), .second, .val (.double r4), .second, .val (.double r5), .second, .val (.int nv), .val (.double tv), .second, .unset, .unset] [])) _
          refine XS.iconst X125.here hx rfl (hb hby at_370) ?_
          show Steps p.tables e below (T125.setTop (mkF m 371 #[.val (.int x1), .val (.int x2), .val (.int x3), .val (.int x4), .val (.long x5), .second, .val (.int sv), .val (.int fv), .val (.int kv), .val (.int ev), .val (.double uv), .second, .val (.double jv), .second, .val (.ref b28), .val (.ref b30), .val (.ref b32), .val (.ref b36), .val (.ref b38), .val (.double r1), .second, .val (.double r2), .second, .val (.double r3), .second, .val (.double r4), .second, .val (.double r5), .second, .val (.int nv), .val (.double tv), .second, .unset, .unset] [(.int (1 : Int32))])) _
          refine XS.goto X125.here hx rfl (pc0 := 371) (pc' := 375) rfl (hb hby at_371) (by decide) (by decide) ?_
          exact kt
        exact ⟨T125, _, X125, e125, N125, pre133⟩
    have pre134 : ∀ t, Steps p.tables e below (T130.setTop (mkF m 377 #[.val (.int x1), .val (.int x2), .val (.int x3), .val (.int x4), .val (.long x5), .second, .val (.int sv), .val (.int fv), .val (.int kv), .val (.int ev), .val (.double uv), .second, .val (.double jv), .second, .val (.ref b28), .val (.ref b30), .val (.ref b32), .val (.ref b36), .val (.ref b38), .val (.double r1), .second, .val (.double r2), .second, .val (.double r3), .second, .val (.double r4), .second, .val (.double r5), .second, .val (.int nv), .val (.double tv), .second, .val (.int (1 : Int32)), .unset] [])) t → Steps p.tables e below (s₁.setTop (entryFrame m #[(.int x1), (.int x2), (.int x3), (.int x4), (.long x5)] maxLocals)) t := by
      intro t kt
      refine pre129 t ?_
      show Steps p.tables e below (T125.setTop (mkF m 342 #[.val (.int x1), .val (.int x2), .val (.int x3), .val (.int x4), .val (.long x5), .second, .val (.int sv), .val (.int fv), .val (.int kv), .val (.int ev), .val (.double uv), .second, .val (.double jv), .second, .val (.ref b28), .val (.ref b30), .val (.ref b32), .val (.ref b36), .val (.ref b38), .val (.double r1), .second, .val (.double r2), .second, .val (.double r3), .second, .val (.double r4), .second, .val (.double r5), .second, .val (.int nv), .val (.double tv), .second, .unset, .unset] [])) _
      refine k130 _ ?_
      show Steps p.tables e below (T130.setTop (mkF m 375 #[.val (.int x1), .val (.int x2), .val (.int x3), .val (.int x4), .val (.long x5), .second, .val (.int sv), .val (.int fv), .val (.int kv), .val (.int ev), .val (.double uv), .second, .val (.double jv), .second, .val (.ref b28), .val (.ref b30), .val (.ref b32), .val (.ref b36), .val (.ref b38), .val (.double r1), .second, .val (.double r2), .second, .val (.double r3), .second, .val (.double r4), .second, .val (.double r5), .second, .val (.int nv), .val (.double tv), .second, .unset, .unset] [(.int (1 : Int32))])) _
      refine XS.istore X130.here hx rfl (hb hby at_375) rfl (l' := #[.val (.int x1), .val (.int x2), .val (.int x3), .val (.int x4), .val (.long x5), .second, .val (.int sv), .val (.int fv), .val (.int kv), .val (.int ev), .val (.double uv), .second, .val (.double jv), .second, .val (.ref b28), .val (.ref b30), .val (.ref b32), .val (.ref b36), .val (.ref b38), .val (.double r1), .second, .val (.double r2), .second, .val (.double r3), .second, .val (.double r4), .second, .val (.double r5), .second, .val (.int nv), .val (.double tv), .second, .val (.int (1 : Int32)), .unset]) rfl ?_
      exact kt
    obtain ⟨T135, L135, X135, e135, N135, k135⟩ : ∃  (T135 : State) (L135 : List Loc), Stand p l e room_1 s m #[(.int x1), (.int x2), (.int x3), (.int x4), (.long x5)] below meth c T135 L135 5 15 ∧ T135.heap = T39.heap ∧ Fr n0 L135 ∧ ∀ t, Steps p.tables e below (T135.setTop (mkF m 410 #[.val (.int x1), .val (.int x2), .val (.int x3), .val (.int x4), .val (.long x5), .second, .val (.int sv), .val (.int fv), .val (.int kv), .val (.int ev), .val (.double uv), .second, .val (.double jv), .second, .val (.ref b28), .val (.ref b30), .val (.ref b32), .val (.ref b36), .val (.ref b38), .val (.double r1), .second, .val (.double r2), .second, .val (.double r3), .second, .val (.double r4), .second, .val (.double r5), .second, .val (.int nv), .val (.double tv), .second, .val (.int (1 : Int32)), .unset] [(.int (1 : Int32))])) t → Steps p.tables e below (T130.setTop (mkF m 377 #[.val (.int x1), .val (.int x2), .val (.int x3), .val (.int x4), .val (.long x5), .second, .val (.int sv), .val (.int fv), .val (.int kv), .val (.int ev), .val (.double uv), .second, .val (.double jv), .second, .val (.ref b28), .val (.ref b30), .val (.ref b32), .val (.ref b36), .val (.ref b38), .val (.double r1), .second, .val (.double r2), .second, .val (.double r3), .second, .val (.double r4), .second, .val (.double r5), .second, .val (.int nv), .val (.double tv), .second, .val (.int (1 : Int32)), .unset] [])) t := by
      have pj135 : ∀ t, Steps p.tables e below (T130.setTop (mkF m 377 #[.val (.int x1), .val (.int x2), .val (.int x3), .val (.int x4), .val (.long x5), .second, .val (.int sv), .val (.int fv), .val (.int kv), .val (.int ev), .val (.double uv), .second, .val (.double jv), .second, .val (.ref b28), .val (.ref b30), .val (.ref b32), .val (.ref b36), .val (.ref b38), .val (.double r1), .second, .val (.double r2), .second, .val (.double r3), .second, .val (.double r4), .second, .val (.double r5), .second, .val (.int nv), .val (.double tv), .second, .val (.int (1 : Int32)), .unset] [])) t → Steps p.tables e below (T130.setTop (mkF m 377 #[.val (.int x1), .val (.int x2), .val (.int x3), .val (.int x4), .val (.long x5), .second, .val (.int sv), .val (.int fv), .val (.int kv), .val (.int ev), .val (.double uv), .second, .val (.double jv), .second, .val (.ref b28), .val (.ref b30), .val (.ref b32), .val (.ref b36), .val (.ref b38), .val (.double r1), .second, .val (.double r2), .second, .val (.double r3), .second, .val (.double r4), .second, .val (.double r5), .second, .val (.int nv), .val (.double tv), .second, .val (.int (1 : Int32)), .unset] [])) t := fun _ k => k
      have pre136 : ∀ t, Steps p.tables e below (T130.setTop (mkF m 379 #[.val (.int x1), .val (.int x2), .val (.int x3), .val (.int x4), .val (.long x5), .second, .val (.int sv), .val (.int fv), .val (.int kv), .val (.int ev), .val (.double uv), .second, .val (.double jv), .second, .val (.ref b28), .val (.ref b30), .val (.ref b32), .val (.ref b36), .val (.ref b38), .val (.double r1), .second, .val (.double r2), .second, .val (.double r3), .second, .val (.double r4), .second, .val (.double r5), .second, .val (.int nv), .val (.double tv), .second, .val (.int (1 : Int32)), .unset] [(.int fv)])) t → Steps p.tables e below (T130.setTop (mkF m 377 #[.val (.int x1), .val (.int x2), .val (.int x3), .val (.int x4), .val (.long x5), .second, .val (.int sv), .val (.int fv), .val (.int kv), .val (.int ev), .val (.double uv), .second, .val (.double jv), .second, .val (.ref b28), .val (.ref b30), .val (.ref b32), .val (.ref b36), .val (.ref b38), .val (.double r1), .second, .val (.double r2), .second, .val (.double r3), .second, .val (.double r4), .second, .val (.double r5), .second, .val (.int nv), .val (.double tv), .second, .val (.int (1 : Int32)), .unset] [])) t := by
        intro t kt
        refine pj135 t ?_
        show Steps p.tables e below (T130.setTop (mkF m 377 #[.val (.int x1), .val (.int x2), .val (.int x3), .val (.int x4), .val (.long x5), .second, .val (.int sv), .val (.int fv), .val (.int kv), .val (.int ev), .val (.double uv), .second, .val (.double jv), .second, .val (.ref b28), .val (.ref b30), .val (.ref b32), .val (.ref b36), .val (.ref b38), .val (.double r1), .second, .val (.double r2), .second, .val (.double r3), .second, .val (.double r4), .second, .val (.double r5), .second, .val (.int nv), .val (.double tv), .second, .val (.int (1 : Int32)), .unset] [])) _
        refine XS.iload X130.here hx rfl (hb hby at_377) rfl ?_
        exact kt
      by_cases hc379 : (0 : Int32) < fv
      · skip
        have pre137 : ∀ t, Steps p.tables e below (T130.setTop (mkF m 410 #[.val (.int x1), .val (.int x2), .val (.int x3), .val (.int x4), .val (.long x5), .second, .val (.int sv), .val (.int fv), .val (.int kv), .val (.int ev), .val (.double uv), .second, .val (.double jv), .second, .val (.ref b28), .val (.ref b30), .val (.ref b32), .val (.ref b36), .val (.ref b38), .val (.double r1), .second, .val (.double r2), .second, .val (.double r3), .second, .val (.double r4), .second, .val (.double r5), .second, .val (.int nv), .val (.double tv), .second, .val (.int (1 : Int32)), .unset] [(.int (1 : Int32))])) t → Steps p.tables e below (T130.setTop (mkF m 377 #[.val (.int x1), .val (.int x2), .val (.int x3), .val (.int x4), .val (.long x5), .second, .val (.int sv), .val (.int fv), .val (.int kv), .val (.int ev), .val (.double uv), .second, .val (.double jv), .second, .val (.ref b28), .val (.ref b30), .val (.ref b32), .val (.ref b36), .val (.ref b38), .val (.double r1), .second, .val (.double r2), .second, .val (.double r3), .second, .val (.double r4), .second, .val (.double r5), .second, .val (.int nv), .val (.double tv), .second, .val (.int (1 : Int32)), .unset] [])) t := by
          intro t kt
          refine pre136 t ?_
          show Steps p.tables e below (T130.setTop (mkF m 379 #[.val (.int x1), .val (.int x2), .val (.int x3), .val (.int x4), .val (.long x5), .second, .val (.int sv), .val (.int fv), .val (.int kv), .val (.int ev), .val (.double uv), .second, .val (.double jv), .second, .val (.ref b28), .val (.ref b30), .val (.ref b32), .val (.ref b36), .val (.ref b38), .val (.double r1), .second, .val (.double r2), .second, .val (.double r3), .second, .val (.double r4), .second, .val (.double r5), .second, .val (.int nv), .val (.double tv), .second, .val (.int (1 : Int32)), .unset] [(.int fv)])) _
          refine XS.ifNo X130.here hx rfl (hb hby at_379) rfl ((if0 _ _).trans (tlt hc379).2.2.2) ?_
          show Steps p.tables e below (T130.setTop (mkF m 382 #[.val (.int x1), .val (.int x2), .val (.int x3), .val (.int x4), .val (.long x5), .second, .val (.int sv), .val (.int fv), .val (.int kv), .val (.int ev), .val (.double uv), .second, .val (.double jv), .second, .val (.ref b28), .val (.ref b30), .val (.ref b32), .val (.ref b36), .val (.ref b38), .val (.double r1), .second, .val (.double r2), .second, .val (.double r3), .second, .val (.double r4), .second, .val (.double r5), .second, .val (.int nv), .val (.double tv), .second, .val (.int (1 : Int32)), .unset] [])) _
          refine XS.dload X130.here hx rfl (hb hby at_382) rfl ?_
          show Steps p.tables e below (T130.setTop (mkF m 384 #[.val (.int x1), .val (.int x2), .val (.int x3), .val (.int x4), .val (.long x5), .second, .val (.int sv), .val (.int fv), .val (.int kv), .val (.int ev), .val (.double uv), .second, .val (.double jv), .second, .val (.ref b28), .val (.ref b30), .val (.ref b32), .val (.ref b36), .val (.ref b38), .val (.double r1), .second, .val (.double r2), .second, .val (.double r3), .second, .val (.double r4), .second, .val (.double r5), .second, .val (.int nv), .val (.double tv), .second, .val (.int (1 : Int32)), .unset] [(.double r5)])) _
          refine XS.dload X130.here hx rfl (hb hby at_384) rfl ?_
          show Steps p.tables e below (T130.setTop (mkF m 386 #[.val (.int x1), .val (.int x2), .val (.int x3), .val (.int x4), .val (.long x5), .second, .val (.int sv), .val (.int fv), .val (.int kv), .val (.int ev), .val (.double uv), .second, .val (.double jv), .second, .val (.ref b28), .val (.ref b30), .val (.ref b32), .val (.ref b36), .val (.ref b38), .val (.double r1), .second, .val (.double r2), .second, .val (.double r3), .second, .val (.double r4), .second, .val (.double r5), .second, .val (.int nv), .val (.double tv), .second, .val (.int (1 : Int32)), .unset] [(.double r1), (.double r5)])) _
          refine XS.dcmpS X130.here hx rfl (hb hby at_386) rfl rfl ?_
          show Steps p.tables e below (T130.setTop (mkF m 387 #[.val (.int x1), .val (.int x2), .val (.int x3), .val (.int x4), .val (.long x5), .second, .val (.int sv), .val (.int fv), .val (.int kv), .val (.int ev), .val (.double uv), .second, .val (.double jv), .second, .val (.ref b28), .val (.ref b30), .val (.ref b32), .val (.ref b36), .val (.ref b38), .val (.double r1), .second, .val (.double r2), .second, .val (.double r3), .second, .val (.double r4), .second, .val (.double r5), .second, .val (.int nv), .val (.double tv), .second, .val (.int (1 : Int32)), .unset] [(.int (cmpValue (FP.dcmp r5 r1) .g))])) _
          refine XS.ifNo X130.here hx rfl (hb hby at_387) rfl ((if0 _ _).trans (tlt (own_vlt (OwnFl.own_cmp_lt vr5 vr1 (by omega) hn0 (by omega) (by omega) (by omega) (own_ss ((own_pi eF).mp hc379))) .g)).2.1) ?_
          show Steps p.tables e below (T130.setTop (mkF m 390 #[.val (.int x1), .val (.int x2), .val (.int x3), .val (.int x4), .val (.long x5), .second, .val (.int sv), .val (.int fv), .val (.int kv), .val (.int ev), .val (.double uv), .second, .val (.double jv), .second, .val (.ref b28), .val (.ref b30), .val (.ref b32), .val (.ref b36), .val (.ref b38), .val (.double r1), .second, .val (.double r2), .second, .val (.double r3), .second, .val (.double r4), .second, .val (.double r5), .second, .val (.int nv), .val (.double tv), .second, .val (.int (1 : Int32)), .unset] [])) _
          refine XS.iconst X130.here hx rfl (hb hby at_390) ?_
          show Steps p.tables e below (T130.setTop (mkF m 391 #[.val (.int x1), .val (.int x2), .val (.int x3), .val (.int x4), .val (.long x5), .second, .val (.int sv), .val (.int fv), .val (.int kv), .val (.int ev), .val (.double uv), .second, .val (.double jv), .second, .val (.ref b28), .val (.ref b30), .val (.ref b32), .val (.ref b36), .val (.ref b38), .val (.double r1), .second, .val (.double r2), .second, .val (.double r3), .second, .val (.double r4), .second, .val (.double r5), .second, .val (.int nv), .val (.double tv), .second, .val (.int (1 : Int32)), .unset] [(.int (1 : Int32))])) _
          refine XS.goto X130.here hx rfl (pc0 := 391) (pc' := 410) rfl (hb hby at_391) (by decide) (by decide) ?_
          exact kt
        exact ⟨T130, _, X130, e130, N130, pre137⟩
      · skip
        have pre138 : ∀ t, Steps p.tables e below (T130.setTop (mkF m 410 #[.val (.int x1), .val (.int x2), .val (.int x3), .val (.int x4), .val (.long x5), .second, .val (.int sv), .val (.int fv), .val (.int kv), .val (.int ev), .val (.double uv), .second, .val (.double jv), .second, .val (.ref b28), .val (.ref b30), .val (.ref b32), .val (.ref b36), .val (.ref b38), .val (.double r1), .second, .val (.double r2), .second, .val (.double r3), .second, .val (.double r4), .second, .val (.double r5), .second, .val (.int nv), .val (.double tv), .second, .val (.int (1 : Int32)), .unset] [(.int (1 : Int32))])) t → Steps p.tables e below (T130.setTop (mkF m 377 #[.val (.int x1), .val (.int x2), .val (.int x3), .val (.int x4), .val (.long x5), .second, .val (.int sv), .val (.int fv), .val (.int kv), .val (.int ev), .val (.double uv), .second, .val (.double jv), .second, .val (.ref b28), .val (.ref b30), .val (.ref b32), .val (.ref b36), .val (.ref b38), .val (.double r1), .second, .val (.double r2), .second, .val (.double r3), .second, .val (.double r4), .second, .val (.double r5), .second, .val (.int nv), .val (.double tv), .second, .val (.int (1 : Int32)), .unset] [])) t := by
          intro t kt
          refine pre136 t ?_
          show Steps p.tables e below (T130.setTop (mkF m 379 #[.val (.int x1), .val (.int x2), .val (.int x3), .val (.int x4), .val (.long x5), .second, .val (.int sv), .val (.int fv), .val (.int kv), .val (.int ev), .val (.double uv), .second, .val (.double jv), .second, .val (.ref b28), .val (.ref b30), .val (.ref b32), .val (.ref b36), .val (.ref b38), .val (.double r1), .second, .val (.double r2), .second, .val (.double r3), .second, .val (.double r4), .second, .val (.double r5), .second, .val (.int nv), .val (.double tv), .second, .val (.int (1 : Int32)), .unset] [(.int fv)])) _
          refine XS.ifYes X130.here hx rfl (pc0 := 379) (pc' := 398) rfl (hb hby at_379) rfl ((if0 _ _).trans (flt hc379).2.2.2) (by decide) (by decide) ?_
          show Steps p.tables e below (T130.setTop (mkF m 398 #[.val (.int x1), .val (.int x2), .val (.int x3), .val (.int x4), .val (.long x5), .second, .val (.int sv), .val (.int fv), .val (.int kv), .val (.int ev), .val (.double uv), .second, .val (.double jv), .second, .val (.ref b28), .val (.ref b30), .val (.ref b32), .val (.ref b36), .val (.ref b38), .val (.double r1), .second, .val (.double r2), .second, .val (.double r3), .second, .val (.double r4), .second, .val (.double r5), .second, .val (.int nv), .val (.double tv), .second, .val (.int (1 : Int32)), .unset] [])) _
          refine XS.dload X130.here hx rfl (hb hby at_398) rfl ?_
          show Steps p.tables e below (T130.setTop (mkF m 400 #[.val (.int x1), .val (.int x2), .val (.int x3), .val (.int x4), .val (.long x5), .second, .val (.int sv), .val (.int fv), .val (.int kv), .val (.int ev), .val (.double uv), .second, .val (.double jv), .second, .val (.ref b28), .val (.ref b30), .val (.ref b32), .val (.ref b36), .val (.ref b38), .val (.double r1), .second, .val (.double r2), .second, .val (.double r3), .second, .val (.double r4), .second, .val (.double r5), .second, .val (.int nv), .val (.double tv), .second, .val (.int (1 : Int32)), .unset] [(.double r5)])) _
          refine XS.dconst0 X130.here hx rfl (hb hby at_400) (v := (0 : UInt64)) rfl ?_
          show Steps p.tables e below (T130.setTop (mkF m 401 #[.val (.int x1), .val (.int x2), .val (.int x3), .val (.int x4), .val (.long x5), .second, .val (.int sv), .val (.int fv), .val (.int kv), .val (.int ev), .val (.double uv), .second, .val (.double jv), .second, .val (.ref b28), .val (.ref b30), .val (.ref b32), .val (.ref b36), .val (.ref b38), .val (.double r1), .second, .val (.double r2), .second, .val (.double r3), .second, .val (.double r4), .second, .val (.double r5), .second, .val (.int nv), .val (.double tv), .second, .val (.int (1 : Int32)), .unset] [(.double (0 : UInt64)), (.double r5)])) _
          refine XS.dcmpS X130.here hx rfl (hb hby at_401) rfl rfl ?_
          show Steps p.tables e below (T130.setTop (mkF m 402 #[.val (.int x1), .val (.int x2), .val (.int x3), .val (.int x4), .val (.long x5), .second, .val (.int sv), .val (.int fv), .val (.int kv), .val (.int ev), .val (.double uv), .second, .val (.double jv), .second, .val (.ref b28), .val (.ref b30), .val (.ref b32), .val (.ref b36), .val (.ref b38), .val (.double r1), .second, .val (.double r2), .second, .val (.double r3), .second, .val (.double r4), .second, .val (.double r5), .second, .val (.int nv), .val (.double tv), .second, .val (.int (1 : Int32)), .unset] [(.int (cmpValue (FP.dcmp r5 (0 : UInt64)) .l))])) _
          refine XS.ifNo X130.here hx rfl (hb hby at_402) rfl ((if0 _ _).trans (teq (own_veq (OwnFl.own_cmp_eq vr5 OwnFl.own_zero (by omega) (by decide) (by have : ¬ 0 < F := fun q => hc379 ((own_pi eF).mpr q); omega)) .l)).2) ?_
          show Steps p.tables e below (T130.setTop (mkF m 405 #[.val (.int x1), .val (.int x2), .val (.int x3), .val (.int x4), .val (.long x5), .second, .val (.int sv), .val (.int fv), .val (.int kv), .val (.int ev), .val (.double uv), .second, .val (.double jv), .second, .val (.ref b28), .val (.ref b30), .val (.ref b32), .val (.ref b36), .val (.ref b38), .val (.double r1), .second, .val (.double r2), .second, .val (.double r3), .second, .val (.double r4), .second, .val (.double r5), .second, .val (.int nv), .val (.double tv), .second, .val (.int (1 : Int32)), .unset] [])) _
          refine XS.iconst X130.here hx rfl (hb hby at_405) ?_
          show Steps p.tables e below (T130.setTop (mkF m 406 #[.val (.int x1), .val (.int x2), .val (.int x3), .val (.int x4), .val (.long x5), .second, .val (.int sv), .val (.int fv), .val (.int kv), .val (.int ev), .val (.double uv), .second, .val (.double jv), .second, .val (.ref b28), .val (.ref b30), .val (.ref b32), .val (.ref b36), .val (.ref b38), .val (.double r1), .second, .val (.double r2), .second, .val (.double r3), .second, .val (.double r4), .second, .val (.double r5), .second, .val (.int nv), .val (.double tv), .second, .val (.int (1 : Int32)), .unset] [(.int (1 : Int32))])) _
          refine XS.goto X130.here hx rfl (pc0 := 406) (pc' := 410) rfl (hb hby at_406) (by decide) (by decide) ?_
          exact kt
        exact ⟨T130, _, X130, e130, N130, pre138⟩
    obtain ⟨fs, hr, hrun, hended, hW, hsame⟩ := X135.leave (v := some (.int (1 : Int32))) (fun h => by rw [Bd.returns] at h; cases h)
    refine ⟨_, _, pre134 _ ?_, hrun, hended, _, _, rfl, ?_, ⟨_, rfl⟩, hW, hsame.mono (by decide) (by decide)⟩
    · show Steps p.tables e below (T130.setTop (mkF m 377 #[.val (.int x1), .val (.int x2), .val (.int x3), .val (.int x4), .val (.long x5), .second, .val (.int sv), .val (.int fv), .val (.int kv), .val (.int ev), .val (.double uv), .second, .val (.double jv), .second, .val (.ref b28), .val (.ref b30), .val (.ref b32), .val (.ref b36), .val (.ref b38), .val (.double r1), .second, .val (.double r2), .second, .val (.double r3), .second, .val (.double r4), .second, .val (.double r5), .second, .val (.int nv), .val (.double tv), .second, .val (.int (1 : Int32)), .unset] [])) _
      refine k135 _ ?_
      show Steps p.tables e below (T135.setTop (mkF m 410 #[.val (.int x1), .val (.int x2), .val (.int x3), .val (.int x4), .val (.long x5), .second, .val (.int sv), .val (.int fv), .val (.int kv), .val (.int ev), .val (.double uv), .second, .val (.double jv), .second, .val (.ref b28), .val (.ref b30), .val (.ref b32), .val (.ref b36), .val (.ref b38), .val (.double r1), .second, .val (.double r2), .second, .val (.double r3), .second, .val (.double r4), .second, .val (.double r5), .second, .val (.int nv), .val (.double tv), .second, .val (.int (1 : Int32)), .unset] [(.int (1 : Int32))])) _
      refine XS.istore X135.here hx rfl (hb hby at_410) rfl (l' := #[.val (.int x1), .val (.int x2), .val (.int x3), .val (.int x4), .val (.long x5), .second, .val (.int sv), .val (.int fv), .val (.int kv), .val (.int ev), .val (.double uv), .second, .val (.double jv), .second, .val (.ref b28), .val (.ref b30), .val (.ref b32), .val (.ref b36), .val (.ref b38), .val (.double r1), .second, .val (.double r2), .second, .val (.double r3), .second, .val (.double r4), .second, .val (.double r5), .second, .val (.int nv), .val (.double tv), .second, .val (.int (1 : Int32)), .val (.int (1 : Int32))]) rfl ?_
      show Steps p.tables e below (T135.setTop (mkF m 412 #[.val (.int x1), .val (.int x2), .val (.int x3), .val (.int x4), .val (.long x5), .second, .val (.int sv), .val (.int fv), .val (.int kv), .val (.int ev), .val (.double uv), .second, .val (.double jv), .second, .val (.ref b28), .val (.ref b30), .val (.ref b32), .val (.ref b36), .val (.ref b38), .val (.double r1), .second, .val (.double r2), .second, .val (.double r3), .second, .val (.double r4), .second, .val (.double r5), .second, .val (.int nv), .val (.double tv), .second, .val (.int (1 : Int32)), .val (.int (1 : Int32))] [])) _
      refine XS.iload X135.here hx rfl (hb hby at_412) rfl ?_
      show Steps p.tables e below (T135.setTop (mkF m 414 #[.val (.int x1), .val (.int x2), .val (.int x3), .val (.int x4), .val (.long x5), .second, .val (.int sv), .val (.int fv), .val (.int kv), .val (.int ev), .val (.double uv), .second, .val (.double jv), .second, .val (.ref b28), .val (.ref b30), .val (.ref b32), .val (.ref b36), .val (.ref b38), .val (.double r1), .second, .val (.double r2), .second, .val (.double r3), .second, .val (.double r4), .second, .val (.double r5), .second, .val (.int nv), .val (.double tv), .second, .val (.int (1 : Int32)), .val (.int (1 : Int32))] [(.int (1 : Int32))])) _
      refine XS.ifNo X135.here hx rfl (hb hby at_414) rfl ((if0 _ _).trans (feq (by decide : ¬ ((1 : Int32) = (0 : Int32)))).1) ?_
      show Steps p.tables e below (T135.setTop (mkF m 417 #[.val (.int x1), .val (.int x2), .val (.int x3), .val (.int x4), .val (.long x5), .second, .val (.int sv), .val (.int fv), .val (.int kv), .val (.int ev), .val (.double uv), .second, .val (.double jv), .second, .val (.ref b28), .val (.ref b30), .val (.ref b32), .val (.ref b36), .val (.ref b38), .val (.double r1), .second, .val (.double r2), .second, .val (.double r3), .second, .val (.double r4), .second, .val (.double r5), .second, .val (.int nv), .val (.double tv), .second, .val (.int (1 : Int32)), .val (.int (1 : Int32))] [])) _
      refine XS.iload X135.here hx rfl (hb hby at_417) rfl ?_
      show Steps p.tables e below (T135.setTop (mkF m 419 #[.val (.int x1), .val (.int x2), .val (.int x3), .val (.int x4), .val (.long x5), .second, .val (.int sv), .val (.int fv), .val (.int kv), .val (.int ev), .val (.double uv), .second, .val (.double jv), .second, .val (.ref b28), .val (.ref b30), .val (.ref b32), .val (.ref b36), .val (.ref b38), .val (.double r1), .second, .val (.double r2), .second, .val (.double r3), .second, .val (.double r4), .second, .val (.double r5), .second, .val (.int nv), .val (.double tv), .second, .val (.int (1 : Int32)), .val (.int (1 : Int32))] [(.int (1 : Int32))])) _
      refine XS.ifNo X135.here hx rfl (hb hby at_419) rfl ((if0 _ _).trans (feq (by decide : ¬ ((1 : Int32) = (0 : Int32)))).1) ?_
      show Steps p.tables e below (T135.setTop (mkF m 422 #[.val (.int x1), .val (.int x2), .val (.int x3), .val (.int x4), .val (.long x5), .second, .val (.int sv), .val (.int fv), .val (.int kv), .val (.int ev), .val (.double uv), .second, .val (.double jv), .second, .val (.ref b28), .val (.ref b30), .val (.ref b32), .val (.ref b36), .val (.ref b38), .val (.double r1), .second, .val (.double r2), .second, .val (.double r3), .second, .val (.double r4), .second, .val (.double r5), .second, .val (.int nv), .val (.double tv), .second, .val (.int (1 : Int32)), .val (.int (1 : Int32))] [])) _
      refine XS.iconst X135.here hx rfl (hb hby at_422) ?_
      show Steps p.tables e below (T135.setTop (mkF m 423 #[.val (.int x1), .val (.int x2), .val (.int x3), .val (.int x4), .val (.long x5), .second, .val (.int sv), .val (.int fv), .val (.int kv), .val (.int ev), .val (.double uv), .second, .val (.double jv), .second, .val (.ref b28), .val (.ref b30), .val (.ref b32), .val (.ref b36), .val (.ref b38), .val (.double r1), .second, .val (.double r2), .second, .val (.double r3), .second, .val (.double r4), .second, .val (.double r5), .second, .val (.int nv), .val (.double tv), .second, .val (.int (1 : Int32)), .val (.int (1 : Int32))] [(.int (1 : Int32))])) _
      refine XS.goto X135.here hx rfl (pc0 := 423) (pc' := 427) rfl (hb hby at_423) (by decide) (by decide) ?_
      show Steps p.tables e below (T135.setTop (mkF m 427 #[.val (.int x1), .val (.int x2), .val (.int x3), .val (.int x4), .val (.long x5), .second, .val (.int sv), .val (.int fv), .val (.int kv), .val (.int ev), .val (.double uv), .second, .val (.double jv), .second, .val (.ref b28), .val (.ref b30), .val (.ref b32), .val (.ref b36), .val (.ref b38), .val (.double r1), .second, .val (.double r2), .second, .val (.double r3), .second, .val (.double r4), .second, .val (.double r5), .second, .val (.int nv), .val (.double tv), .second, .val (.int (1 : Int32)), .val (.int (1 : Int32))] [(.int (1 : Int32))])) _
      exact retN X135 hx (t := .boolean) Bd.returns (by simp) (hb hby at_427) hr
    · show Q0 Z x1 x2 x3 x4 x5 h0 n0 _ T135.heap _
      rw [e135]
      exact ⟨rfl, N135, K39⟩
set_option maxRecDepth 65536 in
set_option maxHeartbeats 40000000 in
theorem comes_1 {Post : Tables → Env → Array Value → State → Outcome → State → Prop} (hpost : ∀ tb e args s v u, (limb_1_1.after args s (.returned v) u = true ∧ limb_1_2.after args s (.returned v) u = true ∧ True) → FrameEnd s (.returned v) u (Jvm.fieldLocs frame_1_writes args s ++ Jvm.arrayLocs frame_1_arrays args s ++ Jvm.staticLocs frame_1_statics s) 24 128 → Post tb e args s (.returned v) u) :
    ArmFor flags0 classFile x code maxLocals ret World_1 tables_1 room_1 Calls_1 rest_1 Pre_1 Post := by
  intro l hfl _ _ p e ha hc hk s m args below hf hA hF happ hP
  obtain ⟨hcalls, hrest, hpre⟩ := hP
  obtain ⟨-, -, -, hnamed, -, -, -, hat⟩ := (Spec.applies_iff hf).mp happ
  obtain ⟨hg, hn⟩ := and_e (Cond.before_iff.mp (show (Jvm.Cond.and given_1 narrow_1).before args s = true from hpre))
  obtain ⟨gg1, gg2⟩ := and_e hg
  obtain ⟨gg3, gg4⟩ := and_e gg2
  obtain ⟨gg5, gg6⟩ := and_e gg4
  obtain ⟨gg7, gg8⟩ := and_e gg6
  obtain ⟨gg9, gg10⟩ := and_e gg8
  obtain ⟨w0, w1, w2, w3, w4, rfl⟩ : ∃ w0 w1 w2 w3 w4 : Value, args = #[w0, w1, w2, w3, w4] := by
    have hs : args.size = 5 := by simpa [Cond.value, given_1] using gg1
    obtain ⟨L⟩ := args
    match L, hs with
    | [w0, w1, w2, w3, w4], _ => exact ⟨w0, w1, w2, w3, w4, rfl⟩
  have hw := fun d (hd : d ∈ tables_1) => atoms_spec (ws := Jvm.Cond.code x code maxLocals ret :: tables_1) hat d (List.mem_cons_of_mem _ hd)
  have hfit : Fit s := fun {y c} hc i hi => by
    obtain ⟨ha, rfl⟩ := Array.getElem?_eq_some_iff.mp hc
    have q := List.all_eq_true.mp ((Array.all_eq_true_iff_forall_mem.mp hF) _ (Array.getElem_mem ha)) i (List.mem_range.mpr hi)
    simpa [Array.getElem?_eq_getElem hi] using q
  obtain ⟨i0, ei0⟩ := is_v gg3
  obtain rfl : w0 = (.int i0) := Option.some.inj ei0
  obtain ⟨i1, ei1⟩ := is_v gg5
  obtain rfl : w1 = (.int i1) := Option.some.inj ei1
  obtain ⟨i2, ei2⟩ := is_v gg7
  obtain rfl : w2 = (.int i2) := Option.some.inj ei2
  obtain ⟨i3, ei3⟩ := is_v gg9
  obtain rfl : w3 = (.int i3) := Option.some.inj ei3
  obtain ⟨i4, ei4⟩ := isL_v gg10
  obtain rfl : w4 = (.long i4) := Option.some.inj ei4
  obtain ⟨n, o, h1, h2, h3, _, L, rfl, ⟨rfl, N, -⟩, hq⟩ := rm0 l s _ hw tables_1 i0 i1 i2 i3 i4 s.heap s.heap.size (Nat.le_refl _) (Old.start s) p e ha hc hk s m _ below hf ((Spec.applies_iff_loose hf).mp happ).1 ⟨rfl, State.Warmed39.refl s, rfl⟩ trivial
  refine ⟨n, _, h1, h2, h3, hpost _ _ _ _ _ _ ⟨Cond.after_iff.mpr rfl, Cond.after_iff.mpr (eq_i res_at (Term.int_eval (1)) rfl), trivial⟩ ⟨hq.1, hq.2.1, (hq.2.2.sift fun y hy => Or.inr (N y hy)).mono (by decide) (by decide)⟩⟩
theorem main_1_1 : Claimed_1_1 := comes_1 fun _ _ _ _ _ _ h hF => ⟨h.1, hF⟩
theorem main_1_2 : Claimed_1_2 := comes_1 fun _ _ _ _ _ _ h hF => ⟨h.2.1, hF⟩
end Jvm.Pilot.@@N@@
namespace Jvm.Pilot.@@N@@
open Jvm Jvm.ClassFile Sem Op Lib Jvm.Free Jvm.Stand Jvm.Pilot.@@N@@.Jvm.D
/-! MADE BY PROGRAM (witnessworld.py) out of the Statement's table words and the real class files: 8 classes; the members and pool entries that the words name. The judged class is class 1, her method 1. -/
namespace start1
open Jvm.ClassFile
def u (s : String) : CpInfo := .utf8 (stringToUtf16 s)
/-- a pool by its gaps: so many unusable entries, then the entry; so many at the end -/
def gap : Nat → List CpInfo → List CpInfo
  | 0, r => r
  | n + 1, r => .unusable :: gap n r
def poolList (es : List (Nat × CpInfo)) (last : Nat) : List CpInfo := es.foldr (fun e r => gap e.1 (e.2 :: r)) (gap last [])
def pool (es : List (Nat × CpInfo)) (last : Nat) : Array CpInfo := ⟨poolList es last⟩
def fileOf (pool : Array CpInfo) (this : Nat) (attrs : Array Attribute := #[]) (ms : Array MethodInfo := #[]) (fl : Nat := 33) (sup : Nat := 0) (ifs : Array Nat := #[]) (fds : Array FieldInfo := #[]) : ClassFile where
  minorVersion := 0
  majorVersion := 65
  constantPool := pool
  accessFlags := fl
  thisClass := this
  superClass := sup
  interfaces := ifs
  fields := fds
  methods := ms
  attributes := attrs
def plain (name : String) (sup : Option ClassId) : Class where
  name := name
  kind := .ordinary
  loader := none
  accessFlags := 33
  super := sup
  interfaces := #[]
  cf := none
  fields := #[]
  methods := #[]
  instanceTypes := #[]
  staticTypes := #[]
  resolved := #[]
  callSites := []
  init := .initialized
  statics := none
  mirror := none

def pool0 : Array CpInfo := pool [(5, u "<init>"), (0, u "()V"), (1, .class_ 10), (1, u "java/lang/Object")] 113

def k0c0 : Code := { maxStack := 0, maxLocals := 1, code := object_method_1_code, exceptionTable := #[], attributes := #[] }
def k0m0 : Method := { name := "<init>", desc := "()V", sig := { parameters := [], returnType := none }, accessFlags := 1, code := some k0c0 }
/-- java/lang/Object -/
def k0 : Class := { plain "java/lang/Object" none with
  accessFlags := 33
  interfaces := #[]
  cf := some (fileOf pool0 8 #[] #[{ accessFlags := 1, nameIndex := 5, descriptorIndex := 6, attributes := #[] }] 33 0 #[] #[])
  fields := #[]
  methods := #[k0m0]
  instanceTypes := #[]
  staticTypes := #[]
  resolved := Array.replicate 124 none
  statics := none }

def pool1 : Array CpInfo := pool [(2, .class_ 4), (1, u "java/lang/Object"), (0, u "<init>"), (0, u "()V"), (0, .class_ 8), (0, u "com/example/windward/windward/EndpointRecord$Counts"), (0, .methodref 7 10), (0, .nameAndType 5 11), (0, u "(DDD)V"), (0, .methodref 7 13), (0, .nameAndType 14 15), (0, u "failureShare"), (0, u "()D"), (0, .double 4472406533629990549), (1, .double 13695778570484766357), (1, .double 4602678819172646912), (1, .class_ 23), (0, u "com/example/windward/windward/CountsFailureSharePinLaw"), (2, u "law"), (0, u "(IIIIJ)Z")] 7

def k1m0 : Method := { name := "<init>", desc := "()V", sig := { parameters := [], returnType := none }, accessFlags := 2, code := none }
def k1c1 : Code := { maxStack := 8, maxLocals := 34, code := code, exceptionTable := #[], attributes := #[] }
def k1m1 : Method := { name := "law", desc := "(IIIIJ)Z", sig := { parameters := [.int, .int, .int, .int, .long], returnType := some .boolean }, accessFlags := 9, code := some k1c1 }
/-- com/example/windward/windward/CountsFailureSharePinLaw -/
def k1 : Class := { plain "com/example/windward/windward/CountsFailureSharePinLaw" (some 0) with
  accessFlags := 49
  interfaces := #[]
  cf := some (fileOf pool1 22 #[] #[{ accessFlags := 2, nameIndex := 5, descriptorIndex := 6, attributes := #[] }, { accessFlags := 9, nameIndex := 26, descriptorIndex := 27, attributes := #[] }] 49 2 #[] #[])
  fields := #[]
  methods := #[k1m0, k1m1]
  instanceTypes := #[]
  staticTypes := #[]
  resolved := Array.replicate 35 none
  statics := none }

def pool2 : Array CpInfo := pool [(1, .methodref 2 3), (0, .class_ 4), (0, .nameAndType 5 6), (0, u "java/lang/Object"), (0, u "<init>"), (0, u "()V"), (0, .class_ 8), (0, u "java/lang/Record")] 13

def k2c0 : Code := { maxStack := 1, maxLocals := 1, code := jdk_30_method_1_code, exceptionTable := #[], attributes := #[] }
def k2m0 : Method := { name := "<init>", desc := "()V", sig := { parameters := [], returnType := none }, accessFlags := 4, code := some k2c0 }
/-- java/lang/Record -/
def k2 : Class := { plain "java/lang/Record" (some 0) with
  accessFlags := 1057
  interfaces := #[]
  cf := some (fileOf pool2 7 #[] #[{ accessFlags := 4, nameIndex := 5, descriptorIndex := 6, attributes := #[] }] 1057 2 #[] #[])
  fields := #[]
  methods := #[k2m0]
  instanceTypes := #[]
  staticTypes := #[]
  resolved := Array.replicate 22 none
  statics := none }

def pool3 : Array CpInfo := pool [(1, .class_ 2), (0, u "com/example/windward/windward/EndpointRecord"), (0, .methodref 4 5), (0, .class_ 6), (0, .nameAndType 7 8), (0, u "java/lang/Record"), (0, u "<init>"), (0, u "()V"), (0, .fieldref 10 11), (0, .class_ 12), (0, .nameAndType 13 14), (0, u "com/example/windward/windward/EndpointRecord$Counts"), (0, u "successes"), (0, u "D"), (0, .fieldref 10 16), (0, .nameAndType 17 14), (0, u "failures"), (0, .fieldref 10 19), (0, .nameAndType 20 14), (0, u "successNanos"), (6, u "(DDD)V"), (42, u "NONE"), (0, u "Lcom/example/windward/windward/EndpointRecord$Counts;"), (4, u "()D"), (1, u "failureShare")] 31

def k3c0 : Code := { maxStack := 3, maxLocals := 7, code := prog_8_method_1_code, exceptionTable := #[], attributes := #[] }
def k3m0 : Method := { name := "<init>", desc := "(DDD)V", sig := { parameters := [.double, .double, .double], returnType := none }, accessFlags := 0, code := some k3c0 }
def k3c1 : Code := { maxStack := 4, maxLocals := 3, code := prog_8_method_3_code, exceptionTable := #[], attributes := #[] }
def k3m1 : Method := { name := "failureShare", desc := "()D", sig := { parameters := [], returnType := some .double }, accessFlags := 0, code := some k3c1 }
/-- com/example/windward/windward/EndpointRecord$Counts -/
def k3 : Class := { plain "com/example/windward/windward/EndpointRecord$Counts" (some 2) with
  accessFlags := 48
  interfaces := #[]
  cf := some (fileOf pool3 10 #[.nestHost 1] #[{ accessFlags := 0, nameIndex := 7, descriptorIndex := 27, attributes := #[] }, { accessFlags := 0, nameIndex := 78, descriptorIndex := 76, attributes := #[] }] 48 4 #[] #[{ accessFlags := 18, nameIndex := 13, descriptorIndex := 14, attributes := #[] }, { accessFlags := 18, nameIndex := 17, descriptorIndex := 14, attributes := #[] }, { accessFlags := 18, nameIndex := 20, descriptorIndex := 14, attributes := #[] }, { accessFlags := 24, nameIndex := 70, descriptorIndex := 71, attributes := #[] }])
  fields := #[{ name := "successes", type := .double, accessFlags := 18, slot := 0, constantValue := 0 }, { name := "failures", type := .double, accessFlags := 18, slot := 1, constantValue := 0 }, { name := "successNanos", type := .double, accessFlags := 18, slot := 2, constantValue := 0 }, { name := "NONE", type := (.object "com/example/windward/windward/EndpointRecord$Counts"), accessFlags := 24, slot := 0, constantValue := 0 }]
  methods := #[k3m0, k3m1]
  instanceTypes := #[.double, .double, .double]
  staticTypes := #[(.object "com/example/windward/windward/EndpointRecord$Counts")]
  resolved := Array.replicate 110 none
  statics := none }

def pool4 : Array CpInfo := pool [(1, u "java/lang/Cloneable"), (0, .class_ 1), (0, u "java/lang/Object"), (0, .class_ 3)] 3

/-- java/lang/Cloneable -/
def k4 : Class := { plain "java/lang/Cloneable" (some 0) with
  accessFlags := 1537
  interfaces := #[]
  cf := some (fileOf pool4 2 #[] #[] 1537 4 #[] #[])
  fields := #[]
  methods := #[]
  instanceTypes := #[]
  staticTypes := #[]
  resolved := Array.replicate 8 none
  statics := none }

def pool5 : Array CpInfo := pool [(1, u "java/io/Serializable"), (0, .class_ 1), (0, u "java/lang/Object"), (0, .class_ 3)] 3

/-- java/io/Serializable -/
def k5 : Class := { plain "java/io/Serializable" (some 0) with
  accessFlags := 1537
  interfaces := #[]
  cf := some (fileOf pool5 2 #[] #[] 1537 4 #[] #[])
  fields := #[]
  methods := #[]
  instanceTypes := #[]
  staticTypes := #[]
  resolved := Array.replicate 8 none
  statics := none }

/-- the primitive byte -/
def k6 : Class := { plain "byte" none with kind := .primitive 'B', accessFlags := 0x411 }
/-- [B -/
def k7 : Class := { plain "[B" (some 0) with kind := .array 6 .byte, interfaces := #[4, 5], accessFlags := 1041 }

def heap : Heap := #[]
def classes : Array Class := #[k0, k1, k2, k3, k4, k5, k6, k7]
def interned : List (Array UInt16 × Addr) := []
def slotsUsed : Nat := 0
def theMethod : MethodId := ⟨1, 1⟩
def args0 : Array Value := #[.int 5, .int 5, .int 5, .int 5, .long 5]
def aboutOver (below : List Frame) : State where
  vm := { classes := classes, interned := interned.toArray }
  heap := heap
  slotsUsed := slotsUsed
  threads := #[{ frames := .invoking theMethod args0 :: below }]
def below0 : List Frame := [.native { method := ⟨0, 0⟩, args := #[] }]
def about1 : State := aboutOver below0
def p0 : Program := .bare "" "" ""
def e0 : Env := launch0.env 0 0 0
theorem w_frames : about1.frames = Frame.invoking theMethod args0 :: below0 := rfl
set_option maxRecDepth 65536 in
theorem w_args : argsFit about1.vm theMethod args0 = true := by decide +kernel
set_option maxRecDepth 65536 in
theorem w_heap : heapFits about1 = true := by decide +kernel
set_option maxRecDepth 65536 in
theorem w_runnable : about1.curStatus? = some .runnable := by decide +kernel
set_option maxRecDepth 65536 in
theorem w_alone : about1.alone = true := by decide +kernel
set_option maxRecDepth 65536 in
theorem w_named : about1.methodNamed? x = some theMethod := by decide +kernel
set_option maxRecDepth 65536 in
theorem w_hears : about1.hears theMethod below0 = true := by decide +kernel
set_option maxRecDepth 65536 in
theorem w_ripe : about1.ripe theMethod args0 below0 = true := by decide +kernel
theorem w_running : about1.status = .running := rfl
set_option maxRecDepth 65536 in
theorem w_room : about1.hasRoom e0.platform room_1 = true :=
  launch0.hasRoom_least _ room_1 (by decide +kernel) (by decide +kernel) (by decide +kernel) (by decide +kernel) (by decide +kernel) (by decide +kernel)
theorem allAtoms_all (ts : List Jvm.Cond) (a : Array Jvm.Value) (st : Jvm.State) : (allAtoms ts).before a st = ts.all (fun c => c.before a st) := by
  induction ts with
  | nil => rfl
  | cons c t ih =>
    show (Jvm.Cond.and c (allAtoms t)).before a st = _
    rw [Jvm.Cond.before_and, ih, List.all_cons]
def words1 : List Jvm.Cond := Jvm.Cond.code x code maxLocals ret :: tables_1
/-- a 'code' word, met by the world's own term for the bytes: nothing is compared byte by byte -/
theorem code_word {y : MethodName} {bytes : ByteArray} {mx : Nat} {rt : Option FieldType} {a : Array Value} {s : State} {m : MethodId} {meth : Method} {c : Code} (h1 : s.methodNamed? y = some m) (h2 : s.vm.method? m = some meth) (h3 : meth.code = some c) (h4 : c.code = bytes)
    (h5 : (c.maxLocals == mx && c.exceptionTable.isEmpty && decide (c.maxStack ≤ mostOperands) && decide (meth.sig.returnType = rt) && !meth.locks && decide (parseMethodDescriptor y.desc = some meth.sig)) = true) : (Jvm.Cond.code y bytes mx rt).before a s = true := by
  simp only [Bool.and_eq_true, beq_iff_eq, Bool.not_eq_true', decide_eq_true_eq] at h5
  obtain ⟨⟨⟨⟨⟨g1, g2⟩, g3⟩, g4⟩, g5⟩, g6⟩ := h5
  simp [Cond.before, Cond.holds, Cond.value, h1, h2, h3, h4, g1, g2, g3, g4, g5, g6]
def isCode : Jvm.Cond → Bool
  | .code _ _ _ _ => true
  | _ => false
theorem all_split {L : List Jvm.Cond} {P : Jvm.Cond → Bool} (h1 : L.all (fun c => isCode c || P c) = true) (h2 : ∀ c ∈ L.filter isCode, P c = true) : L.all P = true := by
  refine List.all_eq_true.mpr fun c hc => ?_
  have h := List.all_eq_true.mp h1 c hc
  rcases Bool.eq_false_or_eq_true (isCode c) with hi | hi
  · exact h2 c (List.mem_filter.mpr ⟨hc, hi⟩)
  · simpa [hi] using h
set_option maxRecDepth 65536 in
theorem w_c0 : (Jvm.Cond.code x code maxLocals ret).before args0 about1 = true := code_word (m := ⟨1, 1⟩) (meth := k1m1) (c := k1c1) (by decide +kernel) rfl rfl rfl (by decide +kernel)
set_option maxRecDepth 65536 in
theorem w_c1 : (Jvm.Cond.code ({ cls := "com/example/windward/windward/EndpointRecord$Counts", name := "<init>", desc := "(DDD)V" } : Jvm.MethodName) prog_8_method_1_code (7 : Nat) (Option.none : Option Jvm.ClassFile.FieldType)).before args0 about1 = true := code_word (m := ⟨3, 0⟩) (meth := k3m0) (c := k3c0) (by decide +kernel) rfl rfl rfl (by decide +kernel)
set_option maxRecDepth 65536 in
theorem w_c2 : (Jvm.Cond.code ({ cls := "java/lang/Record", name := "<init>", desc := "()V" } : Jvm.MethodName) jdk_30_method_1_code (1 : Nat) (Option.none : Option Jvm.ClassFile.FieldType)).before args0 about1 = true := code_word (m := ⟨2, 0⟩) (meth := k2m0) (c := k2c0) (by decide +kernel) rfl rfl rfl (by decide +kernel)
set_option maxRecDepth 65536 in
theorem w_c3 : (Jvm.Cond.code ({ cls := "java/lang/Object", name := "<init>", desc := "()V" } : Jvm.MethodName) object_method_1_code (1 : Nat) (Option.none : Option Jvm.ClassFile.FieldType)).before args0 about1 = true := code_word (m := ⟨0, 0⟩) (meth := k0m0) (c := k0c0) (by decide +kernel) rfl rfl rfl (by decide +kernel)
set_option maxRecDepth 65536 in
theorem w_c4 : (Jvm.Cond.code ({ cls := "com/example/windward/windward/EndpointRecord$Counts", name := "failureShare", desc := "()D" } : Jvm.MethodName) prog_8_method_3_code (3 : Nat) (Option.some Jvm.ClassFile.FieldType.double)).before args0 about1 = true := code_word (m := ⟨3, 1⟩) (meth := k3m1) (c := k3c1) (by decide +kernel) rfl rfl rfl (by decide +kernel)
def codes1 : List Jvm.Cond := [Jvm.Cond.code x code maxLocals ret, Jvm.Cond.code ({ cls := "com/example/windward/windward/EndpointRecord$Counts", name := "<init>", desc := "(DDD)V" } : Jvm.MethodName) prog_8_method_1_code (7 : Nat) (Option.none : Option Jvm.ClassFile.FieldType), Jvm.Cond.code ({ cls := "java/lang/Record", name := "<init>", desc := "()V" } : Jvm.MethodName) jdk_30_method_1_code (1 : Nat) (Option.none : Option Jvm.ClassFile.FieldType), Jvm.Cond.code ({ cls := "java/lang/Object", name := "<init>", desc := "()V" } : Jvm.MethodName) object_method_1_code (1 : Nat) (Option.none : Option Jvm.ClassFile.FieldType), Jvm.Cond.code ({ cls := "com/example/windward/windward/EndpointRecord$Counts", name := "failureShare", desc := "()D" } : Jvm.MethodName) prog_8_method_3_code (3 : Nat) (Option.some Jvm.ClassFile.FieldType.double)]
set_option maxRecDepth 65536 in
theorem codes_eq : words1.filter isCode = codes1 := rfl
theorem w_codes : ∀ c ∈ words1.filter isCode, c.before args0 about1 = true := by
  rw [codes_eq]
  intro c hc
  simp only [codes1, List.mem_cons, List.not_mem_nil, or_false] at hc
  rcases hc with rfl | rfl | rfl | rfl | rfl
  · exact w_c0
  · exact w_c1
  · exact w_c2
  · exact w_c3
  · exact w_c4
set_option maxRecDepth 65536 in
theorem w_t1 : (words1.take 24).all (fun c => isCode c || c.before args0 about1) = true := by decide +kernel
set_option maxRecDepth 65536 in
theorem w_t2 : (words1.drop 24).all (fun c => isCode c || c.before args0 about1) = true := by decide +kernel
theorem w_tables : (allAtoms (Jvm.Cond.code x code maxLocals ret :: tables_1)).before args0 about1 = true := by
  rw [allAtoms_all]
  show words1.all (fun c => c.before args0 about1) = true
  refine all_split ?_ w_codes
  rw [← List.take_append_drop 24 words1, List.all_append, w_t1, w_t2]
  rfl
set_option maxRecDepth 65536 in
theorem w_case : (Jvm.Cond.and given_1 narrow_1).before args0 about1 = true := by decide +kernel
theorem w_applies : (headSpec (Jvm.Cond.code x code maxLocals ret :: tables_1) room_1).applies x e0.platform about1 = true :=
  (Spec.applies_iff w_frames).mpr ⟨w_running, w_runnable, w_alone, w_named, w_hears, w_ripe, w_room, w_tables⟩
theorem atStart : AtStart classFile x code maxLocals ret World_1 tables_1 room_1 Calls_1 rest_1 Pre_1 launch0 p0 e0 about1 theMethod args0 below0 :=
  ⟨lists_1, trivial, launch0.admits_env _ _ _, launch0.least_env, fairChoices_fair.cas, fairChoices_fair.clock, w_frames, w_args, w_heap, w_applies, trivial, trivial, w_case⟩
end start1
theorem witness_1 : WitnessClaimed_1 := ⟨start1.p0, start1.e0, start1.about1, start1.theMethod, start1.args0, start1.below0, start1.atStart⟩
end Jvm.Pilot.@@N@@
