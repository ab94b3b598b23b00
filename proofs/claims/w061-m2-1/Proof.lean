import JvmDerived
import JvmDerived.Pilot.@@N@@Statement
import JvmDerived.Pilot.@@N@@Code
set_option linter.unusedVariables false
set_option linter.unusedSimpArgs false
namespace Jvm.RoadKit
open Sem ClassFile Op Lib Jvm.Stand Jvm.Free Jvm.LawKit
section New
variable {p : Program} {l : Launch} {e : Env} {R : Room} {s : State} {m : MethodId} {args : Array Value} {below : List Frame} {meth : Method} {c : Code} {T : State} {locs : List Loc} {cells slots : Nat}
theorem retI (X : Stand p l e R s m args below meth c T locs cells slots) (hx : p.tables.exec = Jvm.exec) {pc : Nat} {Ls : Array Slot} {z : Int32} {rest : List Value} (hret : meth.sig.returnType = some .int) (hd : decode c.code pc = .ok (.ireturn, 1)) {fs : List Frame}
    (hl : ∀ (f : JFrame) (acts : List Action), f.method = m → f.locked = none → f.entered = [] → (doReturn e (T.setTop f) acts (some (.int z))).1 = T.setFrames fs) : Steps p.tables e below (T.setTop (mkF m pc Ls (.int z :: rest))) (T.setFrames fs) :=
  retOut X hx hret rfl (Or.inl ⟨rfl, Or.inl rfl, z, rfl⟩) hd hl
end New
end Jvm.RoadKit
namespace OwnFl
open Jvm Jvm.FP.Core
theorem own_dmulk {x K : UInt64} {s : Bool} {c : Nat} {q k : Int} (hx : val64 x = .fin s c q) (hK : val64 K = .fin false (2 ^ 52) (k - 52)) (ht : 2 ^ 52 ≤ c) (k0 : 0 ≤ k) (hq : q + k ≤ 971) : val64 (dmul x K) = .fin s c (q + k) := by
  have hf := val64_fits x
  rw [hx] at hf
  rw [val64_dmul, hx, hK]
  show roundRatio b64 (s != false) (c * 2 ^ 52) 1 (q + (k - 52)) = _
  rw [Bool.bne_false]
  refine roundRatio_exact good_b64 (by decide) ⟨hf.1, ?_, ?_, .inr (by rw [tails_b64]; exact ht)⟩ ?_
  · have := hf.2.1; omega
  · show q + k ≤ b64.qmax
    have : b64.qmax = 971 := by decide
    omega
  · rw [show (q + (k - 52) - (q + k)).toNat = 0 by omega, show (q + k - (q + (k - 52))).toNat = 52 by omega]; simp
theorem own_shift {i : Int} {s : Bool} {c : Nat} {q k : Int} (h : Whole i (.fin s c q)) (k0 : 0 ≤ k) : Whole (i * ((2 ^ k.toNat : Nat) : Int)) (.fin s c (q + k)) := by
  have h1 : signed s (c * 2 ^ q.toNat) = i * ((2 ^ (-q).toNat : Nat) : Int) := h
  show signed s (c * 2 ^ (q + k).toNat) = i * ((2 ^ k.toNat : Nat) : Int) * ((2 ^ (-(q + k)).toNat : Nat) : Int)
  have ex : (q + k).toNat + (-q).toNat = q.toNat + (k.toNat + (-(q + k)).toNat) := by omega
  have sg : ∀ n m : Nat, signed s (n * m) = signed s n * (m : Int) := fun n m => by cases s <;> simp [signed, Int.neg_mul]
  refine Int.eq_of_mul_eq_mul_right (a := ((2 ^ (-q).toNat : Nat) : Int)) (by have := Nat.two_pow_pos (-q).toNat; omega) ?_
  rw [← sg, Nat.mul_assoc, ← Nat.pow_add, ex, Nat.pow_add, ← Nat.mul_assoc, sg, h1, Nat.pow_add, Int.natCast_mul]
  ac_rfl
theorem own_near {u w : Nat} (hw : (u % 2 = 0 ∧ w = u / 2) ∨ (u % 2 = 1 ∧ w % 2 = 1 ∧ (w = u / 2 ∨ w = u / 2 + 1))) : nearest u 2048 = nearest w 1024 := by
  unfold nearest
  repeat' split
  all_goals omega
theorem own_r63 {w : Nat} (h1 : 2 ^ 62 ≤ w) (h2 : w < 2 ^ 63) : roundRatio b64 false w 1 0 = settle b64 false (nearest w 1024) 10 := by
  unfold roundRatio
  rw [if_neg (by omega)]
  have hq : quantum b64 w 1 0 = 10 := quantum_eq (by omega) (by decide) (by decide) (by show w * 2 ^ 0 < 1 * 2 ^ 63; omega) (.inr (by show ¬ w * 2 ^ 0 < 1 * 2 ^ 62; omega))
  rw [hq]
  show settle b64 false (nearest (w * 2 ^ 0) (1 * 2 ^ 10)) 10 = _
  rw [show w * 2 ^ 0 = w by omega]
theorem own_r64 {u : Nat} (h1 : 2 ^ 63 ≤ u) (h2 : u < 2 ^ 64) : roundRatio b64 false u 1 0 = settle b64 false (nearest u 2048) 11 := by
  unfold roundRatio
  rw [if_neg (by omega)]
  have hq : quantum b64 u 1 0 = 11 := quantum_eq (by omega) (by decide) (by decide) (by show u * 2 ^ 0 < 1 * 2 ^ 64; omega) (.inr (by show ¬ u * 2 ^ 0 < 1 * 2 ^ 63; omega))
  rw [hq]
  show settle b64 false (nearest (u * 2 ^ 0) (1 * 2 ^ 11)) 11 = _
  rw [show u * 2 ^ 0 = u by omega]
theorem own_settle {N : Nat} (h1 : 2 ^ 52 ≤ N) (q : Int) (hq : q ≤ 900) : ∃ c q', settle b64 false N q = .fin false c q' ∧ settle b64 false N (q + 1) = .fin false c (q' + 1) ∧ 2 ^ 52 ≤ c ∧ q' ≤ 901 := by
  have e : b64.qmax = 971 := by decide
  have p53 : 2 ^ b64.p = 9007199254740992 := by decide
  unfold settle bound
  by_cases h : N < 2 ^ b64.p
  · exact ⟨N, q, by rw [if_pos h, if_pos (by omega)], by rw [if_pos h, if_pos (by omega)], h1, by omega⟩
  · exact ⟨b64.tails, q + 1, by rw [if_neg h, if_pos (by omega)], by rw [if_neg h, if_pos (by omega)], by rw [tails_b64]; exact Nat.le_refl _, by omega⟩
theorem own_lor (a b : Nat) (hb : b < 2) : (a ||| b = a ∧ (b = 1 → a % 2 = 1)) ∨ (b = 1 ∧ a % 2 = 0 ∧ a ||| b = a + 1) := by
  have e : ∀ k c : Nat, c < 2 → (k <<< 1) ||| c = 2 * k + c := fun k c hc => by rw [← Nat.shiftLeft_add_eq_or_of_lt (i := 1) (by omega), Nat.shiftLeft_eq]; omega
  obtain ⟨k, r, hr, rfl⟩ : ∃ k r, r < 2 ∧ a = 2 * k + r := ⟨a / 2, a % 2, by omega, by omega⟩
  rw [← e k r hr, Nat.or_assoc]
  have : (r = 0 ∨ r = 1) ∧ (b = 0 ∨ b = 1) := by omega
  rcases this with ⟨rfl | rfl, rfl | rfl⟩
  · left; rw [Nat.or_self]; exact ⟨rfl, by omega⟩
  · right; rw [Nat.zero_or, e k 1 (by omega), e k 0 (by omega)]; omega
  · left; rw [Nat.or_zero]; exact ⟨rfl, by omega⟩
  · left; rw [Nat.or_self, e k 1 (by omega)]; omega
def own_K : UInt64 := 4751297606875873280
def own_hi (x : Int64) : Int64 := (x.toUInt64 >>> ((32 : Int32) &&& 0x3f).toInt64.toUInt64).toInt64
def own_lo (x : Int64) : Int64 := x &&& (4294967295 : Int64)
def own_hf (x : Int64) : Int64 := (x.toUInt64 >>> ((1 : Int32) &&& 0x3f).toInt64.toUInt64).toInt64 ||| (x &&& (1 : Int64))
def own_exp (x : Int64) : UInt64 := dadd (dmul (l2d (own_hi x)) own_K) (l2d (own_lo x))
theorem own_int (v : BitVec 64) (h : v.toNat < 2 ^ 63) : v.toInt = v.toNat := by rw [BitVec.toInt_eq_toNat_cond, if_pos (by omega)]
theorem own_hi_v (x : Int64) : (own_hi x).toInt = ((x.toBitVec.toNat / 2 ^ 32 : Nat) : Int) := by
  have e : (own_hi x).toBitVec.toNat = x.toBitVec.toNat / 2 ^ 32 := by
    show (x.toUInt64 >>> _).toNat = _
    rw [UInt64.toNat_shiftRight, show ((32 : Int32) &&& 0x3f).toInt64.toUInt64.toNat % 64 = 32 by decide, Nat.shiftRight_eq_div_pow]; rfl
  have := x.toBitVec.isLt
  show (own_hi x).toBitVec.toInt = _
  rw [own_int _ (by rw [e]; omega), e]
theorem own_lo_v (x : Int64) : (own_lo x).toInt = ((x.toBitVec.toNat % 2 ^ 32 : Nat) : Int) := by
  have e : (own_lo x).toBitVec.toNat = x.toBitVec.toNat % 2 ^ 32 := by
    show (x &&& _).toBitVec.toNat = _
    rw [Int64.toBitVec_and, BitVec.toNat_and, show (4294967295 : Int64).toBitVec.toNat = 2 ^ 32 - 1 by decide, Nat.and_two_pow_sub_one_eq_mod]
  have := x.toBitVec.isLt
  show (own_lo x).toBitVec.toInt = _
  rw [own_int _ (by rw [e]; omega), e]
theorem own_hf_v (x : Int64) : (own_hf x).toInt = ((x.toBitVec.toNat / 2 ||| x.toBitVec.toNat % 2 : Nat) : Int) := by
  have e : (own_hf x).toBitVec.toNat = x.toBitVec.toNat / 2 ||| x.toBitVec.toNat % 2 := by
    show (_ ||| _ : Int64).toBitVec.toNat = _
    rw [Int64.toBitVec_or, BitVec.toNat_or, Int64.toBitVec_and, BitVec.toNat_and, show (1 : Int64).toBitVec.toNat = 2 ^ 1 - 1 by decide, Nat.and_two_pow_sub_one_eq_mod]
    show (x.toUInt64 >>> _).toNat ||| _ = _
    rw [UInt64.toNat_shiftRight, show ((1 : Int32) &&& 0x3f).toInt64.toUInt64.toNat % 64 = 1 by decide, Nat.shiftRight_eq_div_pow]; rfl
  have := x.toBitVec.isLt
  show (own_hf x).toBitVec.toInt = _
  rw [own_int _ (by rw [e]; rcases own_lor (x.toBitVec.toNat / 2) (x.toBitVec.toNat % 2) (by omega) with h | h <;> omega), e]
theorem own_Kv : val64 own_K = .fin false (2 ^ 52) (32 - 52) := by decide +kernel
theorem own_2v : val64 4611686018427387904 = .fin false (2 ^ 52) (1 - 52) := by decide +kernel
/-- a whole number from 1 to 2^53 has a full significand -/
theorem own_full {n : Nat} {s : Bool} {c : Nat} {q : Int} (h : Whole (n : Int) (.fin s c q)) (hf : fits b64 (.fin s c q)) (h0 : 0 < n) (h1 : n < 2 ^ 53) : 2 ^ 52 ≤ c ∧ q ≤ 0 := by
  have hn := whole_natAbs h
  rw [Int.natAbs_natCast] at hn
  obtain ⟨f1, f2, f3, f4⟩ := hf
  have e1 : b64.qmin = -1074 := by decide
  have e2 : 2 ^ b64.p = 9007199254740992 := by decide
  have hq : q ≤ 0 ∨ 0 < q := by omega
  have ht : 2 ^ 52 ≤ c := by
    rcases f4 with f4 | f4
    · exfalso
      rw [f4, e1, show (-1074 : Int).toNat = 0 by decide, show (-(-1074) : Int).toNat = 53 + 1021 by decide, Nat.pow_add] at hn
      have : 1 * (2 ^ 53 * 1) ≤ n * (2 ^ 53 * 2 ^ 1021) := Nat.mul_le_mul h0 (Nat.mul_le_mul_left _ (Nat.two_pow_pos _))
      omega
    · rw [tails_b64] at f4; exact f4
  refine ⟨ht, ?_⟩
  rcases hq with hq | hq
  · exact hq
  · exfalso
    rw [show (-q).toNat = 0 by omega] at hn
    have : 2 ^ 1 ≤ 2 ^ q.toNat := Nat.pow_le_pow_right (by decide) (by omega)
    have : 2 ^ 52 * 2 ^ 1 ≤ c * 2 ^ q.toNat := Nat.mul_le_mul ht this
    omega
theorem own_prod (x : Int64) : ∃ c q, val64 (dmul (l2d (own_hi x)) own_K) = .fin false c q ∧ Whole (((x.toBitVec.toNat / 2 ^ 32 * 2 ^ 32 : Nat) : Int)) (.fin false c q) := by
  have hlt := x.toBitVec.isLt
  have hv := own_hi_v x
  have hw := l2d_whole (a := own_hi x) (by unfold Small53; omega)
  obtain ⟨c, q, e⟩ := l2d_shape (own_hi x)
  have fz := val64_fits (l2d (own_hi x))
  rw [hv] at e hw
  rw [decide_eq_false (by omega)] at e
  rw [e] at hw fz
  by_cases h0 : x.toBitVec.toNat / 2 ^ 32 = 0
  · refine ⟨0, b64.qmin, ?_, ?_⟩
    · rw [val64_dmul, e, own_Kv]
      rw [h0] at hw
      have hk : Whole (4294967296 : Int) (.fin false (2 ^ 52) (32 - 52)) := by show signed false (2 ^ 52 * 2 ^ 0) = 4294967296 * ((2 ^ 20 : Nat) : Int); decide
      exact round_product_zero hw hk (.inl rfl)
    · rw [h0]; show signed false (0 * _) = 0 * _; rw [Nat.zero_mul, Int.zero_mul]; rfl
  · obtain ⟨f1, f2⟩ := own_full hw fz (by omega) (by omega)
    refine ⟨c, q + 32, own_dmulk e own_Kv f1 (by decide) (by omega), ?_⟩
    have := own_shift hw (k := 32) (by decide)
    rw [Int.natCast_mul]; exact this
theorem own_exp_v (x : Int64) : val64 (own_exp x) = round b64 (ofInt (x.toBitVec.toNat : Int)) := by
  obtain ⟨c, q, e1, w1⟩ := own_prod x
  have hlt := x.toBitVec.isLt
  have hv := own_lo_v x
  have hw := l2d_whole (a := own_lo x) (by unfold Small53; omega)
  obtain ⟨d, r, e2⟩ := l2d_shape (own_lo x)
  unfold own_exp
  rw [val64_dadd, e1, e2]
  rw [e2, hv] at hw
  rw [hv, round_sum_whole w1 hw (fun _ => rfl)]
  congr 2
  omega
theorem own_act_v {x : Int64} (h : x.toInt < 0) : val64 (dmul (l2d (own_hf x)) 4611686018427387904) = round b64 (ofInt (x.toBitVec.toNat : Int)) := by
  have hlt := x.toBitVec.isLt
  have hx : 2 ^ 63 ≤ x.toBitVec.toNat := by
    have : x.toBitVec.toInt < 0 := h
    rw [BitVec.toInt_eq_toNat_cond] at this
    split at this <;> omega
  have hv := own_hf_v x
  have hl := own_lor (x.toBitVec.toNat / 2) (x.toBitVec.toNat % 2) (by omega)
  generalize x.toBitVec.toNat / 2 ||| x.toBitVec.toNat % 2 = w at hv hl
  generalize x.toBitVec.toNat = u at *
  have eu : round b64 (ofInt (u : Int)) = settle b64 false (nearest u 2048) 11 := by
    show roundRatio b64 (decide ((u : Int) < 0)) (u : Int).natAbs 1 0 = _
    rw [decide_eq_false (by omega), Int.natAbs_natCast]
    exact own_r64 hx (by omega)
  have ew : val64 (l2d (own_hf x)) = settle b64 false (nearest u 2048) 10 := by
    rw [val64_l2d, hv]
    show roundRatio b64 (decide ((w : Int) < 0)) (w : Int).natAbs 1 0 = _
    rw [decide_eq_false (by omega), Int.natAbs_natCast, own_r63 (by omega) (by omega), own_near (u := u) (w := w) (by omega)]
  obtain ⟨c, q, s1, s2, s3, s4⟩ := own_settle (N := nearest u 2048) (nearest_ge (by decide) (by omega)) 10 (by decide)
  rw [eu, show (11 : Int) = 10 + 1 by decide, s2]
  exact own_dmulk (ew.trans s1) own_2v s3 (by decide) (by omega)
def own_act (x : Int64) : UInt64 := if x.toInt < 0 then dmul (l2d (own_hf x)) 4611686018427387904 else l2d x
theorem own_same (x : Int64) : own_act x = own_exp x := by
  have hv : val64 (own_act x) = val64 (own_exp x) := by
    rw [own_exp_v]
    unfold own_act
    split
    · rename_i h; exact own_act_v h
    · rename_i h
      rw [val64_l2d]
      congr 2
      have e : x.toInt = x.toBitVec.toInt := rfl
      rw [e] at h ⊢
      rw [BitVec.toInt_eq_toNat_cond] at h ⊢
      have := x.toBitVec.isLt
      split at h <;> split <;> omega
  refine val64_inj ?_ hv
  rw [hv, own_exp_v]; exact roundRatio_ne_nan _ _ _ _ _
theorem own_actT {x : Int64} (h : x.toInt < 0) : dmul (l2d (own_hf x)) 4611686018427387904 = own_act x := by unfold own_act; rw [if_pos h]
theorem own_actF {x : Int64} (h : ¬ x.toInt < 0) : l2d x = own_act x := by unfold own_act; rw [if_neg h]
theorem own_nn1 {x : Int64} (h : x.toInt < 0) : val64 (dmul (l2d (own_hf x)) 4611686018427387904) ≠ .nan := by rw [own_act_v h]; exact roundRatio_ne_nan _ _ _ _ _
theorem own_nn2 (x : Int64) : val64 (dmul (l2d (own_hi x)) own_K) ≠ .nan := by obtain ⟨c, q, e, -⟩ := own_prod x; rw [e]; exact Datum.noConfusion
theorem own_nn3 (x : Int64) : val64 (own_exp x) ≠ .nan := by rw [own_exp_v]; exact roundRatio_ne_nan _ _ _ _ _
theorem own_eq0 (x : Int64) : own_act x = dadd (dmul (l2d (own_hi x)) own_K) (l2d (own_lo x)) := own_same x
theorem own_nn4 (x : Int64) : val64 (own_act x) ≠ .nan := by rw [own_same]; exact own_nn3 x
end OwnFl
namespace Jvm.Pilot.@@N@@
open Jvm Jvm.ClassFile Sem Op Lib Jvm.Free Jvm.Stand Jvm.LawKit Jvm.RoadKit Bundle Jvm.Pilot.@@N@@.Jvm.D
theorem own_selp {s : State} {args : Array Value} {C : String} {y : MethodName} (h : (Cond.selects C y y).before args s = true) (hpriv : s.PrivateAt y) (hinst : (Cond.instanceMethod y).before args s = true) (hy : y.cls ≠ "java/lang/invoke/MethodHandle" ∧ y.cls ≠ "java/lang/invoke/VarHandle") :
    (Cond.selects y.cls y y).before args s = true := by
  obtain ⟨c, r, mm, -, hr, hm, -, mk, hmk, hni⟩ := Cond.selects_spec h
  obtain ⟨mk', methM, hnamed, hmethM, -, -⟩ := Cond.instanceMethod_spec hinst
  cases hm.symm.trans hnamed
  have hfound : s.methodFound? y.cls y.name y.desc = some mm := State.methodFound?_of_named hnamed hy
  have hsel : selectMethod {} s.vm mm.cls mm = .method mm := selectMethod_private hmethM (hpriv mm methM hnamed hmethM)
  simp only [Cond.before, Cond.holds, Cond.value, findClass_of_methodNamed hnamed, hfound, hnamed, hsel, hmk]
  simp; exact hni
theorem own_nf {s : State} {a0 : Array Value} {y y' : MethodName} (h : NotFace s y) (hd : (Jvm.Cond.declares y).before a0 s = true) (e : y.cls = y'.cls) : NotFace s y' := fun r0 h0 => by
  obtain ⟨m, meth, hn, -, -, -⟩ := Cond.declares_spec hd
  obtain ⟨kr, hk, hi⟩ := h m hn
  have a := findClass_of_methodNamed hn
  have b := findClass_of_methodNamed h0
  rw [e] at a
  have c := Option.some.inj (a.symm.trans b)
  exact ⟨kr, by rw [← c]; exact hk, hi⟩
theorem own_same {Z : State} {a0 : Array Value} {y : MethodName} (hf : NotFace Z y) (h : (Jvm.Cond.declares y).before a0 Z = true) (hy : y.cls ≠ "java/lang/invoke/MethodHandle" ∧ y.cls ≠ "java/lang/invoke/VarHandle") : (Jvm.Cond.sameMethod y.cls y.cls y.name y.desc).before a0 Z = true := by
  obtain ⟨m, meth, hn, hm, -, -⟩ := Cond.declares_spec h
  have hfc := findClass_of_methodNamed hn
  have hfo := State.methodFound?_of_named hn hy
  have hn' : Z.methodNamed? ⟨y.cls, y.name, y.desc⟩ = some m := hn
  obtain ⟨kr, hk, hi⟩ := hf m hn
  simp [Cond.before, Cond.holds, Cond.value, hfc, hfo, hn', hk, hi]
theorem own_wd {Z : State} {a0 : Array Value} (hw : ∀ d ∈ tables_1, d.before a0 Z = true) (i : Nat) {d : Jvm.Cond} (h : tables_1[i]? = some d) : d.before a0 Z = true := hw _ (List.mem_of_getElem? h)
def own_b (P : Prop) [Decidable P] : Int32 := if P then (1 : Int32) else (0 : Int32)
theorem own_bt {P : Prop} [Decidable P] (h : P) : own_b P = (1 : Int32) := if_pos h
theorem own_bf {P : Prop} [Decidable P] (h : ¬ P) : own_b P = (0 : Int32) := if_neg h
theorem own_btn {P : Prop} [Decidable P] (h : P) : ¬ (own_b P = (0 : Int32)) := by rw [own_bt h]; decide
theorem own_bfn {P : Prop} [Decidable P] (h : ¬ P) : ¬ (own_b P = (1 : Int32)) := by rw [own_bf h]; decide
theorem own_b_congr {P Q : Prop} [Decidable P] [Decidable Q] (h : P ↔ Q) : own_b P = own_b Q := by
  by_cases q : P
  · rw [own_bt q, own_bt (h.mp q)]
  · rw [own_bf q, own_bf fun z => q (h.mpr z)]
theorem own_eqI {args : Array Value} {s : State} {t : Term} {k : Int32} (h : (Jvm.Cond.eq t (.int k)).value args s none s [] = some true) : t.eval args s none [] s = some (.int k) := by
  obtain ⟨x, y, h1, h2, -, h4⟩ := cmp_v (Or.inl h)
  cases Option.some.inj (h2.symm.trans (Term.int_eval k))
  obtain ⟨z, rfl⟩ := h4
  rw [h1, gotT (Cond.eq_ints h1 h2) h]
theorem own_eqR {args : Array Value} {s : State} {t u : Term} {y : Addr} (hu : u.eval args s none [] s = some (.ref y)) (h : (Jvm.Cond.eq t u).value args s none s [] = some true) : t.eval args s none [] s = some (.ref y) := by
  obtain ⟨x, y', h1, h2, -, h4⟩ := cmp_v (Or.inl h)
  cases Option.some.inj (h2.symm.trans hu)
  rw [h1, gotT (eq_R h1 h2 h4.2 rfl) h]
theorem own_len {args : Array Value} {s : State} {t : Term} {a : Addr} {cl : Cell} {ty : FieldType} {k : Int32} (ev : t.eval args s none [] s = some (.ref a)) (A : Arr s s.heap a cl ty) (h : (Term.length t).eval args s none [] s = some (.int k)) : cl.slots.size < 2 ^ 31 ∧ cl.slots.size.toInt32 = k := by
  have ha : s.arrayAt? a = some cl := A.fin (Vm.Alike.refl _)
  by_cases hl : cl.slots.size < 2 ^ 31
  · rw [len_f ev ha hl] at h
    exact ⟨hl, by simpa using h⟩
  · simp [Term.eval, ev, ha, hl] at h
theorem own_eqL {args : Array Value} {s : State} {t : Term} {k : Int64} (h : (Jvm.Cond.eq t (.long k)).value args s none s [] = some true) : t.eval args s none [] s = some (.long k) := by
  obtain ⟨x, y, h1, h2, -, h4⟩ := cmp_v (Or.inl h)
  cases Option.some.inj (h2.symm.trans (long_at k))
  obtain ⟨z, rfl⟩ := h4
  rw [h1, gotT (eq_L h1 h2) h]
theorem own_nnv {x : UInt64} (h : Jvm.FP.Core.val64 x ≠ .nan) : Jvm.Free.Fl.NoNaN64 x := Jvm.Free.Fl.val64_no.mpr h
theorem own_neg {x : Int64} (h : (lcmpW x (0 : Int64)) < (0 : Int32)) : x.toInt < 0 := by have q := (lw_lt _ _).mp h; rw [Int64.lt_iff_toInt_lt] at q; exact q
theorem own_nneg {x : Int64} (h : ¬ (lcmpW x (0 : Int64)) < (0 : Int32)) : ¬ x.toInt < 0 := fun q => h ((lw_lt _ _).mpr (by rw [Int64.lt_iff_toInt_lt]; exact q))

theorem d1_0 : decode prog_42_method_14_code 0 = .ok (.lload_n 0, 1) := by decide +kernel
theorem d1_1 : decode prog_42_method_14_code 1 = .ok (.lconst 0, 1) := by decide +kernel
theorem d1_2 : decode prog_42_method_14_code 2 = .ok (.lcmp, 1) := by decide +kernel
theorem d1_3 : decode prog_42_method_14_code 3 = .ok (.ifCond .lt 6, 3) := by decide +kernel
theorem d1_9 : decode prog_42_method_14_code 9 = .ok (.lload_n 0, 1) := by decide +kernel
theorem d1_10 : decode prog_42_method_14_code 10 = .ok (.iconst 1, 1) := by decide +kernel
theorem d1_11 : decode prog_42_method_14_code 11 = .ok (.lushr, 1) := by decide +kernel
theorem d1_12 : decode prog_42_method_14_code 12 = .ok (.lload_n 0, 1) := by decide +kernel
theorem d1_13 : decode prog_42_method_14_code 13 = .ok (.lconst 1, 1) := by decide +kernel
theorem d1_14 : decode prog_42_method_14_code 14 = .ok (.land, 1) := by decide +kernel
theorem d1_15 : decode prog_42_method_14_code 15 = .ok (.lor, 1) := by decide +kernel
theorem d1_16 : decode prog_42_method_14_code 16 = .ok (.l2d, 1) := by decide +kernel
theorem d1_17 : decode prog_42_method_14_code 17 = .ok (.ldc2_w 528, 3) := by decide +kernel
theorem d1_20 : decode prog_42_method_14_code 20 = .ok (.dmul, 1) := by decide +kernel
theorem d1_21 : decode prog_42_method_14_code 21 = .ok (.dreturn, 1) := by decide +kernel
theorem d1_6 : decode prog_42_method_14_code 6 = .ok (.lload_n 0, 1) := by decide +kernel
theorem d1_7 : decode prog_42_method_14_code 7 = .ok (.l2d, 1) := by decide +kernel
theorem d1_8 : decode prog_42_method_14_code 8 = .ok (.dreturn, 1) := by decide +kernel
theorem pn_com_example_tidecell_tidecell_netcdf_NetcdfMapping : plainName "com/example/tidecell/tidecell/netcdf/NetcdfMapping" = true := by first | (simp [plainName, overriddenIn]; done) | decide +kernel
theorem ef1 (m : MethodId) (x1 : Int64) : entryFrame m #[(.long x1)] 2 = mkF m 0 #[.val (.long x1), .second] [] := by first | (simp [entryFrame, mkF, argsToLocals, Value.category]; done) | rfl
def Q1 (Z : State) (x1 : Int64) (h0 : Heap) (n0 : Nat) (v : Option Value) (h : Heap) (L : List Loc) : Prop := v = some (.double (OwnFl.own_act x1)) ∧ Fr n0 L ∧ h = h0
set_option maxRecDepth 65536 in
set_option maxHeartbeats 40000000 in
theorem rm1 (l : Launch) (Z : State) (a0 : Array Value) (hw : ∀ d ∈ tables_1, d.before a0 Z = true) (ws : List Jvm.Cond) (x1 : Int64) (h0 : Heap) (n0 : Nat) (Z0 : n0 ≤ h0.size) (O0 : Old Z n0 h0) :
    MetFree l (⟨"com/example/tidecell/tidecell/netcdf/NetcdfMapping", "unsignedToDouble", "(J)D"⟩ : MethodName) (head1 (Jvm.Cond.code (⟨"com/example/tidecell/tidecell/netcdf/NetcdfMapping", "unsignedToDouble", "(J)D"⟩ : MethodName) prog_42_method_14_code 2 (some .double) :: ws) ({ frames := 0, cells := 0, slots := 0, locals := 0 } : Room)) (fun a U => a = #[(.long x1)] ∧ Z.Warmed39 U.vm ∧ U.heap = h0) (fun _ _ _ _ _ => True) (fun _ U o U' => ∃ v L, o = .returned v ∧ Q1 Z x1 h0 n0 v U'.heap L ∧ FrameEnd U o U' L ({ frames := 0, cells := 0, slots := 0, locals := 0 } : Room).cells ({ frames := 0, cells := 0, slots := 0, locals := 0 } : Room).slots) := by
  refine MetFree.of_bodySF (plainFor_of_name pn_com_example_tidecell_tidecell_netcdf_NetcdfMapping) hisR ?_
  intro p e s m args below meth c s₁ Bd hml0 hP hK
  obtain ⟨rfl, hZ, hh⟩ := hP
  have hx := Bd.exec
  have hby := Bd.bytes
  have hml : c.maxLocals = 2 := hml0
  have hown : s.vm.findClass "com/example/tidecell/tidecell/netcdf/NetcdfMapping" = some m.cls := findClass_of_methodNamed Bd.named
  have hnm := (name_of_methodNamed Bd.named Bd.method).1
  have X0 : Stand p l e ({ frames := 0, cells := 0, slots := 0, locals := 0 } : Room) s m #[(.long x1)] below meth c s₁ [] 0 0 := Stand.of_body Bd
  have e0 : s₁.heap = h0 := by rw [← hh, Bd.state]; rfl
  have N0 := Fr.nil n0
  have K0 : Keep h0 h0 [] := Keep.refl _ _
  have pre0 : ∀ t, Steps p.tables e below (s₁.setTop (mkF m 0 #[.val (.long x1), .second] [])) t → Steps p.tables e below (s₁.setTop (entryFrame m #[(.long x1)] 2)) t := fun t k => castTop (ef1 m x1) k
  have pre1 : ∀ t, Steps p.tables e below (s₁.setTop (mkF m 3 #[.val (.long x1), .second] [(.int (lcmpW x1 (0 : Int64)))])) t → Steps p.tables e below (s₁.setTop (entryFrame m #[(.long x1)] 2)) t := by
    intro t kt
    refine pre0 t ?_
    show Steps p.tables e below (s₁.setTop (mkF m 0 #[.val (.long x1), .second] [])) _
    refine XS.lloadN X0.here hx rfl (hb hby d1_0) rfl ?_
    show Steps p.tables e below (s₁.setTop (mkF m 1 #[.val (.long x1), .second] [(.long x1)])) _
    refine XS.lconst X0.here hx rfl (hb hby d1_1) ?_
    show Steps p.tables e below (s₁.setTop (mkF m 2 #[.val (.long x1), .second] [(.long (0 : Int64)), (.long x1)])) _
    refine XS.lcmp X0.here hx rfl (hb hby d1_2) rfl ?_
    exact kt
  by_cases hc3 : (lcmpW x1 (0 : Int64)) < (0 : Int32)
  · skip
    have nn2 : Jvm.Free.Fl.NoNaN64 (FP.dmul (FP.l2d (((x1.toUInt64 >>> ((1 : Int32) &&& 0x3f).toInt64.toUInt64).toInt64) ||| (x1 &&& (1 : Int64)))) (4611686018427387904 : UInt64)) := own_nnv (OwnFl.own_nn1 (own_neg hc3))
    obtain ⟨fs, hr, hrun, hended, hW, hsame⟩ := X0.leave (v := some (.double (FP.dmul (FP.l2d (((x1.toUInt64 >>> ((1 : Int32) &&& 0x3f).toInt64.toUInt64).toInt64) ||| (x1 &&& (1 : Int64)))) (4611686018427387904 : UInt64)))) (fun h => by rw [Bd.returns] at h; cases h)
    refine ⟨_, _, pre1 _ ?_, hrun, hended, _, _, rfl, ?_, ⟨_, rfl⟩, hW, hsame.mono (by decide) (by decide)⟩
    · show Steps p.tables e below (s₁.setTop (mkF m 3 #[.val (.long x1), .second] [(.int (lcmpW x1 (0 : Int64)))])) _
      refine XS.ifYes X0.here hx rfl (pc0 := 3) (pc' := 9) rfl (hb hby d1_3) rfl ((if0 _ _).trans (tlt hc3).1) (by decide) (by decide) ?_
      show Steps p.tables e below (s₁.setTop (mkF m 9 #[.val (.long x1), .second] [])) _
      refine XS.lloadN X0.here hx rfl (hb hby d1_9) rfl ?_
      show Steps p.tables e below (s₁.setTop (mkF m 10 #[.val (.long x1), .second] [(.long x1)])) _
      refine XS.iconst X0.here hx rfl (hb hby d1_10) ?_
      show Steps p.tables e below (s₁.setTop (mkF m 11 #[.val (.long x1), .second] [(.int (1 : Int32)), (.long x1)])) _
      refine XS.lushr X0.here hx rfl (hb hby d1_11) rfl ?_
      show Steps p.tables e below (s₁.setTop (mkF m 12 #[.val (.long x1), .second] [(.long ((x1.toUInt64 >>> ((1 : Int32) &&& 0x3f).toInt64.toUInt64).toInt64))])) _
      refine XS.lloadN X0.here hx rfl (hb hby d1_12) rfl ?_
      show Steps p.tables e below (s₁.setTop (mkF m 13 #[.val (.long x1), .second] [(.long x1), (.long ((x1.toUInt64 >>> ((1 : Int32) &&& 0x3f).toInt64.toUInt64).toInt64))])) _
      refine XS.lconst X0.here hx rfl (hb hby d1_13) ?_
      show Steps p.tables e below (s₁.setTop (mkF m 14 #[.val (.long x1), .second] [(.long (1 : Int64)), (.long x1), (.long ((x1.toUInt64 >>> ((1 : Int32) &&& 0x3f).toInt64.toUInt64).toInt64))])) _
      refine XS.land X0.here hx rfl (hb hby d1_14) rfl ?_
      show Steps p.tables e below (s₁.setTop (mkF m 15 #[.val (.long x1), .second] [(.long (x1 &&& (1 : Int64))), (.long ((x1.toUInt64 >>> ((1 : Int32) &&& 0x3f).toInt64.toUInt64).toInt64))])) _
      refine XS.lor X0.here hx rfl (hb hby d1_15) rfl ?_
      show Steps p.tables e below (s₁.setTop (mkF m 16 #[.val (.long x1), .second] [(.long (((x1.toUInt64 >>> ((1 : Int32) &&& 0x3f).toInt64.toUInt64).toInt64) ||| (x1 &&& (1 : Int64))))])) _
      refine XS.l2dS X0.here hx rfl (hb hby d1_16) rfl rfl ?_
      show Steps p.tables e below (s₁.setTop (mkF m 17 #[.val (.long x1), .second] [(.double (FP.l2d (((x1.toUInt64 >>> ((1 : Int32) &&& 0x3f).toInt64.toUInt64).toInt64) ||| (x1 &&& (1 : Int64)))))])) _
      refine X0.ldc2DoubleC hx hown (mvT hZ (own_wd hw 6 rfl)) (g := (mkF m 17 #[.val (.long x1), .second] [(.double (FP.l2d (((x1.toUInt64 >>> ((1 : Int32) &&& 0x3f).toInt64.toUInt64).toInt64) ||| (x1 &&& (1 : Int64)))))])) rfl (hb hby d1_17) _ ?_
      show Steps p.tables e below (s₁.setTop (mkF m 20 #[.val (.long x1), .second] [(.double (4611686018427387904 : UInt64)), (.double (FP.l2d (((x1.toUInt64 >>> ((1 : Int32) &&& 0x3f).toInt64.toUInt64).toInt64) ||| (x1 &&& (1 : Int64)))))])) _
      refine XS.dmulS X0.here hx rfl (hb hby d1_20) rfl nn2 rfl ?_
      show Steps p.tables e below (s₁.setTop (mkF m 21 #[.val (.long x1), .second] [(.double (FP.dmul (FP.l2d (((x1.toUInt64 >>> ((1 : Int32) &&& 0x3f).toInt64.toUInt64).toInt64) ||| (x1 &&& (1 : Int64)))) (4611686018427387904 : UInt64)))])) _
      exact retOut X0 hx Bd.returns rfl (Or.inr (Or.inr (Or.inl ⟨rfl, rfl, _, rfl⟩))) (hb hby d1_21) hr
    · show Q1 Z x1 h0 n0 _ s₁.heap _
      rw [e0]
      exact ⟨(congrArg (fun z => some (Value.double z)) (OwnFl.own_actT (own_neg hc3))), N0, rfl⟩
  · skip
    obtain ⟨fs, hr, hrun, hended, hW, hsame⟩ := X0.leave (v := some (.double (FP.l2d x1))) (fun h => by rw [Bd.returns] at h; cases h)
    refine ⟨_, _, pre1 _ ?_, hrun, hended, _, _, rfl, ?_, ⟨_, rfl⟩, hW, hsame.mono (by decide) (by decide)⟩
    · show Steps p.tables e below (s₁.setTop (mkF m 3 #[.val (.long x1), .second] [(.int (lcmpW x1 (0 : Int64)))])) _
      refine XS.ifNo X0.here hx rfl (hb hby d1_3) rfl ((if0 _ _).trans (flt hc3).1) ?_
      show Steps p.tables e below (s₁.setTop (mkF m 6 #[.val (.long x1), .second] [])) _
      refine XS.lloadN X0.here hx rfl (hb hby d1_6) rfl ?_
      show Steps p.tables e below (s₁.setTop (mkF m 7 #[.val (.long x1), .second] [(.long x1)])) _
      refine XS.l2dS X0.here hx rfl (hb hby d1_7) rfl rfl ?_
      show Steps p.tables e below (s₁.setTop (mkF m 8 #[.val (.long x1), .second] [(.double (FP.l2d x1))])) _
      exact retOut X0 hx Bd.returns rfl (Or.inr (Or.inr (Or.inl ⟨rfl, rfl, _, rfl⟩))) (hb hby d1_8) hr
    · show Q1 Z x1 h0 n0 _ s₁.heap _
      rw [e0]
      exact ⟨(congrArg (fun z => some (Value.double z)) (OwnFl.own_actF (own_nneg hc3))), N0, rfl⟩
theorem pd_0 : parseMethodDescriptor "(J)D" = some ⟨[.long], some .double⟩ := by decide +kernel
theorem pn_com_example_tidecell_tidecell_netcdf_NetcdfMappingUnsignedToDoublePinLaw : plainName "com/example/tidecell/tidecell/netcdf/NetcdfMappingUnsignedToDoublePinLaw" = true := by first | (simp [plainName, overriddenIn]; done) | decide +kernel
theorem ef0 (m : MethodId) (x1 : Int64) : entryFrame m #[(.long x1)] maxLocals = mkF m 0 #[.val (.long x1), .second, .unset, .unset, .unset, .unset, .unset, .unset, .unset, .unset] [] := by first | (simp [entryFrame, mkF, argsToLocals, Value.category, maxLocals]; done) | rfl
def Q0 (Z : State) (x1 : Int64) (h0 : Heap) (n0 : Nat) (v : Option Value) (h : Heap) (L : List Loc) : Prop := v = some (.int (1 : Int32)) ∧ Fr n0 L ∧ h = h0
set_option maxRecDepth 65536 in
set_option maxHeartbeats 40000000 in
theorem rm0 (l : Launch) (Z : State) (a0 : Array Value) (hw : ∀ d ∈ tables_1, d.before a0 Z = true) (ws : List Jvm.Cond) (x1 : Int64) (h0 : Heap) (n0 : Nat) (Z0 : n0 ≤ h0.size) (O0 : Old Z n0 h0) :
    MetFree l x (head1 (Jvm.Cond.code x code maxLocals ret :: ws) room_1) (fun a U => a = #[(.long x1)] ∧ Z.Warmed39 U.vm ∧ U.heap = h0) (fun _ _ _ _ _ => True) (fun _ U o U' => ∃ v L, o = .returned v ∧ Q0 Z x1 h0 n0 v U'.heap L ∧ FrameEnd U o U' L room_1.cells room_1.slots) := by
  refine MetFree.of_bodySF (plainFor_of_name pn_com_example_tidecell_tidecell_netcdf_NetcdfMappingUnsignedToDoublePinLaw) hisR ?_
  intro p e s m args below meth c s₁ Bd hml0 hP hK
  obtain ⟨rfl, hZ, hh⟩ := hP
  have hx := Bd.exec
  have hby := Bd.bytes
  have hml : c.maxLocals = 10 := hml0
  have hown : s.vm.findClass "com/example/tidecell/tidecell/netcdf/NetcdfMappingUnsignedToDoublePinLaw" = some m.cls := findClass_of_methodNamed Bd.named
  have hnm := (name_of_methodNamed Bd.named Bd.method).1
  have X0 : Stand p l e room_1 s m #[(.long x1)] below meth c s₁ [] 0 0 := Stand.of_body Bd
  have e0 : s₁.heap = h0 := by rw [← hh, Bd.state]; rfl
  have N0 := Fr.nil n0
  have K0 : Keep h0 h0 [] := Keep.refl _ _
  have pre0 : ∀ t, Steps p.tables e below (s₁.setTop (mkF m 0 #[.val (.long x1), .second, .unset, .unset, .unset, .unset, .unset, .unset, .unset, .unset] [])) t → Steps p.tables e below (s₁.setTop (entryFrame m #[(.long x1)] maxLocals)) t := fun t k => castTop (ef0 m x1) k
  have nn3 : Jvm.Free.Fl.NoNaN64 (FP.dmul (FP.l2d ((x1.toUInt64 >>> ((32 : Int32) &&& 0x3f).toInt64.toUInt64).toInt64)) (4751297606875873280 : UInt64)) := own_nnv (OwnFl.own_nn2 x1)
  have nn4 : Jvm.Free.Fl.NoNaN64 (FP.dadd (FP.dmul (FP.l2d ((x1.toUInt64 >>> ((32 : Int32) &&& 0x3f).toInt64.toUInt64).toInt64)) (4751297606875873280 : UInt64)) (FP.l2d (x1 &&& (4294967295 : Int64)))) := own_nnv (OwnFl.own_nn3 x1)
  obtain ⟨_, _, ⟨T5, L5, k5, n5⟩, -, X5, ⟨Lc5, hQ5, l5, y5, z5⟩, st5⟩ := Jvm.LawKit.callS X0 hx (y := (⟨"com/example/tidecell/tidecell/netcdf/NetcdfMapping", "unsignedToDouble", "(J)D"⟩ : MethodName)) hown (mvT hZ (own_wd hw 2 rfl)) (mvT hZ (own_wd hw 3 rfl)) (mvT hZ (own_wd hw 4 rfl)) (mvT hZ (own_wd hw 5 rfl)) (by decide) (backOf (W := 0) (rm1 l Z a0 hw [] x1 h0 n0 Z0 O0) hZ (own_wd hw 5 rfl) (own_wd hw 4 rfl) (by decide) (by decide)) (g := (mkF m 25 #[.val (.long x1), .second, .val (.double (FP.l2d ((x1.toUInt64 >>> ((32 : Int32) &&& 0x3f).toInt64.toUInt64).toInt64))), .second, .val (.double (FP.l2d (x1 &&& (4294967295 : Int64)))), .second, .val (.double (FP.dadd (FP.dmul (FP.l2d ((x1.toUInt64 >>> ((32 : Int32) &&& 0x3f).toInt64.toUInt64).toInt64)) (4751297606875873280 : UInt64)) (FP.l2d (x1 &&& (4294967295 : Int64))))), .second, .unset, .unset] [(.long x1)])) rfl (by rw [hml]; rfl) (argsL := [(.long x1)]) (rest := []) (lenOf pd_0 rfl) rfl (by show 2 * 0 + _ ≤ _; exact Nat.le_of_eq rfl) (hb hby at_25) (fun _ _ => ⟨rfl, e0, (by decide : 0 + 0 ≤ _), (by decide : 0 + 0 ≤ _)⟩)
  dsimp only [Pt.U, Pt.locs, Pt.cells, Pt.slots] at X5 l5 y5 z5 st5 hQ5
  subst l5 y5 z5
  obtain ⟨rfl, N5q, eh5⟩ := hQ5
  have N5 := Fr.app N0 N5q
  obtain ⟨fs, hr, hrun, hended, hW, hsame⟩ := X5.leave (v := some (.int (1 : Int32))) (fun h => by rw [Bd.returns] at h; cases h)
  refine ⟨_, _, pre0 _ ?_, hrun, hended, _, _, rfl, ?_, ⟨_, rfl⟩, hW, hsame.mono (by decide) (by decide)⟩
  · show Steps p.tables e below (s₁.setTop (mkF m 0 #[.val (.long x1), .second, .unset, .unset, .unset, .unset, .unset, .unset, .unset, .unset] [])) _
    refine XS.lloadN X0.here hx rfl (hb hby at_0) rfl ?_
    show Steps p.tables e below (s₁.setTop (mkF m 1 #[.val (.long x1), .second, .unset, .unset, .unset, .unset, .unset, .unset, .unset, .unset] [(.long x1)])) _
    refine XS.bipush X0.here hx rfl (hb hby at_1) ?_
    show Steps p.tables e below (s₁.setTop (mkF m 3 #[.val (.long x1), .second, .unset, .unset, .unset, .unset, .unset, .unset, .unset, .unset] [(.int (32 : Int32)), (.long x1)])) _
    refine XS.lushr X0.here hx rfl (hb hby at_3) rfl ?_
    show Steps p.tables e below (s₁.setTop (mkF m 4 #[.val (.long x1), .second, .unset, .unset, .unset, .unset, .unset, .unset, .unset, .unset] [(.long ((x1.toUInt64 >>> ((32 : Int32) &&& 0x3f).toInt64.toUInt64).toInt64))])) _
    refine XS.l2dS X0.here hx rfl (hb hby at_4) rfl rfl ?_
    show Steps p.tables e below (s₁.setTop (mkF m 5 #[.val (.long x1), .second, .unset, .unset, .unset, .unset, .unset, .unset, .unset, .unset] [(.double (FP.l2d ((x1.toUInt64 >>> ((32 : Int32) &&& 0x3f).toInt64.toUInt64).toInt64)))])) _
    refine XS.dstoreN X0.here hx rfl (hb hby at_5) rfl (l' := #[.val (.long x1), .second, .val (.double (FP.l2d ((x1.toUInt64 >>> ((32 : Int32) &&& 0x3f).toInt64.toUInt64).toInt64))), .second, .unset, .unset, .unset, .unset, .unset, .unset]) rfl ?_
    show Steps p.tables e below (s₁.setTop (mkF m 6 #[.val (.long x1), .second, .val (.double (FP.l2d ((x1.toUInt64 >>> ((32 : Int32) &&& 0x3f).toInt64.toUInt64).toInt64))), .second, .unset, .unset, .unset, .unset, .unset, .unset] [])) _
    refine XS.lloadN X0.here hx rfl (hb hby at_6) rfl ?_
    show Steps p.tables e below (s₁.setTop (mkF m 7 #[.val (.long x1), .second, .val (.double (FP.l2d ((x1.toUInt64 >>> ((32 : Int32) &&& 0x3f).toInt64.toUInt64).toInt64))), .second, .unset, .unset, .unset, .unset, .unset, .unset] [(.long x1)])) _
    refine X0.ldc2Long hx hown (mvT hZ (own_wd hw 0 rfl)) (g := (mkF m 7 #[.val (.long x1), .second, .val (.double (FP.l2d ((x1.toUInt64 >>> ((32 : Int32) &&& 0x3f).toInt64.toUInt64).toInt64))), .second, .unset, .unset, .unset, .unset, .unset, .unset] [(.long x1)])) rfl (hb hby at_7) _ ?_
    show Steps p.tables e below (s₁.setTop (mkF m 10 #[.val (.long x1), .second, .val (.double (FP.l2d ((x1.toUInt64 >>> ((32 : Int32) &&& 0x3f).toInt64.toUInt64).toInt64))), .second, .unset, .unset, .unset, .unset, .unset, .unset] [(.long (4294967295 : Int64)), (.long x1)])) _
    refine XS.land X0.here hx rfl (hb hby at_10) rfl ?_
    show Steps p.tables e below (s₁.setTop (mkF m 11 #[.val (.long x1), .second, .val (.double (FP.l2d ((x1.toUInt64 >>> ((32 : Int32) &&& 0x3f).toInt64.toUInt64).toInt64))), .second, .unset, .unset, .unset, .unset, .unset, .unset] [(.long (x1 &&& (4294967295 : Int64)))])) _
    refine XS.l2dS X0.here hx rfl (hb hby at_11) rfl rfl ?_
    show Steps p.tables e below (s₁.setTop (mkF m 12 #[.val (.long x1), .second, .val (.double (FP.l2d ((x1.toUInt64 >>> ((32 : Int32) &&& 0x3f).toInt64.toUInt64).toInt64))), .second, .unset, .unset, .unset, .unset, .unset, .unset] [(.double (FP.l2d (x1 &&& (4294967295 : Int64))))])) _
    refine XS.dstore X0.here hx rfl (hb hby at_12) rfl (l' := #[.val (.long x1), .second, .val (.double (FP.l2d ((x1.toUInt64 >>> ((32 : Int32) &&& 0x3f).toInt64.toUInt64).toInt64))), .second, .val (.double (FP.l2d (x1 &&& (4294967295 : Int64)))), .second, .unset, .unset, .unset, .unset]) rfl ?_
    show Steps p.tables e below (s₁.setTop (mkF m 14 #[.val (.long x1), .second, .val (.double (FP.l2d ((x1.toUInt64 >>> ((32 : Int32) &&& 0x3f).toInt64.toUInt64).toInt64))), .second, .val (.double (FP.l2d (x1 &&& (4294967295 : Int64)))), .second, .unset, .unset, .unset, .unset] [])) _
    refine XS.dloadN X0.here hx rfl (hb hby at_14) rfl ?_
    show Steps p.tables e below (s₁.setTop (mkF m 15 #[.val (.long x1), .second, .val (.double (FP.l2d ((x1.toUInt64 >>> ((32 : Int32) &&& 0x3f).toInt64.toUInt64).toInt64))), .second, .val (.double (FP.l2d (x1 &&& (4294967295 : Int64)))), .second, .unset, .unset, .unset, .unset] [(.double (FP.l2d ((x1.toUInt64 >>> ((32 : Int32) &&& 0x3f).toInt64.toUInt64).toInt64)))])) _
    refine X0.ldc2DoubleC hx hown (mvT hZ (own_wd hw 1 rfl)) (g := (mkF m 15 #[.val (.long x1), .second, .val (.double (FP.l2d ((x1.toUInt64 >>> ((32 : Int32) &&& 0x3f).toInt64.toUInt64).toInt64))), .second, .val (.double (FP.l2d (x1 &&& (4294967295 : Int64)))), .second, .unset, .unset, .unset, .unset] [(.double (FP.l2d ((x1.toUInt64 >>> ((32 : Int32) &&& 0x3f).toInt64.toUInt64).toInt64)))])) rfl (hb hby at_15) _ ?_
    show Steps p.tables e below (s₁.setTop (mkF m 18 #[.val (.long x1), .second, .val (.double (FP.l2d ((x1.toUInt64 >>> ((32 : Int32) &&& 0x3f).toInt64.toUInt64).toInt64))), .second, .val (.double (FP.l2d (x1 &&& (4294967295 : Int64)))), .second, .unset, .unset, .unset, .unset] [(.double (4751297606875873280 : UInt64)), (.double (FP.l2d ((x1.toUInt64 >>> ((32 : Int32) &&& 0x3f).toInt64.toUInt64).toInt64)))])) _
    refine XS.dmulS X0.here hx rfl (hb hby at_18) rfl nn3 rfl ?_
    show Steps p.tables e below (s₁.setTop (mkF m 19 #[.val (.long x1), .second, .val (.double (FP.l2d ((x1.toUInt64 >>> ((32 : Int32) &&& 0x3f).toInt64.toUInt64).toInt64))), .second, .val (.double (FP.l2d (x1 &&& (4294967295 : Int64)))), .second, .unset, .unset, .unset, .unset] [(.double (FP.dmul (FP.l2d ((x1.toUInt64 >>> ((32 : Int32) &&& 0x3f).toInt64.toUInt64).toInt64)) (4751297606875873280 : UInt64)))])) _
    refine XS.dload X0.here hx rfl (hb hby at_19) rfl ?_
    show Steps p.tables e below (s₁.setTop (mkF m 21 #[.val (.long x1), .second, .val (.double (FP.l2d ((x1.toUInt64 >>> ((32 : Int32) &&& 0x3f).toInt64.toUInt64).toInt64))), .second, .val (.double (FP.l2d (x1 &&& (4294967295 : Int64)))), .second, .unset, .unset, .unset, .unset] [(.double (FP.l2d (x1 &&& (4294967295 : Int64)))), (.double (FP.dmul (FP.l2d ((x1.toUInt64 >>> ((32 : Int32) &&& 0x3f).toInt64.toUInt64).toInt64)) (4751297606875873280 : UInt64)))])) _
    refine XS.daddS X0.here hx rfl (hb hby at_21) rfl nn4 rfl ?_
    show Steps p.tables e below (s₁.setTop (mkF m 22 #[.val (.long x1), .second, .val (.double (FP.l2d ((x1.toUInt64 >>> ((32 : Int32) &&& 0x3f).toInt64.toUInt64).toInt64))), .second, .val (.double (FP.l2d (x1 &&& (4294967295 : Int64)))), .second, .unset, .unset, .unset, .unset] [(.double (FP.dadd (FP.dmul (FP.l2d ((x1.toUInt64 >>> ((32 : Int32) &&& 0x3f).toInt64.toUInt64).toInt64)) (4751297606875873280 : UInt64)) (FP.l2d (x1 &&& (4294967295 : Int64)))))])) _
    refine XS.dstore X0.here hx rfl (hb hby at_22) rfl (l' := #[.val (.long x1), .second, .val (.double (FP.l2d ((x1.toUInt64 >>> ((32 : Int32) &&& 0x3f).toInt64.toUInt64).toInt64))), .second, .val (.double (FP.l2d (x1 &&& (4294967295 : Int64)))), .second, .val (.double (FP.dadd (FP.dmul (FP.l2d ((x1.toUInt64 >>> ((32 : Int32) &&& 0x3f).toInt64.toUInt64).toInt64)) (4751297606875873280 : UInt64)) (FP.l2d (x1 &&& (4294967295 : Int64))))), .second, .unset, .unset]) rfl ?_
    show Steps p.tables e below (s₁.setTop (mkF m 24 #[.val (.long x1), .second, .val (.double (FP.l2d ((x1.toUInt64 >>> ((32 : Int32) &&& 0x3f).toInt64.toUInt64).toInt64))), .second, .val (.double (FP.l2d (x1 &&& (4294967295 : Int64)))), .second, .val (.double (FP.dadd (FP.dmul (FP.l2d ((x1.toUInt64 >>> ((32 : Int32) &&& 0x3f).toInt64.toUInt64).toInt64)) (4751297606875873280 : UInt64)) (FP.l2d (x1 &&& (4294967295 : Int64))))), .second, .unset, .unset] [])) _
    refine XS.lloadN X0.here hx rfl (hb hby at_24) rfl ?_
    show Steps p.tables e below (s₁.setTop (mkF m 25 #[.val (.long x1), .second, .val (.double (FP.l2d ((x1.toUInt64 >>> ((32 : Int32) &&& 0x3f).toInt64.toUInt64).toInt64))), .second, .val (.double (FP.l2d (x1 &&& (4294967295 : Int64)))), .second, .val (.double (FP.dadd (FP.dmul (FP.l2d ((x1.toUInt64 >>> ((32 : Int32) &&& 0x3f).toInt64.toUInt64).toInt64)) (4751297606875873280 : UInt64)) (FP.l2d (x1 &&& (4294967295 : Int64))))), .second, .unset, .unset] [(.long x1)])) _
    refine st5 _ ?_
    show Steps p.tables e below (T5.setTop (mkF m 28 #[.val (.long x1), .second, .val (.double (FP.l2d ((x1.toUInt64 >>> ((32 : Int32) &&& 0x3f).toInt64.toUInt64).toInt64))), .second, .val (.double (FP.l2d (x1 &&& (4294967295 : Int64)))), .second, .val (.double (FP.dadd (FP.dmul (FP.l2d ((x1.toUInt64 >>> ((32 : Int32) &&& 0x3f).toInt64.toUInt64).toInt64)) (4751297606875873280 : UInt64)) (FP.l2d (x1 &&& (4294967295 : Int64))))), .second, .unset, .unset] [(.double (OwnFl.own_act x1))])) _
    refine XS.dstore X5.here hx rfl (hb hby at_28) rfl (l' := #[.val (.long x1), .second, .val (.double (FP.l2d ((x1.toUInt64 >>> ((32 : Int32) &&& 0x3f).toInt64.toUInt64).toInt64))), .second, .val (.double (FP.l2d (x1 &&& (4294967295 : Int64)))), .second, .val (.double (FP.dadd (FP.dmul (FP.l2d ((x1.toUInt64 >>> ((32 : Int32) &&& 0x3f).toInt64.toUInt64).toInt64)) (4751297606875873280 : UInt64)) (FP.l2d (x1 &&& (4294967295 : Int64))))), .second, .val (.double (OwnFl.own_act x1)), .second]) rfl ?_
    show Steps p.tables e below (T5.setTop (mkF m 30 #[.val (.long x1), .second, .val (.double (FP.l2d ((x1.toUInt64 >>> ((32 : Int32) &&& 0x3f).toInt64.toUInt64).toInt64))), .second, .val (.double (FP.l2d (x1 &&& (4294967295 : Int64)))), .second, .val (.double (FP.dadd (FP.dmul (FP.l2d ((x1.toUInt64 >>> ((32 : Int32) &&& 0x3f).toInt64.toUInt64).toInt64)) (4751297606875873280 : UInt64)) (FP.l2d (x1 &&& (4294967295 : Int64))))), .second, .val (.double (OwnFl.own_act x1)), .second] [])) _
    refine XS.dload X5.here hx rfl (hb hby at_30) rfl ?_
    show Steps p.tables e below (T5.setTop (mkF m 32 #[.val (.long x1), .second, .val (.double (FP.l2d ((x1.toUInt64 >>> ((32 : Int32) &&& 0x3f).toInt64.toUInt64).toInt64))), .second, .val (.double (FP.l2d (x1 &&& (4294967295 : Int64)))), .second, .val (.double (FP.dadd (FP.dmul (FP.l2d ((x1.toUInt64 >>> ((32 : Int32) &&& 0x3f).toInt64.toUInt64).toInt64)) (4751297606875873280 : UInt64)) (FP.l2d (x1 &&& (4294967295 : Int64))))), .second, .val (.double (OwnFl.own_act x1)), .second] [(.double (OwnFl.own_act x1))])) _
    refine XS.dload X5.here hx rfl (hb hby at_32) rfl ?_
    show Steps p.tables e below (T5.setTop (mkF m 34 #[.val (.long x1), .second, .val (.double (FP.l2d ((x1.toUInt64 >>> ((32 : Int32) &&& 0x3f).toInt64.toUInt64).toInt64))), .second, .val (.double (FP.l2d (x1 &&& (4294967295 : Int64)))), .second, .val (.double (FP.dadd (FP.dmul (FP.l2d ((x1.toUInt64 >>> ((32 : Int32) &&& 0x3f).toInt64.toUInt64).toInt64)) (4751297606875873280 : UInt64)) (FP.l2d (x1 &&& (4294967295 : Int64))))), .second, .val (.double (OwnFl.own_act x1)), .second] [(.double (FP.dadd (FP.dmul (FP.l2d ((x1.toUInt64 >>> ((32 : Int32) &&& 0x3f).toInt64.toUInt64).toInt64)) (4751297606875873280 : UInt64)) (FP.l2d (x1 &&& (4294967295 : Int64))))), (.double (OwnFl.own_act x1))])) _
    refine XS.dcmpS X5.here hx rfl (hb hby at_34) rfl rfl ?_
    show Steps p.tables e below (T5.setTop (mkF m 35 #[.val (.long x1), .second, .val (.double (FP.l2d ((x1.toUInt64 >>> ((32 : Int32) &&& 0x3f).toInt64.toUInt64).toInt64))), .second, .val (.double (FP.l2d (x1 &&& (4294967295 : Int64)))), .second, .val (.double (FP.dadd (FP.dmul (FP.l2d ((x1.toUInt64 >>> ((32 : Int32) &&& 0x3f).toInt64.toUInt64).toInt64)) (4751297606875873280 : UInt64)) (FP.l2d (x1 &&& (4294967295 : Int64))))), .second, .val (.double (OwnFl.own_act x1)), .second] [(.int (cmpValue (FP.dcmp (OwnFl.own_act x1) (FP.dadd (FP.dmul (FP.l2d ((x1.toUInt64 >>> ((32 : Int32) &&& 0x3f).toInt64.toUInt64).toInt64)) (4751297606875873280 : UInt64)) (FP.l2d (x1 &&& (4294967295 : Int64))))) .l))])) _
    refine XS.ifNo X5.here hx rfl (hb hby at_35) rfl ((if0 _ _).trans (teq (dcmpV_eq (OwnFl.own_eq0 x1) (own_nnv (OwnFl.own_nn4 x1)) .l)).2) ?_
    show Steps p.tables e below (T5.setTop (mkF m 38 #[.val (.long x1), .second, .val (.double (FP.l2d ((x1.toUInt64 >>> ((32 : Int32) &&& 0x3f).toInt64.toUInt64).toInt64))), .second, .val (.double (FP.l2d (x1 &&& (4294967295 : Int64)))), .second, .val (.double (FP.dadd (FP.dmul (FP.l2d ((x1.toUInt64 >>> ((32 : Int32) &&& 0x3f).toInt64.toUInt64).toInt64)) (4751297606875873280 : UInt64)) (FP.l2d (x1 &&& (4294967295 : Int64))))), .second, .val (.double (OwnFl.own_act x1)), .second] [])) _
    refine XS.iconst X5.here hx rfl (hb hby at_38) ?_
    show Steps p.tables e below (T5.setTop (mkF m 39 #[.val (.long x1), .second, .val (.double (FP.l2d ((x1.toUInt64 >>> ((32 : Int32) &&& 0x3f).toInt64.toUInt64).toInt64))), .second, .val (.double (FP.l2d (x1 &&& (4294967295 : Int64)))), .second, .val (.double (FP.dadd (FP.dmul (FP.l2d ((x1.toUInt64 >>> ((32 : Int32) &&& 0x3f).toInt64.toUInt64).toInt64)) (4751297606875873280 : UInt64)) (FP.l2d (x1 &&& (4294967295 : Int64))))), .second, .val (.double (OwnFl.own_act x1)), .second] [(.int (1 : Int32))])) _
    refine XS.goto X5.here hx rfl (pc0 := 39) (pc' := 43) rfl (hb hby at_39) (by decide) (by decide) ?_
    show Steps p.tables e below (T5.setTop (mkF m 43 #[.val (.long x1), .second, .val (.double (FP.l2d ((x1.toUInt64 >>> ((32 : Int32) &&& 0x3f).toInt64.toUInt64).toInt64))), .second, .val (.double (FP.l2d (x1 &&& (4294967295 : Int64)))), .second, .val (.double (FP.dadd (FP.dmul (FP.l2d ((x1.toUInt64 >>> ((32 : Int32) &&& 0x3f).toInt64.toUInt64).toInt64)) (4751297606875873280 : UInt64)) (FP.l2d (x1 &&& (4294967295 : Int64))))), .second, .val (.double (OwnFl.own_act x1)), .second] [(.int (1 : Int32))])) _
    exact retN X5 hx (t := .boolean) Bd.returns (by simp) (hb hby at_43) hr
  · show Q0 Z x1 h0 n0 _ T5.heap _
    rw [eh5]
    exact ⟨rfl, N5, rfl⟩
set_option maxRecDepth 65536 in
set_option maxHeartbeats 40000000 in
theorem comes_1 {Post : Tables → Env → Array Value → State → Outcome → State → Prop} (hpost : ∀ tb e args s v u, (limb_1_1.after args s (.returned v) u = true ∧ limb_1_2.after args s (.returned v) u = true ∧ True) → FrameEnd s (.returned v) u (Jvm.fieldLocs frame_1_writes args s ++ Jvm.arrayLocs frame_1_arrays args s ++ Jvm.staticLocs frame_1_statics s) 0 0 → Post tb e args s (.returned v) u) :
    ArmFor flags0 classFile x code maxLocals ret World_1 tables_1 room_1 Calls_1 rest_1 Pre_1 Post := by
  intro l hfl _ _ p e ha hc hk s m args below hf hA hF happ hP
  obtain ⟨hcalls, hrest, hpre⟩ := hP
  obtain ⟨-, -, -, hnamed, -, -, -, hat⟩ := (Spec.applies_iff hf).mp happ
  obtain ⟨hg, hn⟩ := and_e (Cond.before_iff.mp (show (Jvm.Cond.and given_1 narrow_1).before args s = true from hpre))
  obtain ⟨gg1, gg2⟩ := and_e hg
  obtain ⟨w0, rfl⟩ : ∃ w0 : Value, args = #[w0] := by
    have hs : args.size = 1 := by simpa [Cond.value, given_1] using gg1
    obtain ⟨L⟩ := args
    match L, hs with
    | [w0], _ => exact ⟨w0, rfl⟩
  have hw := fun d (hd : d ∈ tables_1) => atoms_spec (ws := Jvm.Cond.code x code maxLocals ret :: tables_1) hat d (List.mem_cons_of_mem _ hd)
  have hfit : Fit s := fun {y c} hc i hi => by
    obtain ⟨ha, rfl⟩ := Array.getElem?_eq_some_iff.mp hc
    have q := List.all_eq_true.mp ((Array.all_eq_true_iff_forall_mem.mp hF) _ (Array.getElem_mem ha)) i (List.mem_range.mpr hi)
    simpa [Array.getElem?_eq_getElem hi] using q
  obtain ⟨i0, ei0⟩ := isL_v gg2
  obtain rfl : w0 = (.long i0) := Option.some.inj ei0
  obtain ⟨n, o, h1, h2, h3, _, L, rfl, ⟨rfl, N, -⟩, hq⟩ := rm0 l s _ hw tables_1 i0 s.heap s.heap.size (Nat.le_refl _) (Old.start s) p e ha hc hk s m _ below hf ((Spec.applies_iff_loose hf).mp happ).1 ⟨rfl, State.Warmed39.refl s, rfl⟩ trivial
  refine ⟨n, _, h1, h2, h3, hpost _ _ _ _ _ _ ⟨Cond.after_iff.mpr rfl, Cond.after_iff.mpr (eq_i res_at (Term.int_eval (1)) rfl), trivial⟩ ⟨hq.1, hq.2.1, (hq.2.2.sift fun y hy => Or.inr (N y hy)).mono (by decide) (by decide)⟩⟩
theorem main_1_1 : Claimed_1_1 := comes_1 fun _ _ _ _ _ _ h hF => ⟨h.1, hF⟩
theorem main_1_2 : Claimed_1_2 := comes_1 fun _ _ _ _ _ _ h hF => ⟨h.2.1, hF⟩
end Jvm.Pilot.@@N@@
namespace Jvm.Pilot.@@N@@
open Jvm Jvm.ClassFile Sem Op Lib Jvm.Free Jvm.Stand Jvm.Pilot.@@N@@.Jvm.D
/-! MADE BY PROGRAM (witnessworld.py) out of the Statement's table words and the real class files: 7 classes; the members and pool entries that the words name. The judged class is class 1, her method 1. -/
namespace start1
open Jvm.ClassFile
def u (s : String) : CpInfo := .utf8 (stringToUtf16 s)
/-- a pool by its gaps: so many unusable entries, then the entry; so many at the end -/
def gap : Nat → List CpInfo → List CpInfo
  | 0, r => r
  | n + 1, r => .unusable :: gap n r
def poolList (es : List (Nat × CpInfo)) (last : Nat) : List CpInfo := es.foldr (fun e r => gap e.1 (e.2 :: r)) (gap last [])
def pool (es : List (Nat × CpInfo)) (last : Nat) : Array CpInfo := ⟨poolList es last⟩
def fileOf (pool : Array CpInfo) (this : Nat) (attrs : Array Attribute := #[]) (ms : Array MethodInfo := #[]) (fl : Nat := 33) (sup : Nat := 0) (ifs : Array Nat := #[]) (fds : Array FieldInfo := #[]) : ClassFile where
  minorVersion := 0
  majorVersion := 65
  constantPool := pool
  accessFlags := fl
  thisClass := this
  superClass := sup
  interfaces := ifs
  fields := fds
  methods := ms
  attributes := attrs
def plain (name : String) (sup : Option ClassId) : Class where
  name := name
  kind := .ordinary
  loader := none
  accessFlags := 33
  super := sup
  interfaces := #[]
  cf := none
  fields := #[]
  methods := #[]
  instanceTypes := #[]
  staticTypes := #[]
  resolved := #[]
  callSites := []
  init := .initialized
  statics := none
  mirror := none

def pool0 : Array CpInfo := pool [(5, u "<init>"), (0, u "()V"), (1, .class_ 10), (1, u "java/lang/Object")] 113

def k0m0 : Method := { name := "<init>", desc := "()V", sig := { parameters := [], returnType := none }, accessFlags := 1, code := none }
/-- java/lang/Object -/
def k0 : Class := { plain "java/lang/Object" none with
  accessFlags := 33
  interfaces := #[]
  cf := some (fileOf pool0 8 #[] #[{ accessFlags := 1, nameIndex := 5, descriptorIndex := 6, attributes := #[] }] 33 0 #[] #[])
  fields := #[]
  methods := #[k0m0]
  instanceTypes := #[]
  staticTypes := #[]
  resolved := Array.replicate 124 none
  statics := none }

def pool1 : Array CpInfo := pool [(2, .class_ 4), (1, u "java/lang/Object"), (0, u "<init>"), (0, u "()V"), (0, .long 4294967295), (1, .double 4751297606875873280), (1, .methodref 12 13), (0, .class_ 14), (0, .nameAndType 15 16), (0, u "com/example/tidecell/tidecell/netcdf/NetcdfMapping"), (0, u "unsignedToDouble"), (0, u "(J)D"), (0, .class_ 18), (0, u "com/example/tidecell/tidecell/netcdf/NetcdfMappingUnsignedToDoublePinLaw"), (2, u "law"), (0, u "(J)Z")] 3

def k1m0 : Method := { name := "<init>", desc := "()V", sig := { parameters := [], returnType := none }, accessFlags := 2, code := none }
def k1c1 : Code := { maxStack := 4, maxLocals := 10, code := code, exceptionTable := #[], attributes := #[] }
def k1m1 : Method := { name := "law", desc := "(J)Z", sig := { parameters := [.long], returnType := some .boolean }, accessFlags := 9, code := some k1c1 }
/-- com/example/tidecell/tidecell/netcdf/NetcdfMappingUnsignedToDoublePinLaw -/
def k1 : Class := { plain "com/example/tidecell/tidecell/netcdf/NetcdfMappingUnsignedToDoublePinLaw" (some 0) with
  accessFlags := 49
  interfaces := #[]
  cf := some (fileOf pool1 17 #[] #[{ accessFlags := 2, nameIndex := 5, descriptorIndex := 6, attributes := #[] }, { accessFlags := 9, nameIndex := 21, descriptorIndex := 22, attributes := #[] }] 49 2 #[] #[])
  fields := #[]
  methods := #[k1m0, k1m1]
  instanceTypes := #[]
  staticTypes := #[]
  resolved := Array.replicate 26 none
  statics := none }

def pool2 : Array CpInfo := pool [(2, .class_ 4), (1, u "java/lang/Object"), (0, u "<init>"), (0, u "()V"), (1, .class_ 10), (1, u "com/example/tidecell/tidecell/netcdf/NetcdfMapping$1"), (13, .class_ 25), (0, u "com/example/tidecell/tidecell/netcdf/NetcdfMapping$Stored"), (40, .class_ 68), (1, u "com/example/tidecell/tidecell/netcdf/NetcdfMapping"), (60, .class_ 130), (0, u "com/example/tidecell/tidecell/netcdf/NetcdfMapping$Kept"), (240, u "MARKABLE_UNSIGNED"), (0, u "Ljava/util/Set;"), (128, u "unsignedToDouble"), (0, u "(J)D"), (25, .double 4611686018427387904), (32, u "ENCODING"), (0, u "Ljava/lang/String;"), (1, u "UNSIGNED"), (2, u "ROW"), (0, u "STRLEN"), (2, u "UNSUPPORTED"), (28, .class_ 601), (0, u "com/example/tidecell/tidecell/netcdf/NetcdfMapping$Padded")] 51

def k2m0 : Method := { name := "<init>", desc := "()V", sig := { parameters := [], returnType := none }, accessFlags := 2, code := none }
def k2c1 : Code := { maxStack := 6, maxLocals := 2, code := prog_42_method_14_code, exceptionTable := #[], attributes := #[] }
def k2m1 : Method := { name := "unsignedToDouble", desc := "(J)D", sig := { parameters := [.long], returnType := some .double }, accessFlags := 8, code := some k2c1 }
/-- com/example/tidecell/tidecell/netcdf/NetcdfMapping -/
def k2 : Class := { plain "com/example/tidecell/tidecell/netcdf/NetcdfMapping" (some 0) with
  accessFlags := 49
  interfaces := #[]
  cf := some (fileOf pool2 66 #[.nestMembers #[8, 600, 129, 24]] #[{ accessFlags := 2, nameIndex := 5, descriptorIndex := 6, attributes := #[] }, { accessFlags := 8, nameIndex := 501, descriptorIndex := 502, attributes := #[] }] 49 2 #[] #[{ accessFlags := 24, nameIndex := 561, descriptorIndex := 562, attributes := #[] }, { accessFlags := 24, nameIndex := 564, descriptorIndex := 562, attributes := #[] }, { accessFlags := 24, nameIndex := 371, descriptorIndex := 372, attributes := #[] }, { accessFlags := 24, nameIndex := 567, descriptorIndex := 562, attributes := #[] }, { accessFlags := 26, nameIndex := 568, descriptorIndex := 562, attributes := #[] }, { accessFlags := 26, nameIndex := 571, descriptorIndex := 562, attributes := #[] }])
  fields := #[{ name := "ENCODING", type := (.object "java/lang/String"), accessFlags := 24, slot := 0, constantValue := 0 }, { name := "UNSIGNED", type := (.object "java/lang/String"), accessFlags := 24, slot := 1, constantValue := 0 }, { name := "MARKABLE_UNSIGNED", type := (.object "java/util/Set"), accessFlags := 24, slot := 2, constantValue := 0 }, { name := "ROW", type := (.object "java/lang/String"), accessFlags := 24, slot := 3, constantValue := 0 }, { name := "STRLEN", type := (.object "java/lang/String"), accessFlags := 26, slot := 4, constantValue := 0 }, { name := "UNSUPPORTED", type := (.object "java/lang/String"), accessFlags := 26, slot := 5, constantValue := 0 }]
  methods := #[k2m0, k2m1]
  instanceTypes := #[]
  staticTypes := #[(.object "java/lang/String"), (.object "java/lang/String"), (.object "java/util/Set"), (.object "java/lang/String"), (.object "java/lang/String"), (.object "java/lang/String")]
  resolved := Array.replicate 653 none
  statics := none }

def pool3 : Array CpInfo := pool [(1, u "java/lang/Cloneable"), (0, .class_ 1), (0, u "java/lang/Object"), (0, .class_ 3)] 3

/-- java/lang/Cloneable -/
def k3 : Class := { plain "java/lang/Cloneable" (some 0) with
  accessFlags := 1537
  interfaces := #[]
  cf := some (fileOf pool3 2 #[] #[] 1537 4 #[] #[])
  fields := #[]
  methods := #[]
  instanceTypes := #[]
  staticTypes := #[]
  resolved := Array.replicate 8 none
  statics := none }

def pool4 : Array CpInfo := pool [(1, u "java/io/Serializable"), (0, .class_ 1), (0, u "java/lang/Object"), (0, .class_ 3)] 3

/-- java/io/Serializable -/
def k4 : Class := { plain "java/io/Serializable" (some 0) with
  accessFlags := 1537
  interfaces := #[]
  cf := some (fileOf pool4 2 #[] #[] 1537 4 #[] #[])
  fields := #[]
  methods := #[]
  instanceTypes := #[]
  staticTypes := #[]
  resolved := Array.replicate 8 none
  statics := none }

/-- the primitive byte -/
def k5 : Class := { plain "byte" none with kind := .primitive 'B', accessFlags := 0x411 }
/-- [B -/
def k6 : Class := { plain "[B" (some 0) with kind := .array 5 .byte, interfaces := #[3, 4], accessFlags := 1041 }

def heap : Heap := #[]
def classes : Array Class := #[k0, k1, k2, k3, k4, k5, k6]
def interned : List (Array UInt16 × Addr) := []
def slotsUsed : Nat := 0
def theMethod : MethodId := ⟨1, 1⟩
def args0 : Array Value := #[.long 5]
def aboutOver (below : List Frame) : State where
  vm := { classes := classes, interned := interned.toArray }
  heap := heap
  slotsUsed := slotsUsed
  threads := #[{ frames := .invoking theMethod args0 :: below }]
def below0 : List Frame := [.native { method := ⟨0, 0⟩, args := #[] }]
def about1 : State := aboutOver below0
def p0 : Program := .bare "" "" ""
def e0 : Env := launch0.env 0 0 0
theorem w_frames : about1.frames = Frame.invoking theMethod args0 :: below0 := rfl
set_option maxRecDepth 65536 in
theorem w_args : argsFit about1.vm theMethod args0 = true := by decide +kernel
set_option maxRecDepth 65536 in
theorem w_heap : heapFits about1 = true := by decide +kernel
set_option maxRecDepth 65536 in
theorem w_runnable : about1.curStatus? = some .runnable := by decide +kernel
set_option maxRecDepth 65536 in
theorem w_alone : about1.alone = true := by decide +kernel
set_option maxRecDepth 65536 in
theorem w_named : about1.methodNamed? x = some theMethod := by decide +kernel
set_option maxRecDepth 65536 in
theorem w_hears : about1.hears theMethod below0 = true := by decide +kernel
set_option maxRecDepth 65536 in
theorem w_ripe : about1.ripe theMethod args0 below0 = true := by decide +kernel
theorem w_running : about1.status = .running := rfl
set_option maxRecDepth 65536 in
theorem w_room : about1.hasRoom e0.platform room_1 = true :=
  launch0.hasRoom_least _ room_1 (by decide +kernel) (by decide +kernel) (by decide +kernel) (by decide +kernel) (by decide +kernel) (by decide +kernel)
theorem allAtoms_all (ts : List Jvm.Cond) (a : Array Jvm.Value) (st : Jvm.State) : (allAtoms ts).before a st = ts.all (fun c => c.before a st) := by
  induction ts with
  | nil => rfl
  | cons c t ih =>
    show (Jvm.Cond.and c (allAtoms t)).before a st = _
    rw [Jvm.Cond.before_and, ih, List.all_cons]
def words1 : List Jvm.Cond := Jvm.Cond.code x code maxLocals ret :: tables_1
/-- a 'code' word, met by the world's own term for the bytes: nothing is compared byte by byte -/
theorem code_word {y : MethodName} {bytes : ByteArray} {mx : Nat} {rt : Option FieldType} {a : Array Value} {s : State} {m : MethodId} {meth : Method} {c : Code} (h1 : s.methodNamed? y = some m) (h2 : s.vm.method? m = some meth) (h3 : meth.code = some c) (h4 : c.code = bytes)
    (h5 : (c.maxLocals == mx && c.exceptionTable.isEmpty && decide (c.maxStack ≤ mostOperands) && decide (meth.sig.returnType = rt) && !meth.locks && decide (parseMethodDescriptor y.desc = some meth.sig)) = true) : (Jvm.Cond.code y bytes mx rt).before a s = true := by
  simp only [Bool.and_eq_true, beq_iff_eq, Bool.not_eq_true', decide_eq_true_eq] at h5
  obtain ⟨⟨⟨⟨⟨g1, g2⟩, g3⟩, g4⟩, g5⟩, g6⟩ := h5
  simp [Cond.before, Cond.holds, Cond.value, h1, h2, h3, h4, g1, g2, g3, g4, g5, g6]
def isCode : Jvm.Cond → Bool
  | .code _ _ _ _ => true
  | _ => false
theorem all_split {L : List Jvm.Cond} {P : Jvm.Cond → Bool} (h1 : L.all (fun c => isCode c || P c) = true) (h2 : ∀ c ∈ L.filter isCode, P c = true) : L.all P = true := by
  refine List.all_eq_true.mpr fun c hc => ?_
  have h := List.all_eq_true.mp h1 c hc
  rcases Bool.eq_false_or_eq_true (isCode c) with hi | hi
  · exact h2 c (List.mem_filter.mpr ⟨hc, hi⟩)
  · simpa [hi] using h
set_option maxRecDepth 65536 in
theorem w_c0 : (Jvm.Cond.code x code maxLocals ret).before args0 about1 = true := code_word (m := ⟨1, 1⟩) (meth := k1m1) (c := k1c1) (by decide +kernel) rfl rfl rfl (by decide +kernel)
set_option maxRecDepth 65536 in
theorem w_c1 : (Jvm.Cond.code ({ cls := "com/example/tidecell/tidecell/netcdf/NetcdfMapping", name := "unsignedToDouble", desc := "(J)D" } : Jvm.MethodName) prog_42_method_14_code (2 : Nat) (Option.some Jvm.ClassFile.FieldType.double)).before args0 about1 = true := code_word (m := ⟨2, 1⟩) (meth := k2m1) (c := k2c1) (by decide +kernel) rfl rfl rfl (by decide +kernel)
def codes1 : List Jvm.Cond := [Jvm.Cond.code x code maxLocals ret, Jvm.Cond.code ({ cls := "com/example/tidecell/tidecell/netcdf/NetcdfMapping", name := "unsignedToDouble", desc := "(J)D" } : Jvm.MethodName) prog_42_method_14_code (2 : Nat) (Option.some Jvm.ClassFile.FieldType.double)]
set_option maxRecDepth 65536 in
theorem codes_eq : words1.filter isCode = codes1 := rfl
theorem w_codes : ∀ c ∈ words1.filter isCode, c.before args0 about1 = true := by
  rw [codes_eq]
  intro c hc
  simp only [codes1, List.mem_cons, List.not_mem_nil, or_false] at hc
  rcases hc with rfl | rfl
  · exact w_c0
  · exact w_c1
set_option maxRecDepth 65536 in
theorem w_t1 : words1.all (fun c => isCode c || c.before args0 about1) = true := by decide +kernel
theorem w_tables : (allAtoms (Jvm.Cond.code x code maxLocals ret :: tables_1)).before args0 about1 = true := by
  rw [allAtoms_all]
  show words1.all (fun c => c.before args0 about1) = true
  refine all_split ?_ w_codes
  rw [w_t1]
set_option maxRecDepth 65536 in
theorem w_case : (Jvm.Cond.and given_1 narrow_1).before args0 about1 = true := by decide +kernel
theorem w_applies : (headSpec (Jvm.Cond.code x code maxLocals ret :: tables_1) room_1).applies x e0.platform about1 = true :=
  (Spec.applies_iff w_frames).mpr ⟨w_running, w_runnable, w_alone, w_named, w_hears, w_ripe, w_room, w_tables⟩
theorem atStart : AtStart classFile x code maxLocals ret World_1 tables_1 room_1 Calls_1 rest_1 Pre_1 launch0 p0 e0 about1 theMethod args0 below0 :=
  ⟨lists_1, trivial, launch0.admits_env _ _ _, launch0.least_env, fairChoices_fair.cas, fairChoices_fair.clock, w_frames, w_args, w_heap, w_applies, trivial, trivial, w_case⟩
end start1
theorem witness_1 : WitnessClaimed_1 := ⟨start1.p0, start1.e0, start1.about1, start1.theMethod, start1.args0, start1.below0, start1.atStart⟩
end Jvm.Pilot.@@N@@
