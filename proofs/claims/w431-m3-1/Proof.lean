import JvmDerived
import JvmDerived.Pilot.@@N@@Statement
import JvmDerived.Pilot.@@N@@Code
set_option linter.unusedVariables false
set_option linter.unusedSimpArgs false
namespace Jvm.RoadKit
open Sem ClassFile Op Lib Jvm.Stand Jvm.Free Jvm.LawKit
section New
variable {p : Program} {l : Launch} {e : Env} {R : Room} {s : State} {m : MethodId} {args : Array Value} {below : List Frame} {meth : Method} {c : Code} {T : State} {locs : List Loc} {cells slots : Nat}
theorem retI (X : Stand p l e R s m args below meth c T locs cells slots) (hx : p.tables.exec = Jvm.exec) {pc : Nat} {Ls : Array Slot} {z : Int32} {rest : List Value} (hret : meth.sig.returnType = some .int) (hd : decode c.code pc = .ok (.ireturn, 1)) {fs : List Frame}
    (hl : ∀ (f : JFrame) (acts : List Action), f.method = m → f.locked = none → f.entered = [] → (doReturn e (T.setTop f) acts (some (.int z))).1 = T.setFrames fs) : Steps p.tables e below (T.setTop (mkF m pc Ls (.int z :: rest))) (T.setFrames fs) :=
  retOut X hx hret rfl (Or.inl ⟨rfl, Or.inl rfl, z, rfl⟩) hd hl
end New
end Jvm.RoadKit
namespace OwnFl
open Jvm Jvm.FP.Core
theorem own_ratio {ca cb A B C : Nat} {qa qb : Int} (ha : ca * 2 ^ qa.toNat = A * 2 ^ (-qa).toNat) (hb : cb * 2 ^ qb.toNat = B * 2 ^ (-qb).toNat) (h : A = C * B) :
    ca * 1 * 2 ^ (qa - qb - 0).toNat = C * cb * 2 ^ (0 - (qa - qb)).toNat := by
  have ex : (qa - qb - 0).toNat + ((-qa).toNat + qb.toNat) = (0 - (qa - qb)).toNat + (qa.toNat + (-qb).toNat) := by omega
  refine Nat.eq_of_mul_eq_mul_right (Nat.two_pow_pos ((-qa).toNat + qb.toNat)) ?_
  generalize (qa - qb - 0).toNat = u at ex ⊢
  generalize (0 - (qa - qb)).toNat = v at ex ⊢
  calc ca * 1 * 2 ^ u * 2 ^ ((-qa).toNat + qb.toNat) = ca * 2 ^ (u + ((-qa).toNat + qb.toNat)) := by rw [Nat.mul_one, Nat.mul_assoc, ← Nat.pow_add]
    _ = ca * 2 ^ (v + (qa.toNat + (-qb).toNat)) := by rw [ex]
    _ = (ca * 2 ^ qa.toNat) * (2 ^ v * 2 ^ (-qb).toNat) := by rw [Nat.pow_add, Nat.pow_add]; ac_rfl
    _ = C * cb * 2 ^ v * 2 ^ ((-qa).toNat + qb.toNat) := by
      rw [ha, h, Nat.pow_add]
      have : C * B * 2 ^ (-qa).toNat * (2 ^ v * 2 ^ (-qb).toNat) = (B * 2 ^ (-qb).toNat) * (C * 2 ^ v * 2 ^ (-qa).toNat) := by ac_rfl
      rw [this, ← hb]; ac_rfl
theorem own_ddiv {a b c : Int64} (ha : Small53 a) (hb : Small53 b) (b0 : 0 < b.toInt) (h : a.toInt = c.toInt * b.toInt) : ddiv (l2d a) (l2d b) = l2d c := by
  have va := l2d_whole ha
  have vb := l2d_whole hb
  obtain ⟨ca, qa, ea⟩ := l2d_shape a
  obtain ⟨cb, qb, eb⟩ := l2d_shape b
  have hv : val64 (ddiv (l2d a) (l2d b)) = val64 (l2d c) := by
    rw [val64_ddiv, val64_l2d c, ea, eb]
    rw [ea] at va; rw [eb] at vb
    have cb0 : cb ≠ 0 := fun q => by have := (whole_zero vb).mp q; omega
    show (if cb = 0 then _ else roundRatio b64 _ ca cb (qa - qb)) = roundRatio b64 _ c.toInt.natAbs 1 0
    rw [if_neg cb0]
    have hs : (decide (a.toInt < 0) != decide (b.toInt < 0)) = decide (c.toInt < 0) := by
      have : ¬ b.toInt < 0 := by omega
      rw [decide_eq_false this, Bool.bne_false, decide_eq_decide, h]
      constructor
      · intro q; exact Int.lt_of_not_ge fun w => by have := Int.mul_nonneg w (Int.le_of_lt b0); omega
      · intro q; exact Int.mul_neg_of_neg_of_pos q b0
    rw [hs]
    refine roundRatio_congr (by omega) (by decide) ?_
    exact own_ratio (whole_natAbs va) (whole_natAbs vb) (by rw [h, Int.natAbs_mul])
  have hn : val64 (l2d c) ≠ .nan := by rw [val64_l2d]; exact roundRatio_ne_nan _ _ _ _ _
  exact val64_inj (by rw [hv]; exact hn) hv
end OwnFl
namespace Jvm.Pilot.@@N@@
open Jvm Jvm.ClassFile Sem Op Lib Jvm.Free Jvm.Stand Jvm.LawKit Jvm.RoadKit Bundle Jvm.Pilot.@@N@@.Jvm.D
theorem own_selp {s : State} {args : Array Value} {C : String} {y : MethodName} (h : (Cond.selects C y y).before args s = true) (hpriv : s.PrivateAt y) (hinst : (Cond.instanceMethod y).before args s = true) (hy : y.cls ≠ "java/lang/invoke/MethodHandle" ∧ y.cls ≠ "java/lang/invoke/VarHandle") :
    (Cond.selects y.cls y y).before args s = true := by
  obtain ⟨c, r, mm, -, hr, hm, -, mk, hmk, hni⟩ := Cond.selects_spec h
  obtain ⟨mk', methM, hnamed, hmethM, -, -⟩ := Cond.instanceMethod_spec hinst
  cases hm.symm.trans hnamed
  have hfound : s.methodFound? y.cls y.name y.desc = some mm := State.methodFound?_of_named hnamed hy
  have hsel : selectMethod {} s.vm mm.cls mm = .method mm := selectMethod_private hmethM (hpriv mm methM hnamed hmethM)
  simp only [Cond.before, Cond.holds, Cond.value, findClass_of_methodNamed hnamed, hfound, hnamed, hsel, hmk]
  simp; exact hni
theorem own_nf {s : State} {a0 : Array Value} {y y' : MethodName} (h : NotFace s y) (hd : (Jvm.Cond.declares y).before a0 s = true) (e : y.cls = y'.cls) : NotFace s y' := fun r0 h0 => by
  obtain ⟨m, meth, hn, -, -, -⟩ := Cond.declares_spec hd
  obtain ⟨kr, hk, hi⟩ := h m hn
  have a := findClass_of_methodNamed hn
  have b := findClass_of_methodNamed h0
  rw [e] at a
  have c := Option.some.inj (a.symm.trans b)
  exact ⟨kr, by rw [← c]; exact hk, hi⟩
theorem own_same {Z : State} {a0 : Array Value} {y : MethodName} (hf : NotFace Z y) (h : (Jvm.Cond.declares y).before a0 Z = true) (hy : y.cls ≠ "java/lang/invoke/MethodHandle" ∧ y.cls ≠ "java/lang/invoke/VarHandle") : (Jvm.Cond.sameMethod y.cls y.cls y.name y.desc).before a0 Z = true := by
  obtain ⟨m, meth, hn, hm, -, -⟩ := Cond.declares_spec h
  have hfc := findClass_of_methodNamed hn
  have hfo := State.methodFound?_of_named hn hy
  have hn' : Z.methodNamed? ⟨y.cls, y.name, y.desc⟩ = some m := hn
  obtain ⟨kr, hk, hi⟩ := hf m hn
  simp [Cond.before, Cond.holds, Cond.value, hfc, hfo, hn', hk, hi]
theorem own_wd {Z : State} {a0 : Array Value} (hw : ∀ d ∈ tables_1, d.before a0 Z = true) (i : Nat) {d : Jvm.Cond} (h : tables_1[i]? = some d) : d.before a0 Z = true := hw _ (List.mem_of_getElem? h)
def own_b (P : Prop) [Decidable P] : Int32 := if P then (1 : Int32) else (0 : Int32)
theorem own_bt {P : Prop} [Decidable P] (h : P) : own_b P = (1 : Int32) := if_pos h
theorem own_bf {P : Prop} [Decidable P] (h : ¬ P) : own_b P = (0 : Int32) := if_neg h
theorem own_btn {P : Prop} [Decidable P] (h : P) : ¬ (own_b P = (0 : Int32)) := by rw [own_bt h]; decide
theorem own_bfn {P : Prop} [Decidable P] (h : ¬ P) : ¬ (own_b P = (1 : Int32)) := by rw [own_bf h]; decide
theorem own_b_congr {P Q : Prop} [Decidable P] [Decidable Q] (h : P ↔ Q) : own_b P = own_b Q := by
  by_cases q : P
  · rw [own_bt q, own_bt (h.mp q)]
  · rw [own_bf q, own_bf fun z => q (h.mpr z)]
theorem own_eqI {args : Array Value} {s : State} {t : Term} {k : Int32} (h : (Jvm.Cond.eq t (.int k)).value args s none s [] = some true) : t.eval args s none [] s = some (.int k) := by
  obtain ⟨x, y, h1, h2, -, h4⟩ := cmp_v (Or.inl h)
  cases Option.some.inj (h2.symm.trans (Term.int_eval k))
  obtain ⟨z, rfl⟩ := h4
  rw [h1, gotT (Cond.eq_ints h1 h2) h]
theorem own_eqR {args : Array Value} {s : State} {t u : Term} {y : Addr} (hu : u.eval args s none [] s = some (.ref y)) (h : (Jvm.Cond.eq t u).value args s none s [] = some true) : t.eval args s none [] s = some (.ref y) := by
  obtain ⟨x, y', h1, h2, -, h4⟩ := cmp_v (Or.inl h)
  cases Option.some.inj (h2.symm.trans hu)
  rw [h1, gotT (eq_R h1 h2 h4.2 rfl) h]
theorem own_len {args : Array Value} {s : State} {t : Term} {a : Addr} {cl : Cell} {ty : FieldType} {k : Int32} (ev : t.eval args s none [] s = some (.ref a)) (A : Arr s s.heap a cl ty) (h : (Term.length t).eval args s none [] s = some (.int k)) : cl.slots.size < 2 ^ 31 ∧ cl.slots.size.toInt32 = k := by
  have ha : s.arrayAt? a = some cl := A.fin (Vm.Alike.refl _)
  by_cases hl : cl.slots.size < 2 ^ 31
  · rw [len_f ev ha hl] at h
    exact ⟨hl, by simpa using h⟩
  · simp [Term.eval, ev, ha, hl] at h
theorem own_eqL {args : Array Value} {s : State} {t : Term} {k : Int64} (h : (Jvm.Cond.eq t (.long k)).value args s none s [] = some true) : t.eval args s none [] s = some (.long k) := by
  obtain ⟨x, y, h1, h2, -, h4⟩ := cmp_v (Or.inl h)
  cases Option.some.inj (h2.symm.trans (long_at k))
  obtain ⟨z, rfl⟩ := h4
  rw [h1, gotT (eq_L h1 h2) h]
theorem own_nnv {x : UInt64} (h : Jvm.FP.Core.val64 x ≠ .nan) : Jvm.Free.Fl.NoNaN64 x := Jvm.Free.Fl.val64_no.mpr h
theorem own_b32 (s : Int32) : B53 s.toInt64 := by
  have h1 := s.le_toInt
  have h2 := s.toInt_lt
  unfold B53
  rw [Int32.toInt_toInt64]; omega
theorem own_dc (s : Int32) : FP.dcmp (FP.i2d s) (0 : UInt64) = some (if s.toInt < 0 then .lt else if s.toInt = 0 then .eq else .gt) := by
  have h := dcmp_ws (own_b32 s) (own_b32 0)
  rw [show (0 : Int32).toInt64 = 0 by decide, l2d_zero, ← i2d_w, Int32.toInt_toInt64] at h
  exact h
theorem own_cpos {s : Int32} (h : (0 : Int32) < s) : (0 : Int32) < (cmpValue (FP.dcmp (FP.i2d s) (0 : UInt64)) .l) := by
  have h' : (0 : Int) < s.toInt := by rw [Int32.lt_iff_toInt_lt] at h; exact h
  rw [own_dc, if_neg (by omega), if_neg (by omega)]; decide
theorem own_cnpos {s : Int32} (h : ¬ (0 : Int32) < s) : ¬ ((0 : Int32) < (cmpValue (FP.dcmp (FP.i2d s) (0 : UInt64)) .l)) := by
  have h' : ¬ (0 : Int) < s.toInt := fun q => h (by rw [Int32.lt_iff_toInt_lt]; exact q)
  rw [own_dc]
  by_cases g : s.toInt < 0
  · rw [if_pos g]; decide
  · rw [if_neg g, if_pos (by omega)]; decide
theorem own_q {q s x : Int32} (hs : s = x % (1048576 : Int32)) (h : (0 : Int32) < s) : FP.ddiv (FP.l2d (q.toInt64 * s.toInt64)) (FP.i2d s) = FP.i2d q := by
  have h0 : (0 : Int) < s.toInt := by rw [Int32.lt_iff_toInt_lt] at h; exact h
  have h1 : s.toInt < 1048576 := by
    have e := c_irem x (1048576 : Int32) 1048576 (by decide)
    rw [← hs] at e
    by_cases g : 0 ≤ x.toInt
    · rw [e.1 g]; omega
    · rw [e.2 (by omega)]; omega
  have q1 := q.le_toInt
  have q2 := q.toInt_lt
  have m1 : q.toInt * s.toInt ≤ 2147483648 * s.toInt := Int.mul_le_mul_of_nonneg_right (by omega) (by omega)
  have m2 : -2147483648 * s.toInt ≤ q.toInt * s.toInt := Int.mul_le_mul_of_nonneg_right (by omega) (by omega)
  have e : (q.toInt64 * s.toInt64).toInt = q.toInt * s.toInt := by
    rw [Jvm.FP.Core.int64_mul, Int32.toInt_toInt64, Int32.toInt_toInt64] <;> rw [Int32.toInt_toInt64, Int32.toInt_toInt64] <;> omega
  rw [i2d_w, i2d_w]
  refine OwnFl.own_ddiv ?_ (own_b32 s) (by rw [Int32.toInt_toInt64]; exact h0) (by rw [e, Int32.toInt_toInt64, Int32.toInt_toInt64])
  unfold Jvm.FP.Core.Small53
  rw [e]; omega
theorem own_qn (q : Int32) : Jvm.Free.Fl.NoNaN64 (FP.i2d q) := nn_w (i2d_w q)

theorem d2_0 : decode jdk_30_method_1_code 0 = .ok (.aload_n 0, 1) := by decide +kernel
theorem d2_1 : decode jdk_30_method_1_code 1 = .ok (.invokespecial 1, 3) := by decide +kernel
theorem d2_4 : decode jdk_30_method_1_code 4 = .ok (.return_, 1) := by decide +kernel
theorem pn_java_lang_Record : plainName "java/lang/Record" = true := by first | (simp [plainName, overriddenIn]; done) | decide +kernel
theorem ef2 (m : MethodId) (tz : Addr) : entryFrame m #[(.ref tz)] 1 = mkF m 0 #[.val (.ref tz)] [] := by first | (simp [entryFrame, mkF, argsToLocals, Value.category]; done) | rfl
def Q2 (Z : State) (tz : Addr) (h0 : Heap) (n0 : Nat) (v : Option Value) (h : Heap) (L : List Loc) : Prop := v = none ∧ Fr n0 L ∧ h = h0
set_option maxRecDepth 65536 in
set_option maxHeartbeats 40000000 in
theorem rm2 (l : Launch) (Z : State) (a0 : Array Value) (hw : ∀ d ∈ tables_1, d.before a0 Z = true) (ws : List Jvm.Cond) (tz : Addr) (h0 : Heap) (n0 : Nat) (Z0 : n0 ≤ h0.size) (O0 : Old Z n0 h0) :
    MetFree l (⟨"java/lang/Record", "<init>", "()V"⟩ : MethodName) (head1 (Jvm.Cond.code (⟨"java/lang/Record", "<init>", "()V"⟩ : MethodName) jdk_30_method_1_code 1 none :: ws) ({ frames := 1, cells := 0, slots := 0, locals := 12 } : Room)) (fun a U => a = #[(.ref tz)] ∧ Z.Warmed39 U.vm ∧ U.heap = h0) (fun _ _ _ _ _ => True) (fun _ U o U' => ∃ v L, o = .returned v ∧ Q2 Z tz h0 n0 v U'.heap L ∧ FrameEnd U o U' L ({ frames := 1, cells := 0, slots := 0, locals := 12 } : Room).cells ({ frames := 1, cells := 0, slots := 0, locals := 12 } : Room).slots) := by
  refine MetFree.of_bodySF (plainFor_of_name pn_java_lang_Record) hisR ?_
  intro p e s m args below meth c s₁ Bd hml0 hP hK
  obtain ⟨rfl, hZ, hh⟩ := hP
  have hx := Bd.exec
  have hby := Bd.bytes
  have hml : c.maxLocals = 1 := hml0
  have hown : s.vm.findClass "java/lang/Record" = some m.cls := findClass_of_methodNamed Bd.named
  have hnm := (name_of_methodNamed Bd.named Bd.method).1
  have X0 : Stand p l e ({ frames := 1, cells := 0, slots := 0, locals := 12 } : Room) s m #[(.ref tz)] below meth c s₁ [] 0 0 := Stand.of_body Bd
  have e0 : s₁.heap = h0 := by rw [← hh, Bd.state]; rfl
  have N0 := Fr.nil n0
  have K0 : Keep h0 h0 [] := Keep.refl _ _
  have pre0 : ∀ t, Steps p.tables e below (s₁.setTop (mkF m 0 #[.val (.ref tz)] [])) t → Steps p.tables e below (s₁.setTop (entryFrame m #[(.ref tz)] 1)) t := fun t k => castTop (ef2 m tz) k
  obtain ⟨T1, X1, e1, st1⟩ := initO X0 hx hZ hown (own_wd hw 12 rfl) (own_wd hw 13 rfl) (own_wd hw 14 rfl) e0 (g := (mkF m 1 #[.val (.ref tz)] [(.ref tz)])) rfl (by rw [hml]; rfl) rfl (hb hby d2_1) (by decide) (W := 0) (by show 2 * 0 + _ ≤ _; exact Nat.le_of_eq rfl) (by decide)
  obtain ⟨fs, hr, hrun, hended, hW, hsame⟩ := X1.leave (v := none) (fun _ => rfl)
  refine ⟨_, _, pre0 _ ?_, hrun, hended, _, _, rfl, ?_, ⟨_, rfl⟩, hW, hsame.mono (by decide) (by decide)⟩
  · show Steps p.tables e below (s₁.setTop (mkF m 0 #[.val (.ref tz)] [])) _
    refine XS.aloadN X0.here hx rfl (hb hby d2_0) rfl rfl ?_
    show Steps p.tables e below (s₁.setTop (mkF m 1 #[.val (.ref tz)] [(.ref tz)])) _
    refine st1 _ ?_
    show Steps p.tables e below (T1.setTop (mkF m 4 #[.val (.ref tz)] [])) _
    exact X1.returnOut hx Bd.returns (hb hby d2_4) hr
  · show Q2 Z tz h0 n0 _ T1.heap _
    rw [e1]
    exact ⟨rfl, N0, rfl⟩
theorem d1_0 : decode prog_8_method_1_code 0 = .ok (.aload_n 0, 1) := by decide +kernel
theorem pd_0 : parseMethodDescriptor "()V" = some ⟨[], none⟩ := by decide +kernel
theorem d1_1 : decode prog_8_method_1_code 1 = .ok (.invokespecial 3, 3) := by decide +kernel
theorem d1_4 : decode prog_8_method_1_code 4 = .ok (.aload_n 0, 1) := by decide +kernel
theorem d1_5 : decode prog_8_method_1_code 5 = .ok (.dload_n 1, 1) := by decide +kernel
theorem d1_6 : decode prog_8_method_1_code 6 = .ok (.putfield 9, 3) := by decide +kernel
theorem d1_9 : decode prog_8_method_1_code 9 = .ok (.aload_n 0, 1) := by decide +kernel
theorem d1_10 : decode prog_8_method_1_code 10 = .ok (.dload_n 3, 1) := by decide +kernel
theorem d1_11 : decode prog_8_method_1_code 11 = .ok (.putfield 15, 3) := by decide +kernel
theorem d1_14 : decode prog_8_method_1_code 14 = .ok (.aload_n 0, 1) := by decide +kernel
theorem d1_15 : decode prog_8_method_1_code 15 = .ok (.dload 5, 2) := by decide +kernel
theorem d1_17 : decode prog_8_method_1_code 17 = .ok (.putfield 18, 3) := by decide +kernel
theorem d1_20 : decode prog_8_method_1_code 20 = .ok (.return_, 1) := by decide +kernel
theorem pn_com_example_windward_windward_EndpointRecord_Counts : plainName "com/example/windward/windward/EndpointRecord$Counts" = true := by first | (simp [plainName, overriddenIn]; done) | decide +kernel
theorem ef1 (m : MethodId) (tz : Addr) (x1 : UInt64) (x2 : UInt64) (x3 : UInt64) : entryFrame m #[(.ref tz), (.double x1), (.double x2), (.double x3)] 7 = mkF m 0 #[.val (.ref tz), .val (.double x1), .second, .val (.double x2), .second, .val (.double x3), .second] [] := by first | (simp [entryFrame, mkF, argsToLocals, Value.category]; done) | rfl
def Q1 (Z : State) (tz : Addr) (x1 : UInt64) (x2 : UInt64) (x3 : UInt64) (u_tz_successes : Value) (u_tz_failures : Value) (u_tz_successNanos : Value) (h0 : Heap) (n0 : Nat) (v : Option Value) (h : Heap) (L : List Loc) : Prop := v = none ∧ Fr n0 L ∧ Keep h0 h [tz] ∧ Exa Z h tz "com/example/windward/windward/EndpointRecord$Counts" ∧ Fld Z h tz "com/example/windward/windward/EndpointRecord$Counts" "successes" "D" (.double x1) ∧ Fld Z h tz "com/example/windward/windward/EndpointRecord$Counts" "failures" "D" (.double x2) ∧ Fld Z h tz "com/example/windward/windward/EndpointRecord$Counts" "successNanos" "D" (.double x3)
set_option maxRecDepth 65536 in
set_option maxHeartbeats 40000000 in
theorem rm1 (l : Launch) (Z : State) (a0 : Array Value) (hw : ∀ d ∈ tables_1, d.before a0 Z = true) (ws : List Jvm.Cond) (tz : Addr) (x1 : UInt64) (x2 : UInt64) (x3 : UInt64) (u_tz_successes : Value) (u_tz_failures : Value) (u_tz_successNanos : Value) (h0 : Heap) (n0 : Nat) (Z0 : n0 ≤ h0.size) (O0 : Old Z n0 h0) (E_tz : Exa Z h0 tz "com/example/windward/windward/EndpointRecord$Counts") (F_u_tz_successes : Fld Z h0 tz "com/example/windward/windward/EndpointRecord$Counts" "successes" "D" u_tz_successes) (g_tz : n0 ≤ tz) (F_u_tz_failures : Fld Z h0 tz "com/example/windward/windward/EndpointRecord$Counts" "failures" "D" u_tz_failures) (F_u_tz_successNanos : Fld Z h0 tz "com/example/windward/windward/EndpointRecord$Counts" "successNanos" "D" u_tz_successNanos) :
    MetFree l (⟨"com/example/windward/windward/EndpointRecord$Counts", "<init>", "(DDD)V"⟩ : MethodName) (head1 (Jvm.Cond.code (⟨"com/example/windward/windward/EndpointRecord$Counts", "<init>", "(DDD)V"⟩ : MethodName) prog_8_method_1_code 7 none :: ws) ({ frames := 2, cells := 0, slots := 0, locals := 24 } : Room)) (fun a U => a = #[(.ref tz), (.double x1), (.double x2), (.double x3)] ∧ Z.Warmed39 U.vm ∧ U.heap = h0) (fun _ _ _ _ _ => True) (fun _ U o U' => ∃ v L, o = .returned v ∧ Q1 Z tz x1 x2 x3 u_tz_successes u_tz_failures u_tz_successNanos h0 n0 v U'.heap L ∧ FrameEnd U o U' L ({ frames := 2, cells := 0, slots := 0, locals := 24 } : Room).cells ({ frames := 2, cells := 0, slots := 0, locals := 24 } : Room).slots) := by
  refine MetFree.of_bodySF (plainFor_of_name pn_com_example_windward_windward_EndpointRecord_Counts) hisR ?_
  intro p e s m args below meth c s₁ Bd hml0 hP hK
  obtain ⟨rfl, hZ, hh⟩ := hP
  have hx := Bd.exec
  have hby := Bd.bytes
  have hml : c.maxLocals = 7 := hml0
  have hown : s.vm.findClass "com/example/windward/windward/EndpointRecord$Counts" = some m.cls := findClass_of_methodNamed Bd.named
  have hnm := (name_of_methodNamed Bd.named Bd.method).1
  have X0 : Stand p l e ({ frames := 2, cells := 0, slots := 0, locals := 24 } : Room) s m #[(.ref tz), (.double x1), (.double x2), (.double x3)] below meth c s₁ [] 0 0 := Stand.of_body Bd
  have e0 : s₁.heap = h0 := by rw [← hh, Bd.state]; rfl
  have N0 := Fr.nil n0
  have K0 : Keep h0 h0 [tz] := Keep.refl _ _
  have pre0 : ∀ t, Steps p.tables e below (s₁.setTop (mkF m 0 #[.val (.ref tz), .val (.double x1), .second, .val (.double x2), .second, .val (.double x3), .second] [])) t → Steps p.tables e below (s₁.setTop (entryFrame m #[(.ref tz), (.double x1), (.double x2), (.double x3)] 7)) t := fun t k => castTop (ef1 m tz x1 x2 x3) k
  obtain ⟨_, _, ⟨T2, L2, k2, n2⟩, -, X2, ⟨Lc2, hQ2, l2, y2, z2⟩, st2⟩ := X0.specialBack hx (y := (⟨"java/lang/Record", "<init>", "()V"⟩ : MethodName)) rfl hown (mvT hZ (own_wd hw 7 rfl)) (mvT hZ (own_wd hw 8 rfl)) (mvT hZ (own_wd hw 11 rfl)) (by decide) (backOf (W := 0) (rm2 l Z a0 hw [] tz h0 n0 Z0 O0) hZ (own_wd hw 11 rfl) (own_wd hw 10 rfl) (by decide) (by decide)) (g := (mkF m 1 #[.val (.ref tz), .val (.double x1), .second, .val (.double x2), .second, .val (.double x3), .second] [(.ref tz)])) rfl (by rw [hml]; rfl) (Steps.refl _) (a := tz) (argsL := []) (rest := []) (lenOf pd_0 rfl) rfl (by show 2 * 0 + _ ≤ _; exact Nat.le_of_eq rfl) (hb hby d1_1) (fun _ _ => ⟨rfl, e0, (by decide : 0 + 0 ≤ _), (by decide : 0 + 0 ≤ _)⟩)
  dsimp only [Pt.U, Pt.locs, Pt.cells, Pt.slots] at X2 l2 y2 z2 st2 hQ2
  subst l2 y2 z2
  obtain ⟨rfl, N2q, eh2⟩ := hQ2
  have N2 := Fr.app N0 N2q
  obtain ⟨T3, h3, X3, e3, W3, st3⟩ := putF X2 hx hZ hown (host := "") (Or.inl (own_wd hw 15 rfl)) Via.refl eh2 F_u_tz_successes E_tz (Or.inr ⟨(own_wd hw 16 rfl), rfl, hnm⟩) (own_wd hw 2 rfl) (ty := .double) (by decide) rfl rfl (g := (mkF m 6 #[.val (.ref tz), .val (.double x1), .second, .val (.double x2), .second, .val (.double x3), .second] [(.double x1), (.ref tz)])) rfl rfl (hb hby d1_6)
  have O3 : Old Z n0 h3 := O0.wr W3 g_tz
  have Z3 : n0 ≤ h3.size := Nat.le_trans Z0 (Keep.of_wr W3).1
  have K3 : Keep h0 h3 [tz] := K0.wr W3 (Or.inl (List.mem_of_getElem? (i := 0) rfl))
  have N3 := Fr.snoc X3 N2 g_tz
  have Fw3 : Fld Z h3 tz "com/example/windward/windward/EndpointRecord$Counts" "successes" "D" (.double x1) := F_u_tz_successes.same W3
  have C4 : Exa Z h3 tz "com/example/windward/windward/EndpointRecord$Counts" := (E_tz.wr W3)
  have F5 : Fld Z h3 tz "com/example/windward/windward/EndpointRecord$Counts" "failures" "D" u_tz_failures := (F_u_tz_failures.other W3 (Or.inr (slot_ne (Or.inr (own_wd hw 18 rfl)) (Or.inr (own_wd hw 16 rfl)) (by decide) (t := .double) (t' := .double) (by decide) (by decide))))
  obtain ⟨T6, h6, X6, e6, W6, st6⟩ := putF X3 hx hZ hown (host := "") (Or.inl (own_wd hw 17 rfl)) Via.refl e3 F5 C4 (Or.inr ⟨(own_wd hw 18 rfl), rfl, hnm⟩) (own_wd hw 2 rfl) (ty := .double) (by decide) rfl rfl (g := (mkF m 11 #[.val (.ref tz), .val (.double x1), .second, .val (.double x2), .second, .val (.double x3), .second] [(.double x2), (.ref tz)])) rfl rfl (hb hby d1_11)
  have O6 : Old Z n0 h6 := O3.wr W6 g_tz
  have Z6 : n0 ≤ h6.size := Nat.le_trans Z3 (Keep.of_wr W6).1
  have K6 : Keep h0 h6 [tz] := K3.wr W6 (Or.inl (List.mem_of_getElem? (i := 0) rfl))
  have N6 := Fr.snoc X6 N3 g_tz
  have Fw6 : Fld Z h6 tz "com/example/windward/windward/EndpointRecord$Counts" "failures" "D" (.double x2) := F5.same W6
  have C7 : Exa Z h6 tz "com/example/windward/windward/EndpointRecord$Counts" := (C4.wr W6)
  have F8 : Fld Z h6 tz "com/example/windward/windward/EndpointRecord$Counts" "successNanos" "D" u_tz_successNanos := ((F_u_tz_successNanos.other W3 (Or.inr (slot_ne (Or.inr (own_wd hw 20 rfl)) (Or.inr (own_wd hw 16 rfl)) (by decide) (t := .double) (t' := .double) (by decide) (by decide)))).other W6 (Or.inr (slot_ne (Or.inr (own_wd hw 20 rfl)) (Or.inr (own_wd hw 18 rfl)) (by decide) (t := .double) (t' := .double) (by decide) (by decide))))
  obtain ⟨T9, h9, X9, e9, W9, st9⟩ := putF X6 hx hZ hown (host := "") (Or.inl (own_wd hw 19 rfl)) Via.refl e6 F8 C7 (Or.inr ⟨(own_wd hw 20 rfl), rfl, hnm⟩) (own_wd hw 2 rfl) (ty := .double) (by decide) rfl rfl (g := (mkF m 17 #[.val (.ref tz), .val (.double x1), .second, .val (.double x2), .second, .val (.double x3), .second] [(.double x3), (.ref tz)])) rfl rfl (hb hby d1_17)
  have O9 : Old Z n0 h9 := O6.wr W9 g_tz
  have Z9 : n0 ≤ h9.size := Nat.le_trans Z6 (Keep.of_wr W9).1
  have K9 : Keep h0 h9 [tz] := K6.wr W9 (Or.inl (List.mem_of_getElem? (i := 0) rfl))
  have N9 := Fr.snoc X9 N6 g_tz
  have Fw9 : Fld Z h9 tz "com/example/windward/windward/EndpointRecord$Counts" "successNanos" "D" (.double x3) := F8.same W9
  have C10 : Exa Z h9 tz "com/example/windward/windward/EndpointRecord$Counts" := (C7.wr W9)
  have F11 : Fld Z h9 tz "com/example/windward/windward/EndpointRecord$Counts" "successes" "D" (.double x1) := ((Fw3.other W6 (Or.inr (slot_ne (Or.inr (own_wd hw 16 rfl)) (Or.inr (own_wd hw 18 rfl)) (by decide) (t := .double) (t' := .double) (by decide) (by decide)))).other W9 (Or.inr (slot_ne (Or.inr (own_wd hw 16 rfl)) (Or.inr (own_wd hw 20 rfl)) (by decide) (t := .double) (t' := .double) (by decide) (by decide))))
  have F12 : Fld Z h9 tz "com/example/windward/windward/EndpointRecord$Counts" "failures" "D" (.double x2) := (Fw6.other W9 (Or.inr (slot_ne (Or.inr (own_wd hw 18 rfl)) (Or.inr (own_wd hw 20 rfl)) (by decide) (t := .double) (t' := .double) (by decide) (by decide))))
  obtain ⟨fs, hr, hrun, hended, hW, hsame⟩ := X9.leave (v := none) (fun _ => rfl)
  refine ⟨_, _, pre0 _ ?_, hrun, hended, _, _, rfl, ?_, ⟨_, rfl⟩, hW, hsame.mono (by decide) (by decide)⟩
  · show Steps p.tables e below (s₁.setTop (mkF m 0 #[.val (.ref tz), .val (.double x1), .second, .val (.double x2), .second, .val (.double x3), .second] [])) _
    refine XS.aloadN X0.here hx rfl (hb hby d1_0) rfl rfl ?_
    show Steps p.tables e below (s₁.setTop (mkF m 1 #[.val (.ref tz), .val (.double x1), .second, .val (.double x2), .second, .val (.double x3), .second] [(.ref tz)])) _
    refine st2.trans ?_
    show Steps p.tables e below (T2.setTop (mkF m 4 #[.val (.ref tz), .val (.double x1), .second, .val (.double x2), .second, .val (.double x3), .second] [])) _
    refine XS.aloadN X2.here hx rfl (hb hby d1_4) rfl rfl ?_
    show Steps p.tables e below (T2.setTop (mkF m 5 #[.val (.ref tz), .val (.double x1), .second, .val (.double x2), .second, .val (.double x3), .second] [(.ref tz)])) _
    refine XS.dloadN X2.here hx rfl (hb hby d1_5) rfl ?_
    show Steps p.tables e below (T2.setTop (mkF m 6 #[.val (.ref tz), .val (.double x1), .second, .val (.double x2), .second, .val (.double x3), .second] [(.double x1), (.ref tz)])) _
    refine st3 _ ?_
    show Steps p.tables e below (T3.setTop (mkF m 9 #[.val (.ref tz), .val (.double x1), .second, .val (.double x2), .second, .val (.double x3), .second] [])) _
    refine XS.aloadN X3.here hx rfl (hb hby d1_9) rfl rfl ?_
    show Steps p.tables e below (T3.setTop (mkF m 10 #[.val (.ref tz), .val (.double x1), .second, .val (.double x2), .second, .val (.double x3), .second] [(.ref tz)])) _
    refine XS.dloadN X3.here hx rfl (hb hby d1_10) rfl ?_
    show Steps p.tables e below (T3.setTop (mkF m 11 #[.val (.ref tz), .val (.double x1), .second, .val (.double x2), .second, .val (.double x3), .second] [(.double x2), (.ref tz)])) _
    refine st6 _ ?_
    show Steps p.tables e below (T6.setTop (mkF m 14 #[.val (.ref tz), .val (.double x1), .second, .val (.double x2), .second, .val (.double x3), .second] [])) _
    refine XS.aloadN X6.here hx rfl (hb hby d1_14) rfl rfl ?_
    show Steps p.tables e below (T6.setTop (mkF m 15 #[.val (.ref tz), .val (.double x1), .second, .val (.double x2), .second, .val (.double x3), .second] [(.ref tz)])) _
    refine XS.dload X6.here hx rfl (hb hby d1_15) rfl ?_
    show Steps p.tables e below (T6.setTop (mkF m 17 #[.val (.ref tz), .val (.double x1), .second, .val (.double x2), .second, .val (.double x3), .second] [(.double x3), (.ref tz)])) _
    refine st9 _ ?_
    show Steps p.tables e below (T9.setTop (mkF m 20 #[.val (.ref tz), .val (.double x1), .second, .val (.double x2), .second, .val (.double x3), .second] [])) _
    exact X9.returnOut hx Bd.returns (hb hby d1_20) hr
  · show Q1 Z tz x1 x2 x3 u_tz_successes u_tz_failures u_tz_successNanos h0 n0 _ T9.heap _
    rw [e9]
    exact ⟨rfl, N9, K9, C10, F11, F12, Fw9⟩
theorem d4_0 : decode prog_8_method_2_code 0 = .ok (.aload_n 0, 1) := by decide +kernel
theorem d4_1 : decode prog_8_method_2_code 1 = .ok (.getfield 9, 3) := by decide +kernel
theorem d4_4 : decode prog_8_method_2_code 4 = .ok (.dconst 0, 1) := by decide +kernel
theorem d4_5 : decode prog_8_method_2_code 5 = .ok (.dcmp .l, 1) := by decide +kernel
theorem d4_6 : decode prog_8_method_2_code 6 = .ok (.ifCond .le 15, 3) := by decide +kernel
theorem d4_9 : decode prog_8_method_2_code 9 = .ok (.aload_n 0, 1) := by decide +kernel
theorem d4_10 : decode prog_8_method_2_code 10 = .ok (.getfield 18, 3) := by decide +kernel
theorem d4_13 : decode prog_8_method_2_code 13 = .ok (.aload_n 0, 1) := by decide +kernel
theorem d4_14 : decode prog_8_method_2_code 14 = .ok (.getfield 9, 3) := by decide +kernel
theorem d4_17 : decode prog_8_method_2_code 17 = .ok (.ddiv, 1) := by decide +kernel
theorem d4_18 : decode prog_8_method_2_code 18 = .ok (.goto 6, 3) := by decide +kernel
theorem d4_24 : decode prog_8_method_2_code 24 = .ok (.dreturn, 1) := by decide +kernel
theorem ef4_p (m : MethodId) (tz : Addr) : entryFrame m #[(.ref tz)] 1 = mkF m 0 #[.val (.ref tz)] [] := by first | (simp [entryFrame, mkF, argsToLocals, Value.category]; done) | rfl
def Q4_p (Z : State) (tz : Addr) (tz_successes : UInt64) (tz_successNanos : UInt64) (h0 : Heap) (n0 : Nat) (v : Option Value) (h : Heap) (L : List Loc) : Prop := v = some (.double (FP.ddiv tz_successNanos tz_successes)) ∧ Fr n0 L ∧ h = h0
set_option maxRecDepth 65536 in
set_option maxHeartbeats 40000000 in
theorem rm4_p (l : Launch) (Z : State) (a0 : Array Value) (hw : ∀ d ∈ tables_1, d.before a0 Z = true) (ws : List Jvm.Cond) (tz : Addr) (tz_successes : UInt64) (tz_successNanos : UInt64) (h0 : Heap) (n0 : Nat) (Z0 : n0 ≤ h0.size) (O0 : Old Z n0 h0) (hp : (0 : Int32) < (cmpValue (FP.dcmp tz_successes (0 : UInt64)) .l)) (hn : Jvm.Free.Fl.NoNaN64 (FP.ddiv tz_successNanos tz_successes)) (F_tz_successes : Fld Z h0 tz "com/example/windward/windward/EndpointRecord$Counts" "successes" "D" (.double tz_successes)) (F_tz_successNanos : Fld Z h0 tz "com/example/windward/windward/EndpointRecord$Counts" "successNanos" "D" (.double tz_successNanos)) :
    MetFree l (⟨"com/example/windward/windward/EndpointRecord$Counts", "latencyNanos", "()D"⟩ : MethodName) (head1 (Jvm.Cond.code (⟨"com/example/windward/windward/EndpointRecord$Counts", "latencyNanos", "()D"⟩ : MethodName) prog_8_method_2_code 1 (some .double) :: ws) ({ frames := 0, cells := 0, slots := 0, locals := 0 } : Room)) (fun a U => a = #[(.ref tz)] ∧ Z.Warmed39 U.vm ∧ U.heap = h0) (fun _ _ _ _ _ => True) (fun _ U o U' => ∃ v L, o = .returned v ∧ Q4_p Z tz tz_successes tz_successNanos h0 n0 v U'.heap L ∧ FrameEnd U o U' L ({ frames := 0, cells := 0, slots := 0, locals := 0 } : Room).cells ({ frames := 0, cells := 0, slots := 0, locals := 0 } : Room).slots) := by
  refine MetFree.of_bodySF (plainFor_of_name pn_com_example_windward_windward_EndpointRecord_Counts) hisR ?_
  intro p e s m args below meth c s₁ Bd hml0 hP hK
  obtain ⟨rfl, hZ, hh⟩ := hP
  have hx := Bd.exec
  have hby := Bd.bytes
  have hml : c.maxLocals = 1 := hml0
  have hown : s.vm.findClass "com/example/windward/windward/EndpointRecord$Counts" = some m.cls := findClass_of_methodNamed Bd.named
  have hnm := (name_of_methodNamed Bd.named Bd.method).1
  have X0 : Stand p l e ({ frames := 0, cells := 0, slots := 0, locals := 0 } : Room) s m #[(.ref tz)] below meth c s₁ [] 0 0 := Stand.of_body Bd
  have e0 : s₁.heap = h0 := by rw [← hh, Bd.state]; rfl
  have N0 := Fr.nil n0
  have K0 : Keep h0 h0 [] := Keep.refl _ _
  have pre0 : ∀ t, Steps p.tables e below (s₁.setTop (mkF m 0 #[.val (.ref tz)] [])) t → Steps p.tables e below (s₁.setTop (entryFrame m #[(.ref tz)] 1)) t := fun t k => castTop (ef4_p m tz) k
  obtain ⟨T13, X13, e13, st13⟩ := getF X0 hx hZ hown (host := "") (Or.inl (own_wd hw 15 rfl)) Via.refl e0 F_tz_successes (g := (mkF m 1 #[.val (.ref tz)] [(.ref tz)])) rfl rfl (hb hby d4_1)
  obtain ⟨T14, X14, e14, st14⟩ := getF X13 hx hZ hown (host := "") (Or.inl (own_wd hw 19 rfl)) Via.refl e13 F_tz_successNanos (g := (mkF m 10 #[.val (.ref tz)] [(.ref tz)])) rfl rfl (hb hby d4_10)
  obtain ⟨T15, X15, e15, st15⟩ := getF X14 hx hZ hown (host := "") (Or.inl (own_wd hw 15 rfl)) Via.refl e14 F_tz_successes (g := (mkF m 14 #[.val (.ref tz)] [(.ref tz), (.double tz_successNanos)])) rfl rfl (hb hby d4_14)
  have nn16 : Jvm.Free.Fl.NoNaN64 (FP.ddiv tz_successNanos tz_successes) := hn
  obtain ⟨fs, hr, hrun, hended, hW, hsame⟩ := X15.leave (v := some (.double (FP.ddiv tz_successNanos tz_successes))) (fun h => by rw [Bd.returns] at h; cases h)
  refine ⟨_, _, pre0 _ ?_, hrun, hended, _, _, rfl, ?_, ⟨_, rfl⟩, hW, hsame.mono (by decide) (by decide)⟩
  · show Steps p.tables e below (s₁.setTop (mkF m 0 #[.val (.ref tz)] [])) _
    refine XS.aloadN X0.here hx rfl (hb hby d4_0) rfl rfl ?_
    show Steps p.tables e below (s₁.setTop (mkF m 1 #[.val (.ref tz)] [(.ref tz)])) _
    refine st13 _ ?_
    show Steps p.tables e below (T13.setTop (mkF m 4 #[.val (.ref tz)] [(.double tz_successes)])) _
    refine XS.dconst0 X13.here hx rfl (hb hby d4_4) (v := (0 : UInt64)) rfl ?_
    show Steps p.tables e below (T13.setTop (mkF m 5 #[.val (.ref tz)] [(.double (0 : UInt64)), (.double tz_successes)])) _
    refine XS.dcmpS X13.here hx rfl (hb hby d4_5) rfl rfl ?_
    show Steps p.tables e below (T13.setTop (mkF m 6 #[.val (.ref tz)] [(.int (cmpValue (FP.dcmp tz_successes (0 : UInt64)) .l))])) _
    refine XS.ifNo X13.here hx rfl (hb hby d4_6) rfl ((if0 _ _).trans (tlt hp).2.2.2) ?_
    show Steps p.tables e below (T13.setTop (mkF m 9 #[.val (.ref tz)] [])) _
    refine XS.aloadN X13.here hx rfl (hb hby d4_9) rfl rfl ?_
    show Steps p.tables e below (T13.setTop (mkF m 10 #[.val (.ref tz)] [(.ref tz)])) _
    refine st14 _ ?_
    show Steps p.tables e below (T14.setTop (mkF m 13 #[.val (.ref tz)] [(.double tz_successNanos)])) _
    refine XS.aloadN X14.here hx rfl (hb hby d4_13) rfl rfl ?_
    show Steps p.tables e below (T14.setTop (mkF m 14 #[.val (.ref tz)] [(.ref tz), (.double tz_successNanos)])) _
    refine st15 _ ?_
    show Steps p.tables e below (T15.setTop (mkF m 17 #[.val (.ref tz)] [(.double tz_successes), (.double tz_successNanos)])) _
    refine XS.ddivS X15.here hx rfl (hb hby d4_17) rfl nn16 rfl ?_
    show Steps p.tables e below (T15.setTop (mkF m 18 #[.val (.ref tz)] [(.double (FP.ddiv tz_successNanos tz_successes))])) _
    refine XS.goto X15.here hx rfl (pc0 := 18) (pc' := 24) rfl (hb hby d4_18) (by decide) (by decide) ?_
    show Steps p.tables e below (T15.setTop (mkF m 24 #[.val (.ref tz)] [(.double (FP.ddiv tz_successNanos tz_successes))])) _
    exact retOut X15 hx Bd.returns rfl (Or.inr (Or.inr (Or.inl ⟨rfl, rfl, _, rfl⟩))) (hb hby d4_24) hr
  · show Q4_p Z tz tz_successes tz_successNanos h0 n0 _ T15.heap _
    rw [e15]
    exact ⟨rfl, N0, rfl⟩
theorem d4_21 : decode prog_8_method_2_code 21 = .ok (.ldc2_w 23, 3) := by decide +kernel
theorem ef4_n (m : MethodId) (tz : Addr) : entryFrame m #[(.ref tz)] 1 = mkF m 0 #[.val (.ref tz)] [] := by first | (simp [entryFrame, mkF, argsToLocals, Value.category]; done) | rfl
def Q4_n (Z : State) (tz : Addr) (tz_successes : UInt64) (h0 : Heap) (n0 : Nat) (v : Option Value) (h : Heap) (L : List Loc) : Prop := v = some (.double (9221120237041090560 : UInt64)) ∧ Fr n0 L ∧ h = h0
set_option maxRecDepth 65536 in
set_option maxHeartbeats 40000000 in
theorem rm4_n (l : Launch) (Z : State) (a0 : Array Value) (hw : ∀ d ∈ tables_1, d.before a0 Z = true) (ws : List Jvm.Cond) (tz : Addr) (tz_successes : UInt64) (h0 : Heap) (n0 : Nat) (Z0 : n0 ≤ h0.size) (O0 : Old Z n0 h0) (hp : ¬ ((0 : Int32) < (cmpValue (FP.dcmp tz_successes (0 : UInt64)) .l))) (F_tz_successes : Fld Z h0 tz "com/example/windward/windward/EndpointRecord$Counts" "successes" "D" (.double tz_successes)) :
    MetFree l (⟨"com/example/windward/windward/EndpointRecord$Counts", "latencyNanos", "()D"⟩ : MethodName) (head1 (Jvm.Cond.code (⟨"com/example/windward/windward/EndpointRecord$Counts", "latencyNanos", "()D"⟩ : MethodName) prog_8_method_2_code 1 (some .double) :: ws) ({ frames := 0, cells := 0, slots := 0, locals := 0 } : Room)) (fun a U => a = #[(.ref tz)] ∧ Z.Warmed39 U.vm ∧ U.heap = h0) (fun _ _ _ _ _ => True) (fun _ U o U' => ∃ v L, o = .returned v ∧ Q4_n Z tz tz_successes h0 n0 v U'.heap L ∧ FrameEnd U o U' L ({ frames := 0, cells := 0, slots := 0, locals := 0 } : Room).cells ({ frames := 0, cells := 0, slots := 0, locals := 0 } : Room).slots) := by
  refine MetFree.of_bodySF (plainFor_of_name pn_com_example_windward_windward_EndpointRecord_Counts) hisR ?_
  intro p e s m args below meth c s₁ Bd hml0 hP hK
  obtain ⟨rfl, hZ, hh⟩ := hP
  have hx := Bd.exec
  have hby := Bd.bytes
  have hml : c.maxLocals = 1 := hml0
  have hown : s.vm.findClass "com/example/windward/windward/EndpointRecord$Counts" = some m.cls := findClass_of_methodNamed Bd.named
  have hnm := (name_of_methodNamed Bd.named Bd.method).1
  have X0 : Stand p l e ({ frames := 0, cells := 0, slots := 0, locals := 0 } : Room) s m #[(.ref tz)] below meth c s₁ [] 0 0 := Stand.of_body Bd
  have e0 : s₁.heap = h0 := by rw [← hh, Bd.state]; rfl
  have N0 := Fr.nil n0
  have K0 : Keep h0 h0 [] := Keep.refl _ _
  have pre0 : ∀ t, Steps p.tables e below (s₁.setTop (mkF m 0 #[.val (.ref tz)] [])) t → Steps p.tables e below (s₁.setTop (entryFrame m #[(.ref tz)] 1)) t := fun t k => castTop (ef4_n m tz) k
  obtain ⟨T17, X17, e17, st17⟩ := getF X0 hx hZ hown (host := "") (Or.inl (own_wd hw 15 rfl)) Via.refl e0 F_tz_successes (g := (mkF m 1 #[.val (.ref tz)] [(.ref tz)])) rfl rfl (hb hby d4_1)
  obtain ⟨fs, hr, hrun, hended, hW, hsame⟩ := X17.leave (v := some (.double (9221120237041090560 : UInt64))) (fun h => by rw [Bd.returns] at h; cases h)
  refine ⟨_, _, pre0 _ ?_, hrun, hended, _, _, rfl, ?_, ⟨_, rfl⟩, hW, hsame.mono (by decide) (by decide)⟩
  · show Steps p.tables e below (s₁.setTop (mkF m 0 #[.val (.ref tz)] [])) _
    refine XS.aloadN X0.here hx rfl (hb hby d4_0) rfl rfl ?_
    show Steps p.tables e below (s₁.setTop (mkF m 1 #[.val (.ref tz)] [(.ref tz)])) _
    refine st17 _ ?_
    show Steps p.tables e below (T17.setTop (mkF m 4 #[.val (.ref tz)] [(.double tz_successes)])) _
    refine XS.dconst0 X17.here hx rfl (hb hby d4_4) (v := (0 : UInt64)) rfl ?_
    show Steps p.tables e below (T17.setTop (mkF m 5 #[.val (.ref tz)] [(.double (0 : UInt64)), (.double tz_successes)])) _
    refine XS.dcmpS X17.here hx rfl (hb hby d4_5) rfl rfl ?_
    show Steps p.tables e below (T17.setTop (mkF m 6 #[.val (.ref tz)] [(.int (cmpValue (FP.dcmp tz_successes (0 : UInt64)) .l))])) _
    refine XS.ifYes X17.here hx rfl (pc0 := 6) (pc' := 21) rfl (hb hby d4_6) rfl ((if0 _ _).trans (flt hp).2.2.2) (by decide) (by decide) ?_
    show Steps p.tables e below (T17.setTop (mkF m 21 #[.val (.ref tz)] [])) _
    refine X17.ldc2DoubleC hx hown (mvT hZ (own_wd hw 26 rfl)) (g := (mkF m 21 #[.val (.ref tz)] [])) rfl (hb hby d4_21) _ ?_
    show Steps p.tables e below (T17.setTop (mkF m 24 #[.val (.ref tz)] [(.double (9221120237041090560 : UInt64))])) _
    exact retOut X17 hx Bd.returns rfl (Or.inr (Or.inr (Or.inl ⟨rfl, rfl, _, rfl⟩))) (hb hby d4_24) hr
  · show Q4_n Z tz tz_successes h0 n0 _ T17.heap _
    rw [e17]
    exact ⟨rfl, N0, rfl⟩
theorem pd_1 : parseMethodDescriptor "(DDD)V" = some ⟨[.double, .double, .double], none⟩ := by decide +kernel
theorem pd_2 : parseMethodDescriptor "()D" = some ⟨[], some .double⟩ := by decide +kernel
theorem pn_com_example_windward_windward_CountsLatencyNanosPinLaw : plainName "com/example/windward/windward/CountsLatencyNanosPinLaw" = true := by first | (simp [plainName, overriddenIn]; done) | decide +kernel
theorem ef0 (m : MethodId) (x1 : Int32) (x2 : Int32) (x3 : Int32) : entryFrame m #[(.int x1), (.int x2), (.int x3)] maxLocals = mkF m 0 #[.val (.int x1), .val (.int x2), .val (.int x3), .unset, .unset, .unset, .unset, .unset, .unset] [] := by first | (simp [entryFrame, mkF, argsToLocals, Value.category, maxLocals]; done) | rfl
def Q0 (Z : State) (x1 : Int32) (x2 : Int32) (x3 : Int32) (h0 : Heap) (n0 : Nat) (v : Option Value) (h : Heap) (L : List Loc) : Prop := v = some (.int (1 : Int32)) ∧ Fr n0 L ∧ Keep h0 h []
set_option maxRecDepth 65536 in
set_option maxHeartbeats 40000000 in
theorem rm0 (l : Launch) (Z : State) (a0 : Array Value) (hw : ∀ d ∈ tables_1, d.before a0 Z = true) (ws : List Jvm.Cond) (x1 : Int32) (x2 : Int32) (x3 : Int32) (h0 : Heap) (n0 : Nat) (Z0 : n0 ≤ h0.size) (O0 : Old Z n0 h0) :
    MetFree l x (head1 (Jvm.Cond.code x code maxLocals ret :: ws) room_1) (fun a U => a = #[(.int x1), (.int x2), (.int x3)] ∧ Z.Warmed39 U.vm ∧ U.heap = h0) (fun _ _ _ _ _ => True) (fun _ U o U' => ∃ v L, o = .returned v ∧ Q0 Z x1 x2 x3 h0 n0 v U'.heap L ∧ FrameEnd U o U' L room_1.cells room_1.slots) := by
  refine MetFree.of_bodySF (plainFor_of_name pn_com_example_windward_windward_CountsLatencyNanosPinLaw) hisR ?_
  intro p e s m args below meth c s₁ Bd hml0 hP hK
  obtain ⟨rfl, hZ, hh⟩ := hP
  have hx := Bd.exec
  have hby := Bd.bytes
  have hml : c.maxLocals = 9 := hml0
  have hown : s.vm.findClass "com/example/windward/windward/CountsLatencyNanosPinLaw" = some m.cls := findClass_of_methodNamed Bd.named
  have hnm := (name_of_methodNamed Bd.named Bd.method).1
  have X0 : Stand p l e room_1 s m #[(.int x1), (.int x2), (.int x3)] below meth c s₁ [] 0 0 := Stand.of_body Bd
  have e0 : s₁.heap = h0 := by rw [← hh, Bd.state]; rfl
  have N0 := Fr.nil n0
  have K0 : Keep h0 h0 [] := Keep.refl _ _
  have pre0 : ∀ t, Steps p.tables e below (s₁.setTop (mkF m 0 #[.val (.int x1), .val (.int x2), .val (.int x3), .unset, .unset, .unset, .unset, .unset, .unset] [])) t → Steps p.tables e below (s₁.setTop (entryFrame m #[(.int x1), (.int x2), (.int x3)] maxLocals)) t := fun t k => castTop (ef0 m x1 x2 x3) k
  obtain ⟨sv, hsv⟩ : ∃ z, z = (x1 % (1048576 : Int32)) := ⟨_, rfl⟩
  have rn18 : (x1 % (1048576 : Int32)) = sv := hsv.symm
  have pre19 : ∀ t, Steps p.tables e below (s₁.setTop (mkF m 6 #[.val (.int x1), .val (.int x2), .val (.int x3), .val (.int sv), .unset, .unset, .unset, .unset, .unset] [(.int sv)])) t → Steps p.tables e below (s₁.setTop (entryFrame m #[(.int x1), (.int x2), (.int x3)] maxLocals)) t := by
    intro t kt
    refine pre0 t ?_
    show Steps p.tables e below (s₁.setTop (mkF m 0 #[.val (.int x1), .val (.int x2), .val (.int x3), .unset, .unset, .unset, .unset, .unset, .unset] [])) _
    refine XS.iloadN X0.here hx rfl (hb hby at_0) rfl ?_
    show Steps p.tables e below (s₁.setTop (mkF m 1 #[.val (.int x1), .val (.int x2), .val (.int x3), .unset, .unset, .unset, .unset, .unset, .unset] [(.int x1)])) _
    refine X0.ldcInt hx hown (mvT hZ (own_wd hw 0 rfl)) (g := (mkF m 1 #[.val (.int x1), .val (.int x2), .val (.int x3), .unset, .unset, .unset, .unset, .unset, .unset] [(.int x1)])) rfl (hb hby at_1) _ ?_
    show Steps p.tables e below (s₁.setTop (mkF m 3 #[.val (.int x1), .val (.int x2), .val (.int x3), .unset, .unset, .unset, .unset, .unset, .unset] [(.int (1048576 : Int32)), (.int x1)])) _
    refine iremM X0 hx rfl (hb hby at_3) rfl (by decide) ?_
    show Steps p.tables e below (s₁.setTop (mkF m 4 #[.val (.int x1), .val (.int x2), .val (.int x3), .unset, .unset, .unset, .unset, .unset, .unset] [(.int (x1 % (1048576 : Int32)))])) _
    refine XS.istoreN X0.here hx rfl (hb hby at_4) rfl (l' := #[.val (.int x1), .val (.int x2), .val (.int x3), .val (.int (x1 % (1048576 : Int32))), .unset, .unset, .unset, .unset, .unset]) rfl ?_
    show Steps p.tables e below (s₁.setTop (mkF m 5 #[.val (.int x1), .val (.int x2), .val (.int x3), .val (.int (x1 % (1048576 : Int32))), .unset, .unset, .unset, .unset, .unset] [])) _
    rw [rn18]
    show Steps p.tables e below (s₁.setTop (mkF m 5 #[.val (.int x1), .val (.int x2), .val (.int x3), .val (.int sv), .unset, .unset, .unset, .unset, .unset] [])) _
    refine XS.iloadN X0.here hx rfl (hb hby at_5) rfl ?_
    exact kt
  by_cases hc6 : (0 : Int32) < sv
  · skip
    obtain ⟨T20, h20, X20, e20, E20, A20, D20, U20, st20⟩ := newO X0 hx hZ hown (own_wd hw 1 rfl) (own_wd hw 2 rfl) (own_wd hw 3 rfl) e0 (g := (mkF m 21 #[.val (.int x1), .val (.int x2), .val (.int x3), .val (.int sv), .val (.long ((x2.toInt64) * (sv.toInt64))), .second, .unset, .unset, .unset] [])) rfl (hb hby at_21) (by decide) (by decide)
    obtain ⟨b20, g20⟩ : ∃ z, z = h0.size := ⟨_, rfl⟩
    rw [← g20] at A20 D20 st20
    have O20 : Old Z n0 h20 := O0.ext E20
    have Z20 : n0 ≤ h20.size := Nat.le_trans Z0 E20.1
    have K20 : Keep h0 h20 [] := K0.ext E20
    have g_b20 : n0 ≤ b20 := Nat.le_trans Z0 (Nat.le_of_eq g20.symm)
    have sz_b20 : h0.size ≤ b20 := Nat.le_trans K0.1 (Nat.le_of_eq g20.symm)
    have F_b20_successes : Fld Z h20 b20 "com/example/windward/windward/EndpointRecord$Counts" "successes" "D" (.double 0) := D20 (Or.inr (own_wd hw 16 rfl)) (ty := .double) (by decide)
    have F_b20_failures : Fld Z h20 b20 "com/example/windward/windward/EndpointRecord$Counts" "failures" "D" (.double 0) := D20 (Or.inr (own_wd hw 18 rfl)) (ty := .double) (by decide)
    have F_b20_successNanos : Fld Z h20 b20 "com/example/windward/windward/EndpointRecord$Counts" "successNanos" "D" (.double 0) := D20 (Or.inr (own_wd hw 20 rfl)) (ty := .double) (by decide)
    obtain ⟨_, _, ⟨T21, L21, k21, n21⟩, -, X21, ⟨Lc21, hQ21, l21, y21, z21⟩, st21⟩ := X20.specialBack hx (y := (⟨"com/example/windward/windward/EndpointRecord$Counts", "<init>", "(DDD)V"⟩ : MethodName)) rfl hown (mvT hZ (own_wd hw 4 rfl)) (mvT hZ (own_wd hw 5 rfl)) (mvT hZ (own_wd hw 6 rfl)) (by decide) (backOf (W := 1) (rm1 l Z a0 hw [] b20 (FP.i2d sv) (FP.i2d x3) (FP.l2d ((x2.toInt64) * (sv.toInt64))) (.double 0) (.double 0) (.double 0) h20 n0 Z20 O20 A20 F_b20_successes g_b20 F_b20_failures F_b20_successNanos) hZ (own_wd hw 6 rfl) (own_wd hw 3 rfl) (by decide) (by decide)) (g := (mkF m 32 #[.val (.int x1), .val (.int x2), .val (.int x3), .val (.int sv), .val (.long ((x2.toInt64) * (sv.toInt64))), .second, .unset, .unset, .unset] [(.double (FP.l2d ((x2.toInt64) * (sv.toInt64)))), (.double (FP.i2d x3)), (.double (FP.i2d sv)), (.ref b20), (.ref b20)])) rfl (by rw [hml]; rfl) (Steps.refl _) (a := b20) (argsL := [(.double (FP.i2d sv)), (.double (FP.i2d x3)), (.double (FP.l2d ((x2.toInt64) * (sv.toInt64))))]) (rest := [(.ref b20)]) (lenOf pd_1 rfl) rfl (by show 2 * 0 + _ ≤ _; exact Nat.le_of_eq rfl) (hb hby at_32) (fun _ _ => ⟨rfl, e20, (by decide : 1 + 0 ≤ _), (by decide : 3 + 0 ≤ _)⟩)
    dsimp only [Pt.U, Pt.locs, Pt.cells, Pt.slots] at X21 l21 y21 z21 st21 hQ21
    subst l21 y21 z21
    obtain ⟨rfl, N21q, KK21, Q21_0, Q21_1, Q21_2, Q21_3⟩ := hQ21
    have N21 := Fr.app N0 N21q
    have O21 : Old Z n0 T21.heap := O20.keep KK21 (allS g_b20 all0)
    have Z21 : n0 ≤ T21.heap.size := Nat.le_trans Z20 KK21.1
    have K21 : Keep h0 T21.heap [] := K20.trans KK21 (allS (Or.inr sz_b20) all0)
    have pp22 : (0 : Int32) < (cmpValue (FP.dcmp (FP.i2d sv) (0 : UInt64)) .l) := own_cpos hc6
    have pp23 : Jvm.Free.Fl.NoNaN64 (FP.ddiv (FP.l2d ((x2.toInt64) * (sv.toInt64))) (FP.i2d sv)) := (by rw [own_q hsv hc6]; exact own_qn _)
    obtain ⟨cq24, kq24, q24a, q24b, q24c⟩ := isOf hZ rfl Q21_0
    obtain ⟨_, _, ⟨T24, L24, k24, n24⟩, -, X24, ⟨Lc24, hQ24, l24, y24, z24⟩, st24⟩ := X21.virtualBack hx (y := (⟨"com/example/windward/windward/EndpointRecord$Counts", "latencyNanos", "()D"⟩ : MethodName)) (z := (⟨"com/example/windward/windward/EndpointRecord$Counts", "latencyNanos", "()D"⟩ : MethodName)) hown (mvT hZ (own_wd hw 21 rfl)) (mvT hZ (own_wd hw 22 rfl)) (notFace_of_selects (args := #[]) (mvT hZ (own_wd hw 24 rfl))) (mvT hZ (own_wd hw 24 rfl)) (mvT hZ (own_wd hw 23 rfl)) (by decide) (backOf (W := 0) (rm4_p l Z a0 hw [] b20 (FP.i2d sv) (FP.l2d ((x2.toInt64) * (sv.toInt64))) T21.heap n0 Z21 O21 pp22 pp23 Q21_1 Q21_3) hZ (own_wd hw 25 rfl) (own_wd hw 3 rfl) (by decide) (by decide)) q24a q24c (g := (mkF m 39 #[.val (.int x1), .val (.int x2), .val (.int x3), .val (.int sv), .val (.long ((x2.toInt64) * (sv.toInt64))), .second, .val (.ref b20), .unset, .unset] [(.ref b20)])) rfl (by rw [hml]; rfl) (Steps.refl _) (argsL := []) (rest := []) (lenOf pd_2 rfl) rfl (by show 2 * 0 + _ ≤ _; exact Nat.le_of_eq rfl) (hb hby at_39) (fun _ _ => ⟨rfl, rfl, (by decide : 1 + 0 ≤ _), (by decide : 3 + 0 ≤ _)⟩)
    dsimp only [Pt.U, Pt.locs, Pt.cells, Pt.slots] at X24 l24 y24 z24 st24 hQ24
    subst l24 y24 z24
    obtain ⟨rfl, N24q, eh24⟩ := hQ24
    have N24 := Fr.app N21 N24q
    obtain ⟨fs, hr, hrun, hended, hW, hsame⟩ := X24.leave (v := some (.int (1 : Int32))) (fun h => by rw [Bd.returns] at h; cases h)
    refine ⟨_, _, pre19 _ ?_, hrun, hended, _, _, rfl, ?_, ⟨_, rfl⟩, hW, hsame.mono (by decide) (by decide)⟩
    · show Steps p.tables e below (s₁.setTop (mkF m 6 #[.val (.int x1), .val (.int x2), .val (.int x3), .val (.int sv), .unset, .unset, .unset, .unset, .unset] [(.int sv)])) _
      refine XS.ifNo X0.here hx rfl (hb hby at_6) rfl ((if0 _ _).trans (tlt hc6).2.2.2) ?_
      show Steps p.tables e below (s₁.setTop (mkF m 9 #[.val (.int x1), .val (.int x2), .val (.int x3), .val (.int sv), .unset, .unset, .unset, .unset, .unset] [])) _
      refine XS.iloadN X0.here hx rfl (hb hby at_9) rfl ?_
      show Steps p.tables e below (s₁.setTop (mkF m 10 #[.val (.int x1), .val (.int x2), .val (.int x3), .val (.int sv), .unset, .unset, .unset, .unset, .unset] [(.int x2)])) _
      refine XS.i2l X0.here hx rfl (hb hby at_10) rfl ?_
      show Steps p.tables e below (s₁.setTop (mkF m 11 #[.val (.int x1), .val (.int x2), .val (.int x3), .val (.int sv), .unset, .unset, .unset, .unset, .unset] [(.long (x2.toInt64))])) _
      refine XS.iloadN X0.here hx rfl (hb hby at_11) rfl ?_
      show Steps p.tables e below (s₁.setTop (mkF m 12 #[.val (.int x1), .val (.int x2), .val (.int x3), .val (.int sv), .unset, .unset, .unset, .unset, .unset] [(.int sv), (.long (x2.toInt64))])) _
      refine XS.i2l X0.here hx rfl (hb hby at_12) rfl ?_
      show Steps p.tables e below (s₁.setTop (mkF m 13 #[.val (.int x1), .val (.int x2), .val (.int x3), .val (.int sv), .unset, .unset, .unset, .unset, .unset] [(.long (sv.toInt64)), (.long (x2.toInt64))])) _
      refine XS.lmul X0.here hx rfl (hb hby at_13) rfl ?_
      show Steps p.tables e below (s₁.setTop (mkF m 14 #[.val (.int x1), .val (.int x2), .val (.int x3), .val (.int sv), .unset, .unset, .unset, .unset, .unset] [(.long ((x2.toInt64) * (sv.toInt64)))])) _
      refine XS.goto X0.here hx rfl (pc0 := 14) (pc' := 19) rfl (hb hby at_14) (by decide) (by decide) ?_
      show Steps p.tables e below (s₁.setTop (mkF m 19 #[.val (.int x1), .val (.int x2), .val (.int x3), .val (.int sv), .unset, .unset, .unset, .unset, .unset] [(.long ((x2.toInt64) * (sv.toInt64)))])) _
      refine XS.lstore X0.here hx rfl (hb hby at_19) rfl (l' := #[.val (.int x1), .val (.int x2), .val (.int x3), .val (.int sv), .val (.long ((x2.toInt64) * (sv.toInt64))), .second, .unset, .unset, .unset]) rfl ?_
      show Steps p.tables e below (s₁.setTop (mkF m 21 #[.val (.int x1), .val (.int x2), .val (.int x3), .val (.int sv), .val (.long ((x2.toInt64) * (sv.toInt64))), .second, .unset, .unset, .unset] [])) _
      refine st20 _ ?_
      show Steps p.tables e below (T20.setTop (mkF m 24 #[.val (.int x1), .val (.int x2), .val (.int x3), .val (.int sv), .val (.long ((x2.toInt64) * (sv.toInt64))), .second, .unset, .unset, .unset] [(.ref b20)])) _
      refine XS.dup X20.here hx rfl (hb hby at_24) rfl rfl ?_
      show Steps p.tables e below (T20.setTop (mkF m 25 #[.val (.int x1), .val (.int x2), .val (.int x3), .val (.int sv), .val (.long ((x2.toInt64) * (sv.toInt64))), .second, .unset, .unset, .unset] [(.ref b20), (.ref b20)])) _
      refine XS.iloadN X20.here hx rfl (hb hby at_25) rfl ?_
      show Steps p.tables e below (T20.setTop (mkF m 26 #[.val (.int x1), .val (.int x2), .val (.int x3), .val (.int sv), .val (.long ((x2.toInt64) * (sv.toInt64))), .second, .unset, .unset, .unset] [(.int sv), (.ref b20), (.ref b20)])) _
      refine XS.i2dS X20.here hx rfl (hb hby at_26) rfl rfl ?_
      show Steps p.tables e below (T20.setTop (mkF m 27 #[.val (.int x1), .val (.int x2), .val (.int x3), .val (.int sv), .val (.long ((x2.toInt64) * (sv.toInt64))), .second, .unset, .unset, .unset] [(.double (FP.i2d sv)), (.ref b20), (.ref b20)])) _
      refine XS.iloadN X20.here hx rfl (hb hby at_27) rfl ?_
      show Steps p.tables e below (T20.setTop (mkF m 28 #[.val (.int x1), .val (.int x2), .val (.int x3), .val (.int sv), .val (.long ((x2.toInt64) * (sv.toInt64))), .second, .unset, .unset, .unset] [(.int x3), (.double (FP.i2d sv)), (.ref b20), (.ref b20)])) _
      refine XS.i2dS X20.here hx rfl (hb hby at_28) rfl rfl ?_
      show Steps p.tables e below (T20.setTop (mkF m 29 #[.val (.int x1), .val (.int x2), .val (.int x3), .val (.int sv), .val (.long ((x2.toInt64) * (sv.toInt64))), .second, .unset, .unset, .unset] [(.double (FP.i2d x3)), (.double (FP.i2d sv)), (.ref b20), (.ref b20)])) _
      refine XS.lload X20.here hx rfl (hb hby at_29) rfl ?_
      show Steps p.tables e below (T20.setTop (mkF m 31 #[.val (.int x1), .val (.int x2), .val (.int x3), .val (.int sv), .val (.long ((x2.toInt64) * (sv.toInt64))), .second, .unset, .unset, .unset] [(.long ((x2.toInt64) * (sv.toInt64))), (.double (FP.i2d x3)), (.double (FP.i2d sv)), (.ref b20), (.ref b20)])) _
      refine XS.l2dS X20.here hx rfl (hb hby at_31) rfl rfl ?_
      show Steps p.tables e below (T20.setTop (mkF m 32 #[.val (.int x1), .val (.int x2), .val (.int x3), .val (.int sv), .val (.long ((x2.toInt64) * (sv.toInt64))), .second, .unset, .unset, .unset] [(.double (FP.l2d ((x2.toInt64) * (sv.toInt64)))), (.double (FP.i2d x3)), (.double (FP.i2d sv)), (.ref b20), (.ref b20)])) _
      refine st21.trans ?_
      show Steps p.tables e below (T21.setTop (mkF m 35 #[.val (.int x1), .val (.int x2), .val (.int x3), .val (.int sv), .val (.long ((x2.toInt64) * (sv.toInt64))), .second, .unset, .unset, .unset] [(.ref b20)])) _
      refine XS.astore X21.here hx rfl (hb hby at_35) rfl rfl (l' := #[.val (.int x1), .val (.int x2), .val (.int x3), .val (.int sv), .val (.long ((x2.toInt64) * (sv.toInt64))), .second, .val (.ref b20), .unset, .unset]) rfl ?_
      show Steps p.tables e below (T21.setTop (mkF m 37 #[.val (.int x1), .val (.int x2), .val (.int x3), .val (.int sv), .val (.long ((x2.toInt64) * (sv.toInt64))), .second, .val (.ref b20), .unset, .unset] [])) _
      refine XS.aload X21.here hx rfl (hb hby at_37) rfl rfl ?_
      show Steps p.tables e below (T21.setTop (mkF m 39 #[.val (.int x1), .val (.int x2), .val (.int x3), .val (.int sv), .val (.long ((x2.toInt64) * (sv.toInt64))), .second, .val (.ref b20), .unset, .unset] [(.ref b20)])) _
      refine st24.trans ?_
      show Steps p.tables e below (T24.setTop (mkF m 42 #[.val (.int x1), .val (.int x2), .val (.int x3), .val (.int sv), .val (.long ((x2.toInt64) * (sv.toInt64))), .second, .val (.ref b20), .unset, .unset] [(.double (FP.ddiv (FP.l2d ((x2.toInt64) * (sv.toInt64))) (FP.i2d sv)))])) _
      refine XS.dstore X24.here hx rfl (hb hby at_42) rfl (l' := #[.val (.int x1), .val (.int x2), .val (.int x3), .val (.int sv), .val (.long ((x2.toInt64) * (sv.toInt64))), .second, .val (.ref b20), .val (.double (FP.ddiv (FP.l2d ((x2.toInt64) * (sv.toInt64))) (FP.i2d sv))), .second]) rfl ?_
      show Steps p.tables e below (T24.setTop (mkF m 44 #[.val (.int x1), .val (.int x2), .val (.int x3), .val (.int sv), .val (.long ((x2.toInt64) * (sv.toInt64))), .second, .val (.ref b20), .val (.double (FP.ddiv (FP.l2d ((x2.toInt64) * (sv.toInt64))) (FP.i2d sv))), .second] [])) _
      refine XS.iloadN X24.here hx rfl (hb hby at_44) rfl ?_
      show Steps p.tables e below (T24.setTop (mkF m 45 #[.val (.int x1), .val (.int x2), .val (.int x3), .val (.int sv), .val (.long ((x2.toInt64) * (sv.toInt64))), .second, .val (.ref b20), .val (.double (FP.ddiv (FP.l2d ((x2.toInt64) * (sv.toInt64))) (FP.i2d sv))), .second] [(.int sv)])) _
      refine XS.ifNo X24.here hx rfl (hb hby at_45) rfl ((if0 _ _).trans (tlt hc6).2.2.2) ?_
      show Steps p.tables e below (T24.setTop (mkF m 48 #[.val (.int x1), .val (.int x2), .val (.int x3), .val (.int sv), .val (.long ((x2.toInt64) * (sv.toInt64))), .second, .val (.ref b20), .val (.double (FP.ddiv (FP.l2d ((x2.toInt64) * (sv.toInt64))) (FP.i2d sv))), .second] [])) _
      refine XS.dload X24.here hx rfl (hb hby at_48) rfl ?_
      show Steps p.tables e below (T24.setTop (mkF m 50 #[.val (.int x1), .val (.int x2), .val (.int x3), .val (.int sv), .val (.long ((x2.toInt64) * (sv.toInt64))), .second, .val (.ref b20), .val (.double (FP.ddiv (FP.l2d ((x2.toInt64) * (sv.toInt64))) (FP.i2d sv))), .second] [(.double (FP.ddiv (FP.l2d ((x2.toInt64) * (sv.toInt64))) (FP.i2d sv)))])) _
      refine XS.iloadN X24.here hx rfl (hb hby at_50) rfl ?_
      show Steps p.tables e below (T24.setTop (mkF m 51 #[.val (.int x1), .val (.int x2), .val (.int x3), .val (.int sv), .val (.long ((x2.toInt64) * (sv.toInt64))), .second, .val (.ref b20), .val (.double (FP.ddiv (FP.l2d ((x2.toInt64) * (sv.toInt64))) (FP.i2d sv))), .second] [(.int x2), (.double (FP.ddiv (FP.l2d ((x2.toInt64) * (sv.toInt64))) (FP.i2d sv)))])) _
      refine XS.i2dS X24.here hx rfl (hb hby at_51) rfl rfl ?_
      show Steps p.tables e below (T24.setTop (mkF m 52 #[.val (.int x1), .val (.int x2), .val (.int x3), .val (.int sv), .val (.long ((x2.toInt64) * (sv.toInt64))), .second, .val (.ref b20), .val (.double (FP.ddiv (FP.l2d ((x2.toInt64) * (sv.toInt64))) (FP.i2d sv))), .second] [(.double (FP.i2d x2)), (.double (FP.ddiv (FP.l2d ((x2.toInt64) * (sv.toInt64))) (FP.i2d sv)))])) _
      refine XS.dcmpS X24.here hx rfl (hb hby at_52) rfl rfl ?_
      show Steps p.tables e below (T24.setTop (mkF m 53 #[.val (.int x1), .val (.int x2), .val (.int x3), .val (.int sv), .val (.long ((x2.toInt64) * (sv.toInt64))), .second, .val (.ref b20), .val (.double (FP.ddiv (FP.l2d ((x2.toInt64) * (sv.toInt64))) (FP.i2d sv))), .second] [(.int (cmpValue (FP.dcmp (FP.ddiv (FP.l2d ((x2.toInt64) * (sv.toInt64))) (FP.i2d sv)) (FP.i2d x2)) .l))])) _
      refine XS.ifNo X24.here hx rfl (hb hby at_53) rfl ((if0 _ _).trans (teq (dcmpV_eq (own_q hsv hc6) (by rw [own_q hsv hc6]; exact own_qn _) .l)).2) ?_
      show Steps p.tables e below (T24.setTop (mkF m 56 #[.val (.int x1), .val (.int x2), .val (.int x3), .val (.int sv), .val (.long ((x2.toInt64) * (sv.toInt64))), .second, .val (.ref b20), .val (.double (FP.ddiv (FP.l2d ((x2.toInt64) * (sv.toInt64))) (FP.i2d sv))), .second] [])) _
      refine XS.iconst X24.here hx rfl (hb hby at_56) ?_
      show Steps p.tables e below (T24.setTop (mkF m 57 #[.val (.int x1), .val (.int x2), .val (.int x3), .val (.int sv), .val (.long ((x2.toInt64) * (sv.toInt64))), .second, .val (.ref b20), .val (.double (FP.ddiv (FP.l2d ((x2.toInt64) * (sv.toInt64))) (FP.i2d sv))), .second] [(.int (1 : Int32))])) _
      refine XS.goto X24.here hx rfl (pc0 := 57) (pc' := 61) rfl (hb hby at_57) (by decide) (by decide) ?_
      show Steps p.tables e below (T24.setTop (mkF m 61 #[.val (.int x1), .val (.int x2), .val (.int x3), .val (.int sv), .val (.long ((x2.toInt64) * (sv.toInt64))), .second, .val (.ref b20), .val (.double (FP.ddiv (FP.l2d ((x2.toInt64) * (sv.toInt64))) (FP.i2d sv))), .second] [(.int (1 : Int32))])) _
      exact retN X24 hx (t := .boolean) Bd.returns (by simp) (hb hby at_61) hr
    · show Q0 Z x1 x2 x3 h0 n0 _ T24.heap _
      rw [eh24]
      exact ⟨rfl, N24, K21⟩
  · skip
    obtain ⟨T25, h25, X25, e25, E25, A25, D25, U25, st25⟩ := newO X0 hx hZ hown (own_wd hw 1 rfl) (own_wd hw 2 rfl) (own_wd hw 3 rfl) e0 (g := (mkF m 21 #[.val (.int x1), .val (.int x2), .val (.int x3), .val (.int sv), .val (.long (x2.toInt64)), .second, .unset, .unset, .unset] [])) rfl (hb hby at_21) (by decide) (by decide)
    obtain ⟨b25, g25⟩ : ∃ z, z = h0.size := ⟨_, rfl⟩
    rw [← g25] at A25 D25 st25
    have O25 : Old Z n0 h25 := O0.ext E25
    have Z25 : n0 ≤ h25.size := Nat.le_trans Z0 E25.1
    have K25 : Keep h0 h25 [] := K0.ext E25
    have g_b25 : n0 ≤ b25 := Nat.le_trans Z0 (Nat.le_of_eq g25.symm)
    have sz_b25 : h0.size ≤ b25 := Nat.le_trans K0.1 (Nat.le_of_eq g25.symm)
    have F_b25_successes : Fld Z h25 b25 "com/example/windward/windward/EndpointRecord$Counts" "successes" "D" (.double 0) := D25 (Or.inr (own_wd hw 16 rfl)) (ty := .double) (by decide)
    have F_b25_failures : Fld Z h25 b25 "com/example/windward/windward/EndpointRecord$Counts" "failures" "D" (.double 0) := D25 (Or.inr (own_wd hw 18 rfl)) (ty := .double) (by decide)
    have F_b25_successNanos : Fld Z h25 b25 "com/example/windward/windward/EndpointRecord$Counts" "successNanos" "D" (.double 0) := D25 (Or.inr (own_wd hw 20 rfl)) (ty := .double) (by decide)
    obtain ⟨_, _, ⟨T26, L26, k26, n26⟩, -, X26, ⟨Lc26, hQ26, l26, y26, z26⟩, st26⟩ := X25.specialBack hx (y := (⟨"com/example/windward/windward/EndpointRecord$Counts", "<init>", "(DDD)V"⟩ : MethodName)) rfl hown (mvT hZ (own_wd hw 4 rfl)) (mvT hZ (own_wd hw 5 rfl)) (mvT hZ (own_wd hw 6 rfl)) (by decide) (backOf (W := 1) (rm1 l Z a0 hw [] b25 (FP.i2d sv) (FP.i2d x3) (FP.l2d (x2.toInt64)) (.double 0) (.double 0) (.double 0) h25 n0 Z25 O25 A25 F_b25_successes g_b25 F_b25_failures F_b25_successNanos) hZ (own_wd hw 6 rfl) (own_wd hw 3 rfl) (by decide) (by decide)) (g := (mkF m 32 #[.val (.int x1), .val (.int x2), .val (.int x3), .val (.int sv), .val (.long (x2.toInt64)), .second, .unset, .unset, .unset] [(.double (FP.l2d (x2.toInt64))), (.double (FP.i2d x3)), (.double (FP.i2d sv)), (.ref b25), (.ref b25)])) rfl (by rw [hml]; rfl) (Steps.refl _) (a := b25) (argsL := [(.double (FP.i2d sv)), (.double (FP.i2d x3)), (.double (FP.l2d (x2.toInt64)))]) (rest := [(.ref b25)]) (lenOf pd_1 rfl) rfl (by show 2 * 0 + _ ≤ _; exact Nat.le_of_eq rfl) (hb hby at_32) (fun _ _ => ⟨rfl, e25, (by decide : 1 + 0 ≤ _), (by decide : 3 + 0 ≤ _)⟩)
    dsimp only [Pt.U, Pt.locs, Pt.cells, Pt.slots] at X26 l26 y26 z26 st26 hQ26
    subst l26 y26 z26
    obtain ⟨rfl, N26q, KK26, Q26_0, Q26_1, Q26_2, Q26_3⟩ := hQ26
    have N26 := Fr.app N0 N26q
    have O26 : Old Z n0 T26.heap := O25.keep KK26 (allS g_b25 all0)
    have Z26 : n0 ≤ T26.heap.size := Nat.le_trans Z25 KK26.1
    have K26 : Keep h0 T26.heap [] := K25.trans KK26 (allS (Or.inr sz_b25) all0)
    have pp27 : ¬ ((0 : Int32) < (cmpValue (FP.dcmp (FP.i2d sv) (0 : UInt64)) .l)) := own_cnpos hc6
    obtain ⟨cq28, kq28, q28a, q28b, q28c⟩ := isOf hZ rfl Q26_0
    obtain ⟨_, _, ⟨T28, L28, k28, n28⟩, -, X28, ⟨Lc28, hQ28, l28, y28, z28⟩, st28⟩ := X26.virtualBack hx (y := (⟨"com/example/windward/windward/EndpointRecord$Counts", "latencyNanos", "()D"⟩ : MethodName)) (z := (⟨"com/example/windward/windward/EndpointRecord$Counts", "latencyNanos", "()D"⟩ : MethodName)) hown (mvT hZ (own_wd hw 21 rfl)) (mvT hZ (own_wd hw 22 rfl)) (notFace_of_selects (args := #[]) (mvT hZ (own_wd hw 24 rfl))) (mvT hZ (own_wd hw 24 rfl)) (mvT hZ (own_wd hw 23 rfl)) (by decide) (backOf (W := 0) (rm4_n l Z a0 hw [] b25 (FP.i2d sv) T26.heap n0 Z26 O26 pp27 Q26_1) hZ (own_wd hw 25 rfl) (own_wd hw 3 rfl) (by decide) (by decide)) q28a q28c (g := (mkF m 39 #[.val (.int x1), .val (.int x2), .val (.int x3), .val (.int sv), .val (.long (x2.toInt64)), .second, .val (.ref b25), .unset, .unset] [(.ref b25)])) rfl (by rw [hml]; rfl) (Steps.refl _) (argsL := []) (rest := []) (lenOf pd_2 rfl) rfl (by show 2 * 0 + _ ≤ _; exact Nat.le_of_eq rfl) (hb hby at_39) (fun _ _ => ⟨rfl, rfl, (by decide : 1 + 0 ≤ _), (by decide : 3 + 0 ≤ _)⟩)
    dsimp only [Pt.U, Pt.locs, Pt.cells, Pt.slots] at X28 l28 y28 z28 st28 hQ28
    subst l28 y28 z28
    obtain ⟨rfl, N28q, eh28⟩ := hQ28
    have N28 := Fr.app N26 N28q
    obtain ⟨fs, hr, hrun, hended, hW, hsame⟩ := X28.leave (v := some (.int (1 : Int32))) (fun h => by rw [Bd.returns] at h; cases h)
    refine ⟨_, _, pre19 _ ?_, hrun, hended, _, _, rfl, ?_, ⟨_, rfl⟩, hW, hsame.mono (by decide) (by decide)⟩
    · show Steps p.tables e below (s₁.setTop (mkF m 6 #[.val (.int x1), .val (.int x2), .val (.int x3), .val (.int sv), .unset, .unset, .unset, .unset, .unset] [(.int sv)])) _
      refine XS.ifYes X0.here hx rfl (pc0 := 6) (pc' := 17) rfl (hb hby at_6) rfl ((if0 _ _).trans (flt hc6).2.2.2) (by decide) (by decide) ?_
      show Steps p.tables e below (s₁.setTop (mkF m 17 #[.val (.int x1), .val (.int x2), .val (.int x3), .val (.int sv), .unset, .unset, .unset, .unset, .unset] [])) _
      refine XS.iloadN X0.here hx rfl (hb hby at_17) rfl ?_
      show Steps p.tables e below (s₁.setTop (mkF m 18 #[.val (.int x1), .val (.int x2), .val (.int x3), .val (.int sv), .unset, .unset, .unset, .unset, .unset] [(.int x2)])) _
      refine XS.i2l X0.here hx rfl (hb hby at_18) rfl ?_
      show Steps p.tables e below (s₁.setTop (mkF m 19 #[.val (.int x1), .val (.int x2), .val (.int x3), .val (.int sv), .unset, .unset, .unset, .unset, .unset] [(.long (x2.toInt64))])) _
      refine XS.lstore X0.here hx rfl (hb hby at_19) rfl (l' := #[.val (.int x1), .val (.int x2), .val (.int x3), .val (.int sv), .val (.long (x2.toInt64)), .second, .unset, .unset, .unset]) rfl ?_
      show Steps p.tables e below (s₁.setTop (mkF m 21 #[.val (.int x1), .val (.int x2), .val (.int x3), .val (.int sv), .val (.long (x2.toInt64)), .second, .unset, .unset, .unset] [])) _
      refine st25 _ ?_
      show Steps p.tables e below (T25.setTop (mkF m 24 #[.val (.int x1), .val (.int x2), .val (.int x3), .val (.int sv), .val (.long (x2.toInt64)), .second, .unset, .unset, .unset] [(.ref b25)])) _
      refine XS.dup X25.here hx rfl (hb hby at_24) rfl rfl ?_
      show Steps p.tables e below (T25.setTop (mkF m 25 #[.val (.int x1), .val (.int x2), .val (.int x3), .val (.int sv), .val (.long (x2.toInt64)), .second, .unset, .unset, .unset] [(.ref b25), (.ref b25)])) _
      refine XS.iloadN X25.here hx rfl (hb hby at_25) rfl ?_
      show Steps p.tables e below (T25.setTop (mkF m 26 #[.val (.int x1), .val (.int x2), .val (.int x3), .val (.int sv), .val (.long (x2.toInt64)), .second, .unset, .unset, .unset] [(.int sv), (.ref b25), (.ref b25)])) _
      refine XS.i2dS X25.here hx rfl (hb hby at_26) rfl rfl ?_
      show Steps p.tables e below (T25.setTop (mkF m 27 #[.val (.int x1), .val (.int x2), .val (.int x3), .val (.int sv), .val (.long (x2.toInt64)), .second, .unset, .unset, .unset] [(.double (FP.i2d sv)), (.ref b25), (.ref b25)])) _
      refine XS.iloadN X25.here hx rfl (hb hby at_27) rfl ?_
      show Steps p.tables e below (T25.setTop (mkF m 28 #[.val (.int x1), .val (.int x2), .val (.int x3), .val (.int sv), .val (.long (x2.toInt64)), .second, .unset, .unset, .unset] [(.int x3), (.double (FP.i2d sv)), (.ref b25), (.ref b25)])) _
      refine XS.i2dS X25.here hx rfl (hb hby at_28) rfl rfl ?_
      show Steps p.tables e below (T25.setTop (mkF m 29 #[.val (.int x1), .val (.int x2), .val (.int x3), .val (.int sv), .val (.long (x2.toInt64)), .second, .unset, .unset, .unset] [(.double (FP.i2d x3)), (.double (FP.i2d sv)), (.ref b25), (.ref b25)])) _
      refine XS.lload X25.here hx rfl (hb hby at_29) rfl ?_
      show Steps p.tables e below (T25.setTop (mkF m 31 #[.val (.int x1), .val (.int x2), .val (.int x3), .val (.int sv), .val (.long (x2.toInt64)), .second, .unset, .unset, .unset] [(.long (x2.toInt64)), (.double (FP.i2d x3)), (.double (FP.i2d sv)), (.ref b25), (.ref b25)])) _
      refine XS.l2dS X25.here hx rfl (hb hby at_31) rfl rfl ?_
      show Steps p.tables e below (T25.setTop (mkF m 32 #[.val (.int x1), .val (.int x2), .val (.int x3), .val (.int sv), .val (.long (x2.toInt64)), .second, .unset, .unset, .unset] [(.double (FP.l2d (x2.toInt64))), (.double (FP.i2d x3)), (.double (FP.i2d sv)), (.ref b25), (.ref b25)])) _
      refine st26.trans ?_
      show Steps p.tables e below (T26.setTop (mkF m 35 #[.val (.int x1), .val (.int x2), .val (.int x3), .val (.int sv), .val (.long (x2.toInt64)), .second, .unset, .unset, .unset] [(.ref b25)])) _
      refine XS.astore X26.here hx rfl (hb hby at_35) rfl rfl (l' := #[.val (.int x1), .val (.int x2), .val (.int x3), .val (.int sv), .val (.long (x2.toInt64)), .second, .val (.ref b25), .unset, .unset]) rfl ?_
      show Steps p.tables e below (T26.setTop (mkF m 37 #[.val (.int x1), .val (.int x2), .val (.int x3), .val (.int sv), .val (.long (x2.toInt64)), .second, .val (.ref b25), .unset, .unset] [])) _
      refine XS.aload X26.here hx rfl (hb hby at_37) rfl rfl ?_
      show Steps p.tables e below (T26.setTop (mkF m 39 #[.val (.int x1), .val (.int x2), .val (.int x3), .val (.int sv), .val (.long (x2.toInt64)), .second, .val (.ref b25), .unset, .unset] [(.ref b25)])) _
      refine st28.trans ?_
      show Steps p.tables e below (T28.setTop (mkF m 42 #[.val (.int x1), .val (.int x2), .val (.int x3), .val (.int sv), .val (.long (x2.toInt64)), .second, .val (.ref b25), .unset, .unset] [(.double (9221120237041090560 : UInt64))])) _
      refine XS.dstore X28.here hx rfl (hb hby at_42) rfl (l' := #[.val (.int x1), .val (.int x2), .val (.int x3), .val (.int sv), .val (.long (x2.toInt64)), .second, .val (.ref b25), .val (.double (9221120237041090560 : UInt64)), .second]) rfl ?_
      show Steps p.tables e below (T28.setTop (mkF m 44 #[.val (.int x1), .val (.int x2), .val (.int x3), .val (.int sv), .val (.long (x2.toInt64)), .second, .val (.ref b25), .val (.double (9221120237041090560 : UInt64)), .second] [])) _
      refine XS.iloadN X28.here hx rfl (hb hby at_44) rfl ?_
      show Steps p.tables e below (T28.setTop (mkF m 45 #[.val (.int x1), .val (.int x2), .val (.int x3), .val (.int sv), .val (.long (x2.toInt64)), .second, .val (.ref b25), .val (.double (9221120237041090560 : UInt64)), .second] [(.int sv)])) _
      refine XS.ifYes X28.here hx rfl (pc0 := 45) (pc' := 62) rfl (hb hby at_45) rfl ((if0 _ _).trans (flt hc6).2.2.2) (by decide) (by decide) ?_
      show Steps p.tables e below (T28.setTop (mkF m 62 #[.val (.int x1), .val (.int x2), .val (.int x3), .val (.int sv), .val (.long (x2.toInt64)), .second, .val (.ref b25), .val (.double (9221120237041090560 : UInt64)), .second] [])) _
      refine XS.dload X28.here hx rfl (hb hby at_62) rfl ?_
      show Steps p.tables e below (T28.setTop (mkF m 64 #[.val (.int x1), .val (.int x2), .val (.int x3), .val (.int sv), .val (.long (x2.toInt64)), .second, .val (.ref b25), .val (.double (9221120237041090560 : UInt64)), .second] [(.double (9221120237041090560 : UInt64))])) _
      refine XS.dload X28.here hx rfl (hb hby at_64) rfl ?_
      show Steps p.tables e below (T28.setTop (mkF m 66 #[.val (.int x1), .val (.int x2), .val (.int x3), .val (.int sv), .val (.long (x2.toInt64)), .second, .val (.ref b25), .val (.double (9221120237041090560 : UInt64)), .second] [(.double (9221120237041090560 : UInt64)), (.double (9221120237041090560 : UInt64))])) _
      refine XS.dcmpS X28.here hx rfl (hb hby at_66) rfl rfl ?_
      show Steps p.tables e below (T28.setTop (mkF m 67 #[.val (.int x1), .val (.int x2), .val (.int x3), .val (.int sv), .val (.long (x2.toInt64)), .second, .val (.ref b25), .val (.double (9221120237041090560 : UInt64)), .second] [(.int (cmpValue (FP.dcmp (9221120237041090560 : UInt64) (9221120237041090560 : UInt64)) .l))])) _
      refine XS.ifNo X28.here hx rfl (hb hby at_67) rfl ((if0 _ _).trans (feq (by decide +kernel)).1) ?_
      show Steps p.tables e below (T28.setTop (mkF m 70 #[.val (.int x1), .val (.int x2), .val (.int x3), .val (.int sv), .val (.long (x2.toInt64)), .second, .val (.ref b25), .val (.double (9221120237041090560 : UInt64)), .second] [])) _
      refine XS.iconst X28.here hx rfl (hb hby at_70) ?_
      show Steps p.tables e below (T28.setTop (mkF m 71 #[.val (.int x1), .val (.int x2), .val (.int x3), .val (.int sv), .val (.long (x2.toInt64)), .second, .val (.ref b25), .val (.double (9221120237041090560 : UInt64)), .second] [(.int (1 : Int32))])) _
      refine XS.goto X28.here hx rfl (pc0 := 71) (pc' := 75) rfl (hb hby at_71) (by decide) (by decide) ?_
      show Steps p.tables e below (T28.setTop (mkF m 75 #[.val (.int x1), .val (.int x2), .val (.int x3), .val (.int sv), .val (.long (x2.toInt64)), .second, .val (.ref b25), .val (.double (9221120237041090560 : UInt64)), .second] [(.int (1 : Int32))])) _
      exact retN X28 hx (t := .boolean) Bd.returns (by simp) (hb hby at_75) hr
    · show Q0 Z x1 x2 x3 h0 n0 _ T28.heap _
      rw [eh28]
      exact ⟨rfl, N28, K26⟩
set_option maxRecDepth 65536 in
set_option maxHeartbeats 40000000 in
theorem comes_1 {Post : Tables → Env → Array Value → State → Outcome → State → Prop} (hpost : ∀ tb e args s v u, (limb_1_1.after args s (.returned v) u = true ∧ limb_1_2.after args s (.returned v) u = true ∧ True) → FrameEnd s (.returned v) u (Jvm.fieldLocs frame_1_writes args s ++ Jvm.arrayLocs frame_1_arrays args s ++ Jvm.staticLocs frame_1_statics s) 16 128 → Post tb e args s (.returned v) u) :
    ArmFor flags0 classFile x code maxLocals ret World_1 tables_1 room_1 Calls_1 rest_1 Pre_1 Post := by
  intro l hfl _ _ p e ha hc hk s m args below hf hA hF happ hP
  obtain ⟨hcalls, hrest, hpre⟩ := hP
  obtain ⟨-, -, -, hnamed, -, -, -, hat⟩ := (Spec.applies_iff hf).mp happ
  obtain ⟨hg, hn⟩ := and_e (Cond.before_iff.mp (show (Jvm.Cond.and given_1 narrow_1).before args s = true from hpre))
  obtain ⟨gg1, gg2⟩ := and_e hg
  obtain ⟨gg3, gg4⟩ := and_e gg2
  obtain ⟨gg5, gg6⟩ := and_e gg4
  obtain ⟨w0, w1, w2, rfl⟩ : ∃ w0 w1 w2 : Value, args = #[w0, w1, w2] := by
    have hs : args.size = 3 := by simpa [Cond.value, given_1] using gg1
    obtain ⟨L⟩ := args
    match L, hs with
    | [w0, w1, w2], _ => exact ⟨w0, w1, w2, rfl⟩
  have hw := fun d (hd : d ∈ tables_1) => atoms_spec (ws := Jvm.Cond.code x code maxLocals ret :: tables_1) hat d (List.mem_cons_of_mem _ hd)
  have hfit : Fit s := fun {y c} hc i hi => by
    obtain ⟨ha, rfl⟩ := Array.getElem?_eq_some_iff.mp hc
    have q := List.all_eq_true.mp ((Array.all_eq_true_iff_forall_mem.mp hF) _ (Array.getElem_mem ha)) i (List.mem_range.mpr hi)
    simpa [Array.getElem?_eq_getElem hi] using q
  obtain ⟨i0, ei0⟩ := is_v gg3
  obtain rfl : w0 = (.int i0) := Option.some.inj ei0
  obtain ⟨i1, ei1⟩ := is_v gg5
  obtain rfl : w1 = (.int i1) := Option.some.inj ei1
  obtain ⟨i2, ei2⟩ := is_v gg6
  obtain rfl : w2 = (.int i2) := Option.some.inj ei2
  obtain ⟨n, o, h1, h2, h3, _, L, rfl, ⟨rfl, N, -⟩, hq⟩ := rm0 l s _ hw tables_1 i0 i1 i2 s.heap s.heap.size (Nat.le_refl _) (Old.start s) p e ha hc hk s m _ below hf ((Spec.applies_iff_loose hf).mp happ).1 ⟨rfl, State.Warmed39.refl s, rfl⟩ trivial
  refine ⟨n, _, h1, h2, h3, hpost _ _ _ _ _ _ ⟨Cond.after_iff.mpr rfl, Cond.after_iff.mpr (eq_i res_at (Term.int_eval (1)) rfl), trivial⟩ ⟨hq.1, hq.2.1, (hq.2.2.sift fun y hy => Or.inr (N y hy)).mono (by decide) (by decide)⟩⟩
theorem main_1_1 : Claimed_1_1 := comes_1 fun _ _ _ _ _ _ h hF => ⟨h.1, hF⟩
theorem main_1_2 : Claimed_1_2 := comes_1 fun _ _ _ _ _ _ h hF => ⟨h.2.1, hF⟩
end Jvm.Pilot.@@N@@
namespace Jvm.Pilot.@@N@@
open Jvm Jvm.ClassFile Sem Op Lib Jvm.Free Jvm.Stand Jvm.Pilot.@@N@@.Jvm.D
/-! MADE BY PROGRAM (witnessworld.py) out of the Statement's table words and the real class files: 8 classes; the members and pool entries that the words name. The judged class is class 1, her method 1. -/
namespace start1
open Jvm.ClassFile
def u (s : String) : CpInfo := .utf8 (stringToUtf16 s)
/-- a pool by its gaps: so many unusable entries, then the entry; so many at the end -/
def gap : Nat → List CpInfo → List CpInfo
  | 0, r => r
  | n + 1, r => .unusable :: gap n r
def poolList (es : List (Nat × CpInfo)) (last : Nat) : List CpInfo := es.foldr (fun e r => gap e.1 (e.2 :: r)) (gap last [])
def pool (es : List (Nat × CpInfo)) (last : Nat) : Array CpInfo := ⟨poolList es last⟩
def fileOf (pool : Array CpInfo) (this : Nat) (attrs : Array Attribute := #[]) (ms : Array MethodInfo := #[]) (fl : Nat := 33) (sup : Nat := 0) (ifs : Array Nat := #[]) (fds : Array FieldInfo := #[]) : ClassFile where
  minorVersion := 0
  majorVersion := 65
  constantPool := pool
  accessFlags := fl
  thisClass := this
  superClass := sup
  interfaces := ifs
  fields := fds
  methods := ms
  attributes := attrs
def plain (name : String) (sup : Option ClassId) : Class where
  name := name
  kind := .ordinary
  loader := none
  accessFlags := 33
  super := sup
  interfaces := #[]
  cf := none
  fields := #[]
  methods := #[]
  instanceTypes := #[]
  staticTypes := #[]
  resolved := #[]
  callSites := []
  init := .initialized
  statics := none
  mirror := none

def pool0 : Array CpInfo := pool [(5, u "<init>"), (0, u "()V"), (1, .class_ 10), (1, u "java/lang/Object")] 113

def k0c0 : Code := { maxStack := 0, maxLocals := 1, code := object_method_1_code, exceptionTable := #[], attributes := #[] }
def k0m0 : Method := { name := "<init>", desc := "()V", sig := { parameters := [], returnType := none }, accessFlags := 1, code := some k0c0 }
/-- java/lang/Object -/
def k0 : Class := { plain "java/lang/Object" none with
  accessFlags := 33
  interfaces := #[]
  cf := some (fileOf pool0 8 #[] #[{ accessFlags := 1, nameIndex := 5, descriptorIndex := 6, attributes := #[] }] 33 0 #[] #[])
  fields := #[]
  methods := #[k0m0]
  instanceTypes := #[]
  staticTypes := #[]
  resolved := Array.replicate 124 none
  statics := none }

def pool1 : Array CpInfo := pool [(2, .class_ 4), (1, u "java/lang/Object"), (0, u "<init>"), (0, u "()V"), (0, .integer 1048576), (0, .class_ 9), (0, u "com/example/windward/windward/EndpointRecord$Counts"), (0, .methodref 8 11), (0, .nameAndType 5 12), (0, u "(DDD)V"), (0, .methodref 8 14), (0, .nameAndType 15 16), (0, u "latencyNanos"), (0, u "()D"), (0, .class_ 18), (0, u "com/example/windward/windward/CountsLatencyNanosPinLaw"), (2, u "law"), (0, u "(III)Z")] 7

def k1m0 : Method := { name := "<init>", desc := "()V", sig := { parameters := [], returnType := none }, accessFlags := 1, code := none }
def k1c1 : Code := { maxStack := 8, maxLocals := 9, code := code, exceptionTable := #[], attributes := #[] }
def k1m1 : Method := { name := "law", desc := "(III)Z", sig := { parameters := [.int, .int, .int], returnType := some .boolean }, accessFlags := 9, code := some k1c1 }
/-- com/example/windward/windward/CountsLatencyNanosPinLaw -/
def k1 : Class := { plain "com/example/windward/windward/CountsLatencyNanosPinLaw" (some 0) with
  accessFlags := 49
  interfaces := #[]
  cf := some (fileOf pool1 17 #[] #[{ accessFlags := 1, nameIndex := 5, descriptorIndex := 6, attributes := #[] }, { accessFlags := 9, nameIndex := 21, descriptorIndex := 22, attributes := #[] }] 49 2 #[] #[])
  fields := #[]
  methods := #[k1m0, k1m1]
  instanceTypes := #[]
  staticTypes := #[]
  resolved := Array.replicate 30 none
  statics := none }

def pool2 : Array CpInfo := pool [(1, .methodref 2 3), (0, .class_ 4), (0, .nameAndType 5 6), (0, u "java/lang/Object"), (0, u "<init>"), (0, u "()V"), (0, .class_ 8), (0, u "java/lang/Record")] 13

def k2c0 : Code := { maxStack := 1, maxLocals := 1, code := jdk_30_method_1_code, exceptionTable := #[], attributes := #[] }
def k2m0 : Method := { name := "<init>", desc := "()V", sig := { parameters := [], returnType := none }, accessFlags := 4, code := some k2c0 }
/-- java/lang/Record -/
def k2 : Class := { plain "java/lang/Record" (some 0) with
  accessFlags := 1057
  interfaces := #[]
  cf := some (fileOf pool2 7 #[] #[{ accessFlags := 4, nameIndex := 5, descriptorIndex := 6, attributes := #[] }] 1057 2 #[] #[])
  fields := #[]
  methods := #[k2m0]
  instanceTypes := #[]
  staticTypes := #[]
  resolved := Array.replicate 22 none
  statics := none }

def pool3 : Array CpInfo := pool [(1, .class_ 2), (0, u "com/example/windward/windward/EndpointRecord"), (0, .methodref 4 5), (0, .class_ 6), (0, .nameAndType 7 8), (0, u "java/lang/Record"), (0, u "<init>"), (0, u "()V"), (0, .fieldref 10 11), (0, .class_ 12), (0, .nameAndType 13 14), (0, u "com/example/windward/windward/EndpointRecord$Counts"), (0, u "successes"), (0, u "D"), (0, .fieldref 10 16), (0, .nameAndType 17 14), (0, u "failures"), (0, .fieldref 10 19), (0, .nameAndType 20 14), (0, u "successNanos"), (2, .double 9221120237041090560), (3, u "(DDD)V"), (42, u "NONE"), (0, u "Lcom/example/windward/windward/EndpointRecord$Counts;"), (3, u "latencyNanos"), (0, u "()D")] 33

def k3c0 : Code := { maxStack := 3, maxLocals := 7, code := prog_8_method_1_code, exceptionTable := #[], attributes := #[] }
def k3m0 : Method := { name := "<init>", desc := "(DDD)V", sig := { parameters := [.double, .double, .double], returnType := none }, accessFlags := 0, code := some k3c0 }
def k3c1 : Code := { maxStack := 4, maxLocals := 1, code := prog_8_method_2_code, exceptionTable := #[], attributes := #[] }
def k3m1 : Method := { name := "latencyNanos", desc := "()D", sig := { parameters := [], returnType := some .double }, accessFlags := 0, code := some k3c1 }
/-- com/example/windward/windward/EndpointRecord$Counts -/
def k3 : Class := { plain "com/example/windward/windward/EndpointRecord$Counts" (some 2) with
  accessFlags := 48
  interfaces := #[]
  cf := some (fileOf pool3 10 #[.nestHost 1] #[{ accessFlags := 0, nameIndex := 7, descriptorIndex := 27, attributes := #[] }, { accessFlags := 0, nameIndex := 75, descriptorIndex := 76, attributes := #[] }] 48 4 #[] #[{ accessFlags := 18, nameIndex := 13, descriptorIndex := 14, attributes := #[] }, { accessFlags := 18, nameIndex := 17, descriptorIndex := 14, attributes := #[] }, { accessFlags := 18, nameIndex := 20, descriptorIndex := 14, attributes := #[] }, { accessFlags := 24, nameIndex := 70, descriptorIndex := 71, attributes := #[] }])
  fields := #[{ name := "successes", type := .double, accessFlags := 18, slot := 0, constantValue := 0 }, { name := "failures", type := .double, accessFlags := 18, slot := 1, constantValue := 0 }, { name := "successNanos", type := .double, accessFlags := 18, slot := 2, constantValue := 0 }, { name := "NONE", type := (.object "com/example/windward/windward/EndpointRecord$Counts"), accessFlags := 24, slot := 0, constantValue := 0 }]
  methods := #[k3m0, k3m1]
  instanceTypes := #[.double, .double, .double]
  staticTypes := #[(.object "com/example/windward/windward/EndpointRecord$Counts")]
  resolved := Array.replicate 110 none
  statics := none }

def pool4 : Array CpInfo := pool [(1, u "java/lang/Cloneable"), (0, .class_ 1), (0, u "java/lang/Object"), (0, .class_ 3)] 3

/-- java/lang/Cloneable -/
def k4 : Class := { plain "java/lang/Cloneable" (some 0) with
  accessFlags := 1537
  interfaces := #[]
  cf := some (fileOf pool4 2 #[] #[] 1537 4 #[] #[])
  fields := #[]
  methods := #[]
  instanceTypes := #[]
  staticTypes := #[]
  resolved := Array.replicate 8 none
  statics := none }

def pool5 : Array CpInfo := pool [(1, u "java/io/Serializable"), (0, .class_ 1), (0, u "java/lang/Object"), (0, .class_ 3)] 3

/-- java/io/Serializable -/
def k5 : Class := { plain "java/io/Serializable" (some 0) with
  accessFlags := 1537
  interfaces := #[]
  cf := some (fileOf pool5 2 #[] #[] 1537 4 #[] #[])
  fields := #[]
  methods := #[]
  instanceTypes := #[]
  staticTypes := #[]
  resolved := Array.replicate 8 none
  statics := none }

/-- the primitive byte -/
def k6 : Class := { plain "byte" none with kind := .primitive 'B', accessFlags := 0x411 }
/-- [B -/
def k7 : Class := { plain "[B" (some 0) with kind := .array 6 .byte, interfaces := #[4, 5], accessFlags := 1041 }

def heap : Heap := #[]
def classes : Array Class := #[k0, k1, k2, k3, k4, k5, k6, k7]
def interned : List (Array UInt16 × Addr) := []
def slotsUsed : Nat := 0
def theMethod : MethodId := ⟨1, 1⟩
def args0 : Array Value := #[.int 5, .int 5, .int 5]
def aboutOver (below : List Frame) : State where
  vm := { classes := classes, interned := interned.toArray }
  heap := heap
  slotsUsed := slotsUsed
  threads := #[{ frames := .invoking theMethod args0 :: below }]
def below0 : List Frame := [.native { method := ⟨0, 0⟩, args := #[] }]
def about1 : State := aboutOver below0
def p0 : Program := .bare "" "" ""
def e0 : Env := launch0.env 0 0 0
theorem w_frames : about1.frames = Frame.invoking theMethod args0 :: below0 := rfl
set_option maxRecDepth 65536 in
theorem w_args : argsFit about1.vm theMethod args0 = true := by decide +kernel
set_option maxRecDepth 65536 in
theorem w_heap : heapFits about1 = true := by decide +kernel
set_option maxRecDepth 65536 in
theorem w_runnable : about1.curStatus? = some .runnable := by decide +kernel
set_option maxRecDepth 65536 in
theorem w_alone : about1.alone = true := by decide +kernel
set_option maxRecDepth 65536 in
theorem w_named : about1.methodNamed? x = some theMethod := by decide +kernel
set_option maxRecDepth 65536 in
theorem w_hears : about1.hears theMethod below0 = true := by decide +kernel
set_option maxRecDepth 65536 in
theorem w_ripe : about1.ripe theMethod args0 below0 = true := by decide +kernel
theorem w_running : about1.status = .running := rfl
set_option maxRecDepth 65536 in
theorem w_room : about1.hasRoom e0.platform room_1 = true :=
  launch0.hasRoom_least _ room_1 (by decide +kernel) (by decide +kernel) (by decide +kernel) (by decide +kernel) (by decide +kernel) (by decide +kernel)
theorem allAtoms_all (ts : List Jvm.Cond) (a : Array Jvm.Value) (st : Jvm.State) : (allAtoms ts).before a st = ts.all (fun c => c.before a st) := by
  induction ts with
  | nil => rfl
  | cons c t ih =>
    show (Jvm.Cond.and c (allAtoms t)).before a st = _
    rw [Jvm.Cond.before_and, ih, List.all_cons]
def words1 : List Jvm.Cond := Jvm.Cond.code x code maxLocals ret :: tables_1
/-- a 'code' word, met by the world's own term for the bytes: nothing is compared byte by byte -/
theorem code_word {y : MethodName} {bytes : ByteArray} {mx : Nat} {rt : Option FieldType} {a : Array Value} {s : State} {m : MethodId} {meth : Method} {c : Code} (h1 : s.methodNamed? y = some m) (h2 : s.vm.method? m = some meth) (h3 : meth.code = some c) (h4 : c.code = bytes)
    (h5 : (c.maxLocals == mx && c.exceptionTable.isEmpty && decide (c.maxStack ≤ mostOperands) && decide (meth.sig.returnType = rt) && !meth.locks && decide (parseMethodDescriptor y.desc = some meth.sig)) = true) : (Jvm.Cond.code y bytes mx rt).before a s = true := by
  simp only [Bool.and_eq_true, beq_iff_eq, Bool.not_eq_true', decide_eq_true_eq] at h5
  obtain ⟨⟨⟨⟨⟨g1, g2⟩, g3⟩, g4⟩, g5⟩, g6⟩ := h5
  simp [Cond.before, Cond.holds, Cond.value, h1, h2, h3, h4, g1, g2, g3, g4, g5, g6]
def isCode : Jvm.Cond → Bool
  | .code _ _ _ _ => true
  | _ => false
theorem all_split {L : List Jvm.Cond} {P : Jvm.Cond → Bool} (h1 : L.all (fun c => isCode c || P c) = true) (h2 : ∀ c ∈ L.filter isCode, P c = true) : L.all P = true := by
  refine List.all_eq_true.mpr fun c hc => ?_
  have h := List.all_eq_true.mp h1 c hc
  rcases Bool.eq_false_or_eq_true (isCode c) with hi | hi
  · exact h2 c (List.mem_filter.mpr ⟨hc, hi⟩)
  · simpa [hi] using h
set_option maxRecDepth 65536 in
theorem w_c0 : (Jvm.Cond.code x code maxLocals ret).before args0 about1 = true := code_word (m := ⟨1, 1⟩) (meth := k1m1) (c := k1c1) (by decide +kernel) rfl rfl rfl (by decide +kernel)
set_option maxRecDepth 65536 in
theorem w_c1 : (Jvm.Cond.code ({ cls := "com/example/windward/windward/EndpointRecord$Counts", name := "<init>", desc := "(DDD)V" } : Jvm.MethodName) prog_8_method_1_code (7 : Nat) (Option.none : Option Jvm.ClassFile.FieldType)).before args0 about1 = true := code_word (m := ⟨3, 0⟩) (meth := k3m0) (c := k3c0) (by decide +kernel) rfl rfl rfl (by decide +kernel)
set_option maxRecDepth 65536 in
theorem w_c2 : (Jvm.Cond.code ({ cls := "java/lang/Record", name := "<init>", desc := "()V" } : Jvm.MethodName) jdk_30_method_1_code (1 : Nat) (Option.none : Option Jvm.ClassFile.FieldType)).before args0 about1 = true := code_word (m := ⟨2, 0⟩) (meth := k2m0) (c := k2c0) (by decide +kernel) rfl rfl rfl (by decide +kernel)
set_option maxRecDepth 65536 in
theorem w_c3 : (Jvm.Cond.code ({ cls := "java/lang/Object", name := "<init>", desc := "()V" } : Jvm.MethodName) object_method_1_code (1 : Nat) (Option.none : Option Jvm.ClassFile.FieldType)).before args0 about1 = true := code_word (m := ⟨0, 0⟩) (meth := k0m0) (c := k0c0) (by decide +kernel) rfl rfl rfl (by decide +kernel)
set_option maxRecDepth 65536 in
theorem w_c4 : (Jvm.Cond.code ({ cls := "com/example/windward/windward/EndpointRecord$Counts", name := "latencyNanos", desc := "()D" } : Jvm.MethodName) prog_8_method_2_code (1 : Nat) (Option.some Jvm.ClassFile.FieldType.double)).before args0 about1 = true := code_word (m := ⟨3, 1⟩) (meth := k3m1) (c := k3c1) (by decide +kernel) rfl rfl rfl (by decide +kernel)
def codes1 : List Jvm.Cond := [Jvm.Cond.code x code maxLocals ret, Jvm.Cond.code ({ cls := "com/example/windward/windward/EndpointRecord$Counts", name := "<init>", desc := "(DDD)V" } : Jvm.MethodName) prog_8_method_1_code (7 : Nat) (Option.none : Option Jvm.ClassFile.FieldType), Jvm.Cond.code ({ cls := "java/lang/Record", name := "<init>", desc := "()V" } : Jvm.MethodName) jdk_30_method_1_code (1 : Nat) (Option.none : Option Jvm.ClassFile.FieldType), Jvm.Cond.code ({ cls := "java/lang/Object", name := "<init>", desc := "()V" } : Jvm.MethodName) object_method_1_code (1 : Nat) (Option.none : Option Jvm.ClassFile.FieldType), Jvm.Cond.code ({ cls := "com/example/windward/windward/EndpointRecord$Counts", name := "latencyNanos", desc := "()D" } : Jvm.MethodName) prog_8_method_2_code (1 : Nat) (Option.some Jvm.ClassFile.FieldType.double)]
set_option maxRecDepth 65536 in
theorem codes_eq : words1.filter isCode = codes1 := rfl
theorem w_codes : ∀ c ∈ words1.filter isCode, c.before args0 about1 = true := by
  rw [codes_eq]
  intro c hc
  simp only [codes1, List.mem_cons, List.not_mem_nil, or_false] at hc
  rcases hc with rfl | rfl | rfl | rfl | rfl
  · exact w_c0
  · exact w_c1
  · exact w_c2
  · exact w_c3
  · exact w_c4
set_option maxRecDepth 65536 in
theorem w_t1 : (words1.take 24).all (fun c => isCode c || c.before args0 about1) = true := by decide +kernel
set_option maxRecDepth 65536 in
theorem w_t2 : (words1.drop 24).all (fun c => isCode c || c.before args0 about1) = true := by decide +kernel
theorem w_tables : (allAtoms (Jvm.Cond.code x code maxLocals ret :: tables_1)).before args0 about1 = true := by
  rw [allAtoms_all]
  show words1.all (fun c => c.before args0 about1) = true
  refine all_split ?_ w_codes
  rw [← List.take_append_drop 24 words1, List.all_append, w_t1, w_t2]
  rfl
set_option maxRecDepth 65536 in
theorem w_case : (Jvm.Cond.and given_1 narrow_1).before args0 about1 = true := by decide +kernel
theorem w_applies : (headSpec (Jvm.Cond.code x code maxLocals ret :: tables_1) room_1).applies x e0.platform about1 = true :=
  (Spec.applies_iff w_frames).mpr ⟨w_running, w_runnable, w_alone, w_named, w_hears, w_ripe, w_room, w_tables⟩
theorem atStart : AtStart classFile x code maxLocals ret World_1 tables_1 room_1 Calls_1 rest_1 Pre_1 launch0 p0 e0 about1 theMethod args0 below0 :=
  ⟨lists_1, trivial, launch0.admits_env _ _ _, launch0.least_env, fairChoices_fair.cas, fairChoices_fair.clock, w_frames, w_args, w_heap, w_applies, trivial, trivial, w_case⟩
end start1
theorem witness_1 : WitnessClaimed_1 := ⟨start1.p0, start1.e0, start1.about1, start1.theMethod, start1.args0, start1.below0, start1.atStart⟩
end Jvm.Pilot.@@N@@
