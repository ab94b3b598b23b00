import JvmDerived
import JvmDerived.Pilot.@@N@@Statement
import JvmDerived.Pilot.@@N@@Code
set_option linter.unusedVariables false
set_option linter.unusedSimpArgs false
namespace Jvm.RoadKit
open Sem ClassFile Op Lib Jvm.Stand Jvm.Free Jvm.LawKit
section New
variable {p : Program} {l : Launch} {e : Env} {R : Room} {s : State} {m : MethodId} {args : Array Value} {below : List Frame} {meth : Method} {c : Code} {T : State} {locs : List Loc} {cells slots : Nat}
theorem retI (X : Stand p l e R s m args below meth c T locs cells slots) (hx : p.tables.exec = Jvm.exec) {pc : Nat} {Ls : Array Slot} {z : Int32} {rest : List Value} (hret : meth.sig.returnType = some .int) (hd : decode c.code pc = .ok (.ireturn, 1)) {fs : List Frame}
    (hl : ∀ (f : JFrame) (acts : List Action), f.method = m → f.locked = none → f.entered = [] → (doReturn e (T.setTop f) acts (some (.int z))).1 = T.setFrames fs) : Steps p.tables e below (T.setTop (mkF m pc Ls (.int z :: rest))) (T.setFrames fs) :=
  retOut X hx hret rfl (Or.inl ⟨rfl, Or.inl rfl, z, rfl⟩) hd hl
end New
end Jvm.RoadKit
namespace Jvm.Pilot.@@N@@
open Jvm Jvm.ClassFile Sem Op Lib Jvm.Free Jvm.Stand Jvm.LawKit Jvm.RoadKit Bundle Jvm.Pilot.@@N@@.Jvm.D
def own_b (P : Prop) [Decidable P] : Int32 := if P then (1 : Int32) else (0 : Int32)
theorem own_bt {P : Prop} [Decidable P] (h : P) : own_b P = (1 : Int32) := if_pos h
theorem own_bf {P : Prop} [Decidable P] (h : ¬ P) : own_b P = (0 : Int32) := if_neg h
theorem own_btn {P : Prop} [Decidable P] (h : P) : ¬ (own_b P = (0 : Int32)) := by rw [own_bt h]; decide
theorem own_bfn {P : Prop} [Decidable P] (h : ¬ P) : ¬ (own_b P = (1 : Int32)) := by rw [own_bf h]; decide
theorem own_b_congr {P Q : Prop} [Decidable P] [Decidable Q] (h : P ↔ Q) : own_b P = own_b Q := by
  by_cases q : P
  · rw [own_bt q, own_bt (h.mp q)]
  · rw [own_bf q, own_bf fun z => q (h.mpr z)]
theorem own_eqI {args : Array Value} {s : State} {t : Term} {k : Int32} (h : (Jvm.Cond.eq t (.int k)).value args s none s [] = some true) : t.eval args s none [] s = some (.int k) := by
  obtain ⟨x, y, h1, h2, -, h4⟩ := cmp_v (Or.inl h)
  cases Option.some.inj (h2.symm.trans (Term.int_eval k))
  obtain ⟨z, rfl⟩ := h4
  rw [h1, gotT (Cond.eq_ints h1 h2) h]
theorem own_eqR {args : Array Value} {s : State} {t u : Term} {y : Addr} (hu : u.eval args s none [] s = some (.ref y)) (h : (Jvm.Cond.eq t u).value args s none s [] = some true) : t.eval args s none [] s = some (.ref y) := by
  obtain ⟨x, y', h1, h2, -, h4⟩ := cmp_v (Or.inl h)
  cases Option.some.inj (h2.symm.trans hu)
  rw [h1, gotT (eq_R h1 h2 h4.2 rfl) h]
theorem own_len {args : Array Value} {s : State} {t : Term} {a : Addr} {cl : Cell} {ty : FieldType} {k : Int32} (ev : t.eval args s none [] s = some (.ref a)) (A : Arr s s.heap a cl ty) (h : (Term.length t).eval args s none [] s = some (.int k)) : cl.slots.size < 2 ^ 31 ∧ cl.slots.size.toInt32 = k := by
  have ha : s.arrayAt? a = some cl := A.fin (Vm.Alike.refl _)
  by_cases hl : cl.slots.size < 2 ^ 31
  · rw [len_f ev ha hl] at h
    exact ⟨hl, by simpa using h⟩
  · simp [Term.eval, ev, ha, hl] at h
theorem own_eqL {args : Array Value} {s : State} {t : Term} {k : Int64} (h : (Jvm.Cond.eq t (.long k)).value args s none s [] = some true) : t.eval args s none [] s = some (.long k) := by
  obtain ⟨x, y, h1, h2, -, h4⟩ := cmp_v (Or.inl h)
  cases Option.some.inj (h2.symm.trans (long_at k))
  obtain ⟨z, rfl⟩ := h4
  rw [h1, gotT (eq_L h1 h2) h]
def own_max (a b : Int32) : Int32 := if a < b then b else a
theorem own_max_ge (x : Int32) : ¬ (own_max (1 : Int32) x < (1 : Int32)) := by
  unfold own_max
  split
  · rename_i h
    have e1 : (1 : Int32).toInt = 1 := by decide
    simp only [Int32.lt_iff_toInt_lt, e1] at *
    omega
  · decide
theorem own_pos {x : Int32} (h : ¬ (x < (1 : Int32))) : (0 : Int32) < x := by
  have e1 : (1 : Int32).toInt = 1 := by decide
  have e0 : (0 : Int32).toInt = 0 := by decide
  simp only [Int32.lt_iff_toInt_lt, e1, e0] at *
  omega
theorem own_ne0 {x : Int32} (h : ¬ (x < (1 : Int32))) : ¬ (x = (0 : Int32)) := fun q => by subst q; exact h (by decide)

theorem d1_0 : decode jdk_29_method_65_code 0 = .ok (.iload_n 0, 1) := by decide +kernel
theorem d1_1 : decode jdk_29_method_65_code 1 = .ok (.iload_n 1, 1) := by decide +kernel
theorem d1_2 : decode jdk_29_method_65_code 2 = .ok (.if_icmp .lt 7, 3) := by decide +kernel
theorem d1_9 : decode jdk_29_method_65_code 9 = .ok (.iload_n 1, 1) := by decide +kernel
theorem d1_10 : decode jdk_29_method_65_code 10 = .ok (.ireturn, 1) := by decide +kernel
theorem d1_5 : decode jdk_29_method_65_code 5 = .ok (.iload_n 0, 1) := by decide +kernel
theorem d1_6 : decode jdk_29_method_65_code 6 = .ok (.goto 4, 3) := by decide +kernel
-- java/lang/Math
theorem ef1 (m : MethodId) (x1 : Int32) (x2 : Int32) : entryFrame m #[(.int x1), (.int x2)] 2 = mkF m 0 #[.val (.int x1), .val (.int x2)] [] := by first | (simp [entryFrame, mkF, argsToLocals, Value.category]; done) | rfl
def Q1 (Z : State) (x1 : Int32) (x2 : Int32) (h0 : Heap) (n0 : Nat) (v : Option Value) (h : Heap) (L : List Loc) : Prop := v = some (.int (own_max x1 x2)) ∧ Fr n0 L ∧ h = h0
set_option maxRecDepth 65536 in
set_option maxHeartbeats 40000000 in
theorem rm1 (l : Launch) (Z : State) (a0 : Array Value) (hw : ∀ d ∈ tables_1, d.before a0 Z = true) (ws : List Jvm.Cond) (x1 : Int32) (x2 : Int32) (h0 : Heap) (n0 : Nat) (Z0 : n0 ≤ h0.size) (O0 : Old Z n0 h0) :
    MetFree l (⟨"java/lang/Math", "max", "(II)I"⟩ : MethodName) (head1 (Jvm.Cond.code (⟨"java/lang/Math", "max", "(II)I"⟩ : MethodName) jdk_29_method_65_code 2 (some .int) :: ws) ({ frames := 0, cells := 0, slots := 0, locals := 0 } : Room)) (fun a U => a = #[(.int x1), (.int x2)] ∧ Z.Warmed39 U.vm ∧ U.heap = h0) (fun _ _ _ _ _ => True) (fun _ U o U' => ∃ v L, o = .returned v ∧ Q1 Z x1 x2 h0 n0 v U'.heap L ∧ FrameEnd U o U' L ({ frames := 0, cells := 0, slots := 0, locals := 0 } : Room).cells ({ frames := 0, cells := 0, slots := 0, locals := 0 } : Room).slots) := by
  refine MetFree.of_bodySF (Jvm.Free.JP.mathPlain rfl (by decide +kernel)) hisR ?_
  intro p e s m args below meth c s₁ Bd hml0 hP hK
  obtain ⟨rfl, hZ, hh⟩ := hP
  have hx := Bd.exec
  have hby := Bd.bytes
  have hml : c.maxLocals = 2 := hml0
  have hown : s.vm.findClass "java/lang/Math" = some m.cls := findClass_of_methodNamed Bd.named
  have hnm := (name_of_methodNamed Bd.named Bd.method).1
  have X0 : Stand p l e ({ frames := 0, cells := 0, slots := 0, locals := 0 } : Room) s m #[(.int x1), (.int x2)] below meth c s₁ [] 0 0 := Stand.of_body Bd
  have e0 : s₁.heap = h0 := by rw [← hh, Bd.state]; rfl
  have N0 := Fr.nil n0
  have K0 : Keep h0 h0 [] := Keep.refl _ _
  have pre0 : ∀ t, Steps p.tables e below (s₁.setTop (mkF m 0 #[.val (.int x1), .val (.int x2)] [])) t → Steps p.tables e below (s₁.setTop (entryFrame m #[(.int x1), (.int x2)] 2)) t := fun t k => castTop (ef1 m x1 x2) k
  have pre1 : ∀ t, Steps p.tables e below (s₁.setTop (mkF m 2 #[.val (.int x1), .val (.int x2)] [(.int x2), (.int x1)])) t → Steps p.tables e below (s₁.setTop (entryFrame m #[(.int x1), (.int x2)] 2)) t := by
    intro t kt
    refine pre0 t ?_
    show Steps p.tables e below (s₁.setTop (mkF m 0 #[.val (.int x1), .val (.int x2)] [])) _
    refine XS.iloadN X0.here hx rfl (hb hby d1_0) rfl ?_
    show Steps p.tables e below (s₁.setTop (mkF m 1 #[.val (.int x1), .val (.int x2)] [(.int x1)])) _
    refine XS.iloadN X0.here hx rfl (hb hby d1_1) rfl ?_
    exact kt
  by_cases hc2 : x1 < x2
  · skip
    obtain ⟨fs, hr, hrun, hended, hW, hsame⟩ := X0.leave (v := some (.int x2)) (fun h => by rw [Bd.returns] at h; cases h)
    refine ⟨_, _, pre1 _ ?_, hrun, hended, _, _, rfl, ?_, ⟨_, rfl⟩, hW, hsame.mono (by decide) (by decide)⟩
    · show Steps p.tables e below (s₁.setTop (mkF m 2 #[.val (.int x1), .val (.int x2)] [(.int x2), (.int x1)])) _
      refine XS.icmpYes X0.here hx rfl (pc0 := 2) (pc' := 9) rfl (hb hby d1_2) rfl (tlt hc2).1 (by decide) (by decide) ?_
      show Steps p.tables e below (s₁.setTop (mkF m 9 #[.val (.int x1), .val (.int x2)] [])) _
      refine XS.iloadN X0.here hx rfl (hb hby d1_9) rfl ?_
      show Steps p.tables e below (s₁.setTop (mkF m 10 #[.val (.int x1), .val (.int x2)] [(.int x2)])) _
      exact retI X0 hx Bd.returns (hb hby d1_10) hr
    · show Q1 Z x1 x2 h0 n0 _ s₁.heap _
      rw [e0]
      exact ⟨(by simp [own_max, hc2]), N0, rfl⟩
  · skip
    obtain ⟨fs, hr, hrun, hended, hW, hsame⟩ := X0.leave (v := some (.int x1)) (fun h => by rw [Bd.returns] at h; cases h)
    refine ⟨_, _, pre1 _ ?_, hrun, hended, _, _, rfl, ?_, ⟨_, rfl⟩, hW, hsame.mono (by decide) (by decide)⟩
    · show Steps p.tables e below (s₁.setTop (mkF m 2 #[.val (.int x1), .val (.int x2)] [(.int x2), (.int x1)])) _
      refine XS.icmpNo X0.here hx rfl (hb hby d1_2) rfl (flt hc2).1 ?_
      show Steps p.tables e below (s₁.setTop (mkF m 5 #[.val (.int x1), .val (.int x2)] [])) _
      refine XS.iloadN X0.here hx rfl (hb hby d1_5) rfl ?_
      show Steps p.tables e below (s₁.setTop (mkF m 6 #[.val (.int x1), .val (.int x2)] [(.int x1)])) _
      refine XS.goto X0.here hx rfl (pc0 := 6) (pc' := 10) rfl (hb hby d1_6) (by decide) (by decide) ?_
      show Steps p.tables e below (s₁.setTop (mkF m 10 #[.val (.int x1), .val (.int x2)] [(.int x1)])) _
      exact retI X0 hx Bd.returns (hb hby d1_10) hr
    · show Q1 Z x1 x2 h0 n0 _ s₁.heap _
      rw [e0]
      exact ⟨(by simp [own_max, hc2]), N0, rfl⟩
theorem d3_0 : decode prog_9_method_1_code 0 = .ok (.aload_n 0, 1) := by decide +kernel
theorem d3_1 : decode prog_9_method_1_code 1 = .ok (.invokespecial 1, 3) := by decide +kernel
theorem d3_4 : decode prog_9_method_1_code 4 = .ok (.aload_n 0, 1) := by decide +kernel
theorem d3_5 : decode prog_9_method_1_code 5 = .ok (.iload_n 1, 1) := by decide +kernel
theorem d3_6 : decode prog_9_method_1_code 6 = .ok (.putfield 7, 3) := by decide +kernel
theorem d3_9 : decode prog_9_method_1_code 9 = .ok (.return_, 1) := by decide +kernel
theorem pn_com_example_derive_derive_Limit : plainName "com/example/derive/derive/Limit" = true := by first | (simp [plainName, overriddenIn]; done) | decide +kernel
theorem ef3 (m : MethodId) (tz : Addr) (x1 : Int32) : entryFrame m #[(.ref tz), (.int x1)] 2 = mkF m 0 #[.val (.ref tz), .val (.int x1)] [] := by first | (simp [entryFrame, mkF, argsToLocals, Value.category]; done) | rfl
def Q3 (Z : State) (tz : Addr) (x1 : Int32) (u_tz_max : Value) (h0 : Heap) (n0 : Nat) (v : Option Value) (h : Heap) (L : List Loc) : Prop := v = none ∧ Fr n0 L ∧ Keep h0 h [tz] ∧ Exa Z h tz "com/example/derive/derive/Limit" ∧ Fld Z h tz "com/example/derive/derive/Limit" "max" "I" (.int x1)
set_option maxRecDepth 65536 in
set_option maxHeartbeats 40000000 in
theorem rm3 (l : Launch) (Z : State) (a0 : Array Value) (hw : ∀ d ∈ tables_1, d.before a0 Z = true) (ws : List Jvm.Cond) (tz : Addr) (x1 : Int32) (u_tz_max : Value) (h0 : Heap) (n0 : Nat) (Z0 : n0 ≤ h0.size) (O0 : Old Z n0 h0) (E_tz : Exa Z h0 tz "com/example/derive/derive/Limit") (F_u_tz_max : Fld Z h0 tz "com/example/derive/derive/Limit" "max" "I" u_tz_max) (g_tz : n0 ≤ tz) :
    MetFree l (⟨"com/example/derive/derive/Limit", "<init>", "(I)V"⟩ : MethodName) (head1 (Jvm.Cond.code (⟨"com/example/derive/derive/Limit", "<init>", "(I)V"⟩ : MethodName) prog_9_method_1_code 2 none :: ws) ({ frames := 1, cells := 0, slots := 0, locals := 12 } : Room)) (fun a U => a = #[(.ref tz), (.int x1)] ∧ Z.Warmed39 U.vm ∧ U.heap = h0) (fun _ _ _ _ _ => True) (fun _ U o U' => ∃ v L, o = .returned v ∧ Q3 Z tz x1 u_tz_max h0 n0 v U'.heap L ∧ FrameEnd U o U' L ({ frames := 1, cells := 0, slots := 0, locals := 12 } : Room).cells ({ frames := 1, cells := 0, slots := 0, locals := 12 } : Room).slots) := by
  refine MetFree.of_bodySF (plainFor_of_name pn_com_example_derive_derive_Limit) hisR ?_
  intro p e s m args below meth c s₁ Bd hml0 hP hK
  obtain ⟨rfl, hZ, hh⟩ := hP
  have hx := Bd.exec
  have hby := Bd.bytes
  have hml : c.maxLocals = 2 := hml0
  have hown : s.vm.findClass "com/example/derive/derive/Limit" = some m.cls := findClass_of_methodNamed Bd.named
  have hnm := (name_of_methodNamed Bd.named Bd.method).1
  have X0 : Stand p l e ({ frames := 1, cells := 0, slots := 0, locals := 12 } : Room) s m #[(.ref tz), (.int x1)] below meth c s₁ [] 0 0 := Stand.of_body Bd
  have e0 : s₁.heap = h0 := by rw [← hh, Bd.state]; rfl
  have N0 := Fr.nil n0
  have K0 : Keep h0 h0 [tz] := Keep.refl _ _
  have pre0 : ∀ t, Steps p.tables e below (s₁.setTop (mkF m 0 #[.val (.ref tz), .val (.int x1)] [])) t → Steps p.tables e below (s₁.setTop (entryFrame m #[(.ref tz), (.int x1)] 2)) t := fun t k => castTop (ef3 m tz x1) k
  obtain ⟨T2, X2, e2, st2⟩ := initO X0 hx hZ hown (hw _ (List.mem_of_getElem? (i := 14) rfl)) (hw _ (List.mem_of_getElem? (i := 15) rfl)) (hw _ (List.mem_of_getElem? (i := 16) rfl)) e0 (g := (mkF m 1 #[.val (.ref tz), .val (.int x1)] [(.ref tz)])) rfl (by rw [hml]; rfl) rfl (hb hby d3_1) (by decide) (W := 0) (by show 2 * 0 + _ ≤ _; exact Nat.le_of_eq rfl) (by decide)
  obtain ⟨T3, h3, X3, e3, W3, st3⟩ := putF X2 hx hZ hown (host := "") (Or.inl (hw _ (List.mem_of_getElem? (i := 17) rfl))) Via.refl e2 F_u_tz_max E_tz (Or.inr ⟨(hw _ (List.mem_of_getElem? (i := 18) rfl)), rfl, hnm⟩) (hw _ (List.mem_of_getElem? (i := 10) rfl)) (ty := .int) (by decide) rfl rfl (g := (mkF m 6 #[.val (.ref tz), .val (.int x1)] [(.int x1), (.ref tz)])) rfl rfl (hb hby d3_6)
  have O3 : Old Z n0 h3 := O0.wr W3 g_tz
  have Z3 : n0 ≤ h3.size := Nat.le_trans Z0 (Keep.of_wr W3).1
  have K3 : Keep h0 h3 [tz] := K0.wr W3 (Or.inl (List.mem_of_getElem? (i := 0) rfl))
  have N3 := Fr.snoc X3 N0 g_tz
  have Fw3 : Fld Z h3 tz "com/example/derive/derive/Limit" "max" "I" (.int x1) := F_u_tz_max.same W3
  have C4 : Exa Z h3 tz "com/example/derive/derive/Limit" := (E_tz.wr W3)
  obtain ⟨fs, hr, hrun, hended, hW, hsame⟩ := X3.leave (v := none) (fun _ => rfl)
  refine ⟨_, _, pre0 _ ?_, hrun, hended, _, _, rfl, ?_, ⟨_, rfl⟩, hW, hsame.mono (by decide) (by decide)⟩
  · show Steps p.tables e below (s₁.setTop (mkF m 0 #[.val (.ref tz), .val (.int x1)] [])) _
    refine XS.aloadN X0.here hx rfl (hb hby d3_0) rfl rfl ?_
    show Steps p.tables e below (s₁.setTop (mkF m 1 #[.val (.ref tz), .val (.int x1)] [(.ref tz)])) _
    refine st2 _ ?_
    show Steps p.tables e below (T2.setTop (mkF m 4 #[.val (.ref tz), .val (.int x1)] [])) _
    refine XS.aloadN X2.here hx rfl (hb hby d3_4) rfl rfl ?_
    show Steps p.tables e below (T2.setTop (mkF m 5 #[.val (.ref tz), .val (.int x1)] [(.ref tz)])) _
    refine XS.iloadN X2.here hx rfl (hb hby d3_5) rfl ?_
    show Steps p.tables e below (T2.setTop (mkF m 6 #[.val (.ref tz), .val (.int x1)] [(.int x1), (.ref tz)])) _
    refine st3 _ ?_
    show Steps p.tables e below (T3.setTop (mkF m 9 #[.val (.ref tz), .val (.int x1)] [])) _
    exact X3.returnOut hx Bd.returns (hb hby d3_9) hr
  · show Q3 Z tz x1 u_tz_max h0 n0 _ T3.heap _
    rw [e3]
    exact ⟨rfl, N3, K3, C4, Fw3⟩
theorem d2_0 : decode prog_9_method_2_code 0 = .ok (.iload_n 0, 1) := by decide +kernel
theorem d2_1 : decode prog_9_method_2_code 1 = .ok (.iconst 1, 1) := by decide +kernel
theorem d2_2 : decode prog_9_method_2_code 2 = .ok (.if_icmp .ge 17, 3) := by decide +kernel
theorem d2_19 : decode prog_9_method_2_code 19 = .ok (.new 8, 3) := by decide +kernel
theorem d2_22 : decode prog_9_method_2_code 22 = .ok (.dup, 1) := by decide +kernel
theorem d2_23 : decode prog_9_method_2_code 23 = .ok (.iload_n 0, 1) := by decide +kernel
theorem pd_0 : parseMethodDescriptor "(I)V" = some ⟨[.int], none⟩ := by decide +kernel
theorem d2_24 : decode prog_9_method_2_code 24 = .ok (.invokespecial 22, 3) := by decide +kernel
theorem d2_27 : decode prog_9_method_2_code 27 = .ok (.areturn, 1) := by decide +kernel
theorem ef2 (m : MethodId) (x1 : Int32) : entryFrame m #[(.int x1)] 1 = mkF m 0 #[.val (.int x1)] [] := by first | (simp [entryFrame, mkF, argsToLocals, Value.category]; done) | rfl
def Q2 (Z : State) (x1 : Int32) (h0 : Heap) (n0 : Nat) (v : Option Value) (h : Heap) (L : List Loc) : Prop := ∃ (b : Addr), v = some (.ref b) ∧ Fr n0 L ∧ Keep h0 h [] ∧ h0.size ≤ b ∧ Exa Z h b "com/example/derive/derive/Limit" ∧ Fld Z h b "com/example/derive/derive/Limit" "max" "I" (.int x1)
set_option maxRecDepth 65536 in
set_option maxHeartbeats 40000000 in
theorem rm2 (l : Launch) (Z : State) (a0 : Array Value) (hw : ∀ d ∈ tables_1, d.before a0 Z = true) (ws : List Jvm.Cond) (x1 : Int32) (h0 : Heap) (n0 : Nat) (Z0 : n0 ≤ h0.size) (O0 : Old Z n0 h0) (hge : ¬ (x1 < (1 : Int32))) :
    MetFree l (⟨"com/example/derive/derive/Limit", "of", "(I)Lcom/example/derive/derive/Limit;"⟩ : MethodName) (head1 (Jvm.Cond.code (⟨"com/example/derive/derive/Limit", "of", "(I)Lcom/example/derive/derive/Limit;"⟩ : MethodName) prog_9_method_2_code 1 (some (.object "com/example/derive/derive/Limit")) :: ws) ({ frames := 2, cells := 1, slots := 1, locals := 26 } : Room)) (fun a U => a = #[(.int x1)] ∧ Z.Warmed39 U.vm ∧ U.heap = h0) (fun _ _ _ _ _ => True) (fun _ U o U' => ∃ v L, o = .returned v ∧ Q2 Z x1 h0 n0 v U'.heap L ∧ FrameEnd U o U' L ({ frames := 2, cells := 1, slots := 1, locals := 26 } : Room).cells ({ frames := 2, cells := 1, slots := 1, locals := 26 } : Room).slots) := by
  refine MetFree.of_bodySF (plainFor_of_name pn_com_example_derive_derive_Limit) hisR ?_
  intro p e s m args below meth c s₁ Bd hml0 hP hK
  obtain ⟨rfl, hZ, hh⟩ := hP
  have hx := Bd.exec
  have hby := Bd.bytes
  have hml : c.maxLocals = 1 := hml0
  have hown : s.vm.findClass "com/example/derive/derive/Limit" = some m.cls := findClass_of_methodNamed Bd.named
  have hnm := (name_of_methodNamed Bd.named Bd.method).1
  have X0 : Stand p l e ({ frames := 2, cells := 1, slots := 1, locals := 26 } : Room) s m #[(.int x1)] below meth c s₁ [] 0 0 := Stand.of_body Bd
  have e0 : s₁.heap = h0 := by rw [← hh, Bd.state]; rfl
  have N0 := Fr.nil n0
  have K0 : Keep h0 h0 [] := Keep.refl _ _
  have pre0 : ∀ t, Steps p.tables e below (s₁.setTop (mkF m 0 #[.val (.int x1)] [])) t → Steps p.tables e below (s₁.setTop (entryFrame m #[(.int x1)] 1)) t := fun t k => castTop (ef2 m x1) k
  obtain ⟨T5, h5, X5, e5, E5, A5, D5, U5, st5⟩ := newO X0 hx hZ hown (hw _ (List.mem_of_getElem? (i := 9) rfl)) (hw _ (List.mem_of_getElem? (i := 10) rfl)) (hw _ (List.mem_of_getElem? (i := 7) rfl)) e0 (g := (mkF m 19 #[.val (.int x1)] [])) rfl (hb hby d2_19) (by decide) (by decide)
  obtain ⟨b5, g5⟩ : ∃ z, z = h0.size := ⟨_, rfl⟩
  rw [← g5] at A5 D5 st5
  have O5 : Old Z n0 h5 := O0.ext E5
  have Z5 : n0 ≤ h5.size := Nat.le_trans Z0 E5.1
  have K5 : Keep h0 h5 [] := K0.ext E5
  have g_b5 : n0 ≤ b5 := Nat.le_trans Z0 (Nat.le_of_eq g5.symm)
  have sz_b5 : h0.size ≤ b5 := Nat.le_trans K0.1 (Nat.le_of_eq g5.symm)
  have F_b5_max : Fld Z h5 b5 "com/example/derive/derive/Limit" "max" "I" (.int (0 : Int32)) := D5 (Or.inr (hw _ (List.mem_of_getElem? (i := 18) rfl))) (ty := .int) (by decide)
  obtain ⟨_, _, ⟨T6, L6, k6, n6⟩, -, X6, ⟨Lc6, hQ6, l6, y6, z6⟩, st6⟩ := X5.specialBack hx (y := (⟨"com/example/derive/derive/Limit", "<init>", "(I)V"⟩ : MethodName)) rfl hown (mvT hZ (hw _ (List.mem_of_getElem? (i := 11) rfl))) (mvT hZ (hw _ (List.mem_of_getElem? (i := 12) rfl))) (mvT hZ (hw _ (List.mem_of_getElem? (i := 13) rfl))) (by decide) (backOf (W := 1) (rm3 l Z a0 hw [] b5 x1 (.int (0 : Int32)) h5 n0 Z5 O5 A5 F_b5_max g_b5) hZ (hw _ (List.mem_of_getElem? (i := 13) rfl)) (hw _ (List.mem_of_getElem? (i := 7) rfl)) (by decide) (by decide)) (g := (mkF m 24 #[.val (.int x1)] [(.int x1), (.ref b5), (.ref b5)])) rfl (by rw [hml]; rfl) (Steps.refl _) (a := b5) (argsL := [(.int x1)]) (rest := [(.ref b5)]) (lenOf pd_0 rfl) rfl (by show 2 * 0 + _ ≤ _; exact Nat.le_of_eq rfl) (hb hby d2_24) (fun _ _ => ⟨rfl, e5, (by decide : 1 + 0 ≤ _), (by decide : 1 + 0 ≤ _)⟩)
  dsimp only [Pt.U, Pt.locs, Pt.cells, Pt.slots] at X6 l6 y6 z6 st6 hQ6
  subst l6 y6 z6
  obtain ⟨rfl, N6q, KK6, Q6_0, Q6_1⟩ := hQ6
  have N6 := Fr.app N0 N6q
  have O6 : Old Z n0 T6.heap := O5.keep KK6 (allS g_b5 all0)
  have Z6 : n0 ≤ T6.heap.size := Nat.le_trans Z5 KK6.1
  have K6 : Keep h0 T6.heap [] := K5.trans KK6 (allS (Or.inr sz_b5) all0)
  obtain ⟨fs, hr, hrun, hended, hW, hsame⟩ := X6.leave (v := some (.ref b5)) (fun h => by rw [Bd.returns] at h; cases h)
  refine ⟨_, _, pre0 _ ?_, hrun, hended, _, _, rfl, ?_, ⟨_, rfl⟩, hW, hsame.mono (by decide) (by decide)⟩
  · show Steps p.tables e below (s₁.setTop (mkF m 0 #[.val (.int x1)] [])) _
    refine XS.iloadN X0.here hx rfl (hb hby d2_0) rfl ?_
    show Steps p.tables e below (s₁.setTop (mkF m 1 #[.val (.int x1)] [(.int x1)])) _
    refine XS.iconst X0.here hx rfl (hb hby d2_1) ?_
    show Steps p.tables e below (s₁.setTop (mkF m 2 #[.val (.int x1)] [(.int (1 : Int32)), (.int x1)])) _
    refine XS.icmpYes X0.here hx rfl (pc0 := 2) (pc' := 19) rfl (hb hby d2_2) rfl (flt hge).2.1 (by decide) (by decide) ?_
    show Steps p.tables e below (s₁.setTop (mkF m 19 #[.val (.int x1)] [])) _
    refine st5 _ ?_
    show Steps p.tables e below (T5.setTop (mkF m 22 #[.val (.int x1)] [(.ref b5)])) _
    refine XS.dup X5.here hx rfl (hb hby d2_22) rfl rfl ?_
    show Steps p.tables e below (T5.setTop (mkF m 23 #[.val (.int x1)] [(.ref b5), (.ref b5)])) _
    refine XS.iloadN X5.here hx rfl (hb hby d2_23) rfl ?_
    show Steps p.tables e below (T5.setTop (mkF m 24 #[.val (.int x1)] [(.int x1), (.ref b5), (.ref b5)])) _
    refine st6.trans ?_
    show Steps p.tables e below (T6.setTop (mkF m 27 #[.val (.int x1)] [(.ref b5)])) _
    jvm_step X6.here [X6.here.top, hx, (hb hby d2_27), X6.method', Bd.returns, Value.isRef, FieldType.isReference]
    first | (intro acts; rw [hr _ acts rfl rfl rfl]) | rw [hr _ _ rfl rfl rfl]
    exact Steps.refl _
  · show Q2 Z x1 h0 n0 _ T6.heap _
    exact ⟨b5, rfl, N6, K6, sz_b5, Q6_0, Q6_1⟩
theorem d6_0 : decode prog_9_method_5_code 0 = .ok (.aload_n 0, 1) := by decide +kernel
theorem d6_1 : decode prog_9_method_5_code 1 = .ok (.getfield 7, 3) := by decide +kernel
theorem d6_4 : decode prog_9_method_5_code 4 = .ok (.ifCond .ne 7, 3) := by decide +kernel
theorem d6_7 : decode prog_9_method_5_code 7 = .ok (.iconst 1, 1) := by decide +kernel
theorem d6_8 : decode prog_9_method_5_code 8 = .ok (.goto 4, 3) := by decide +kernel
theorem d6_12 : decode prog_9_method_5_code 12 = .ok (.ireturn, 1) := by decide +kernel
theorem d6_11 : decode prog_9_method_5_code 11 = .ok (.iconst 0, 1) := by decide +kernel
theorem ef6 (m : MethodId) (tz : Addr) : entryFrame m #[(.ref tz)] 1 = mkF m 0 #[.val (.ref tz)] [] := by first | (simp [entryFrame, mkF, argsToLocals, Value.category]; done) | rfl
def Q6 (Z : State) (tz : Addr) (tz_max : Int32) (h0 : Heap) (n0 : Nat) (v : Option Value) (h : Heap) (L : List Loc) : Prop := v = some (.int (own_b (tz_max = (0 : Int32)))) ∧ Fr n0 L ∧ h = h0
set_option maxRecDepth 65536 in
set_option maxHeartbeats 40000000 in
theorem rm6 (l : Launch) (Z : State) (a0 : Array Value) (hw : ∀ d ∈ tables_1, d.before a0 Z = true) (ws : List Jvm.Cond) (tz : Addr) (tz_max : Int32) (h0 : Heap) (n0 : Nat) (Z0 : n0 ≤ h0.size) (O0 : Old Z n0 h0) (F_tz_max : Fld Z h0 tz "com/example/derive/derive/Limit" "max" "I" (.int tz_max)) :
    MetFree l (⟨"com/example/derive/derive/Limit", "isUnlimited", "()Z"⟩ : MethodName) (head1 (Jvm.Cond.code (⟨"com/example/derive/derive/Limit", "isUnlimited", "()Z"⟩ : MethodName) prog_9_method_5_code 1 (some .boolean) :: ws) ({ frames := 0, cells := 0, slots := 0, locals := 0 } : Room)) (fun a U => a = #[(.ref tz)] ∧ Z.Warmed39 U.vm ∧ U.heap = h0) (fun _ _ _ _ _ => True) (fun _ U o U' => ∃ v L, o = .returned v ∧ Q6 Z tz tz_max h0 n0 v U'.heap L ∧ FrameEnd U o U' L ({ frames := 0, cells := 0, slots := 0, locals := 0 } : Room).cells ({ frames := 0, cells := 0, slots := 0, locals := 0 } : Room).slots) := by
  refine MetFree.of_bodySF (plainFor_of_name pn_com_example_derive_derive_Limit) hisR ?_
  intro p e s m args below meth c s₁ Bd hml0 hP hK
  obtain ⟨rfl, hZ, hh⟩ := hP
  have hx := Bd.exec
  have hby := Bd.bytes
  have hml : c.maxLocals = 1 := hml0
  have hown : s.vm.findClass "com/example/derive/derive/Limit" = some m.cls := findClass_of_methodNamed Bd.named
  have hnm := (name_of_methodNamed Bd.named Bd.method).1
  have X0 : Stand p l e ({ frames := 0, cells := 0, slots := 0, locals := 0 } : Room) s m #[(.ref tz)] below meth c s₁ [] 0 0 := Stand.of_body Bd
  have e0 : s₁.heap = h0 := by rw [← hh, Bd.state]; rfl
  have N0 := Fr.nil n0
  have K0 : Keep h0 h0 [] := Keep.refl _ _
  have pre0 : ∀ t, Steps p.tables e below (s₁.setTop (mkF m 0 #[.val (.ref tz)] [])) t → Steps p.tables e below (s₁.setTop (entryFrame m #[(.ref tz)] 1)) t := fun t k => castTop (ef6 m tz) k
  obtain ⟨T7, X7, e7, st7⟩ := getF X0 hx hZ hown (host := "") (Or.inl (hw _ (List.mem_of_getElem? (i := 17) rfl))) Via.refl e0 F_tz_max (g := (mkF m 1 #[.val (.ref tz)] [(.ref tz)])) rfl rfl (hb hby d6_1)
  have pre8 : ∀ t, Steps p.tables e below (T7.setTop (mkF m 4 #[.val (.ref tz)] [(.int tz_max)])) t → Steps p.tables e below (s₁.setTop (entryFrame m #[(.ref tz)] 1)) t := by
    intro t kt
    refine pre0 t ?_
    show Steps p.tables e below (s₁.setTop (mkF m 0 #[.val (.ref tz)] [])) _
    refine XS.aloadN X0.here hx rfl (hb hby d6_0) rfl rfl ?_
    show Steps p.tables e below (s₁.setTop (mkF m 1 #[.val (.ref tz)] [(.ref tz)])) _
    refine st7 _ ?_
    exact kt
  by_cases hc4 : tz_max = (0 : Int32)
  · skip
    obtain ⟨fs, hr, hrun, hended, hW, hsame⟩ := X7.leave (v := some (.int (1 : Int32))) (fun h => by rw [Bd.returns] at h; cases h)
    refine ⟨_, _, pre8 _ ?_, hrun, hended, _, _, rfl, ?_, ⟨_, rfl⟩, hW, hsame.mono (by decide) (by decide)⟩
    · show Steps p.tables e below (T7.setTop (mkF m 4 #[.val (.ref tz)] [(.int tz_max)])) _
      refine XS.ifNo X7.here hx rfl (hb hby d6_4) rfl ((if0 _ _).trans (teq hc4).2) ?_
      show Steps p.tables e below (T7.setTop (mkF m 7 #[.val (.ref tz)] [])) _
      refine XS.iconst X7.here hx rfl (hb hby d6_7) ?_
      show Steps p.tables e below (T7.setTop (mkF m 8 #[.val (.ref tz)] [(.int (1 : Int32))])) _
      refine XS.goto X7.here hx rfl (pc0 := 8) (pc' := 12) rfl (hb hby d6_8) (by decide) (by decide) ?_
      show Steps p.tables e below (T7.setTop (mkF m 12 #[.val (.ref tz)] [(.int (1 : Int32))])) _
      exact retN X7 hx (t := .boolean) Bd.returns (by simp) (hb hby d6_12) hr
    · show Q6 Z tz tz_max h0 n0 _ T7.heap _
      rw [e7]
      exact ⟨(by rw [own_bt hc4]; try rfl), N0, rfl⟩
  · skip
    obtain ⟨fs, hr, hrun, hended, hW, hsame⟩ := X7.leave (v := some (.int (0 : Int32))) (fun h => by rw [Bd.returns] at h; cases h)
    refine ⟨_, _, pre8 _ ?_, hrun, hended, _, _, rfl, ?_, ⟨_, rfl⟩, hW, hsame.mono (by decide) (by decide)⟩
    · show Steps p.tables e below (T7.setTop (mkF m 4 #[.val (.ref tz)] [(.int tz_max)])) _
      refine XS.ifYes X7.here hx rfl (pc0 := 4) (pc' := 11) rfl (hb hby d6_4) rfl ((if0 _ _).trans (feq hc4).2) (by decide) (by decide) ?_
      show Steps p.tables e below (T7.setTop (mkF m 11 #[.val (.ref tz)] [])) _
      refine XS.iconst X7.here hx rfl (hb hby d6_11) ?_
      show Steps p.tables e below (T7.setTop (mkF m 12 #[.val (.ref tz)] [(.int (0 : Int32))])) _
      exact retN X7 hx (t := .boolean) Bd.returns (by simp) (hb hby d6_12) hr
    · show Q6 Z tz tz_max h0 n0 _ T7.heap _
      rw [e7]
      exact ⟨(by rw [own_bf hc4]; try rfl), N0, rfl⟩
theorem d5_0 : decode prog_9_method_6_code 0 = .ok (.aload_n 0, 1) := by decide +kernel
theorem pd_1 : parseMethodDescriptor "()Z" = some ⟨[], some .boolean⟩ := by decide +kernel
theorem d5_1 : decode prog_9_method_6_code 1 = .ok (.invokevirtual 29, 3) := by decide +kernel
theorem d5_4 : decode prog_9_method_6_code 4 = .ok (.ifCond .eq 13, 3) := by decide +kernel
theorem d5_17 : decode prog_9_method_6_code 17 = .ok (.aload_n 0, 1) := by decide +kernel
theorem d5_18 : decode prog_9_method_6_code 18 = .ok (.getfield 7, 3) := by decide +kernel
theorem d5_21 : decode prog_9_method_6_code 21 = .ok (.ireturn, 1) := by decide +kernel
theorem ef5 (m : MethodId) (tz : Addr) : entryFrame m #[(.ref tz)] 1 = mkF m 0 #[.val (.ref tz)] [] := by first | (simp [entryFrame, mkF, argsToLocals, Value.category]; done) | rfl
def Q5 (Z : State) (tz : Addr) (tz_max : Int32) (h0 : Heap) (n0 : Nat) (v : Option Value) (h : Heap) (L : List Loc) : Prop := v = some (.int tz_max) ∧ Fr n0 L ∧ h = h0
set_option maxRecDepth 65536 in
set_option maxHeartbeats 40000000 in
theorem rm5 (l : Launch) (Z : State) (a0 : Array Value) (hw : ∀ d ∈ tables_1, d.before a0 Z = true) (ws : List Jvm.Cond) (tz : Addr) (tz_max : Int32) (h0 : Heap) (n0 : Nat) (Z0 : n0 ≤ h0.size) (O0 : Old Z n0 h0) (hne : ¬ (tz_max = (0 : Int32))) (F_tz_max : Fld Z h0 tz "com/example/derive/derive/Limit" "max" "I" (.int tz_max)) (E_tz : Exa Z h0 tz "com/example/derive/derive/Limit") :
    MetFree l (⟨"com/example/derive/derive/Limit", "max", "()I"⟩ : MethodName) (head1 (Jvm.Cond.code (⟨"com/example/derive/derive/Limit", "max", "()I"⟩ : MethodName) prog_9_method_6_code 1 (some .int) :: ws) ({ frames := 1, cells := 0, slots := 0, locals := 12 } : Room)) (fun a U => a = #[(.ref tz)] ∧ Z.Warmed39 U.vm ∧ U.heap = h0) (fun _ _ _ _ _ => True) (fun _ U o U' => ∃ v L, o = .returned v ∧ Q5 Z tz tz_max h0 n0 v U'.heap L ∧ FrameEnd U o U' L ({ frames := 1, cells := 0, slots := 0, locals := 12 } : Room).cells ({ frames := 1, cells := 0, slots := 0, locals := 12 } : Room).slots) := by
  refine MetFree.of_bodySF (plainFor_of_name pn_com_example_derive_derive_Limit) hisR ?_
  intro p e s m args below meth c s₁ Bd hml0 hP hK
  obtain ⟨rfl, hZ, hh⟩ := hP
  have hx := Bd.exec
  have hby := Bd.bytes
  have hml : c.maxLocals = 1 := hml0
  have hown : s.vm.findClass "com/example/derive/derive/Limit" = some m.cls := findClass_of_methodNamed Bd.named
  have hnm := (name_of_methodNamed Bd.named Bd.method).1
  have X0 : Stand p l e ({ frames := 1, cells := 0, slots := 0, locals := 12 } : Room) s m #[(.ref tz)] below meth c s₁ [] 0 0 := Stand.of_body Bd
  have e0 : s₁.heap = h0 := by rw [← hh, Bd.state]; rfl
  have N0 := Fr.nil n0
  have K0 : Keep h0 h0 [] := Keep.refl _ _
  have pre0 : ∀ t, Steps p.tables e below (s₁.setTop (mkF m 0 #[.val (.ref tz)] [])) t → Steps p.tables e below (s₁.setTop (entryFrame m #[(.ref tz)] 1)) t := fun t k => castTop (ef5 m tz) k
  obtain ⟨cq9, kq9, q9a, q9b, q9c⟩ := isOf hZ e0 E_tz
  obtain ⟨_, _, ⟨T9, L9, k9, n9⟩, -, X9, ⟨Lc9, hQ9, l9, y9, z9⟩, st9⟩ := X0.virtualBack hx (y := (⟨"com/example/derive/derive/Limit", "isUnlimited", "()Z"⟩ : MethodName)) (z := (⟨"com/example/derive/derive/Limit", "isUnlimited", "()Z"⟩ : MethodName)) hown (mvT hZ (hw _ (List.mem_of_getElem? (i := 24) rfl))) (mvT hZ (hw _ (List.mem_of_getElem? (i := 25) rfl))) (notFace_of_selects (args := #[]) (mvT hZ (hw _ (List.mem_of_getElem? (i := 27) rfl)))) (mvT hZ (hw _ (List.mem_of_getElem? (i := 27) rfl))) (mvT hZ (hw _ (List.mem_of_getElem? (i := 26) rfl))) (by decide) (backOf (W := 0) (rm6 l Z a0 hw [] tz tz_max h0 n0 Z0 O0 F_tz_max) hZ (hw _ (List.mem_of_getElem? (i := 28) rfl)) (hw _ (List.mem_of_getElem? (i := 7) rfl)) (by decide) (by decide)) q9a q9c (g := (mkF m 1 #[.val (.ref tz)] [(.ref tz)])) rfl (by rw [hml]; rfl) (Steps.refl _) (argsL := []) (rest := []) (lenOf pd_1 rfl) rfl (by show 2 * 0 + _ ≤ _; exact Nat.le_of_eq rfl) (hb hby d5_1) (fun _ _ => ⟨rfl, e0, (by decide : 0 + 0 ≤ _), (by decide : 0 + 0 ≤ _)⟩)
  dsimp only [Pt.U, Pt.locs, Pt.cells, Pt.slots] at X9 l9 y9 z9 st9 hQ9
  subst l9 y9 z9
  obtain ⟨rfl, N9q, eh9⟩ := hQ9
  have N9 := Fr.app N0 N9q
  obtain ⟨T10, X10, e10, st10⟩ := getF X9 hx hZ hown (host := "") (Or.inl (hw _ (List.mem_of_getElem? (i := 17) rfl))) Via.refl eh9 F_tz_max (g := (mkF m 18 #[.val (.ref tz)] [(.ref tz)])) rfl rfl (hb hby d5_18)
  obtain ⟨fs, hr, hrun, hended, hW, hsame⟩ := X10.leave (v := some (.int tz_max)) (fun h => by rw [Bd.returns] at h; cases h)
  refine ⟨_, _, pre0 _ ?_, hrun, hended, _, _, rfl, ?_, ⟨_, rfl⟩, hW, hsame.mono (by decide) (by decide)⟩
  · show Steps p.tables e below (s₁.setTop (mkF m 0 #[.val (.ref tz)] [])) _
    refine XS.aloadN X0.here hx rfl (hb hby d5_0) rfl rfl ?_
    show Steps p.tables e below (s₁.setTop (mkF m 1 #[.val (.ref tz)] [(.ref tz)])) _
    refine st9.trans ?_
    show Steps p.tables e below (T9.setTop (mkF m 4 #[.val (.ref tz)] [(.int (own_b (tz_max = (0 : Int32))))])) _
    refine XS.ifYes X9.here hx rfl (pc0 := 4) (pc' := 17) rfl (hb hby d5_4) rfl ((if0 _ _).trans (teq (own_bf hne)).1) (by decide) (by decide) ?_
    show Steps p.tables e below (T9.setTop (mkF m 17 #[.val (.ref tz)] [])) _
    refine XS.aloadN X9.here hx rfl (hb hby d5_17) rfl rfl ?_
    show Steps p.tables e below (T9.setTop (mkF m 18 #[.val (.ref tz)] [(.ref tz)])) _
    refine st10 _ ?_
    show Steps p.tables e below (T10.setTop (mkF m 21 #[.val (.ref tz)] [(.int tz_max)])) _
    exact retI X10 hx Bd.returns (hb hby d5_21) hr
  · show Q5 Z tz tz_max h0 n0 _ T10.heap _
    rw [e10]
    exact ⟨rfl, N9, rfl⟩
theorem d7_0 : decode prog_9_method_4_code 0 = .ok (.aload_n 0, 1) := by decide +kernel
theorem d7_1 : decode prog_9_method_4_code 1 = .ok (.getfield 7, 3) := by decide +kernel
theorem d7_4 : decode prog_9_method_4_code 4 = .ok (.ifCond .le 7, 3) := by decide +kernel
theorem d7_7 : decode prog_9_method_4_code 7 = .ok (.iconst 1, 1) := by decide +kernel
theorem d7_8 : decode prog_9_method_4_code 8 = .ok (.goto 4, 3) := by decide +kernel
theorem d7_12 : decode prog_9_method_4_code 12 = .ok (.ireturn, 1) := by decide +kernel
theorem d7_11 : decode prog_9_method_4_code 11 = .ok (.iconst 0, 1) := by decide +kernel
theorem ef7 (m : MethodId) (tz : Addr) : entryFrame m #[(.ref tz)] 1 = mkF m 0 #[.val (.ref tz)] [] := by first | (simp [entryFrame, mkF, argsToLocals, Value.category]; done) | rfl
def Q7 (Z : State) (tz : Addr) (tz_max : Int32) (h0 : Heap) (n0 : Nat) (v : Option Value) (h : Heap) (L : List Loc) : Prop := v = some (.int (own_b ((0 : Int32) < tz_max))) ∧ Fr n0 L ∧ h = h0
set_option maxRecDepth 65536 in
set_option maxHeartbeats 40000000 in
theorem rm7 (l : Launch) (Z : State) (a0 : Array Value) (hw : ∀ d ∈ tables_1, d.before a0 Z = true) (ws : List Jvm.Cond) (tz : Addr) (tz_max : Int32) (h0 : Heap) (n0 : Nat) (Z0 : n0 ≤ h0.size) (O0 : Old Z n0 h0) (F_tz_max : Fld Z h0 tz "com/example/derive/derive/Limit" "max" "I" (.int tz_max)) :
    MetFree l (⟨"com/example/derive/derive/Limit", "isLimited", "()Z"⟩ : MethodName) (head1 (Jvm.Cond.code (⟨"com/example/derive/derive/Limit", "isLimited", "()Z"⟩ : MethodName) prog_9_method_4_code 1 (some .boolean) :: ws) ({ frames := 0, cells := 0, slots := 0, locals := 0 } : Room)) (fun a U => a = #[(.ref tz)] ∧ Z.Warmed39 U.vm ∧ U.heap = h0) (fun _ _ _ _ _ => True) (fun _ U o U' => ∃ v L, o = .returned v ∧ Q7 Z tz tz_max h0 n0 v U'.heap L ∧ FrameEnd U o U' L ({ frames := 0, cells := 0, slots := 0, locals := 0 } : Room).cells ({ frames := 0, cells := 0, slots := 0, locals := 0 } : Room).slots) := by
  refine MetFree.of_bodySF (plainFor_of_name pn_com_example_derive_derive_Limit) hisR ?_
  intro p e s m args below meth c s₁ Bd hml0 hP hK
  obtain ⟨rfl, hZ, hh⟩ := hP
  have hx := Bd.exec
  have hby := Bd.bytes
  have hml : c.maxLocals = 1 := hml0
  have hown : s.vm.findClass "com/example/derive/derive/Limit" = some m.cls := findClass_of_methodNamed Bd.named
  have hnm := (name_of_methodNamed Bd.named Bd.method).1
  have X0 : Stand p l e ({ frames := 0, cells := 0, slots := 0, locals := 0 } : Room) s m #[(.ref tz)] below meth c s₁ [] 0 0 := Stand.of_body Bd
  have e0 : s₁.heap = h0 := by rw [← hh, Bd.state]; rfl
  have N0 := Fr.nil n0
  have K0 : Keep h0 h0 [] := Keep.refl _ _
  have pre0 : ∀ t, Steps p.tables e below (s₁.setTop (mkF m 0 #[.val (.ref tz)] [])) t → Steps p.tables e below (s₁.setTop (entryFrame m #[(.ref tz)] 1)) t := fun t k => castTop (ef7 m tz) k
  obtain ⟨T11, X11, e11, st11⟩ := getF X0 hx hZ hown (host := "") (Or.inl (hw _ (List.mem_of_getElem? (i := 17) rfl))) Via.refl e0 F_tz_max (g := (mkF m 1 #[.val (.ref tz)] [(.ref tz)])) rfl rfl (hb hby d7_1)
  have pre12 : ∀ t, Steps p.tables e below (T11.setTop (mkF m 4 #[.val (.ref tz)] [(.int tz_max)])) t → Steps p.tables e below (s₁.setTop (entryFrame m #[(.ref tz)] 1)) t := by
    intro t kt
    refine pre0 t ?_
    show Steps p.tables e below (s₁.setTop (mkF m 0 #[.val (.ref tz)] [])) _
    refine XS.aloadN X0.here hx rfl (hb hby d7_0) rfl rfl ?_
    show Steps p.tables e below (s₁.setTop (mkF m 1 #[.val (.ref tz)] [(.ref tz)])) _
    refine st11 _ ?_
    exact kt
  by_cases hc4 : (0 : Int32) < tz_max
  · skip
    obtain ⟨fs, hr, hrun, hended, hW, hsame⟩ := X11.leave (v := some (.int (1 : Int32))) (fun h => by rw [Bd.returns] at h; cases h)
    refine ⟨_, _, pre12 _ ?_, hrun, hended, _, _, rfl, ?_, ⟨_, rfl⟩, hW, hsame.mono (by decide) (by decide)⟩
    · show Steps p.tables e below (T11.setTop (mkF m 4 #[.val (.ref tz)] [(.int tz_max)])) _
      refine XS.ifNo X11.here hx rfl (hb hby d7_4) rfl ((if0 _ _).trans (tlt hc4).2.2.2) ?_
      show Steps p.tables e below (T11.setTop (mkF m 7 #[.val (.ref tz)] [])) _
      refine XS.iconst X11.here hx rfl (hb hby d7_7) ?_
      show Steps p.tables e below (T11.setTop (mkF m 8 #[.val (.ref tz)] [(.int (1 : Int32))])) _
      refine XS.goto X11.here hx rfl (pc0 := 8) (pc' := 12) rfl (hb hby d7_8) (by decide) (by decide) ?_
      show Steps p.tables e below (T11.setTop (mkF m 12 #[.val (.ref tz)] [(.int (1 : Int32))])) _
      exact retN X11 hx (t := .boolean) Bd.returns (by simp) (hb hby d7_12) hr
    · show Q7 Z tz tz_max h0 n0 _ T11.heap _
      rw [e11]
      exact ⟨(by rw [own_bt hc4]; try rfl), N0, rfl⟩
  · skip
    obtain ⟨fs, hr, hrun, hended, hW, hsame⟩ := X11.leave (v := some (.int (0 : Int32))) (fun h => by rw [Bd.returns] at h; cases h)
    refine ⟨_, _, pre12 _ ?_, hrun, hended, _, _, rfl, ?_, ⟨_, rfl⟩, hW, hsame.mono (by decide) (by decide)⟩
    · show Steps p.tables e below (T11.setTop (mkF m 4 #[.val (.ref tz)] [(.int tz_max)])) _
      refine XS.ifYes X11.here hx rfl (pc0 := 4) (pc' := 11) rfl (hb hby d7_4) rfl ((if0 _ _).trans (flt hc4).2.2.2) (by decide) (by decide) ?_
      show Steps p.tables e below (T11.setTop (mkF m 11 #[.val (.ref tz)] [])) _
      refine XS.iconst X11.here hx rfl (hb hby d7_11) ?_
      show Steps p.tables e below (T11.setTop (mkF m 12 #[.val (.ref tz)] [(.int (0 : Int32))])) _
      exact retN X11 hx (t := .boolean) Bd.returns (by simp) (hb hby d7_12) hr
    · show Q7 Z tz tz_max h0 n0 _ T11.heap _
      rw [e11]
      exact ⟨(by rw [own_bf hc4]; try rfl), N0, rfl⟩
theorem d8_0 : decode prog_9_method_7_code 0 = .ok (.aload_n 1, 1) := by decide +kernel
theorem d8_1 : decode prog_9_method_7_code 1 = .ok (.instanceof 8, 3) := by decide +kernel
theorem d8_4 : decode prog_9_method_7_code 4 = .ok (.ifCond .eq 23, 3) := by decide +kernel
theorem d8_7 : decode prog_9_method_7_code 7 = .ok (.aload_n 1, 1) := by decide +kernel
theorem d8_8 : decode prog_9_method_7_code 8 = .ok (.checkcast 8, 3) := by decide +kernel
theorem d8_11 : decode prog_9_method_7_code 11 = .ok (.astore_n 2, 1) := by decide +kernel
theorem d8_12 : decode prog_9_method_7_code 12 = .ok (.aload_n 0, 1) := by decide +kernel
theorem d8_13 : decode prog_9_method_7_code 13 = .ok (.getfield 7, 3) := by decide +kernel
theorem d8_16 : decode prog_9_method_7_code 16 = .ok (.aload_n 2, 1) := by decide +kernel
theorem d8_17 : decode prog_9_method_7_code 17 = .ok (.getfield 7, 3) := by decide +kernel
theorem d8_20 : decode prog_9_method_7_code 20 = .ok (.if_icmp .ne 7, 3) := by decide +kernel
theorem d8_23 : decode prog_9_method_7_code 23 = .ok (.iconst 1, 1) := by decide +kernel
theorem d8_24 : decode prog_9_method_7_code 24 = .ok (.goto 4, 3) := by decide +kernel
theorem d8_28 : decode prog_9_method_7_code 28 = .ok (.ireturn, 1) := by decide +kernel
theorem d8_27 : decode prog_9_method_7_code 27 = .ok (.iconst 0, 1) := by decide +kernel
theorem ef8 (m : MethodId) (tz : Addr) (x1 : Addr) : entryFrame m #[(.ref tz), (.ref x1)] 3 = mkF m 0 #[.val (.ref tz), .val (.ref x1), .unset] [] := by first | (simp [entryFrame, mkF, argsToLocals, Value.category]; done) | rfl
def Q8 (Z : State) (tz : Addr) (x1 : Addr) (tz_max : Int32) (x1_max : Int32) (h0 : Heap) (n0 : Nat) (v : Option Value) (h : Heap) (L : List Loc) : Prop := v = some (.int (own_b (tz_max = x1_max))) ∧ Fr n0 L ∧ h = h0
set_option maxRecDepth 65536 in
set_option maxHeartbeats 40000000 in
theorem rm8 (l : Launch) (Z : State) (a0 : Array Value) (hw : ∀ d ∈ tables_1, d.before a0 Z = true) (ws : List Jvm.Cond) (tz : Addr) (x1 : Addr) (tz_max : Int32) (x1_max : Int32) (h0 : Heap) (n0 : Nat) (Z0 : n0 ≤ h0.size) (O0 : Old Z n0 h0) (E_x1 : Exa Z h0 x1 "com/example/derive/derive/Limit") (F_tz_max : Fld Z h0 tz "com/example/derive/derive/Limit" "max" "I" (.int tz_max)) (F_x1_max : Fld Z h0 x1 "com/example/derive/derive/Limit" "max" "I" (.int x1_max)) :
    MetFree l (⟨"com/example/derive/derive/Limit", "equals", "(Ljava/lang/Object;)Z"⟩ : MethodName) (head1 (Jvm.Cond.code (⟨"com/example/derive/derive/Limit", "equals", "(Ljava/lang/Object;)Z"⟩ : MethodName) prog_9_method_7_code 3 (some .boolean) :: ws) ({ frames := 0, cells := 0, slots := 0, locals := 0 } : Room)) (fun a U => a = #[(.ref tz), (.ref x1)] ∧ Z.Warmed39 U.vm ∧ U.heap = h0) (fun _ _ _ _ _ => True) (fun _ U o U' => ∃ v L, o = .returned v ∧ Q8 Z tz x1 tz_max x1_max h0 n0 v U'.heap L ∧ FrameEnd U o U' L ({ frames := 0, cells := 0, slots := 0, locals := 0 } : Room).cells ({ frames := 0, cells := 0, slots := 0, locals := 0 } : Room).slots) := by
  refine MetFree.of_bodySF (plainFor_of_name pn_com_example_derive_derive_Limit) hisR ?_
  intro p e s m args below meth c s₁ Bd hml0 hP hK
  obtain ⟨rfl, hZ, hh⟩ := hP
  have hx := Bd.exec
  have hby := Bd.bytes
  have hml : c.maxLocals = 3 := hml0
  have hown : s.vm.findClass "com/example/derive/derive/Limit" = some m.cls := findClass_of_methodNamed Bd.named
  have hnm := (name_of_methodNamed Bd.named Bd.method).1
  have X0 : Stand p l e ({ frames := 0, cells := 0, slots := 0, locals := 0 } : Room) s m #[(.ref tz), (.ref x1)] below meth c s₁ [] 0 0 := Stand.of_body Bd
  have e0 : s₁.heap = h0 := by rw [← hh, Bd.state]; rfl
  have N0 := Fr.nil n0
  have K0 : Keep h0 h0 [] := Keep.refl _ _
  have pre0 : ∀ t, Steps p.tables e below (s₁.setTop (mkF m 0 #[.val (.ref tz), .val (.ref x1), .unset] [])) t → Steps p.tables e below (s₁.setTop (entryFrame m #[(.ref tz), (.ref x1)] 3)) t := fun t k => castTop (ef8 m tz x1) k
  obtain ⟨T13, X13, e13, st13⟩ := instY X0 hx hZ hown (hw _ (List.mem_of_getElem? (i := 9) rfl)) e0 (Ins.self E_x1) (g := (mkF m 1 #[.val (.ref tz), .val (.ref x1), .unset] [(.ref x1)])) rfl rfl (hb hby d8_1)
  obtain ⟨T14, X14, e14, st14⟩ := castY X13 hx hZ hown (hw _ (List.mem_of_getElem? (i := 9) rfl)) e13 (Ins.self E_x1) (g := (mkF m 8 #[.val (.ref tz), .val (.ref x1), .unset] [(.ref x1)])) rfl rfl (hb hby d8_8)
  obtain ⟨T15, X15, e15, st15⟩ := getF X14 hx hZ hown (host := "") (Or.inl (hw _ (List.mem_of_getElem? (i := 17) rfl))) Via.refl e14 F_tz_max (g := (mkF m 13 #[.val (.ref tz), .val (.ref x1), .val (.ref x1)] [(.ref tz)])) rfl rfl (hb hby d8_13)
  obtain ⟨T16, X16, e16, st16⟩ := getF X15 hx hZ hown (host := "") (Or.inl (hw _ (List.mem_of_getElem? (i := 17) rfl))) Via.refl e15 F_x1_max (g := (mkF m 17 #[.val (.ref tz), .val (.ref x1), .val (.ref x1)] [(.ref x1), (.int tz_max)])) rfl rfl (hb hby d8_17)
  have pre17 : ∀ t, Steps p.tables e below (T16.setTop (mkF m 20 #[.val (.ref tz), .val (.ref x1), .val (.ref x1)] [(.int x1_max), (.int tz_max)])) t → Steps p.tables e below (s₁.setTop (entryFrame m #[(.ref tz), (.ref x1)] 3)) t := by
    intro t kt
    refine pre0 t ?_
    show Steps p.tables e below (s₁.setTop (mkF m 0 #[.val (.ref tz), .val (.ref x1), .unset] [])) _
    refine XS.aloadN X0.here hx rfl (hb hby d8_0) rfl rfl ?_
    show Steps p.tables e below (s₁.setTop (mkF m 1 #[.val (.ref tz), .val (.ref x1), .unset] [(.ref x1)])) _
    refine st13 _ ?_
    show Steps p.tables e below (T13.setTop (mkF m 4 #[.val (.ref tz), .val (.ref x1), .unset] [(.int (1 : Int32))])) _
    refine XS.ifNo X13.here hx rfl (hb hby d8_4) rfl ((if0 _ _).trans (feq (by decide : ¬ ((1 : Int32) = (0 : Int32)))).1) ?_
    show Steps p.tables e below (T13.setTop (mkF m 7 #[.val (.ref tz), .val (.ref x1), .unset] [])) _
    refine XS.aloadN X13.here hx rfl (hb hby d8_7) rfl rfl ?_
    show Steps p.tables e below (T13.setTop (mkF m 8 #[.val (.ref tz), .val (.ref x1), .unset] [(.ref x1)])) _
    refine st14 _ ?_
    show Steps p.tables e below (T14.setTop (mkF m 11 #[.val (.ref tz), .val (.ref x1), .unset] [(.ref x1)])) _
    refine XS.astoreN X14.here hx rfl (hb hby d8_11) rfl rfl (l' := #[.val (.ref tz), .val (.ref x1), .val (.ref x1)]) rfl ?_
    show Steps p.tables e below (T14.setTop (mkF m 12 #[.val (.ref tz), .val (.ref x1), .val (.ref x1)] [])) _
    refine XS.aloadN X14.here hx rfl (hb hby d8_12) rfl rfl ?_
    show Steps p.tables e below (T14.setTop (mkF m 13 #[.val (.ref tz), .val (.ref x1), .val (.ref x1)] [(.ref tz)])) _
    refine st15 _ ?_
    show Steps p.tables e below (T15.setTop (mkF m 16 #[.val (.ref tz), .val (.ref x1), .val (.ref x1)] [(.int tz_max)])) _
    refine XS.aloadN X15.here hx rfl (hb hby d8_16) rfl rfl ?_
    show Steps p.tables e below (T15.setTop (mkF m 17 #[.val (.ref tz), .val (.ref x1), .val (.ref x1)] [(.ref x1), (.int tz_max)])) _
    refine st16 _ ?_
    exact kt
  by_cases hc20 : tz_max = x1_max
  · skip
    obtain ⟨fs, hr, hrun, hended, hW, hsame⟩ := X16.leave (v := some (.int (1 : Int32))) (fun h => by rw [Bd.returns] at h; cases h)
    refine ⟨_, _, pre17 _ ?_, hrun, hended, _, _, rfl, ?_, ⟨_, rfl⟩, hW, hsame.mono (by decide) (by decide)⟩
    · show Steps p.tables e below (T16.setTop (mkF m 20 #[.val (.ref tz), .val (.ref x1), .val (.ref x1)] [(.int x1_max), (.int tz_max)])) _
      refine XS.icmpNo X16.here hx rfl (hb hby d8_20) rfl (teq hc20).2 ?_
      show Steps p.tables e below (T16.setTop (mkF m 23 #[.val (.ref tz), .val (.ref x1), .val (.ref x1)] [])) _
      refine XS.iconst X16.here hx rfl (hb hby d8_23) ?_
      show Steps p.tables e below (T16.setTop (mkF m 24 #[.val (.ref tz), .val (.ref x1), .val (.ref x1)] [(.int (1 : Int32))])) _
      refine XS.goto X16.here hx rfl (pc0 := 24) (pc' := 28) rfl (hb hby d8_24) (by decide) (by decide) ?_
      show Steps p.tables e below (T16.setTop (mkF m 28 #[.val (.ref tz), .val (.ref x1), .val (.ref x1)] [(.int (1 : Int32))])) _
      exact retN X16 hx (t := .boolean) Bd.returns (by simp) (hb hby d8_28) hr
    · show Q8 Z tz x1 tz_max x1_max h0 n0 _ T16.heap _
      rw [e16]
      exact ⟨(by rw [own_bt hc20]; try rfl), N0, rfl⟩
  · skip
    obtain ⟨fs, hr, hrun, hended, hW, hsame⟩ := X16.leave (v := some (.int (0 : Int32))) (fun h => by rw [Bd.returns] at h; cases h)
    refine ⟨_, _, pre17 _ ?_, hrun, hended, _, _, rfl, ?_, ⟨_, rfl⟩, hW, hsame.mono (by decide) (by decide)⟩
    · show Steps p.tables e below (T16.setTop (mkF m 20 #[.val (.ref tz), .val (.ref x1), .val (.ref x1)] [(.int x1_max), (.int tz_max)])) _
      refine XS.icmpYes X16.here hx rfl (pc0 := 20) (pc' := 27) rfl (hb hby d8_20) rfl (feq hc20).2 (by decide) (by decide) ?_
      show Steps p.tables e below (T16.setTop (mkF m 27 #[.val (.ref tz), .val (.ref x1), .val (.ref x1)] [])) _
      refine XS.iconst X16.here hx rfl (hb hby d8_27) ?_
      show Steps p.tables e below (T16.setTop (mkF m 28 #[.val (.ref tz), .val (.ref x1), .val (.ref x1)] [(.int (0 : Int32))])) _
      exact retN X16 hx (t := .boolean) Bd.returns (by simp) (hb hby d8_28) hr
    · show Q8 Z tz x1 tz_max x1_max h0 n0 _ T16.heap _
      rw [e16]
      exact ⟨(by rw [own_bf hc20]; try rfl), N0, rfl⟩
theorem d9_0 : decode prog_9_method_3_code 0 = .ok (.getstatic 25, 3) := by decide +kernel
theorem d9_3 : decode prog_9_method_3_code 3 = .ok (.areturn, 1) := by decide +kernel
theorem ef9 (m : MethodId)  : entryFrame m #[] 0 = mkF m 0 #[] [] := by first | (simp [entryFrame, mkF, argsToLocals, Value.category]; done) | rfl
def Q9 (Z : State) (st_UNLIMITED : Addr) (h0 : Heap) (n0 : Nat) (v : Option Value) (h : Heap) (L : List Loc) : Prop := v = some (.ref st_UNLIMITED) ∧ Fr n0 L ∧ h = h0
set_option maxRecDepth 65536 in
set_option maxHeartbeats 40000000 in
theorem rm9 (l : Launch) (Z : State) (a0 : Array Value) (hw : ∀ d ∈ tables_1, d.before a0 Z = true) (ws : List Jvm.Cond) (st_UNLIMITED : Addr) (h0 : Heap) (n0 : Nat) (Z0 : n0 ≤ h0.size) (O0 : Old Z n0 h0) (S_UNLIMITED : Sta Z Z.heap "com/example/derive/derive/Limit" "UNLIMITED" "Lcom/example/derive/derive/Limit;" (.ref st_UNLIMITED)) :
    MetFree l (⟨"com/example/derive/derive/Limit", "unlimited", "()Lcom/example/derive/derive/Limit;"⟩ : MethodName) (head1 (Jvm.Cond.code (⟨"com/example/derive/derive/Limit", "unlimited", "()Lcom/example/derive/derive/Limit;"⟩ : MethodName) prog_9_method_3_code 0 (some (.object "com/example/derive/derive/Limit")) :: ws) ({ frames := 0, cells := 0, slots := 0, locals := 0 } : Room)) (fun a U => a = #[] ∧ Z.Warmed39 U.vm ∧ U.heap = h0) (fun _ _ _ _ _ => True) (fun _ U o U' => ∃ v L, o = .returned v ∧ Q9 Z st_UNLIMITED h0 n0 v U'.heap L ∧ FrameEnd U o U' L ({ frames := 0, cells := 0, slots := 0, locals := 0 } : Room).cells ({ frames := 0, cells := 0, slots := 0, locals := 0 } : Room).slots) := by
  refine MetFree.of_bodySF (plainFor_of_name pn_com_example_derive_derive_Limit) hisR ?_
  intro p e s m args below meth c s₁ Bd hml0 hP hK
  obtain ⟨rfl, hZ, hh⟩ := hP
  have hx := Bd.exec
  have hby := Bd.bytes
  have hml : c.maxLocals = 0 := hml0
  have hown : s.vm.findClass "com/example/derive/derive/Limit" = some m.cls := findClass_of_methodNamed Bd.named
  have hnm := (name_of_methodNamed Bd.named Bd.method).1
  have X0 : Stand p l e ({ frames := 0, cells := 0, slots := 0, locals := 0 } : Room) s m #[] below meth c s₁ [] 0 0 := Stand.of_body Bd
  have e0 : s₁.heap = h0 := by rw [← hh, Bd.state]; rfl
  have N0 := Fr.nil n0
  have K0 : Keep h0 h0 [] := Keep.refl _ _
  have pre0 : ∀ t, Steps p.tables e below (s₁.setTop (mkF m 0 #[] [])) t → Steps p.tables e below (s₁.setTop (entryFrame m #[] 0)) t := fun t k => castTop (ef9 m ) k
  obtain ⟨T18, X18, e18, st18⟩ := getS2 X0 hx hZ hown (host := "") (Or.inl (hw _ (List.mem_of_getElem? (i := 44) rfl))) Via.refl e0 (S_UNLIMITED.ext O0.2) (g := (mkF m 0 #[] [])) rfl (hb hby d9_0)
  obtain ⟨fs, hr, hrun, hended, hW, hsame⟩ := X18.leave (v := some (.ref st_UNLIMITED)) (fun h => by rw [Bd.returns] at h; cases h)
  refine ⟨_, _, pre0 _ ?_, hrun, hended, _, _, rfl, ?_, ⟨_, rfl⟩, hW, hsame.mono (by decide) (by decide)⟩
  · show Steps p.tables e below (s₁.setTop (mkF m 0 #[] [])) _
    refine st18 _ ?_
    show Steps p.tables e below (T18.setTop (mkF m 3 #[] [(.ref st_UNLIMITED)])) _
    jvm_step X18.here [X18.here.top, hx, (hb hby d9_3), X18.method', Bd.returns, Value.isRef, FieldType.isReference]
    first | (intro acts; rw [hr _ acts rfl rfl rfl]) | rw [hr _ _ rfl rfl rfl]
    exact Steps.refl _
  · show Q9 Z st_UNLIMITED h0 n0 _ T18.heap _
    rw [e18]
    exact ⟨rfl, N0, rfl⟩
theorem d11_0 : decode jdk_33_method_33_code 0 = .ok (.iload_n 0, 1) := by decide +kernel
theorem d11_1 : decode jdk_33_method_33_code 1 = .ok (.ireturn, 1) := by decide +kernel
theorem pn_java_lang_Integer : plainName "java/lang/Integer" = true := by first | (simp [plainName, overriddenIn]; done) | decide +kernel
theorem ef11 (m : MethodId) (x1 : Int32) : entryFrame m #[(.int x1)] 1 = mkF m 0 #[.val (.int x1)] [] := by first | (simp [entryFrame, mkF, argsToLocals, Value.category]; done) | rfl
def Q11 (Z : State) (x1 : Int32) (h0 : Heap) (n0 : Nat) (v : Option Value) (h : Heap) (L : List Loc) : Prop := v = some (.int x1) ∧ Fr n0 L ∧ h = h0
set_option maxRecDepth 65536 in
set_option maxHeartbeats 40000000 in
theorem rm11 (l : Launch) (Z : State) (a0 : Array Value) (hw : ∀ d ∈ tables_1, d.before a0 Z = true) (ws : List Jvm.Cond) (x1 : Int32) (h0 : Heap) (n0 : Nat) (Z0 : n0 ≤ h0.size) (O0 : Old Z n0 h0) :
    MetFree l (⟨"java/lang/Integer", "hashCode", "(I)I"⟩ : MethodName) (head1 (Jvm.Cond.code (⟨"java/lang/Integer", "hashCode", "(I)I"⟩ : MethodName) jdk_33_method_33_code 1 (some .int) :: ws) ({ frames := 0, cells := 0, slots := 0, locals := 0 } : Room)) (fun a U => a = #[(.int x1)] ∧ Z.Warmed39 U.vm ∧ U.heap = h0) (fun _ _ _ _ _ => True) (fun _ U o U' => ∃ v L, o = .returned v ∧ Q11 Z x1 h0 n0 v U'.heap L ∧ FrameEnd U o U' L ({ frames := 0, cells := 0, slots := 0, locals := 0 } : Room).cells ({ frames := 0, cells := 0, slots := 0, locals := 0 } : Room).slots) := by
  refine MetFree.of_bodySF (plainFor_of_name pn_java_lang_Integer) hisR ?_
  intro p e s m args below meth c s₁ Bd hml0 hP hK
  obtain ⟨rfl, hZ, hh⟩ := hP
  have hx := Bd.exec
  have hby := Bd.bytes
  have hml : c.maxLocals = 1 := hml0
  have hown : s.vm.findClass "java/lang/Integer" = some m.cls := findClass_of_methodNamed Bd.named
  have hnm := (name_of_methodNamed Bd.named Bd.method).1
  have X0 : Stand p l e ({ frames := 0, cells := 0, slots := 0, locals := 0 } : Room) s m #[(.int x1)] below meth c s₁ [] 0 0 := Stand.of_body Bd
  have e0 : s₁.heap = h0 := by rw [← hh, Bd.state]; rfl
  have N0 := Fr.nil n0
  have K0 : Keep h0 h0 [] := Keep.refl _ _
  have pre0 : ∀ t, Steps p.tables e below (s₁.setTop (mkF m 0 #[.val (.int x1)] [])) t → Steps p.tables e below (s₁.setTop (entryFrame m #[(.int x1)] 1)) t := fun t k => castTop (ef11 m x1) k
  obtain ⟨fs, hr, hrun, hended, hW, hsame⟩ := X0.leave (v := some (.int x1)) (fun h => by rw [Bd.returns] at h; cases h)
  refine ⟨_, _, pre0 _ ?_, hrun, hended, _, _, rfl, ?_, ⟨_, rfl⟩, hW, hsame.mono (by decide) (by decide)⟩
  · show Steps p.tables e below (s₁.setTop (mkF m 0 #[.val (.int x1)] [])) _
    refine XS.iloadN X0.here hx rfl (hb hby d11_0) rfl ?_
    show Steps p.tables e below (s₁.setTop (mkF m 1 #[.val (.int x1)] [(.int x1)])) _
    exact retI X0 hx Bd.returns (hb hby d11_1) hr
  · show Q11 Z x1 h0 n0 _ s₁.heap _
    rw [e0]
    exact ⟨rfl, N0, rfl⟩
theorem d10_0 : decode prog_9_method_8_code 0 = .ok (.aload_n 0, 1) := by decide +kernel
theorem d10_1 : decode prog_9_method_8_code 1 = .ok (.getfield 7, 3) := by decide +kernel
theorem pd_2 : parseMethodDescriptor "(I)I" = some ⟨[.int], some .int⟩ := by decide +kernel
theorem d10_4 : decode prog_9_method_8_code 4 = .ok (.invokestatic 38, 3) := by decide +kernel
theorem d10_7 : decode prog_9_method_8_code 7 = .ok (.ireturn, 1) := by decide +kernel
theorem ef10 (m : MethodId) (tz : Addr) : entryFrame m #[(.ref tz)] 1 = mkF m 0 #[.val (.ref tz)] [] := by first | (simp [entryFrame, mkF, argsToLocals, Value.category]; done) | rfl
def Q10 (Z : State) (tz : Addr) (tz_max : Int32) (h0 : Heap) (n0 : Nat) (v : Option Value) (h : Heap) (L : List Loc) : Prop := v = some (.int tz_max) ∧ Fr n0 L ∧ h = h0
set_option maxRecDepth 65536 in
set_option maxHeartbeats 40000000 in
theorem rm10 (l : Launch) (Z : State) (a0 : Array Value) (hw : ∀ d ∈ tables_1, d.before a0 Z = true) (ws : List Jvm.Cond) (tz : Addr) (tz_max : Int32) (h0 : Heap) (n0 : Nat) (Z0 : n0 ≤ h0.size) (O0 : Old Z n0 h0) (F_tz_max : Fld Z h0 tz "com/example/derive/derive/Limit" "max" "I" (.int tz_max)) :
    MetFree l (⟨"com/example/derive/derive/Limit", "hashCode", "()I"⟩ : MethodName) (head1 (Jvm.Cond.code (⟨"com/example/derive/derive/Limit", "hashCode", "()I"⟩ : MethodName) prog_9_method_8_code 1 (some .int) :: ws) ({ frames := 1, cells := 0, slots := 0, locals := 12 } : Room)) (fun a U => a = #[(.ref tz)] ∧ Z.Warmed39 U.vm ∧ U.heap = h0) (fun _ _ _ _ _ => True) (fun _ U o U' => ∃ v L, o = .returned v ∧ Q10 Z tz tz_max h0 n0 v U'.heap L ∧ FrameEnd U o U' L ({ frames := 1, cells := 0, slots := 0, locals := 12 } : Room).cells ({ frames := 1, cells := 0, slots := 0, locals := 12 } : Room).slots) := by
  refine MetFree.of_bodySF (plainFor_of_name pn_com_example_derive_derive_Limit) hisR ?_
  intro p e s m args below meth c s₁ Bd hml0 hP hK
  obtain ⟨rfl, hZ, hh⟩ := hP
  have hx := Bd.exec
  have hby := Bd.bytes
  have hml : c.maxLocals = 1 := hml0
  have hown : s.vm.findClass "com/example/derive/derive/Limit" = some m.cls := findClass_of_methodNamed Bd.named
  have hnm := (name_of_methodNamed Bd.named Bd.method).1
  have X0 : Stand p l e ({ frames := 1, cells := 0, slots := 0, locals := 12 } : Room) s m #[(.ref tz)] below meth c s₁ [] 0 0 := Stand.of_body Bd
  have e0 : s₁.heap = h0 := by rw [← hh, Bd.state]; rfl
  have N0 := Fr.nil n0
  have K0 : Keep h0 h0 [] := Keep.refl _ _
  have pre0 : ∀ t, Steps p.tables e below (s₁.setTop (mkF m 0 #[.val (.ref tz)] [])) t → Steps p.tables e below (s₁.setTop (entryFrame m #[(.ref tz)] 1)) t := fun t k => castTop (ef10 m tz) k
  obtain ⟨T19, X19, e19, st19⟩ := getF X0 hx hZ hown (host := "") (Or.inl (hw _ (List.mem_of_getElem? (i := 17) rfl))) Via.refl e0 F_tz_max (g := (mkF m 1 #[.val (.ref tz)] [(.ref tz)])) rfl rfl (hb hby d10_1)
  obtain ⟨_, _, ⟨T20, L20, k20, n20⟩, -, X20, ⟨Lc20, hQ20, l20, y20, z20⟩, st20⟩ := Jvm.LawKit.callS X19 hx (y := (⟨"java/lang/Integer", "hashCode", "(I)I"⟩ : MethodName)) hown (mvT hZ (hw _ (List.mem_of_getElem? (i := 51) rfl))) (mvT hZ (hw _ (List.mem_of_getElem? (i := 52) rfl))) (mvT hZ (hw _ (List.mem_of_getElem? (i := 53) rfl))) (mvT hZ (hw _ (List.mem_of_getElem? (i := 54) rfl))) (by decide) (backOf (W := 0) (rm11 l Z a0 hw [] tz_max h0 n0 Z0 O0) hZ (hw _ (List.mem_of_getElem? (i := 54) rfl)) (hw _ (List.mem_of_getElem? (i := 53) rfl)) (by decide) (by decide)) (g := (mkF m 4 #[.val (.ref tz)] [(.int tz_max)])) rfl (by rw [hml]; rfl) (argsL := [(.int tz_max)]) (rest := []) (lenOf pd_2 rfl) rfl (by show 2 * 0 + _ ≤ _; exact Nat.le_of_eq rfl) (hb hby d10_4) (fun _ _ => ⟨rfl, e19, (by decide : 0 + 0 ≤ _), (by decide : 0 + 0 ≤ _)⟩)
  dsimp only [Pt.U, Pt.locs, Pt.cells, Pt.slots] at X20 l20 y20 z20 st20 hQ20
  subst l20 y20 z20
  obtain ⟨rfl, N20q, eh20⟩ := hQ20
  have N20 := Fr.app N0 N20q
  obtain ⟨fs, hr, hrun, hended, hW, hsame⟩ := X20.leave (v := some (.int tz_max)) (fun h => by rw [Bd.returns] at h; cases h)
  refine ⟨_, _, pre0 _ ?_, hrun, hended, _, _, rfl, ?_, ⟨_, rfl⟩, hW, hsame.mono (by decide) (by decide)⟩
  · show Steps p.tables e below (s₁.setTop (mkF m 0 #[.val (.ref tz)] [])) _
    refine XS.aloadN X0.here hx rfl (hb hby d10_0) rfl rfl ?_
    show Steps p.tables e below (s₁.setTop (mkF m 1 #[.val (.ref tz)] [(.ref tz)])) _
    refine st19 _ ?_
    show Steps p.tables e below (T19.setTop (mkF m 4 #[.val (.ref tz)] [(.int tz_max)])) _
    refine st20 _ ?_
    show Steps p.tables e below (T20.setTop (mkF m 7 #[.val (.ref tz)] [(.int tz_max)])) _
    exact retI X20 hx Bd.returns (hb hby d10_7) hr
  · show Q10 Z tz tz_max h0 n0 _ T20.heap _
    rw [eh20]
    exact ⟨rfl, N20, rfl⟩
theorem pd_3 : parseMethodDescriptor "(II)I" = some ⟨[.int, .int], some .int⟩ := by decide +kernel
theorem pd_4 : parseMethodDescriptor "(I)Lcom/example/derive/derive/Limit;" = some ⟨[.int], some (.object "com/example/derive/derive/Limit")⟩ := by decide +kernel
theorem pd_5 : parseMethodDescriptor "()I" = some ⟨[], some .int⟩ := by decide +kernel
theorem pd_6 : parseMethodDescriptor "(Ljava/lang/Object;)Z" = some ⟨[(.object "java/lang/Object")], some .boolean⟩ := by decide +kernel
theorem pd_7 : parseMethodDescriptor "()Lcom/example/derive/derive/Limit;" = some ⟨[], some (.object "com/example/derive/derive/Limit")⟩ := by decide +kernel
theorem pn_com_example_derive_derive_LimitOfPinLaw : plainName "com/example/derive/derive/LimitOfPinLaw" = true := by first | (simp [plainName, overriddenIn]; done) | decide +kernel
theorem ef0 (m : MethodId) (x1 : Int32) (x2 : Int32) (x3 : Int32) : entryFrame m #[(.int x1), (.int x2), (.int x3)] maxLocals = mkF m 0 #[.val (.int x1), .val (.int x2), .val (.int x3), .unset, .unset, .unset, .unset, .unset] [] := by first | (simp [entryFrame, mkF, argsToLocals, Value.category, maxLocals]; done) | rfl
def Q0 (Z : State) (x1 : Int32) (x2 : Int32) (x3 : Int32) (st_UNLIMITED : Addr) (h0 : Heap) (n0 : Nat) (v : Option Value) (h : Heap) (L : List Loc) : Prop := v = some (.int (1 : Int32)) ∧ Fr n0 L ∧ Keep h0 h []
set_option maxRecDepth 65536 in
set_option maxHeartbeats 40000000 in
theorem rm0 (l : Launch) (Z : State) (a0 : Array Value) (hw : ∀ d ∈ tables_1, d.before a0 Z = true) (ws : List Jvm.Cond) (x1 : Int32) (x2 : Int32) (x3 : Int32) (st_UNLIMITED : Addr) (h0 : Heap) (n0 : Nat) (Z0 : n0 ≤ h0.size) (O0 : Old Z n0 h0) (S_UNLIMITED : Sta Z Z.heap "com/example/derive/derive/Limit" "UNLIMITED" "Lcom/example/derive/derive/Limit;" (.ref st_UNLIMITED)) (EZ_st_UNLIMITED : Exa Z Z.heap st_UNLIMITED "com/example/derive/derive/Limit") (FZ_st_UNLIMITED_max : Fld Z Z.heap st_UNLIMITED "com/example/derive/derive/Limit" "max" "I" (.int (0 : Int32))) :
    MetFree l x (head1 (Jvm.Cond.code x code maxLocals ret :: ws) room_1) (fun a U => a = #[(.int x1), (.int x2), (.int x3)] ∧ Z.Warmed39 U.vm ∧ U.heap = h0) (fun _ _ _ _ _ => True) (fun _ U o U' => ∃ v L, o = .returned v ∧ Q0 Z x1 x2 x3 st_UNLIMITED h0 n0 v U'.heap L ∧ FrameEnd U o U' L room_1.cells room_1.slots) := by
  refine MetFree.of_bodySF (plainFor_of_name pn_com_example_derive_derive_LimitOfPinLaw) hisR ?_
  intro p e s m args below meth c s₁ Bd hml0 hP hK
  obtain ⟨rfl, hZ, hh⟩ := hP
  have hx := Bd.exec
  have hby := Bd.bytes
  have hml : c.maxLocals = 8 := hml0
  have hown : s.vm.findClass "com/example/derive/derive/LimitOfPinLaw" = some m.cls := findClass_of_methodNamed Bd.named
  have hnm := (name_of_methodNamed Bd.named Bd.method).1
  have X0 : Stand p l e room_1 s m #[(.int x1), (.int x2), (.int x3)] below meth c s₁ [] 0 0 := Stand.of_body Bd
  have e0 : s₁.heap = h0 := by rw [← hh, Bd.state]; rfl
  have N0 := Fr.nil n0
  have K0 : Keep h0 h0 [] := Keep.refl _ _
  have pre0 : ∀ t, Steps p.tables e below (s₁.setTop (mkF m 0 #[.val (.int x1), .val (.int x2), .val (.int x3), .unset, .unset, .unset, .unset, .unset] [])) t → Steps p.tables e below (s₁.setTop (entryFrame m #[(.int x1), (.int x2), (.int x3)] maxLocals)) t := fun t k => castTop (ef0 m x1 x2 x3) k
  have C21 : Exa Z h0 st_UNLIMITED "com/example/derive/derive/Limit" := EZ_st_UNLIMITED.ext O0.2
  have F22 : Fld Z h0 st_UNLIMITED "com/example/derive/derive/Limit" "max" "I" (.int (0 : Int32)) := FZ_st_UNLIMITED_max.ext O0.2
  obtain ⟨_, _, ⟨T23, L23, k23, n23⟩, -, X23, ⟨Lc23, hQ23, l23, y23, z23⟩, st23⟩ := Jvm.LawKit.callS X0 hx (y := (⟨"java/lang/Math", "max", "(II)I"⟩ : MethodName)) hown (mvT hZ (hw _ (List.mem_of_getElem? (i := 1) rfl))) (mvT hZ (hw _ (List.mem_of_getElem? (i := 2) rfl))) (mvT hZ (hw _ (List.mem_of_getElem? (i := 3) rfl))) (mvT hZ (hw _ (List.mem_of_getElem? (i := 4) rfl))) (by decide) (backOf (W := 0) (rm1 l Z a0 hw [] (1 : Int32) (x1 &&& (2147483647 : Int32)) h0 n0 Z0 O0) hZ (hw _ (List.mem_of_getElem? (i := 4) rfl)) (hw _ (List.mem_of_getElem? (i := 3) rfl)) (by decide) (by decide)) (g := (mkF m 5 #[.val (.int x1), .val (.int x2), .val (.int x3), .unset, .unset, .unset, .unset, .unset] [(.int (x1 &&& (2147483647 : Int32))), (.int (1 : Int32))])) rfl (by rw [hml]; rfl) (argsL := [(.int (1 : Int32)), (.int (x1 &&& (2147483647 : Int32)))]) (rest := []) (lenOf pd_3 rfl) rfl (by show 2 * 0 + _ ≤ _; exact Nat.le_of_eq rfl) (hb hby at_5) (fun _ _ => ⟨rfl, e0, (by decide : 0 + 0 ≤ _), (by decide : 0 + 0 ≤ _)⟩)
  dsimp only [Pt.U, Pt.locs, Pt.cells, Pt.slots] at X23 l23 y23 z23 st23 hQ23
  subst l23 y23 z23
  obtain ⟨rfl, N23q, eh23⟩ := hQ23
  have N23 := Fr.app N0 N23q
  obtain ⟨_, _, ⟨T24, L24, k24, n24⟩, -, X24, ⟨Lc24, hQ24, l24, y24, z24⟩, st24⟩ := Jvm.LawKit.callS X23 hx (y := (⟨"java/lang/Math", "max", "(II)I"⟩ : MethodName)) hown (mvT hZ (hw _ (List.mem_of_getElem? (i := 1) rfl))) (mvT hZ (hw _ (List.mem_of_getElem? (i := 2) rfl))) (mvT hZ (hw _ (List.mem_of_getElem? (i := 3) rfl))) (mvT hZ (hw _ (List.mem_of_getElem? (i := 4) rfl))) (by decide) (backOf (W := 0) (rm1 l Z a0 hw [] (1 : Int32) (x2 &&& (2147483647 : Int32)) h0 n0 Z0 O0) hZ (hw _ (List.mem_of_getElem? (i := 4) rfl)) (hw _ (List.mem_of_getElem? (i := 3) rfl)) (by decide) (by decide)) (g := (mkF m 14 #[.val (.int x1), .val (.int x2), .val (.int x3), .val (.int (own_max (1 : Int32) (x1 &&& (2147483647 : Int32)))), .unset, .unset, .unset, .unset] [(.int (x2 &&& (2147483647 : Int32))), (.int (1 : Int32))])) rfl (by rw [hml]; rfl) (argsL := [(.int (1 : Int32)), (.int (x2 &&& (2147483647 : Int32)))]) (rest := []) (lenOf pd_3 rfl) rfl (by show 2 * 0 + _ ≤ _; exact Nat.le_of_eq rfl) (hb hby at_14) (fun _ _ => ⟨rfl, eh23, (by decide : 0 + 0 ≤ _), (by decide : 0 + 0 ≤ _)⟩)
  dsimp only [Pt.U, Pt.locs, Pt.cells, Pt.slots] at X24 l24 y24 z24 st24 hQ24
  subst l24 y24 z24
  obtain ⟨rfl, N24q, eh24⟩ := hQ24
  have N24 := Fr.app N23 N24q
  have pre25 : ∀ t, Steps p.tables e below (T24.setTop (mkF m 19 #[.val (.int x1), .val (.int x2), .val (.int x3), .val (.int (own_max (1 : Int32) (x1 &&& (2147483647 : Int32)))), .val (.int (own_max (1 : Int32) (x2 &&& (2147483647 : Int32)))), .unset, .unset, .unset] [])) t → Steps p.tables e below (s₁.setTop (entryFrame m #[(.int x1), (.int x2), (.int x3)] maxLocals)) t := by
    intro t kt
    refine pre0 t ?_
    show Steps p.tables e below (s₁.setTop (mkF m 0 #[.val (.int x1), .val (.int x2), .val (.int x3), .unset, .unset, .unset, .unset, .unset] [])) _
    refine XS.iconst X0.here hx rfl (hb hby at_0) ?_
    show Steps p.tables e below (s₁.setTop (mkF m 1 #[.val (.int x1), .val (.int x2), .val (.int x3), .unset, .unset, .unset, .unset, .unset] [(.int (1 : Int32))])) _
    refine XS.iloadN X0.here hx rfl (hb hby at_1) rfl ?_
    show Steps p.tables e below (s₁.setTop (mkF m 2 #[.val (.int x1), .val (.int x2), .val (.int x3), .unset, .unset, .unset, .unset, .unset] [(.int x1), (.int (1 : Int32))])) _
    refine X0.ldcInt hx hown (mvT hZ (hw _ (List.mem_of_getElem? (i := 0) rfl))) (g := (mkF m 2 #[.val (.int x1), .val (.int x2), .val (.int x3), .unset, .unset, .unset, .unset, .unset] [(.int x1), (.int (1 : Int32))])) rfl (hb hby at_2) _ ?_
    show Steps p.tables e below (s₁.setTop (mkF m 4 #[.val (.int x1), .val (.int x2), .val (.int x3), .unset, .unset, .unset, .unset, .unset] [(.int (2147483647 : Int32)), (.int x1), (.int (1 : Int32))])) _
    refine XS.iand X0.here hx rfl (hb hby at_4) rfl ?_
    show Steps p.tables e below (s₁.setTop (mkF m 5 #[.val (.int x1), .val (.int x2), .val (.int x3), .unset, .unset, .unset, .unset, .unset] [(.int (x1 &&& (2147483647 : Int32))), (.int (1 : Int32))])) _
    refine st23 _ ?_
    show Steps p.tables e below (T23.setTop (mkF m 8 #[.val (.int x1), .val (.int x2), .val (.int x3), .unset, .unset, .unset, .unset, .unset] [(.int (own_max (1 : Int32) (x1 &&& (2147483647 : Int32))))])) _
    refine XS.istoreN X23.here hx rfl (hb hby at_8) rfl (l' := #[.val (.int x1), .val (.int x2), .val (.int x3), .val (.int (own_max (1 : Int32) (x1 &&& (2147483647 : Int32)))), .unset, .unset, .unset, .unset]) rfl ?_
    show Steps p.tables e below (T23.setTop (mkF m 9 #[.val (.int x1), .val (.int x2), .val (.int x3), .val (.int (own_max (1 : Int32) (x1 &&& (2147483647 : Int32)))), .unset, .unset, .unset, .unset] [])) _
    refine XS.iconst X23.here hx rfl (hb hby at_9) ?_
    show Steps p.tables e below (T23.setTop (mkF m 10 #[.val (.int x1), .val (.int x2), .val (.int x3), .val (.int (own_max (1 : Int32) (x1 &&& (2147483647 : Int32)))), .unset, .unset, .unset, .unset] [(.int (1 : Int32))])) _
    refine XS.iloadN X23.here hx rfl (hb hby at_10) rfl ?_
    show Steps p.tables e below (T23.setTop (mkF m 11 #[.val (.int x1), .val (.int x2), .val (.int x3), .val (.int (own_max (1 : Int32) (x1 &&& (2147483647 : Int32)))), .unset, .unset, .unset, .unset] [(.int x2), (.int (1 : Int32))])) _
    refine X23.ldcInt hx hown (mvT hZ (hw _ (List.mem_of_getElem? (i := 0) rfl))) (g := (mkF m 11 #[.val (.int x1), .val (.int x2), .val (.int x3), .val (.int (own_max (1 : Int32) (x1 &&& (2147483647 : Int32)))), .unset, .unset, .unset, .unset] [(.int x2), (.int (1 : Int32))])) rfl (hb hby at_11) _ ?_
    show Steps p.tables e below (T23.setTop (mkF m 13 #[.val (.int x1), .val (.int x2), .val (.int x3), .val (.int (own_max (1 : Int32) (x1 &&& (2147483647 : Int32)))), .unset, .unset, .unset, .unset] [(.int (2147483647 : Int32)), (.int x2), (.int (1 : Int32))])) _
    refine XS.iand X23.here hx rfl (hb hby at_13) rfl ?_
    show Steps p.tables e below (T23.setTop (mkF m 14 #[.val (.int x1), .val (.int x2), .val (.int x3), .val (.int (own_max (1 : Int32) (x1 &&& (2147483647 : Int32)))), .unset, .unset, .unset, .unset] [(.int (x2 &&& (2147483647 : Int32))), (.int (1 : Int32))])) _
    refine st24 _ ?_
    show Steps p.tables e below (T24.setTop (mkF m 17 #[.val (.int x1), .val (.int x2), .val (.int x3), .val (.int (own_max (1 : Int32) (x1 &&& (2147483647 : Int32)))), .unset, .unset, .unset, .unset] [(.int (own_max (1 : Int32) (x2 &&& (2147483647 : Int32))))])) _
    refine XS.istore X24.here hx rfl (hb hby at_17) rfl (l' := #[.val (.int x1), .val (.int x2), .val (.int x3), .val (.int (own_max (1 : Int32) (x1 &&& (2147483647 : Int32)))), .val (.int (own_max (1 : Int32) (x2 &&& (2147483647 : Int32)))), .unset, .unset, .unset]) rfl ?_
    exact kt
  obtain ⟨mm_26, T26, L26, X26, e26, N26, J26_0, k26⟩ : ∃ (mm_26 : Int32) (T26 : State) (L26 : List Loc), Stand p l e room_1 s m #[(.int x1), (.int x2), (.int x3)] below meth c T26 L26 0 0 ∧ T26.heap = h0 ∧ Fr n0 L26 ∧ (¬ (mm_26 < (1 : Int32))) ∧ ∀ t, Steps p.tables e below (T26.setTop (mkF m 28 #[.val (.int x1), .val (.int x2), .val (.int x3), .val (.int (own_max (1 : Int32) (x1 &&& (2147483647 : Int32)))), .val (.int mm_26), .unset, .unset, .unset] [])) t → Steps p.tables e below (T24.setTop (mkF m 19 #[.val (.int x1), .val (.int x2), .val (.int x3), .val (.int (own_max (1 : Int32) (x1 &&& (2147483647 : Int32)))), .val (.int (own_max (1 : Int32) (x2 &&& (2147483647 : Int32)))), .unset, .unset, .unset] [])) t := by
    have pj26 : ∀ t, Steps p.tables e below (T24.setTop (mkF m 19 #[.val (.int x1), .val (.int x2), .val (.int x3), .val (.int (own_max (1 : Int32) (x1 &&& (2147483647 : Int32)))), .val (.int (own_max (1 : Int32) (x2 &&& (2147483647 : Int32)))), .unset, .unset, .unset] [])) t → Steps p.tables e below (T24.setTop (mkF m 19 #[.val (.int x1), .val (.int x2), .val (.int x3), .val (.int (own_max (1 : Int32) (x1 &&& (2147483647 : Int32)))), .val (.int (own_max (1 : Int32) (x2 &&& (2147483647 : Int32)))), .unset, .unset, .unset] [])) t := fun _ k => k
    have pre27 : ∀ t, Steps p.tables e below (T24.setTop (mkF m 22 #[.val (.int x1), .val (.int x2), .val (.int x3), .val (.int (own_max (1 : Int32) (x1 &&& (2147483647 : Int32)))), .val (.int (own_max (1 : Int32) (x2 &&& (2147483647 : Int32)))), .unset, .unset, .unset] [(.int (x3 &&& (1 : Int32)))])) t → Steps p.tables e below (T24.setTop (mkF m 19 #[.val (.int x1), .val (.int x2), .val (.int x3), .val (.int (own_max (1 : Int32) (x1 &&& (2147483647 : Int32)))), .val (.int (own_max (1 : Int32) (x2 &&& (2147483647 : Int32)))), .unset, .unset, .unset] [])) t := by
      intro t kt
      refine pj26 t ?_
      show Steps p.tables e below (T24.setTop (mkF m 19 #[.val (.int x1), .val (.int x2), .val (.int x3), .val (.int (own_max (1 : Int32) (x1 &&& (2147483647 : Int32)))), .val (.int (own_max (1 : Int32) (x2 &&& (2147483647 : Int32)))), .unset, .unset, .unset] [])) _
      refine XS.iloadN X24.here hx rfl (hb hby at_19) rfl ?_
      show Steps p.tables e below (T24.setTop (mkF m 20 #[.val (.int x1), .val (.int x2), .val (.int x3), .val (.int (own_max (1 : Int32) (x1 &&& (2147483647 : Int32)))), .val (.int (own_max (1 : Int32) (x2 &&& (2147483647 : Int32)))), .unset, .unset, .unset] [(.int x3)])) _
      refine XS.iconst X24.here hx rfl (hb hby at_20) ?_
      show Steps p.tables e below (T24.setTop (mkF m 21 #[.val (.int x1), .val (.int x2), .val (.int x3), .val (.int (own_max (1 : Int32) (x1 &&& (2147483647 : Int32)))), .val (.int (own_max (1 : Int32) (x2 &&& (2147483647 : Int32)))), .unset, .unset, .unset] [(.int (1 : Int32)), (.int x3)])) _
      refine XS.iand X24.here hx rfl (hb hby at_21) rfl ?_
      exact kt
    by_cases hc22 : (x3 &&& (1 : Int32)) = (0 : Int32)
    · skip
      have pre28 : ∀ t, Steps p.tables e below (T24.setTop (mkF m 28 #[.val (.int x1), .val (.int x2), .val (.int x3), .val (.int (own_max (1 : Int32) (x1 &&& (2147483647 : Int32)))), .val (.int (own_max (1 : Int32) (x2 &&& (2147483647 : Int32)))), .unset, .unset, .unset] [])) t → Steps p.tables e below (T24.setTop (mkF m 19 #[.val (.int x1), .val (.int x2), .val (.int x3), .val (.int (own_max (1 : Int32) (x1 &&& (2147483647 : Int32)))), .val (.int (own_max (1 : Int32) (x2 &&& (2147483647 : Int32)))), .unset, .unset, .unset] [])) t := by
        intro t kt
        refine pre27 t ?_
        show Steps p.tables e below (T24.setTop (mkF m 22 #[.val (.int x1), .val (.int x2), .val (.int x3), .val (.int (own_max (1 : Int32) (x1 &&& (2147483647 : Int32)))), .val (.int (own_max (1 : Int32) (x2 &&& (2147483647 : Int32)))), .unset, .unset, .unset] [(.int (x3 &&& (1 : Int32)))])) _
        refine XS.ifYes X24.here hx rfl (pc0 := 22) (pc' := 28) rfl (hb hby at_22) rfl ((if0 _ _).trans (teq hc22).1) (by decide) (by decide) ?_
        exact kt
      exact ⟨(own_max (1 : Int32) (x2 &&& (2147483647 : Int32))), T24, _, X24, eh24, N24, (own_max_ge _), pre28⟩
    · skip
      have pre29 : ∀ t, Steps p.tables e below (T24.setTop (mkF m 28 #[.val (.int x1), .val (.int x2), .val (.int x3), .val (.int (own_max (1 : Int32) (x1 &&& (2147483647 : Int32)))), .val (.int (own_max (1 : Int32) (x1 &&& (2147483647 : Int32)))), .unset, .unset, .unset] [])) t → Steps p.tables e below (T24.setTop (mkF m 19 #[.val (.int x1), .val (.int x2), .val (.int x3), .val (.int (own_max (1 : Int32) (x1 &&& (2147483647 : Int32)))), .val (.int (own_max (1 : Int32) (x2 &&& (2147483647 : Int32)))), .unset, .unset, .unset] [])) t := by
        intro t kt
        refine pre27 t ?_
        show Steps p.tables e below (T24.setTop (mkF m 22 #[.val (.int x1), .val (.int x2), .val (.int x3), .val (.int (own_max (1 : Int32) (x1 &&& (2147483647 : Int32)))), .val (.int (own_max (1 : Int32) (x2 &&& (2147483647 : Int32)))), .unset, .unset, .unset] [(.int (x3 &&& (1 : Int32)))])) _
        refine XS.ifNo X24.here hx rfl (hb hby at_22) rfl ((if0 _ _).trans (feq hc22).1) ?_
        show Steps p.tables e below (T24.setTop (mkF m 25 #[.val (.int x1), .val (.int x2), .val (.int x3), .val (.int (own_max (1 : Int32) (x1 &&& (2147483647 : Int32)))), .val (.int (own_max (1 : Int32) (x2 &&& (2147483647 : Int32)))), .unset, .unset, .unset] [])) _
        refine XS.iloadN X24.here hx rfl (hb hby at_25) rfl ?_
        show Steps p.tables e below (T24.setTop (mkF m 26 #[.val (.int x1), .val (.int x2), .val (.int x3), .val (.int (own_max (1 : Int32) (x1 &&& (2147483647 : Int32)))), .val (.int (own_max (1 : Int32) (x2 &&& (2147483647 : Int32)))), .unset, .unset, .unset] [(.int (own_max (1 : Int32) (x1 &&& (2147483647 : Int32))))])) _
        refine XS.istore X24.here hx rfl (hb hby at_26) rfl (l' := #[.val (.int x1), .val (.int x2), .val (.int x3), .val (.int (own_max (1 : Int32) (x1 &&& (2147483647 : Int32)))), .val (.int (own_max (1 : Int32) (x1 &&& (2147483647 : Int32)))), .unset, .unset, .unset]) rfl ?_
        exact kt
      exact ⟨(own_max (1 : Int32) (x1 &&& (2147483647 : Int32))), T24, _, X24, eh24, N24, (own_max_ge _), pre29⟩
  have hm1 : ¬ ((own_max (1 : Int32) (x1 &&& (2147483647 : Int32))) < (1 : Int32)) := own_max_ge _
  have hm2 : (0 : Int32) < (own_max (1 : Int32) (x1 &&& (2147483647 : Int32))) := own_pos hm1
  have hm3 : ¬ ((own_max (1 : Int32) (x1 &&& (2147483647 : Int32))) = (0 : Int32)) := own_ne0 hm1
  have pp30 : ¬ ((own_max (1 : Int32) (x1 &&& (2147483647 : Int32))) < (1 : Int32)) := hm1
  obtain ⟨_, _, ⟨T31, L31, k31, n31⟩, -, X31, ⟨Lc31, hQ31, l31, y31, z31⟩, st31⟩ := Jvm.LawKit.callS X26 hx (y := (⟨"com/example/derive/derive/Limit", "of", "(I)Lcom/example/derive/derive/Limit;"⟩ : MethodName)) hown (mvT hZ (hw _ (List.mem_of_getElem? (i := 5) rfl))) (mvT hZ (hw _ (List.mem_of_getElem? (i := 6) rfl))) (mvT hZ (hw _ (List.mem_of_getElem? (i := 7) rfl))) (mvT hZ (hw _ (List.mem_of_getElem? (i := 8) rfl))) (by decide) (backOf (W := 0) (rm2 l Z a0 hw [] (own_max (1 : Int32) (x1 &&& (2147483647 : Int32))) h0 n0 Z0 O0 pp30) hZ (hw _ (List.mem_of_getElem? (i := 8) rfl)) (hw _ (List.mem_of_getElem? (i := 7) rfl)) (by decide) (by decide)) (g := (mkF m 29 #[.val (.int x1), .val (.int x2), .val (.int x3), .val (.int (own_max (1 : Int32) (x1 &&& (2147483647 : Int32)))), .val (.int mm_26), .unset, .unset, .unset] [(.int (own_max (1 : Int32) (x1 &&& (2147483647 : Int32))))])) rfl (by rw [hml]; rfl) (argsL := [(.int (own_max (1 : Int32) (x1 &&& (2147483647 : Int32))))]) (rest := []) (lenOf pd_4 rfl) rfl (by show 2 * 0 + _ ≤ _; exact Nat.le_of_eq rfl) (hb hby at_29) (fun _ _ => ⟨rfl, e26, (by decide : 0 + 1 ≤ _), (by decide : 0 + 1 ≤ _)⟩)
  dsimp only [Pt.U, Pt.locs, Pt.cells, Pt.slots] at X31 l31 y31 z31 st31 hQ31
  subst l31 y31 z31
  obtain ⟨b_31, rfl, N31q, KK31, Q31_0, Q31_1, Q31_2⟩ := hQ31
  have N31 := Fr.app N26 N31q
  have O31 : Old Z n0 T31.heap := O0.keep KK31 all0
  have Z31 : n0 ≤ T31.heap.size := Nat.le_trans Z0 KK31.1
  have K31 : Keep h0 T31.heap [] := K0.trans KK31 all0
  have g_b_31 : n0 ≤ b_31 := Nat.le_trans Z0 Q31_0
  have sz_b_31 : h0.size ≤ b_31 := Nat.le_trans K0.1 Q31_0
  have pp32 : ¬ (mm_26 < (1 : Int32)) := J26_0
  obtain ⟨_, _, ⟨T33, L33, k33, n33⟩, -, X33, ⟨Lc33, hQ33, l33, y33, z33⟩, st33⟩ := Jvm.LawKit.callS X31 hx (y := (⟨"com/example/derive/derive/Limit", "of", "(I)Lcom/example/derive/derive/Limit;"⟩ : MethodName)) hown (mvT hZ (hw _ (List.mem_of_getElem? (i := 5) rfl))) (mvT hZ (hw _ (List.mem_of_getElem? (i := 6) rfl))) (mvT hZ (hw _ (List.mem_of_getElem? (i := 7) rfl))) (mvT hZ (hw _ (List.mem_of_getElem? (i := 8) rfl))) (by decide) (backOf (W := 0) (rm2 l Z a0 hw [] mm_26 T31.heap n0 Z31 O31 pp32) hZ (hw _ (List.mem_of_getElem? (i := 8) rfl)) (hw _ (List.mem_of_getElem? (i := 7) rfl)) (by decide) (by decide)) (g := (mkF m 36 #[.val (.int x1), .val (.int x2), .val (.int x3), .val (.int (own_max (1 : Int32) (x1 &&& (2147483647 : Int32)))), .val (.int mm_26), .val (.ref b_31), .unset, .unset] [(.int mm_26)])) rfl (by rw [hml]; rfl) (argsL := [(.int mm_26)]) (rest := []) (lenOf pd_4 rfl) rfl (by show 2 * 0 + _ ≤ _; exact Nat.le_of_eq rfl) (hb hby at_36) (fun _ _ => ⟨rfl, rfl, (by decide : 1 + 1 ≤ _), (by decide : 1 + 1 ≤ _)⟩)
  dsimp only [Pt.U, Pt.locs, Pt.cells, Pt.slots] at X33 l33 y33 z33 st33 hQ33
  subst l33 y33 z33
  obtain ⟨b_33, rfl, N33q, KK33, Q33_0, Q33_1, Q33_2⟩ := hQ33
  have N33 := Fr.app N31 N33q
  have O33 : Old Z n0 T33.heap := O31.keep KK33 all0
  have Z33 : n0 ≤ T33.heap.size := Nat.le_trans Z31 KK33.1
  have K33 : Keep h0 T33.heap [] := K31.trans KK33 all0
  have g_b_33 : n0 ≤ b_33 := Nat.le_trans (Nat.le_trans Z0 KK31.1) Q33_0
  have sz_b_33 : h0.size ≤ b_33 := Nat.le_trans K31.1 Q33_0
  have F34 : Fld Z T33.heap b_31 "com/example/derive/derive/Limit" "max" "I" (.int (own_max (1 : Int32) (x1 &&& (2147483647 : Int32)))) := (Q31_2.keep KK33 nin0)
  have pp35 : ¬ ((own_max (1 : Int32) (x1 &&& (2147483647 : Int32))) = (0 : Int32)) := hm3
  have C36 : Exa Z T33.heap b_31 "com/example/derive/derive/Limit" := (Q31_1.keep KK33)
  obtain ⟨cq37, kq37, q37a, q37b, q37c⟩ := isOf hZ rfl C36
  obtain ⟨_, _, ⟨T37, L37, k37, n37⟩, -, X37, ⟨Lc37, hQ37, l37, y37, z37⟩, st37⟩ := X33.virtualBack hx (y := (⟨"com/example/derive/derive/Limit", "max", "()I"⟩ : MethodName)) (z := (⟨"com/example/derive/derive/Limit", "max", "()I"⟩ : MethodName)) hown (mvT hZ (hw _ (List.mem_of_getElem? (i := 19) rfl))) (mvT hZ (hw _ (List.mem_of_getElem? (i := 20) rfl))) (notFace_of_selects (args := #[]) (mvT hZ (hw _ (List.mem_of_getElem? (i := 22) rfl)))) (mvT hZ (hw _ (List.mem_of_getElem? (i := 22) rfl))) (mvT hZ (hw _ (List.mem_of_getElem? (i := 21) rfl))) (by decide) (backOf (W := 0) (rm5 l Z a0 hw [] b_31 (own_max (1 : Int32) (x1 &&& (2147483647 : Int32))) T33.heap n0 Z33 O33 pp35 F34 C36) hZ (hw _ (List.mem_of_getElem? (i := 23) rfl)) (hw _ (List.mem_of_getElem? (i := 7) rfl)) (by decide) (by decide)) q37a q37c (g := (mkF m 43 #[.val (.int x1), .val (.int x2), .val (.int x3), .val (.int (own_max (1 : Int32) (x1 &&& (2147483647 : Int32)))), .val (.int mm_26), .val (.ref b_31), .val (.ref b_33), .unset] [(.ref b_31)])) rfl (by rw [hml]; rfl) (Steps.refl _) (argsL := []) (rest := []) (lenOf pd_5 rfl) rfl (by show 2 * 0 + _ ≤ _; exact Nat.le_of_eq rfl) (hb hby at_43) (fun _ _ => ⟨rfl, rfl, (by decide : 2 + 0 ≤ _), (by decide : 2 + 0 ≤ _)⟩)
  dsimp only [Pt.U, Pt.locs, Pt.cells, Pt.slots] at X37 l37 y37 z37 st37 hQ37
  subst l37 y37 z37
  obtain ⟨rfl, N37q, eh37⟩ := hQ37
  have N37 := Fr.app N33 N37q
  obtain ⟨cq38, kq38, q38a, q38b, q38c⟩ := isOf hZ eh37 C36
  obtain ⟨_, _, ⟨T38, L38, k38, n38⟩, -, X38, ⟨Lc38, hQ38, l38, y38, z38⟩, st38⟩ := X37.virtualBack hx (y := (⟨"com/example/derive/derive/Limit", "isLimited", "()Z"⟩ : MethodName)) (z := (⟨"com/example/derive/derive/Limit", "isLimited", "()Z"⟩ : MethodName)) hown (mvT hZ (hw _ (List.mem_of_getElem? (i := 29) rfl))) (mvT hZ (hw _ (List.mem_of_getElem? (i := 30) rfl))) (notFace_of_selects (args := #[]) (mvT hZ (hw _ (List.mem_of_getElem? (i := 32) rfl)))) (mvT hZ (hw _ (List.mem_of_getElem? (i := 32) rfl))) (mvT hZ (hw _ (List.mem_of_getElem? (i := 31) rfl))) (by decide) (backOf (W := 0) (rm7 l Z a0 hw [] b_31 (own_max (1 : Int32) (x1 &&& (2147483647 : Int32))) T33.heap n0 Z33 O33 F34) hZ (hw _ (List.mem_of_getElem? (i := 33) rfl)) (hw _ (List.mem_of_getElem? (i := 7) rfl)) (by decide) (by decide)) q38a q38c (g := (mkF m 54 #[.val (.int x1), .val (.int x2), .val (.int x3), .val (.int (own_max (1 : Int32) (x1 &&& (2147483647 : Int32)))), .val (.int mm_26), .val (.ref b_31), .val (.ref b_33), .unset] [(.ref b_31)])) rfl (by rw [hml]; rfl) (Steps.refl _) (argsL := []) (rest := []) (lenOf pd_1 rfl) rfl (by show 2 * 0 + _ ≤ _; exact Nat.le_of_eq rfl) (hb hby at_54) (fun _ _ => ⟨rfl, eh37, (by decide : 2 + 0 ≤ _), (by decide : 2 + 0 ≤ _)⟩)
  dsimp only [Pt.U, Pt.locs, Pt.cells, Pt.slots] at X38 l38 y38 z38 st38 hQ38
  subst l38 y38 z38
  obtain ⟨rfl, N38q, eh38⟩ := hQ38
  have N38 := Fr.app N37 N38q
  obtain ⟨cq39, kq39, q39a, q39b, q39c⟩ := isOf hZ eh38 C36
  obtain ⟨_, _, ⟨T39, L39, k39, n39⟩, -, X39, ⟨Lc39, hQ39, l39, y39, z39⟩, st39⟩ := X38.virtualBack hx (y := (⟨"com/example/derive/derive/Limit", "isUnlimited", "()Z"⟩ : MethodName)) (z := (⟨"com/example/derive/derive/Limit", "isUnlimited", "()Z"⟩ : MethodName)) hown (mvT hZ (hw _ (List.mem_of_getElem? (i := 34) rfl))) (mvT hZ (hw _ (List.mem_of_getElem? (i := 25) rfl))) (notFace_of_selects (args := #[]) (mvT hZ (hw _ (List.mem_of_getElem? (i := 27) rfl)))) (mvT hZ (hw _ (List.mem_of_getElem? (i := 27) rfl))) (mvT hZ (hw _ (List.mem_of_getElem? (i := 26) rfl))) (by decide) (backOf (W := 0) (rm6 l Z a0 hw [] b_31 (own_max (1 : Int32) (x1 &&& (2147483647 : Int32))) T33.heap n0 Z33 O33 F34) hZ (hw _ (List.mem_of_getElem? (i := 28) rfl)) (hw _ (List.mem_of_getElem? (i := 7) rfl)) (by decide) (by decide)) q39a q39c (g := (mkF m 64 #[.val (.int x1), .val (.int x2), .val (.int x3), .val (.int (own_max (1 : Int32) (x1 &&& (2147483647 : Int32)))), .val (.int mm_26), .val (.ref b_31), .val (.ref b_33), .unset] [(.ref b_31)])) rfl (by rw [hml]; rfl) (Steps.refl _) (argsL := []) (rest := []) (lenOf pd_1 rfl) rfl (by show 2 * 0 + _ ≤ _; exact Nat.le_of_eq rfl) (hb hby at_64) (fun _ _ => ⟨rfl, eh38, (by decide : 2 + 0 ≤ _), (by decide : 2 + 0 ≤ _)⟩)
  dsimp only [Pt.U, Pt.locs, Pt.cells, Pt.slots] at X39 l39 y39 z39 st39 hQ39
  subst l39 y39 z39
  obtain ⟨rfl, N39q, eh39⟩ := hQ39
  have N39 := Fr.app N38 N39q
  obtain ⟨cq40, kq40, q40a, q40b, q40c⟩ := isOf hZ eh39 C36
  obtain ⟨_, _, ⟨T40, L40, k40, n40⟩, -, X40, ⟨Lc40, hQ40, l40, y40, z40⟩, st40⟩ := X39.virtualBack hx (y := (⟨"com/example/derive/derive/Limit", "equals", "(Ljava/lang/Object;)Z"⟩ : MethodName)) (z := (⟨"com/example/derive/derive/Limit", "equals", "(Ljava/lang/Object;)Z"⟩ : MethodName)) hown (mvT hZ (hw _ (List.mem_of_getElem? (i := 35) rfl))) (mvT hZ (hw _ (List.mem_of_getElem? (i := 36) rfl))) (notFace_of_selects (args := #[]) (mvT hZ (hw _ (List.mem_of_getElem? (i := 38) rfl)))) (mvT hZ (hw _ (List.mem_of_getElem? (i := 38) rfl))) (mvT hZ (hw _ (List.mem_of_getElem? (i := 37) rfl))) (by decide) (backOf (W := 0) (rm8 l Z a0 hw [] b_31 b_33 (own_max (1 : Int32) (x1 &&& (2147483647 : Int32))) mm_26 T33.heap n0 Z33 O33 Q33_1 F34 Q33_2) hZ (hw _ (List.mem_of_getElem? (i := 39) rfl)) (hw _ (List.mem_of_getElem? (i := 7) rfl)) (by decide) (by decide)) q40a q40c (g := (mkF m 76 #[.val (.int x1), .val (.int x2), .val (.int x3), .val (.int (own_max (1 : Int32) (x1 &&& (2147483647 : Int32)))), .val (.int mm_26), .val (.ref b_31), .val (.ref b_33), .unset] [(.ref b_33), (.ref b_31)])) rfl (by rw [hml]; rfl) (Steps.refl _) (argsL := [(.ref b_33)]) (rest := []) (lenOf pd_6 rfl) rfl (by show 2 * 0 + _ ≤ _; exact Nat.le_of_eq rfl) (hb hby at_76) (fun _ _ => ⟨rfl, eh39, (by decide : 2 + 0 ≤ _), (by decide : 2 + 0 ≤ _)⟩)
  dsimp only [Pt.U, Pt.locs, Pt.cells, Pt.slots] at X40 l40 y40 z40 st40 hQ40
  subst l40 y40 z40
  obtain ⟨rfl, N40q, eh40⟩ := hQ40
  have N40 := Fr.app N39 N40q
  have pre41 : ∀ t, Steps p.tables e below (T40.setTop (mkF m 86 #[.val (.int x1), .val (.int x2), .val (.int x3), .val (.int (own_max (1 : Int32) (x1 &&& (2147483647 : Int32)))), .val (.int mm_26), .val (.ref b_31), .val (.ref b_33), .val (.int (own_b ((own_max (1 : Int32) (x1 &&& (2147483647 : Int32))) = mm_26)))] [(.int mm_26), (.int (own_max (1 : Int32) (x1 &&& (2147483647 : Int32)))), (.int (own_b ((own_max (1 : Int32) (x1 &&& (2147483647 : Int32))) = mm_26)))])) t → Steps p.tables e below (s₁.setTop (entryFrame m #[(.int x1), (.int x2), (.int x3)] maxLocals)) t := by
    intro t kt
    refine pre25 t ?_
    show Steps p.tables e below (T24.setTop (mkF m 19 #[.val (.int x1), .val (.int x2), .val (.int x3), .val (.int (own_max (1 : Int32) (x1 &&& (2147483647 : Int32)))), .val (.int (own_max (1 : Int32) (x2 &&& (2147483647 : Int32)))), .unset, .unset, .unset] [])) _
    refine k26 _ ?_
    show Steps p.tables e below (T26.setTop (mkF m 28 #[.val (.int x1), .val (.int x2), .val (.int x3), .val (.int (own_max (1 : Int32) (x1 &&& (2147483647 : Int32)))), .val (.int mm_26), .unset, .unset, .unset] [])) _
    refine XS.iloadN X26.here hx rfl (hb hby at_28) rfl ?_
    show Steps p.tables e below (T26.setTop (mkF m 29 #[.val (.int x1), .val (.int x2), .val (.int x3), .val (.int (own_max (1 : Int32) (x1 &&& (2147483647 : Int32)))), .val (.int mm_26), .unset, .unset, .unset] [(.int (own_max (1 : Int32) (x1 &&& (2147483647 : Int32))))])) _
    refine st31 _ ?_
    show Steps p.tables e below (T31.setTop (mkF m 32 #[.val (.int x1), .val (.int x2), .val (.int x3), .val (.int (own_max (1 : Int32) (x1 &&& (2147483647 : Int32)))), .val (.int mm_26), .unset, .unset, .unset] [(.ref b_31)])) _
    refine XS.astore X31.here hx rfl (hb hby at_32) rfl rfl (l' := #[.val (.int x1), .val (.int x2), .val (.int x3), .val (.int (own_max (1 : Int32) (x1 &&& (2147483647 : Int32)))), .val (.int mm_26), .val (.ref b_31), .unset, .unset]) rfl ?_
    show Steps p.tables e below (T31.setTop (mkF m 34 #[.val (.int x1), .val (.int x2), .val (.int x3), .val (.int (own_max (1 : Int32) (x1 &&& (2147483647 : Int32)))), .val (.int mm_26), .val (.ref b_31), .unset, .unset] [])) _
    refine XS.iload X31.here hx rfl (hb hby at_34) rfl ?_
    show Steps p.tables e below (T31.setTop (mkF m 36 #[.val (.int x1), .val (.int x2), .val (.int x3), .val (.int (own_max (1 : Int32) (x1 &&& (2147483647 : Int32)))), .val (.int mm_26), .val (.ref b_31), .unset, .unset] [(.int mm_26)])) _
    refine st33 _ ?_
    show Steps p.tables e below (T33.setTop (mkF m 39 #[.val (.int x1), .val (.int x2), .val (.int x3), .val (.int (own_max (1 : Int32) (x1 &&& (2147483647 : Int32)))), .val (.int mm_26), .val (.ref b_31), .unset, .unset] [(.ref b_33)])) _
    refine XS.astore X33.here hx rfl (hb hby at_39) rfl rfl (l' := #[.val (.int x1), .val (.int x2), .val (.int x3), .val (.int (own_max (1 : Int32) (x1 &&& (2147483647 : Int32)))), .val (.int mm_26), .val (.ref b_31), .val (.ref b_33), .unset]) rfl ?_
    show Steps p.tables e below (T33.setTop (mkF m 41 #[.val (.int x1), .val (.int x2), .val (.int x3), .val (.int (own_max (1 : Int32) (x1 &&& (2147483647 : Int32)))), .val (.int mm_26), .val (.ref b_31), .val (.ref b_33), .unset] [])) _
    refine XS.aload X33.here hx rfl (hb hby at_41) rfl rfl ?_
    show Steps p.tables e below (T33.setTop (mkF m 43 #[.val (.int x1), .val (.int x2), .val (.int x3), .val (.int (own_max (1 : Int32) (x1 &&& (2147483647 : Int32)))), .val (.int mm_26), .val (.ref b_31), .val (.ref b_33), .unset] [(.ref b_31)])) _
    refine st37.trans ?_
    show Steps p.tables e below (T37.setTop (mkF m 46 #[.val (.int x1), .val (.int x2), .val (.int x3), .val (.int (own_max (1 : Int32) (x1 &&& (2147483647 : Int32)))), .val (.int mm_26), .val (.ref b_31), .val (.ref b_33), .unset] [(.int (own_max (1 : Int32) (x1 &&& (2147483647 : Int32))))])) _
    refine XS.iloadN X37.here hx rfl (hb hby at_46) rfl ?_
    show Steps p.tables e below (T37.setTop (mkF m 47 #[.val (.int x1), .val (.int x2), .val (.int x3), .val (.int (own_max (1 : Int32) (x1 &&& (2147483647 : Int32)))), .val (.int mm_26), .val (.ref b_31), .val (.ref b_33), .unset] [(.int (own_max (1 : Int32) (x1 &&& (2147483647 : Int32)))), (.int (own_max (1 : Int32) (x1 &&& (2147483647 : Int32))))])) _
    refine XS.icmpYes X37.here hx rfl (pc0 := 47) (pc' := 52) rfl (hb hby at_47) rfl (teq (rfl : (own_max (1 : Int32) (x1 &&& (2147483647 : Int32))) = (own_max (1 : Int32) (x1 &&& (2147483647 : Int32))))).1 (by decide) (by decide) ?_
    show Steps p.tables e below (T37.setTop (mkF m 52 #[.val (.int x1), .val (.int x2), .val (.int x3), .val (.int (own_max (1 : Int32) (x1 &&& (2147483647 : Int32)))), .val (.int mm_26), .val (.ref b_31), .val (.ref b_33), .unset] [])) _
    refine XS.aload X37.here hx rfl (hb hby at_52) rfl rfl ?_
    show Steps p.tables e below (T37.setTop (mkF m 54 #[.val (.int x1), .val (.int x2), .val (.int x3), .val (.int (own_max (1 : Int32) (x1 &&& (2147483647 : Int32)))), .val (.int mm_26), .val (.ref b_31), .val (.ref b_33), .unset] [(.ref b_31)])) _
    refine st38.trans ?_
    show Steps p.tables e below (T38.setTop (mkF m 57 #[.val (.int x1), .val (.int x2), .val (.int x3), .val (.int (own_max (1 : Int32) (x1 &&& (2147483647 : Int32)))), .val (.int mm_26), .val (.ref b_31), .val (.ref b_33), .unset] [(.int (own_b ((0 : Int32) < (own_max (1 : Int32) (x1 &&& (2147483647 : Int32))))))])) _
    refine XS.ifYes X38.here hx rfl (pc0 := 57) (pc' := 62) rfl (hb hby at_57) rfl ((if0 _ _).trans (feq (own_btn hm2)).2) (by decide) (by decide) ?_
    show Steps p.tables e below (T38.setTop (mkF m 62 #[.val (.int x1), .val (.int x2), .val (.int x3), .val (.int (own_max (1 : Int32) (x1 &&& (2147483647 : Int32)))), .val (.int mm_26), .val (.ref b_31), .val (.ref b_33), .unset] [])) _
    refine XS.aload X38.here hx rfl (hb hby at_62) rfl rfl ?_
    show Steps p.tables e below (T38.setTop (mkF m 64 #[.val (.int x1), .val (.int x2), .val (.int x3), .val (.int (own_max (1 : Int32) (x1 &&& (2147483647 : Int32)))), .val (.int mm_26), .val (.ref b_31), .val (.ref b_33), .unset] [(.ref b_31)])) _
    refine st39.trans ?_
    show Steps p.tables e below (T39.setTop (mkF m 67 #[.val (.int x1), .val (.int x2), .val (.int x3), .val (.int (own_max (1 : Int32) (x1 &&& (2147483647 : Int32)))), .val (.int mm_26), .val (.ref b_31), .val (.ref b_33), .unset] [(.int (own_b ((own_max (1 : Int32) (x1 &&& (2147483647 : Int32))) = (0 : Int32))))])) _
    refine XS.ifYes X39.here hx rfl (pc0 := 67) (pc' := 72) rfl (hb hby at_67) rfl ((if0 _ _).trans (teq (own_bf hm3)).1) (by decide) (by decide) ?_
    show Steps p.tables e below (T39.setTop (mkF m 72 #[.val (.int x1), .val (.int x2), .val (.int x3), .val (.int (own_max (1 : Int32) (x1 &&& (2147483647 : Int32)))), .val (.int mm_26), .val (.ref b_31), .val (.ref b_33), .unset] [])) _
    refine XS.aload X39.here hx rfl (hb hby at_72) rfl rfl ?_
    show Steps p.tables e below (T39.setTop (mkF m 74 #[.val (.int x1), .val (.int x2), .val (.int x3), .val (.int (own_max (1 : Int32) (x1 &&& (2147483647 : Int32)))), .val (.int mm_26), .val (.ref b_31), .val (.ref b_33), .unset] [(.ref b_31)])) _
    refine XS.aload X39.here hx rfl (hb hby at_74) rfl rfl ?_
    show Steps p.tables e below (T39.setTop (mkF m 76 #[.val (.int x1), .val (.int x2), .val (.int x3), .val (.int (own_max (1 : Int32) (x1 &&& (2147483647 : Int32)))), .val (.int mm_26), .val (.ref b_31), .val (.ref b_33), .unset] [(.ref b_33), (.ref b_31)])) _
    refine st40.trans ?_
    show Steps p.tables e below (T40.setTop (mkF m 79 #[.val (.int x1), .val (.int x2), .val (.int x3), .val (.int (own_max (1 : Int32) (x1 &&& (2147483647 : Int32)))), .val (.int mm_26), .val (.ref b_31), .val (.ref b_33), .unset] [(.int (own_b ((own_max (1 : Int32) (x1 &&& (2147483647 : Int32))) = mm_26)))])) _
    refine XS.istore X40.here hx rfl (hb hby at_79) rfl (l' := #[.val (.int x1), .val (.int x2), .val (.int x3), .val (.int (own_max (1 : Int32) (x1 &&& (2147483647 : Int32)))), .val (.int mm_26), .val (.ref b_31), .val (.ref b_33), .val (.int (own_b ((own_max (1 : Int32) (x1 &&& (2147483647 : Int32))) = mm_26)))]) rfl ?_
    show Steps p.tables e below (T40.setTop (mkF m 81 #[.val (.int x1), .val (.int x2), .val (.int x3), .val (.int (own_max (1 : Int32) (x1 &&& (2147483647 : Int32)))), .val (.int mm_26), .val (.ref b_31), .val (.ref b_33), .val (.int (own_b ((own_max (1 : Int32) (x1 &&& (2147483647 : Int32))) = mm_26)))] [])) _
    refine XS.iload X40.here hx rfl (hb hby at_81) rfl ?_
    show Steps p.tables e below (T40.setTop (mkF m 83 #[.val (.int x1), .val (.int x2), .val (.int x3), .val (.int (own_max (1 : Int32) (x1 &&& (2147483647 : Int32)))), .val (.int mm_26), .val (.ref b_31), .val (.ref b_33), .val (.int (own_b ((own_max (1 : Int32) (x1 &&& (2147483647 : Int32))) = mm_26)))] [(.int (own_b ((own_max (1 : Int32) (x1 &&& (2147483647 : Int32))) = mm_26)))])) _
    refine XS.iloadN X40.here hx rfl (hb hby at_83) rfl ?_
    show Steps p.tables e below (T40.setTop (mkF m 84 #[.val (.int x1), .val (.int x2), .val (.int x3), .val (.int (own_max (1 : Int32) (x1 &&& (2147483647 : Int32)))), .val (.int mm_26), .val (.ref b_31), .val (.ref b_33), .val (.int (own_b ((own_max (1 : Int32) (x1 &&& (2147483647 : Int32))) = mm_26)))] [(.int (own_max (1 : Int32) (x1 &&& (2147483647 : Int32)))), (.int (own_b ((own_max (1 : Int32) (x1 &&& (2147483647 : Int32))) = mm_26)))])) _
    refine XS.iload X40.here hx rfl (hb hby at_84) rfl ?_
    exact kt
  by_cases hc86 : (own_max (1 : Int32) (x1 &&& (2147483647 : Int32))) = mm_26
  · skip
    obtain ⟨cq42, kq42, q42a, q42b, q42c⟩ := isOf hZ eh40 C36
    obtain ⟨_, _, ⟨T42, L42, k42, n42⟩, -, X42, ⟨Lc42, hQ42, l42, y42, z42⟩, st42⟩ := X40.virtualBack hx (y := (⟨"com/example/derive/derive/Limit", "hashCode", "()I"⟩ : MethodName)) (z := (⟨"com/example/derive/derive/Limit", "hashCode", "()I"⟩ : MethodName)) hown (mvT hZ (hw _ (List.mem_of_getElem? (i := 46) rfl))) (mvT hZ (hw _ (List.mem_of_getElem? (i := 47) rfl))) (notFace_of_selects (args := #[]) (mvT hZ (hw _ (List.mem_of_getElem? (i := 49) rfl)))) (mvT hZ (hw _ (List.mem_of_getElem? (i := 49) rfl))) (mvT hZ (hw _ (List.mem_of_getElem? (i := 48) rfl))) (by decide) (backOf (W := 0) (rm10 l Z a0 hw [] b_31 (own_max (1 : Int32) (x1 &&& (2147483647 : Int32))) T33.heap n0 Z33 O33 F34) hZ (hw _ (List.mem_of_getElem? (i := 50) rfl)) (hw _ (List.mem_of_getElem? (i := 7) rfl)) (by decide) (by decide)) q42a q42c (g := (mkF m 106 #[.val (.int x1), .val (.int x2), .val (.int x3), .val (.int (own_max (1 : Int32) (x1 &&& (2147483647 : Int32)))), .val (.int mm_26), .val (.ref b_31), .val (.ref b_33), .val (.int (own_b ((own_max (1 : Int32) (x1 &&& (2147483647 : Int32))) = mm_26)))] [(.ref b_31)])) rfl (by rw [hml]; rfl) (Steps.refl _) (argsL := []) (rest := []) (lenOf pd_5 rfl) rfl (by show 2 * 0 + _ ≤ _; exact Nat.le_of_eq rfl) (hb hby at_106) (fun _ _ => ⟨rfl, eh40, (by decide : 2 + 0 ≤ _), (by decide : 2 + 0 ≤ _)⟩)
    dsimp only [Pt.U, Pt.locs, Pt.cells, Pt.slots] at X42 l42 y42 z42 st42 hQ42
    subst l42 y42 z42
    obtain ⟨rfl, N42q, eh42⟩ := hQ42
    have N42 := Fr.app N40 N42q
    obtain ⟨cq43, kq43, q43a, q43b, q43c⟩ := isOf hZ eh42 Q33_1
    obtain ⟨_, _, ⟨T43, L43, k43, n43⟩, -, X43, ⟨Lc43, hQ43, l43, y43, z43⟩, st43⟩ := X42.virtualBack hx (y := (⟨"com/example/derive/derive/Limit", "hashCode", "()I"⟩ : MethodName)) (z := (⟨"com/example/derive/derive/Limit", "hashCode", "()I"⟩ : MethodName)) hown (mvT hZ (hw _ (List.mem_of_getElem? (i := 46) rfl))) (mvT hZ (hw _ (List.mem_of_getElem? (i := 47) rfl))) (notFace_of_selects (args := #[]) (mvT hZ (hw _ (List.mem_of_getElem? (i := 49) rfl)))) (mvT hZ (hw _ (List.mem_of_getElem? (i := 49) rfl))) (mvT hZ (hw _ (List.mem_of_getElem? (i := 48) rfl))) (by decide) (backOf (W := 1) (rm10 l Z a0 hw [] b_33 mm_26 T33.heap n0 Z33 O33 Q33_2) hZ (hw _ (List.mem_of_getElem? (i := 50) rfl)) (hw _ (List.mem_of_getElem? (i := 7) rfl)) (by decide) (by decide)) q43a q43c (g := (mkF m 111 #[.val (.int x1), .val (.int x2), .val (.int x3), .val (.int (own_max (1 : Int32) (x1 &&& (2147483647 : Int32)))), .val (.int mm_26), .val (.ref b_31), .val (.ref b_33), .val (.int (own_b ((own_max (1 : Int32) (x1 &&& (2147483647 : Int32))) = mm_26)))] [(.ref b_33), (.int (own_max (1 : Int32) (x1 &&& (2147483647 : Int32))))])) rfl (by rw [hml]; rfl) (Steps.refl _) (argsL := []) (rest := [(.int (own_max (1 : Int32) (x1 &&& (2147483647 : Int32))))]) (lenOf pd_5 rfl) rfl (by show 2 * 0 + _ ≤ _; exact Nat.le_of_eq rfl) (hb hby at_111) (fun _ _ => ⟨rfl, eh42, (by decide : 2 + 0 ≤ _), (by decide : 2 + 0 ≤ _)⟩)
    dsimp only [Pt.U, Pt.locs, Pt.cells, Pt.slots] at X43 l43 y43 z43 st43 hQ43
    subst l43 y43 z43
    obtain ⟨rfl, N43q, eh43⟩ := hQ43
    have N43 := Fr.app N42 N43q
    obtain ⟨_, _, ⟨T44, L44, k44, n44⟩, -, X44, ⟨Lc44, hQ44, l44, y44, z44⟩, st44⟩ := Jvm.LawKit.callS X43 hx (y := (⟨"com/example/derive/derive/Limit", "unlimited", "()Lcom/example/derive/derive/Limit;"⟩ : MethodName)) hown (mvT hZ (hw _ (List.mem_of_getElem? (i := 41) rfl))) (mvT hZ (hw _ (List.mem_of_getElem? (i := 42) rfl))) (mvT hZ (hw _ (List.mem_of_getElem? (i := 7) rfl))) (mvT hZ (hw _ (List.mem_of_getElem? (i := 43) rfl))) (by decide) (backOf (W := 1) (rm9 l Z a0 hw [] st_UNLIMITED T33.heap n0 Z33 O33 S_UNLIMITED) hZ (hw _ (List.mem_of_getElem? (i := 43) rfl)) (hw _ (List.mem_of_getElem? (i := 7) rfl)) (by decide) (by decide)) (g := (mkF m 121 #[.val (.int x1), .val (.int x2), .val (.int x3), .val (.int (own_max (1 : Int32) (x1 &&& (2147483647 : Int32)))), .val (.int mm_26), .val (.ref b_31), .val (.ref b_33), .val (.int (own_b ((own_max (1 : Int32) (x1 &&& (2147483647 : Int32))) = mm_26)))] [(.ref b_31)])) rfl (by rw [hml]; rfl) (argsL := []) (rest := [(.ref b_31)]) (lenOf pd_7 rfl) rfl (by show 2 * 0 + _ ≤ _; exact Nat.le_of_eq rfl) (hb hby at_121) (fun _ _ => ⟨rfl, eh43, (by decide : 2 + 0 ≤ _), (by decide : 2 + 0 ≤ _)⟩)
    dsimp only [Pt.U, Pt.locs, Pt.cells, Pt.slots] at X44 l44 y44 z44 st44 hQ44
    subst l44 y44 z44
    obtain ⟨rfl, N44q, eh44⟩ := hQ44
    have N44 := Fr.app N43 N44q
    have F45 : Fld Z T33.heap st_UNLIMITED "com/example/derive/derive/Limit" "max" "I" (.int (0 : Int32)) := (FZ_st_UNLIMITED_max.ext O33.2)
    have C46 : Exa Z T33.heap st_UNLIMITED "com/example/derive/derive/Limit" := (EZ_st_UNLIMITED.ext O33.2)
    obtain ⟨cq47, kq47, q47a, q47b, q47c⟩ := isOf hZ eh44 C36
    obtain ⟨_, _, ⟨T47, L47, k47, n47⟩, -, X47, ⟨Lc47, hQ47, l47, y47, z47⟩, st47⟩ := X44.virtualBack hx (y := (⟨"com/example/derive/derive/Limit", "equals", "(Ljava/lang/Object;)Z"⟩ : MethodName)) (z := (⟨"com/example/derive/derive/Limit", "equals", "(Ljava/lang/Object;)Z"⟩ : MethodName)) hown (mvT hZ (hw _ (List.mem_of_getElem? (i := 35) rfl))) (mvT hZ (hw _ (List.mem_of_getElem? (i := 36) rfl))) (notFace_of_selects (args := #[]) (mvT hZ (hw _ (List.mem_of_getElem? (i := 38) rfl)))) (mvT hZ (hw _ (List.mem_of_getElem? (i := 38) rfl))) (mvT hZ (hw _ (List.mem_of_getElem? (i := 37) rfl))) (by decide) (backOf (W := 0) (rm8 l Z a0 hw [] b_31 st_UNLIMITED (own_max (1 : Int32) (x1 &&& (2147483647 : Int32))) (0 : Int32) T33.heap n0 Z33 O33 C46 F34 F45) hZ (hw _ (List.mem_of_getElem? (i := 39) rfl)) (hw _ (List.mem_of_getElem? (i := 7) rfl)) (by decide) (by decide)) q47a q47c (g := (mkF m 124 #[.val (.int x1), .val (.int x2), .val (.int x3), .val (.int (own_max (1 : Int32) (x1 &&& (2147483647 : Int32)))), .val (.int mm_26), .val (.ref b_31), .val (.ref b_33), .val (.int (own_b ((own_max (1 : Int32) (x1 &&& (2147483647 : Int32))) = mm_26)))] [(.ref st_UNLIMITED), (.ref b_31)])) rfl (by rw [hml]; rfl) (Steps.refl _) (argsL := [(.ref st_UNLIMITED)]) (rest := []) (lenOf pd_6 rfl) rfl (by show 2 * 0 + _ ≤ _; exact Nat.le_of_eq rfl) (hb hby at_124) (fun _ _ => ⟨rfl, eh44, (by decide : 2 + 0 ≤ _), (by decide : 2 + 0 ≤ _)⟩)
    dsimp only [Pt.U, Pt.locs, Pt.cells, Pt.slots] at X47 l47 y47 z47 st47 hQ47
    subst l47 y47 z47
    obtain ⟨rfl, N47q, eh47⟩ := hQ47
    have N47 := Fr.app N44 N47q
    obtain ⟨fs, hr, hrun, hended, hW, hsame⟩ := X47.leave (v := some (.int (1 : Int32))) (fun h => by rw [Bd.returns] at h; cases h)
    refine ⟨_, _, pre41 _ ?_, hrun, hended, _, _, rfl, ?_, ⟨_, rfl⟩, hW, hsame.mono (by decide) (by decide)⟩
    · show Steps p.tables e below (T40.setTop (mkF m 86 #[.val (.int x1), .val (.int x2), .val (.int x3), .val (.int (own_max (1 : Int32) (x1 &&& (2147483647 : Int32)))), .val (.int mm_26), .val (.ref b_31), .val (.ref b_33), .val (.int (own_b ((own_max (1 : Int32) (x1 &&& (2147483647 : Int32))) = mm_26)))] [(.int mm_26), (.int (own_max (1 : Int32) (x1 &&& (2147483647 : Int32)))), (.int (own_b ((own_max (1 : Int32) (x1 &&& (2147483647 : Int32))) = mm_26)))])) _
      refine XS.icmpNo X40.here hx rfl (hb hby at_86) rfl (teq hc86).2 ?_
      show Steps p.tables e below (T40.setTop (mkF m 89 #[.val (.int x1), .val (.int x2), .val (.int x3), .val (.int (own_max (1 : Int32) (x1 &&& (2147483647 : Int32)))), .val (.int mm_26), .val (.ref b_31), .val (.ref b_33), .val (.int (own_b ((own_max (1 : Int32) (x1 &&& (2147483647 : Int32))) = mm_26)))] [(.int (own_b ((own_max (1 : Int32) (x1 &&& (2147483647 : Int32))) = mm_26)))])) _
      refine XS.iconst X40.here hx rfl (hb hby at_89) ?_
      show Steps p.tables e below (T40.setTop (mkF m 90 #[.val (.int x1), .val (.int x2), .val (.int x3), .val (.int (own_max (1 : Int32) (x1 &&& (2147483647 : Int32)))), .val (.int mm_26), .val (.ref b_31), .val (.ref b_33), .val (.int (own_b ((own_max (1 : Int32) (x1 &&& (2147483647 : Int32))) = mm_26)))] [(.int (1 : Int32)), (.int (own_b ((own_max (1 : Int32) (x1 &&& (2147483647 : Int32))) = mm_26)))])) _
      refine XS.goto X40.here hx rfl (pc0 := 90) (pc' := 94) rfl (hb hby at_90) (by decide) (by decide) ?_
      show Steps p.tables e below (T40.setTop (mkF m 94 #[.val (.int x1), .val (.int x2), .val (.int x3), .val (.int (own_max (1 : Int32) (x1 &&& (2147483647 : Int32)))), .val (.int mm_26), .val (.ref b_31), .val (.ref b_33), .val (.int (own_b ((own_max (1 : Int32) (x1 &&& (2147483647 : Int32))) = mm_26)))] [(.int (1 : Int32)), (.int (own_b ((own_max (1 : Int32) (x1 &&& (2147483647 : Int32))) = mm_26)))])) _
      refine XS.icmpYes X40.here hx rfl (pc0 := 94) (pc' := 99) rfl (hb hby at_94) rfl (teq (own_bt hc86)).1 (by decide) (by decide) ?_
      show Steps p.tables e below (T40.setTop (mkF m 99 #[.val (.int x1), .val (.int x2), .val (.int x3), .val (.int (own_max (1 : Int32) (x1 &&& (2147483647 : Int32)))), .val (.int mm_26), .val (.ref b_31), .val (.ref b_33), .val (.int (own_b ((own_max (1 : Int32) (x1 &&& (2147483647 : Int32))) = mm_26)))] [])) _
      refine XS.iload X40.here hx rfl (hb hby at_99) rfl ?_
      show Steps p.tables e below (T40.setTop (mkF m 101 #[.val (.int x1), .val (.int x2), .val (.int x3), .val (.int (own_max (1 : Int32) (x1 &&& (2147483647 : Int32)))), .val (.int mm_26), .val (.ref b_31), .val (.ref b_33), .val (.int (own_b ((own_max (1 : Int32) (x1 &&& (2147483647 : Int32))) = mm_26)))] [(.int (own_b ((own_max (1 : Int32) (x1 &&& (2147483647 : Int32))) = mm_26)))])) _
      refine XS.ifNo X40.here hx rfl (hb hby at_101) rfl ((if0 _ _).trans (feq (own_btn hc86)).1) ?_
      show Steps p.tables e below (T40.setTop (mkF m 104 #[.val (.int x1), .val (.int x2), .val (.int x3), .val (.int (own_max (1 : Int32) (x1 &&& (2147483647 : Int32)))), .val (.int mm_26), .val (.ref b_31), .val (.ref b_33), .val (.int (own_b ((own_max (1 : Int32) (x1 &&& (2147483647 : Int32))) = mm_26)))] [])) _
      refine XS.aload X40.here hx rfl (hb hby at_104) rfl rfl ?_
      show Steps p.tables e below (T40.setTop (mkF m 106 #[.val (.int x1), .val (.int x2), .val (.int x3), .val (.int (own_max (1 : Int32) (x1 &&& (2147483647 : Int32)))), .val (.int mm_26), .val (.ref b_31), .val (.ref b_33), .val (.int (own_b ((own_max (1 : Int32) (x1 &&& (2147483647 : Int32))) = mm_26)))] [(.ref b_31)])) _
      refine st42.trans ?_
      show Steps p.tables e below (T42.setTop (mkF m 109 #[.val (.int x1), .val (.int x2), .val (.int x3), .val (.int (own_max (1 : Int32) (x1 &&& (2147483647 : Int32)))), .val (.int mm_26), .val (.ref b_31), .val (.ref b_33), .val (.int (own_b ((own_max (1 : Int32) (x1 &&& (2147483647 : Int32))) = mm_26)))] [(.int (own_max (1 : Int32) (x1 &&& (2147483647 : Int32))))])) _
      refine XS.aload X42.here hx rfl (hb hby at_109) rfl rfl ?_
      show Steps p.tables e below (T42.setTop (mkF m 111 #[.val (.int x1), .val (.int x2), .val (.int x3), .val (.int (own_max (1 : Int32) (x1 &&& (2147483647 : Int32)))), .val (.int mm_26), .val (.ref b_31), .val (.ref b_33), .val (.int (own_b ((own_max (1 : Int32) (x1 &&& (2147483647 : Int32))) = mm_26)))] [(.ref b_33), (.int (own_max (1 : Int32) (x1 &&& (2147483647 : Int32))))])) _
      refine st43.trans ?_
      show Steps p.tables e below (T43.setTop (mkF m 114 #[.val (.int x1), .val (.int x2), .val (.int x3), .val (.int (own_max (1 : Int32) (x1 &&& (2147483647 : Int32)))), .val (.int mm_26), .val (.ref b_31), .val (.ref b_33), .val (.int (own_b ((own_max (1 : Int32) (x1 &&& (2147483647 : Int32))) = mm_26)))] [(.int mm_26), (.int (own_max (1 : Int32) (x1 &&& (2147483647 : Int32))))])) _
      refine XS.icmpYes X43.here hx rfl (pc0 := 114) (pc' := 119) rfl (hb hby at_114) rfl (teq hc86).1 (by decide) (by decide) ?_
      show Steps p.tables e below (T43.setTop (mkF m 119 #[.val (.int x1), .val (.int x2), .val (.int x3), .val (.int (own_max (1 : Int32) (x1 &&& (2147483647 : Int32)))), .val (.int mm_26), .val (.ref b_31), .val (.ref b_33), .val (.int (own_b ((own_max (1 : Int32) (x1 &&& (2147483647 : Int32))) = mm_26)))] [])) _
      refine XS.aload X43.here hx rfl (hb hby at_119) rfl rfl ?_
      show Steps p.tables e below (T43.setTop (mkF m 121 #[.val (.int x1), .val (.int x2), .val (.int x3), .val (.int (own_max (1 : Int32) (x1 &&& (2147483647 : Int32)))), .val (.int mm_26), .val (.ref b_31), .val (.ref b_33), .val (.int (own_b ((own_max (1 : Int32) (x1 &&& (2147483647 : Int32))) = mm_26)))] [(.ref b_31)])) _
      refine st44 _ ?_
      show Steps p.tables e below (T44.setTop (mkF m 124 #[.val (.int x1), .val (.int x2), .val (.int x3), .val (.int (own_max (1 : Int32) (x1 &&& (2147483647 : Int32)))), .val (.int mm_26), .val (.ref b_31), .val (.ref b_33), .val (.int (own_b ((own_max (1 : Int32) (x1 &&& (2147483647 : Int32))) = mm_26)))] [(.ref st_UNLIMITED), (.ref b_31)])) _
      refine st47.trans ?_
      show Steps p.tables e below (T47.setTop (mkF m 127 #[.val (.int x1), .val (.int x2), .val (.int x3), .val (.int (own_max (1 : Int32) (x1 &&& (2147483647 : Int32)))), .val (.int mm_26), .val (.ref b_31), .val (.ref b_33), .val (.int (own_b ((own_max (1 : Int32) (x1 &&& (2147483647 : Int32))) = mm_26)))] [(.int (own_b ((own_max (1 : Int32) (x1 &&& (2147483647 : Int32))) = (0 : Int32))))])) _
      refine XS.ifYes X47.here hx rfl (pc0 := 127) (pc' := 132) rfl (hb hby at_127) rfl ((if0 _ _).trans (teq (own_bf hm3)).1) (by decide) (by decide) ?_
      show Steps p.tables e below (T47.setTop (mkF m 132 #[.val (.int x1), .val (.int x2), .val (.int x3), .val (.int (own_max (1 : Int32) (x1 &&& (2147483647 : Int32)))), .val (.int mm_26), .val (.ref b_31), .val (.ref b_33), .val (.int (own_b ((own_max (1 : Int32) (x1 &&& (2147483647 : Int32))) = mm_26)))] [])) _
      refine XS.iconst X47.here hx rfl (hb hby at_132) ?_
      show Steps p.tables e below (T47.setTop (mkF m 133 #[.val (.int x1), .val (.int x2), .val (.int x3), .val (.int (own_max (1 : Int32) (x1 &&& (2147483647 : Int32)))), .val (.int mm_26), .val (.ref b_31), .val (.ref b_33), .val (.int (own_b ((own_max (1 : Int32) (x1 &&& (2147483647 : Int32))) = mm_26)))] [(.int (1 : Int32))])) _
      exact retN X47 hx (t := .boolean) Bd.returns (by simp) (hb hby at_133) hr
    · show Q0 Z x1 x2 x3 st_UNLIMITED h0 n0 _ T47.heap _
      rw [eh47]
      exact ⟨rfl, N47, K33⟩
  · skip
    obtain ⟨_, _, ⟨T48, L48, k48, n48⟩, -, X48, ⟨Lc48, hQ48, l48, y48, z48⟩, st48⟩ := Jvm.LawKit.callS X40 hx (y := (⟨"com/example/derive/derive/Limit", "unlimited", "()Lcom/example/derive/derive/Limit;"⟩ : MethodName)) hown (mvT hZ (hw _ (List.mem_of_getElem? (i := 41) rfl))) (mvT hZ (hw _ (List.mem_of_getElem? (i := 42) rfl))) (mvT hZ (hw _ (List.mem_of_getElem? (i := 7) rfl))) (mvT hZ (hw _ (List.mem_of_getElem? (i := 43) rfl))) (by decide) (backOf (W := 1) (rm9 l Z a0 hw [] st_UNLIMITED T33.heap n0 Z33 O33 S_UNLIMITED) hZ (hw _ (List.mem_of_getElem? (i := 43) rfl)) (hw _ (List.mem_of_getElem? (i := 7) rfl)) (by decide) (by decide)) (g := (mkF m 121 #[.val (.int x1), .val (.int x2), .val (.int x3), .val (.int (own_max (1 : Int32) (x1 &&& (2147483647 : Int32)))), .val (.int mm_26), .val (.ref b_31), .val (.ref b_33), .val (.int (own_b ((own_max (1 : Int32) (x1 &&& (2147483647 : Int32))) = mm_26)))] [(.ref b_31)])) rfl (by rw [hml]; rfl) (argsL := []) (rest := [(.ref b_31)]) (lenOf pd_7 rfl) rfl (by show 2 * 0 + _ ≤ _; exact Nat.le_of_eq rfl) (hb hby at_121) (fun _ _ => ⟨rfl, eh40, (by decide : 2 + 0 ≤ _), (by decide : 2 + 0 ≤ _)⟩)
    dsimp only [Pt.U, Pt.locs, Pt.cells, Pt.slots] at X48 l48 y48 z48 st48 hQ48
    subst l48 y48 z48
    obtain ⟨rfl, N48q, eh48⟩ := hQ48
    have N48 := Fr.app N40 N48q
    have F49 : Fld Z T33.heap st_UNLIMITED "com/example/derive/derive/Limit" "max" "I" (.int (0 : Int32)) := (FZ_st_UNLIMITED_max.ext O33.2)
    have C50 : Exa Z T33.heap st_UNLIMITED "com/example/derive/derive/Limit" := (EZ_st_UNLIMITED.ext O33.2)
    obtain ⟨cq51, kq51, q51a, q51b, q51c⟩ := isOf hZ eh48 C36
    obtain ⟨_, _, ⟨T51, L51, k51, n51⟩, -, X51, ⟨Lc51, hQ51, l51, y51, z51⟩, st51⟩ := X48.virtualBack hx (y := (⟨"com/example/derive/derive/Limit", "equals", "(Ljava/lang/Object;)Z"⟩ : MethodName)) (z := (⟨"com/example/derive/derive/Limit", "equals", "(Ljava/lang/Object;)Z"⟩ : MethodName)) hown (mvT hZ (hw _ (List.mem_of_getElem? (i := 35) rfl))) (mvT hZ (hw _ (List.mem_of_getElem? (i := 36) rfl))) (notFace_of_selects (args := #[]) (mvT hZ (hw _ (List.mem_of_getElem? (i := 38) rfl)))) (mvT hZ (hw _ (List.mem_of_getElem? (i := 38) rfl))) (mvT hZ (hw _ (List.mem_of_getElem? (i := 37) rfl))) (by decide) (backOf (W := 0) (rm8 l Z a0 hw [] b_31 st_UNLIMITED (own_max (1 : Int32) (x1 &&& (2147483647 : Int32))) (0 : Int32) T33.heap n0 Z33 O33 C50 F34 F49) hZ (hw _ (List.mem_of_getElem? (i := 39) rfl)) (hw _ (List.mem_of_getElem? (i := 7) rfl)) (by decide) (by decide)) q51a q51c (g := (mkF m 124 #[.val (.int x1), .val (.int x2), .val (.int x3), .val (.int (own_max (1 : Int32) (x1 &&& (2147483647 : Int32)))), .val (.int mm_26), .val (.ref b_31), .val (.ref b_33), .val (.int (own_b ((own_max (1 : Int32) (x1 &&& (2147483647 : Int32))) = mm_26)))] [(.ref st_UNLIMITED), (.ref b_31)])) rfl (by rw [hml]; rfl) (Steps.refl _) (argsL := [(.ref st_UNLIMITED)]) (rest := []) (lenOf pd_6 rfl) rfl (by show 2 * 0 + _ ≤ _; exact Nat.le_of_eq rfl) (hb hby at_124) (fun _ _ => ⟨rfl, eh48, (by decide : 2 + 0 ≤ _), (by decide : 2 + 0 ≤ _)⟩)
    dsimp only [Pt.U, Pt.locs, Pt.cells, Pt.slots] at X51 l51 y51 z51 st51 hQ51
    subst l51 y51 z51
    obtain ⟨rfl, N51q, eh51⟩ := hQ51
    have N51 := Fr.app N48 N51q
    obtain ⟨fs, hr, hrun, hended, hW, hsame⟩ := X51.leave (v := some (.int (1 : Int32))) (fun h => by rw [Bd.returns] at h; cases h)
    refine ⟨_, _, pre41 _ ?_, hrun, hended, _, _, rfl, ?_, ⟨_, rfl⟩, hW, hsame.mono (by decide) (by decide)⟩
    · show Steps p.tables e below (T40.setTop (mkF m 86 #[.val (.int x1), .val (.int x2), .val (.int x3), .val (.int (own_max (1 : Int32) (x1 &&& (2147483647 : Int32)))), .val (.int mm_26), .val (.ref b_31), .val (.ref b_33), .val (.int (own_b ((own_max (1 : Int32) (x1 &&& (2147483647 : Int32))) = mm_26)))] [(.int mm_26), (.int (own_max (1 : Int32) (x1 &&& (2147483647 : Int32)))), (.int (own_b ((own_max (1 : Int32) (x1 &&& (2147483647 : Int32))) = mm_26)))])) _
      refine XS.icmpYes X40.here hx rfl (pc0 := 86) (pc' := 93) rfl (hb hby at_86) rfl (feq hc86).2 (by decide) (by decide) ?_
      show Steps p.tables e below (T40.setTop (mkF m 93 #[.val (.int x1), .val (.int x2), .val (.int x3), .val (.int (own_max (1 : Int32) (x1 &&& (2147483647 : Int32)))), .val (.int mm_26), .val (.ref b_31), .val (.ref b_33), .val (.int (own_b ((own_max (1 : Int32) (x1 &&& (2147483647 : Int32))) = mm_26)))] [(.int (own_b ((own_max (1 : Int32) (x1 &&& (2147483647 : Int32))) = mm_26)))])) _
      refine XS.iconst X40.here hx rfl (hb hby at_93) ?_
      show Steps p.tables e below (T40.setTop (mkF m 94 #[.val (.int x1), .val (.int x2), .val (.int x3), .val (.int (own_max (1 : Int32) (x1 &&& (2147483647 : Int32)))), .val (.int mm_26), .val (.ref b_31), .val (.ref b_33), .val (.int (own_b ((own_max (1 : Int32) (x1 &&& (2147483647 : Int32))) = mm_26)))] [(.int (0 : Int32)), (.int (own_b ((own_max (1 : Int32) (x1 &&& (2147483647 : Int32))) = mm_26)))])) _
      refine XS.icmpYes X40.here hx rfl (pc0 := 94) (pc' := 99) rfl (hb hby at_94) rfl (teq (own_bf hc86)).1 (by decide) (by decide) ?_
      show Steps p.tables e below (T40.setTop (mkF m 99 #[.val (.int x1), .val (.int x2), .val (.int x3), .val (.int (own_max (1 : Int32) (x1 &&& (2147483647 : Int32)))), .val (.int mm_26), .val (.ref b_31), .val (.ref b_33), .val (.int (own_b ((own_max (1 : Int32) (x1 &&& (2147483647 : Int32))) = mm_26)))] [])) _
      refine XS.iload X40.here hx rfl (hb hby at_99) rfl ?_
      show Steps p.tables e below (T40.setTop (mkF m 101 #[.val (.int x1), .val (.int x2), .val (.int x3), .val (.int (own_max (1 : Int32) (x1 &&& (2147483647 : Int32)))), .val (.int mm_26), .val (.ref b_31), .val (.ref b_33), .val (.int (own_b ((own_max (1 : Int32) (x1 &&& (2147483647 : Int32))) = mm_26)))] [(.int (own_b ((own_max (1 : Int32) (x1 &&& (2147483647 : Int32))) = mm_26)))])) _
      refine XS.ifYes X40.here hx rfl (pc0 := 101) (pc' := 119) rfl (hb hby at_101) rfl ((if0 _ _).trans (teq (own_bf hc86)).1) (by decide) (by decide) ?_
      show Steps p.tables e below (T40.setTop (mkF m 119 #[.val (.int x1), .val (.int x2), .val (.int x3), .val (.int (own_max (1 : Int32) (x1 &&& (2147483647 : Int32)))), .val (.int mm_26), .val (.ref b_31), .val (.ref b_33), .val (.int (own_b ((own_max (1 : Int32) (x1 &&& (2147483647 : Int32))) = mm_26)))] [])) _
      refine XS.aload X40.here hx rfl (hb hby at_119) rfl rfl ?_
      show Steps p.tables e below (T40.setTop (mkF m 121 #[.val (.int x1), .val (.int x2), .val (.int x3), .val (.int (own_max (1 : Int32) (x1 &&& (2147483647 : Int32)))), .val (.int mm_26), .val (.ref b_31), .val (.ref b_33), .val (.int (own_b ((own_max (1 : Int32) (x1 &&& (2147483647 : Int32))) = mm_26)))] [(.ref b_31)])) _
      refine st48 _ ?_
      show Steps p.tables e below (T48.setTop (mkF m 124 #[.val (.int x1), .val (.int x2), .val (.int x3), .val (.int (own_max (1 : Int32) (x1 &&& (2147483647 : Int32)))), .val (.int mm_26), .val (.ref b_31), .val (.ref b_33), .val (.int (own_b ((own_max (1 : Int32) (x1 &&& (2147483647 : Int32))) = mm_26)))] [(.ref st_UNLIMITED), (.ref b_31)])) _
      refine st51.trans ?_
      show Steps p.tables e below (T51.setTop (mkF m 127 #[.val (.int x1), .val (.int x2), .val (.int x3), .val (.int (own_max (1 : Int32) (x1 &&& (2147483647 : Int32)))), .val (.int mm_26), .val (.ref b_31), .val (.ref b_33), .val (.int (own_b ((own_max (1 : Int32) (x1 &&& (2147483647 : Int32))) = mm_26)))] [(.int (own_b ((own_max (1 : Int32) (x1 &&& (2147483647 : Int32))) = (0 : Int32))))])) _
      refine XS.ifYes X51.here hx rfl (pc0 := 127) (pc' := 132) rfl (hb hby at_127) rfl ((if0 _ _).trans (teq (own_bf hm3)).1) (by decide) (by decide) ?_
      show Steps p.tables e below (T51.setTop (mkF m 132 #[.val (.int x1), .val (.int x2), .val (.int x3), .val (.int (own_max (1 : Int32) (x1 &&& (2147483647 : Int32)))), .val (.int mm_26), .val (.ref b_31), .val (.ref b_33), .val (.int (own_b ((own_max (1 : Int32) (x1 &&& (2147483647 : Int32))) = mm_26)))] [])) _
      refine XS.iconst X51.here hx rfl (hb hby at_132) ?_
      show Steps p.tables e below (T51.setTop (mkF m 133 #[.val (.int x1), .val (.int x2), .val (.int x3), .val (.int (own_max (1 : Int32) (x1 &&& (2147483647 : Int32)))), .val (.int mm_26), .val (.ref b_31), .val (.ref b_33), .val (.int (own_b ((own_max (1 : Int32) (x1 &&& (2147483647 : Int32))) = mm_26)))] [(.int (1 : Int32))])) _
      exact retN X51 hx (t := .boolean) Bd.returns (by simp) (hb hby at_133) hr
    · show Q0 Z x1 x2 x3 st_UNLIMITED h0 n0 _ T51.heap _
      rw [eh51]
      exact ⟨rfl, N51, K33⟩
set_option maxRecDepth 65536 in
set_option maxHeartbeats 40000000 in
theorem comes_1 {Post : Tables → Env → Array Value → State → Outcome → State → Prop} (hpost : ∀ tb e args s v u, (limb_1_1.after args s (.returned v) u = true ∧ limb_1_2.after args s (.returned v) u = true ∧ True) → FrameEnd s (.returned v) u (Jvm.fieldLocs frame_1_writes args s ++ Jvm.arrayLocs frame_1_arrays args s ++ Jvm.staticLocs frame_1_statics s) 16 128 → Post tb e args s (.returned v) u) :
    ArmFor flags0 classFile x code maxLocals ret World_1 tables_1 room_1 Calls_1 rest_1 Pre_1 Post := by
  intro l hfl _ _ p e ha hc hk s m args below hf hA hF happ hP
  obtain ⟨hcalls, hrest, hpre⟩ := hP
  obtain ⟨-, -, -, hnamed, -, -, -, hat⟩ := (Spec.applies_iff hf).mp happ
  obtain ⟨hg, hn⟩ := and_e (Cond.before_iff.mp (show (Jvm.Cond.and given_1 narrow_1).before args s = true from hpre))
  obtain ⟨gg1, gg2⟩ := and_e hg
  obtain ⟨gg3, gg4⟩ := and_e gg2
  obtain ⟨gg5, gg6⟩ := and_e gg4
  obtain ⟨gg7, gg8⟩ := and_e hn
  obtain ⟨w0, w1, w2, rfl⟩ : ∃ w0 w1 w2 : Value, args = #[w0, w1, w2] := by
    have hs : args.size = 3 := by simpa [Cond.value, given_1] using gg1
    obtain ⟨L⟩ := args
    match L, hs with
    | [w0, w1, w2], _ => exact ⟨w0, w1, w2, rfl⟩
  have hw := fun d (hd : d ∈ tables_1) => atoms_spec (ws := Jvm.Cond.code x code maxLocals ret :: tables_1) hat d (List.mem_cons_of_mem _ hd)
  have hfit : Fit s := fun {y c} hc i hi => by
    obtain ⟨ha, rfl⟩ := Array.getElem?_eq_some_iff.mp hc
    have q := List.all_eq_true.mp ((Array.all_eq_true_iff_forall_mem.mp hF) _ (Array.getElem_mem ha)) i (List.mem_range.mpr hi)
    simpa [Array.getElem?_eq_getElem hi] using q
  obtain ⟨i0, ei0⟩ := is_v gg3
  obtain rfl : w0 = (.int i0) := Option.some.inj ei0
  obtain ⟨i1, ei1⟩ := is_v gg5
  obtain rfl : w1 = (.int i1) := Option.some.inj ei1
  obtain ⟨i2, ei2⟩ := is_v gg6
  obtain rfl : w2 = (.int i2) := Option.some.inj ei2
  obtain ⟨st_UNLIMITED, ev_st_UNLIMITED⟩ := exa_v gg7
  have S_UNLIMITED : Sta s s.heap "com/example/derive/derive/Limit" "UNLIMITED" "Lcom/example/derive/derive/Limit;" (.ref st_UNLIMITED) := Sta.start ev_st_UNLIMITED (Or.inr ⟨hw _ (List.mem_of_getElem? (i := 7) rfl), hw _ (List.mem_of_getElem? (i := 45) rfl)⟩)
  have EZ_st_UNLIMITED : Exa s s.heap st_UNLIMITED "com/example/derive/derive/Limit" := Exa.start ev_st_UNLIMITED gg7
  have FZ_st_UNLIMITED_max : Fld s s.heap st_UNLIMITED "com/example/derive/derive/Limit" "max" "I" (.int (0 : Int32)) := Fld.start ((fld_at ev_st_UNLIMITED).symm.trans (own_eqI gg8))
  obtain ⟨n, o, h1, h2, h3, _, L, rfl, ⟨rfl, N, -⟩, hq⟩ := rm0 l s _ hw tables_1 i0 i1 i2 st_UNLIMITED s.heap s.heap.size (Nat.le_refl _) (Old.start s) S_UNLIMITED EZ_st_UNLIMITED FZ_st_UNLIMITED_max p e ha hc hk s m _ below hf ((Spec.applies_iff_loose hf).mp happ).1 ⟨rfl, State.Warmed39.refl s, rfl⟩ trivial
  refine ⟨n, _, h1, h2, h3, hpost _ _ _ _ _ _ ⟨Cond.after_iff.mpr rfl, Cond.after_iff.mpr (eq_i res_at (Term.int_eval (1)) rfl), trivial⟩ ⟨hq.1, hq.2.1, (hq.2.2.sift fun y hy => Or.inr (N y hy)).mono (by decide) (by decide)⟩⟩
theorem main_1_1 : Claimed_1_1 := comes_1 fun _ _ _ _ _ _ h hF => ⟨h.1, hF⟩
theorem main_1_2 : Claimed_1_2 := comes_1 fun _ _ _ _ _ _ h hF => ⟨h.2.1, hF⟩
end Jvm.Pilot.@@N@@
namespace Jvm.Pilot.@@N@@
open Jvm Jvm.ClassFile Sem Op Lib Jvm.Free Jvm.Stand Jvm.Pilot.@@N@@.Jvm.D
/-! MADE BY PROGRAM (witnessworld.py) out of the Statement's table words and the real class files: 15 classes; the members and pool entries that the words name. The judged class is class 1, her method 1. -/
namespace start1
open Jvm.ClassFile
def u (s : String) : CpInfo := .utf8 (stringToUtf16 s)
/-- a pool by its gaps: so many unusable entries, then the entry; so many at the end -/
def gap : Nat → List CpInfo → List CpInfo
  | 0, r => r
  | n + 1, r => .unusable :: gap n r
def poolList (es : List (Nat × CpInfo)) (last : Nat) : List CpInfo := es.foldr (fun e r => gap e.1 (e.2 :: r)) (gap last [])
def pool (es : List (Nat × CpInfo)) (last : Nat) : Array CpInfo := ⟨poolList es last⟩
def fileOf (pool : Array CpInfo) (this : Nat) (attrs : Array Attribute := #[]) (ms : Array MethodInfo := #[]) (fl : Nat := 33) (sup : Nat := 0) (ifs : Array Nat := #[]) (fds : Array FieldInfo := #[]) : ClassFile where
  minorVersion := 0
  majorVersion := 65
  constantPool := pool
  accessFlags := fl
  thisClass := this
  superClass := sup
  interfaces := ifs
  fields := fds
  methods := ms
  attributes := attrs
def plain (name : String) (sup : Option ClassId) : Class where
  name := name
  kind := .ordinary
  loader := none
  accessFlags := 33
  super := sup
  interfaces := #[]
  cf := none
  fields := #[]
  methods := #[]
  instanceTypes := #[]
  staticTypes := #[]
  resolved := #[]
  callSites := []
  init := .initialized
  statics := none
  mirror := none

def pool0 : Array CpInfo := pool [(5, u "<init>"), (0, u "()V"), (1, .class_ 10), (1, u "java/lang/Object")] 113

def k0c0 : Code := { maxStack := 0, maxLocals := 1, code := object_method_1_code, exceptionTable := #[], attributes := #[] }
def k0m0 : Method := { name := "<init>", desc := "()V", sig := { parameters := [], returnType := none }, accessFlags := 1, code := some k0c0 }
/-- java/lang/Object -/
def k0 : Class := { plain "java/lang/Object" none with
  accessFlags := 33
  interfaces := #[]
  cf := some (fileOf pool0 8 #[] #[{ accessFlags := 1, nameIndex := 5, descriptorIndex := 6, attributes := #[] }] 33 0 #[] #[])
  fields := #[]
  methods := #[k0m0]
  instanceTypes := #[]
  staticTypes := #[]
  resolved := Array.replicate 124 none
  statics := none }

def pool1 : Array CpInfo := pool [(2, .class_ 4), (1, u "java/lang/Object"), (0, u "<init>"), (0, u "()V"), (0, .integer 2147483647), (0, .methodref 9 10), (0, .class_ 11), (0, .nameAndType 12 13), (0, u "java/lang/Math"), (0, u "max"), (0, u "(II)I"), (0, .methodref 15 16), (0, .class_ 17), (0, .nameAndType 18 19), (0, u "com/example/derive/derive/Limit"), (0, u "of"), (0, u "(I)Lcom/example/derive/derive/Limit;"), (0, .methodref 15 21), (0, .nameAndType 12 22), (0, u "()I"), (0, .methodref 15 24), (0, .nameAndType 25 26), (0, u "isLimited"), (0, u "()Z"), (0, .methodref 15 28), (0, .nameAndType 29 26), (0, u "isUnlimited"), (0, .methodref 15 31), (0, .nameAndType 32 33), (0, u "equals"), (0, u "(Ljava/lang/Object;)Z"), (0, .methodref 15 35), (0, .nameAndType 36 22), (0, u "hashCode"), (0, .methodref 15 38), (0, .nameAndType 39 40), (0, u "unlimited"), (0, u "()Lcom/example/derive/derive/Limit;"), (0, .class_ 42), (0, u "com/example/derive/derive/LimitOfPinLaw"), (2, u "law"), (0, u "(III)Z")] 3

def k1m0 : Method := { name := "<init>", desc := "()V", sig := { parameters := [], returnType := none }, accessFlags := 1, code := none }
def k1c1 : Code := { maxStack := 3, maxLocals := 8, code := code, exceptionTable := #[], attributes := #[] }
def k1m1 : Method := { name := "law", desc := "(III)Z", sig := { parameters := [.int, .int, .int], returnType := some .boolean }, accessFlags := 9, code := some k1c1 }
/-- com/example/derive/derive/LimitOfPinLaw -/
def k1 : Class := { plain "com/example/derive/derive/LimitOfPinLaw" (some 0) with
  accessFlags := 49
  interfaces := #[]
  cf := some (fileOf pool1 41 #[] #[{ accessFlags := 1, nameIndex := 5, descriptorIndex := 6, attributes := #[] }, { accessFlags := 9, nameIndex := 45, descriptorIndex := 46, attributes := #[] }] 49 2 #[] #[])
  fields := #[]
  methods := #[k1m0, k1m1]
  instanceTypes := #[]
  staticTypes := #[]
  resolved := Array.replicate 50 none
  statics := none }

def pool2 : Array CpInfo := pool [(1, .class_ 2), (0, u "java/lang/Math"), (1, .class_ 6), (1, u "java/lang/Object"), (0, u "<init>"), (0, u "()V"), (89, .class_ 100), (1, u "java/lang/Math$RandomNumberGeneratorHolder"), (71, u "negativeZeroFloatBits"), (0, u "J"), (2, u "negativeZeroDoubleBits"), (21, u "max"), (46, u "$assertionsDisabled"), (0, u "Z"), (88, u "(II)I"), (2, u "twoToTheDoubleScaleDown"), (0, u "D"), (4, u "twoToTheDoubleScaleUp"), (9, u "E"), (3, u "PI"), (2, u "TAU"), (2, u "DEGREES_TO_RADIANS"), (0, u "RADIANS_TO_DEGREES")] 94

def k2m0 : Method := { name := "<init>", desc := "()V", sig := { parameters := [], returnType := none }, accessFlags := 2, code := none }
def k2c1 : Code := { maxStack := 2, maxLocals := 2, code := jdk_29_method_65_code, exceptionTable := #[], attributes := #[] }
def k2m1 : Method := { name := "max", desc := "(II)I", sig := { parameters := [.int, .int], returnType := some .int }, accessFlags := 9, code := some k2c1 }
/-- java/lang/Math -/
def k2 : Class := { plain "java/lang/Math" (some 0) with
  accessFlags := 49
  interfaces := #[]
  cf := some (fileOf pool2 1 #[.nestMembers #[98]] #[{ accessFlags := 2, nameIndex := 7, descriptorIndex := 8, attributes := #[] }, { accessFlags := 9, nameIndex := 198, descriptorIndex := 335, attributes := #[] }] 49 4 #[] #[{ accessFlags := 25, nameIndex := 354, descriptorIndex := 339, attributes := #[] }, { accessFlags := 25, nameIndex := 358, descriptorIndex := 339, attributes := #[] }, { accessFlags := 25, nameIndex := 361, descriptorIndex := 339, attributes := #[] }, { accessFlags := 26, nameIndex := 364, descriptorIndex := 339, attributes := #[] }, { accessFlags := 26, nameIndex := 365, descriptorIndex := 339, attributes := #[] }, { accessFlags := 26, nameIndex := 172, descriptorIndex := 173, attributes := #[] }, { accessFlags := 26, nameIndex := 176, descriptorIndex := 173, attributes := #[] }, { accessFlags := 8, nameIndex := 344, descriptorIndex := 339, attributes := #[] }, { accessFlags := 8, nameIndex := 338, descriptorIndex := 339, attributes := #[] }, { accessFlags := 4120, nameIndex := 245, descriptorIndex := 246, attributes := #[] }])
  fields := #[{ name := "E", type := .double, accessFlags := 25, slot := 0, constantValue := 0 }, { name := "PI", type := .double, accessFlags := 25, slot := 1, constantValue := 0 }, { name := "TAU", type := .double, accessFlags := 25, slot := 2, constantValue := 0 }, { name := "DEGREES_TO_RADIANS", type := .double, accessFlags := 26, slot := 3, constantValue := 0 }, { name := "RADIANS_TO_DEGREES", type := .double, accessFlags := 26, slot := 4, constantValue := 0 }, { name := "negativeZeroFloatBits", type := .long, accessFlags := 26, slot := 5, constantValue := 0 }, { name := "negativeZeroDoubleBits", type := .long, accessFlags := 26, slot := 6, constantValue := 0 }, { name := "twoToTheDoubleScaleUp", type := .double, accessFlags := 8, slot := 7, constantValue := 0 }, { name := "twoToTheDoubleScaleDown", type := .double, accessFlags := 8, slot := 8, constantValue := 0 }, { name := "$assertionsDisabled", type := .boolean, accessFlags := 4120, slot := 9, constantValue := 0 }]
  methods := #[k2m0, k2m1]
  instanceTypes := #[]
  staticTypes := #[.double, .double, .double, .double, .double, .long, .long, .double, .double, .boolean]
  resolved := Array.replicate 460 none
  statics := none }

def pool3 : Array CpInfo := pool [(1, .methodref 2 3), (0, .class_ 4), (0, .nameAndType 5 6), (0, u "java/lang/Object"), (0, u "<init>"), (0, u "()V"), (0, .fieldref 8 9), (0, .class_ 10), (0, .nameAndType 11 12), (0, u "com/example/derive/derive/Limit"), (0, u "max"), (0, u "I"), (9, .methodref 8 23), (0, .nameAndType 5 24), (0, u "(I)V"), (0, .fieldref 8 26), (0, .nameAndType 27 28), (0, u "UNLIMITED"), (0, u "Lcom/example/derive/derive/Limit;"), (0, .methodref 8 30), (0, .nameAndType 31 32), (0, u "isUnlimited"), (0, u "()Z"), (5, .methodref 39 40), (0, .class_ 41), (0, .nameAndType 42 43), (0, u "java/lang/Integer"), (0, u "hashCode"), (0, u "(I)I"), (5, u "of"), (0, u "(I)Lcom/example/derive/derive/Limit;"), (1, u "unlimited"), (0, u "()Lcom/example/derive/derive/Limit;"), (0, u "isLimited"), (0, u "()I"), (0, u "equals"), (0, u "(Ljava/lang/Object;)Z")] 24

def k3c0 : Code := { maxStack := 2, maxLocals := 2, code := prog_9_method_1_code, exceptionTable := #[], attributes := #[] }
def k3m0 : Method := { name := "<init>", desc := "(I)V", sig := { parameters := [.int], returnType := none }, accessFlags := 2, code := some k3c0 }
def k3c1 : Code := { maxStack := 3, maxLocals := 1, code := prog_9_method_2_code, exceptionTable := #[], attributes := #[] }
def k3m1 : Method := { name := "of", desc := "(I)Lcom/example/derive/derive/Limit;", sig := { parameters := [.int], returnType := some (.object "com/example/derive/derive/Limit") }, accessFlags := 9, code := some k3c1 }
def k3c2 : Code := { maxStack := 1, maxLocals := 0, code := prog_9_method_3_code, exceptionTable := #[], attributes := #[] }
def k3m2 : Method := { name := "unlimited", desc := "()Lcom/example/derive/derive/Limit;", sig := { parameters := [], returnType := some (.object "com/example/derive/derive/Limit") }, accessFlags := 9, code := some k3c2 }
def k3c3 : Code := { maxStack := 1, maxLocals := 1, code := prog_9_method_4_code, exceptionTable := #[], attributes := #[] }
def k3m3 : Method := { name := "isLimited", desc := "()Z", sig := { parameters := [], returnType := some .boolean }, accessFlags := 1, code := some k3c3 }
def k3c4 : Code := { maxStack := 1, maxLocals := 1, code := prog_9_method_5_code, exceptionTable := #[], attributes := #[] }
def k3m4 : Method := { name := "isUnlimited", desc := "()Z", sig := { parameters := [], returnType := some .boolean }, accessFlags := 1, code := some k3c4 }
def k3c5 : Code := { maxStack := 3, maxLocals := 1, code := prog_9_method_6_code, exceptionTable := #[], attributes := #[] }
def k3m5 : Method := { name := "max", desc := "()I", sig := { parameters := [], returnType := some .int }, accessFlags := 1, code := some k3c5 }
def k3c6 : Code := { maxStack := 2, maxLocals := 3, code := prog_9_method_7_code, exceptionTable := #[], attributes := #[] }
def k3m6 : Method := { name := "equals", desc := "(Ljava/lang/Object;)Z", sig := { parameters := [(.object "java/lang/Object")], returnType := some .boolean }, accessFlags := 1, code := some k3c6 }
def k3c7 : Code := { maxStack := 1, maxLocals := 1, code := prog_9_method_8_code, exceptionTable := #[], attributes := #[] }
def k3m7 : Method := { name := "hashCode", desc := "()I", sig := { parameters := [], returnType := some .int }, accessFlags := 1, code := some k3c7 }
/-- com/example/derive/derive/Limit -/
def k3 : Class := { plain "com/example/derive/derive/Limit" (some 0) with
  accessFlags := 33
  interfaces := #[]
  cf := some (fileOf pool3 8 #[] #[{ accessFlags := 2, nameIndex := 5, descriptorIndex := 24, attributes := #[] }, { accessFlags := 9, nameIndex := 49, descriptorIndex := 50, attributes := #[] }, { accessFlags := 9, nameIndex := 52, descriptorIndex := 53, attributes := #[] }, { accessFlags := 1, nameIndex := 54, descriptorIndex := 32, attributes := #[] }, { accessFlags := 1, nameIndex := 31, descriptorIndex := 32, attributes := #[] }, { accessFlags := 1, nameIndex := 11, descriptorIndex := 55, attributes := #[] }, { accessFlags := 1, nameIndex := 56, descriptorIndex := 57, attributes := #[] }, { accessFlags := 1, nameIndex := 42, descriptorIndex := 55, attributes := #[] }] 33 2 #[] #[{ accessFlags := 26, nameIndex := 27, descriptorIndex := 28, attributes := #[] }, { accessFlags := 18, nameIndex := 11, descriptorIndex := 12, attributes := #[] }])
  fields := #[{ name := "UNLIMITED", type := (.object "com/example/derive/derive/Limit"), accessFlags := 26, slot := 0, constantValue := 0 }, { name := "max", type := .int, accessFlags := 18, slot := 0, constantValue := 0 }]
  methods := #[k3m0, k3m1, k3m2, k3m3, k3m4, k3m5, k3m6, k3m7]
  instanceTypes := #[.int]
  staticTypes := #[(.object "com/example/derive/derive/Limit")]
  resolved := Array.replicate 82 none
  statics := some 0 }

def pool4 : Array CpInfo := pool [(1, .class_ 2), (0, u "java/io/Serializable"), (0, .class_ 4), (0, u "java/lang/Object")] 2

/-- java/io/Serializable -/
def k4 : Class := { plain "java/io/Serializable" (some 0) with
  accessFlags := 1537
  interfaces := #[]
  cf := some (fileOf pool4 1 #[] #[] 1537 3 #[] #[])
  fields := #[]
  methods := #[]
  instanceTypes := #[]
  staticTypes := #[]
  resolved := Array.replicate 7 none
  statics := none }

def pool5 : Array CpInfo := pool [(2, .class_ 4), (1, u "java/lang/Object"), (0, u "<init>"), (0, u "()V"), (1, .class_ 10), (1, u "java/lang/Number"), (2, .class_ 14), (0, u "java/io/Serializable"), (0, u "serialVersionUID"), (0, u "J")] 20

def k5m0 : Method := { name := "<init>", desc := "()V", sig := { parameters := [], returnType := none }, accessFlags := 1, code := none }
/-- java/lang/Number -/
def k5 : Class := { plain "java/lang/Number" (some 0) with
  accessFlags := 1057
  interfaces := #[4]
  cf := some (fileOf pool5 8 #[] #[{ accessFlags := 1, nameIndex := 5, descriptorIndex := 6, attributes := #[] }] 1057 2 #[13] #[{ accessFlags := 26, nameIndex := 15, descriptorIndex := 16, attributes := #[] }])
  fields := #[{ name := "serialVersionUID", type := .long, accessFlags := 26, slot := 0, constantValue := 0 }]
  methods := #[k5m0]
  instanceTypes := #[]
  staticTypes := #[.long]
  resolved := Array.replicate 37 none
  statics := none }

def pool6 : Array CpInfo := pool [(1, .class_ 2), (0, u "java/lang/Comparable"), (0, .class_ 4), (0, u "java/lang/Object")] 7

/-- java/lang/Comparable -/
def k6 : Class := { plain "java/lang/Comparable" (some 0) with
  accessFlags := 1537
  interfaces := #[]
  cf := some (fileOf pool6 1 #[] #[] 1537 3 #[] #[])
  fields := #[]
  methods := #[]
  instanceTypes := #[]
  staticTypes := #[]
  resolved := Array.replicate 12 none
  statics := none }

def pool7 : Array CpInfo := pool [(1, .class_ 2), (0, u "java/lang/constant/Constable"), (0, .class_ 4), (0, u "java/lang/Object")] 6

/-- java/lang/constant/Constable -/
def k7 : Class := { plain "java/lang/constant/Constable" (some 0) with
  accessFlags := 1537
  interfaces := #[]
  cf := some (fileOf pool7 1 #[] #[] 1537 3 #[] #[])
  fields := #[]
  methods := #[]
  instanceTypes := #[]
  staticTypes := #[]
  resolved := Array.replicate 11 none
  statics := none }

def pool8 : Array CpInfo := pool [(1, .class_ 2), (0, u "java/lang/constant/ConstantDesc"), (0, .class_ 4), (0, u "java/lang/Object")] 32

/-- java/lang/constant/ConstantDesc -/
def k8 : Class := { plain "java/lang/constant/ConstantDesc" (some 0) with
  accessFlags := 1537
  interfaces := #[]
  cf := some (fileOf pool8 1 #[] #[] 1537 3 #[] #[])
  fields := #[]
  methods := #[]
  instanceTypes := #[]
  staticTypes := #[]
  resolved := Array.replicate 37 none
  statics := none }

def pool9 : Array CpInfo := pool [(1, .class_ 2), (0, u "java/lang/Integer"), (16, u "digits"), (0, u "[C"), (33, u "(I)I"), (30, u "DigitOnes"), (0, u "[B"), (2, u "DigitTens"), (99, .class_ 190), (0, u "java/lang/Integer$IntegerCache"), (3, u "I"), (8, .class_ 204), (0, u "java/lang/Number"), (2, u "value"), (2, u "hashCode"), (91, u "TYPE"), (0, u "Ljava/lang/Class;"), (0, .class_ 305), (0, u "java/lang/Comparable"), (0, .class_ 307), (0, u "java/lang/constant/Constable"), (0, .class_ 309), (0, u "java/lang/constant/ConstantDesc"), (0, u "MIN_VALUE"), (1, u "MAX_VALUE"), (3, u "SIZE"), (1, u "BYTES"), (1, u "serialVersionUID"), (0, u "J")] 131

def k9c0 : Code := { maxStack := 1, maxLocals := 1, code := jdk_33_method_33_code, exceptionTable := #[], attributes := #[] }
def k9m0 : Method := { name := "hashCode", desc := "(I)I", sig := { parameters := [.int], returnType := some .int }, accessFlags := 9, code := some k9c0 }
/-- java/lang/Integer -/
def k9 : Class := { plain "java/lang/Integer" (some 5) with
  accessFlags := 49
  interfaces := #[6, 7, 8]
  cf := some (fileOf pool9 1 #[.nestMembers #[189]] #[{ accessFlags := 9, nameIndex := 210, descriptorIndex := 54, attributes := #[] }] 49 203 #[304, 306, 308] #[{ accessFlags := 25, nameIndex := 310, descriptorIndex := 194, attributes := #[] }, { accessFlags := 25, nameIndex := 312, descriptorIndex := 194, attributes := #[] }, { accessFlags := 25, nameIndex := 302, descriptorIndex := 303, attributes := #[] }, { accessFlags := 24, nameIndex := 19, descriptorIndex := 20, attributes := #[] }, { accessFlags := 24, nameIndex := 89, descriptorIndex := 86, attributes := #[] }, { accessFlags := 24, nameIndex := 85, descriptorIndex := 86, attributes := #[] }, { accessFlags := 18, nameIndex := 207, descriptorIndex := 194, attributes := #[] }, { accessFlags := 25, nameIndex := 316, descriptorIndex := 194, attributes := #[] }, { accessFlags := 25, nameIndex := 318, descriptorIndex := 194, attributes := #[] }, { accessFlags := 26, nameIndex := 320, descriptorIndex := 321, attributes := #[] }])
  fields := #[{ name := "MIN_VALUE", type := .int, accessFlags := 25, slot := 0, constantValue := 0 }, { name := "MAX_VALUE", type := .int, accessFlags := 25, slot := 1, constantValue := 0 }, { name := "TYPE", type := (.object "java/lang/Class"), accessFlags := 25, slot := 2, constantValue := 0 }, { name := "digits", type := (.array .char), accessFlags := 24, slot := 3, constantValue := 0 }, { name := "DigitTens", type := (.array .byte), accessFlags := 24, slot := 4, constantValue := 0 }, { name := "DigitOnes", type := (.array .byte), accessFlags := 24, slot := 5, constantValue := 0 }, { name := "value", type := .int, accessFlags := 18, slot := 0, constantValue := 0 }, { name := "SIZE", type := .int, accessFlags := 25, slot := 6, constantValue := 0 }, { name := "BYTES", type := .int, accessFlags := 25, slot := 7, constantValue := 0 }, { name := "serialVersionUID", type := .long, accessFlags := 26, slot := 8, constantValue := 0 }]
  methods := #[k9m0]
  instanceTypes := #[.int]
  staticTypes := #[.int, .int, (.object "java/lang/Class"), (.array .char), (.array .byte), (.array .byte), .int, .int, .long]
  resolved := Array.replicate 453 none
  statics := none }

def pool10 : Array CpInfo := pool [(1, u "java/lang/Cloneable"), (0, .class_ 1), (0, u "java/lang/Object"), (0, .class_ 3)] 3

/-- java/lang/Cloneable -/
def k10 : Class := { plain "java/lang/Cloneable" (some 0) with
  accessFlags := 1537
  interfaces := #[]
  cf := some (fileOf pool10 2 #[] #[] 1537 4 #[] #[])
  fields := #[]
  methods := #[]
  instanceTypes := #[]
  staticTypes := #[]
  resolved := Array.replicate 8 none
  statics := none }

/-- the primitive byte -/
def k11 : Class := { plain "byte" none with kind := .primitive 'B', accessFlags := 0x411 }
/-- [B -/
def k12 : Class := { plain "[B" (some 0) with kind := .array 11 .byte, interfaces := #[10, 4], accessFlags := 1041 }

/-- the primitive int -/
def k13 : Class := { plain "int" none with kind := .primitive 'I', accessFlags := 0x411 }
/-- [I -/
def k14 : Class := { plain "[I" (some 0) with kind := .array 13 .int, interfaces := #[10, 4], accessFlags := 1041 }

def heap : Heap := #[{ cls := 3, slots := #[.ref 1], vm := .statics 3 },
  { cls := 3, slots := #[.int 0], vm := .none }]
def classes : Array Class := #[k0, k1, k2, k3, k4, k5, k6, k7, k8, k9, k10, k11, k12, k13, k14]
def interned : List (Array UInt16 × Addr) := []
def slotsUsed : Nat := 2
def theMethod : MethodId := ⟨1, 1⟩
def args0 : Array Value := #[.int 5, .int 5, .int 5]
def aboutOver (below : List Frame) : State where
  vm := { classes := classes, interned := interned.toArray }
  heap := heap
  slotsUsed := slotsUsed
  threads := #[{ frames := .invoking theMethod args0 :: below }]
def below0 : List Frame := [.native { method := ⟨0, 0⟩, args := #[] }]
def about1 : State := aboutOver below0
def p0 : Program := .bare "" "" ""
def e0 : Env := launch0.env 0 0 0
theorem w_frames : about1.frames = Frame.invoking theMethod args0 :: below0 := rfl
set_option maxRecDepth 65536 in
theorem w_args : argsFit about1.vm theMethod args0 = true := by decide +kernel
set_option maxRecDepth 65536 in
theorem w_heap : heapFits about1 = true := by decide +kernel
set_option maxRecDepth 65536 in
theorem w_runnable : about1.curStatus? = some .runnable := by decide +kernel
set_option maxRecDepth 65536 in
theorem w_alone : about1.alone = true := by decide +kernel
set_option maxRecDepth 65536 in
theorem w_named : about1.methodNamed? x = some theMethod := by decide +kernel
set_option maxRecDepth 65536 in
theorem w_hears : about1.hears theMethod below0 = true := by decide +kernel
set_option maxRecDepth 65536 in
theorem w_ripe : about1.ripe theMethod args0 below0 = true := by decide +kernel
theorem w_running : about1.status = .running := rfl
set_option maxRecDepth 65536 in
theorem w_room : about1.hasRoom e0.platform room_1 = true :=
  launch0.hasRoom_least _ room_1 (by decide +kernel) (by decide +kernel) (by decide +kernel) (by decide +kernel) (by decide +kernel) (by decide +kernel)
theorem allAtoms_all (ts : List Jvm.Cond) (a : Array Jvm.Value) (st : Jvm.State) : (allAtoms ts).before a st = ts.all (fun c => c.before a st) := by
  induction ts with
  | nil => rfl
  | cons c t ih =>
    show (Jvm.Cond.and c (allAtoms t)).before a st = _
    rw [Jvm.Cond.before_and, ih, List.all_cons]
def words1 : List Jvm.Cond := Jvm.Cond.code x code maxLocals ret :: tables_1
/-- a 'code' word, met by the world's own term for the bytes: nothing is compared byte by byte -/
theorem code_word {y : MethodName} {bytes : ByteArray} {mx : Nat} {rt : Option FieldType} {a : Array Value} {s : State} {m : MethodId} {meth : Method} {c : Code} (h1 : s.methodNamed? y = some m) (h2 : s.vm.method? m = some meth) (h3 : meth.code = some c) (h4 : c.code = bytes)
    (h5 : (c.maxLocals == mx && c.exceptionTable.isEmpty && decide (c.maxStack ≤ mostOperands) && decide (meth.sig.returnType = rt) && !meth.locks && decide (parseMethodDescriptor y.desc = some meth.sig)) = true) : (Jvm.Cond.code y bytes mx rt).before a s = true := by
  simp only [Bool.and_eq_true, beq_iff_eq, Bool.not_eq_true', decide_eq_true_eq] at h5
  obtain ⟨⟨⟨⟨⟨g1, g2⟩, g3⟩, g4⟩, g5⟩, g6⟩ := h5
  simp [Cond.before, Cond.holds, Cond.value, h1, h2, h3, h4, g1, g2, g3, g4, g5, g6]
def isCode : Jvm.Cond → Bool
  | .code _ _ _ _ => true
  | _ => false
theorem all_split {L : List Jvm.Cond} {P : Jvm.Cond → Bool} (h1 : L.all (fun c => isCode c || P c) = true) (h2 : ∀ c ∈ L.filter isCode, P c = true) : L.all P = true := by
  refine List.all_eq_true.mpr fun c hc => ?_
  have h := List.all_eq_true.mp h1 c hc
  rcases Bool.eq_false_or_eq_true (isCode c) with hi | hi
  · exact h2 c (List.mem_filter.mpr ⟨hc, hi⟩)
  · simpa [hi] using h
set_option maxRecDepth 65536 in
theorem w_c0 : (Jvm.Cond.code x code maxLocals ret).before args0 about1 = true := code_word (m := ⟨1, 1⟩) (meth := k1m1) (c := k1c1) (by decide +kernel) rfl rfl rfl (by decide +kernel)
set_option maxRecDepth 65536 in
theorem w_c1 : (Jvm.Cond.code ({ cls := "java/lang/Math", name := "max", desc := "(II)I" } : Jvm.MethodName) jdk_29_method_65_code (2 : Nat) (Option.some Jvm.ClassFile.FieldType.int)).before args0 about1 = true := code_word (m := ⟨2, 1⟩) (meth := k2m1) (c := k2c1) (by decide +kernel) rfl rfl rfl (by decide +kernel)
set_option maxRecDepth 65536 in
theorem w_c2 : (Jvm.Cond.code ({ cls := "com/example/derive/derive/Limit", name := "of", desc := "(I)Lcom/example/derive/derive/Limit;" } : Jvm.MethodName) prog_9_method_2_code (1 : Nat) (Option.some (Jvm.ClassFile.FieldType.object "com/example/derive/derive/Limit"))).before args0 about1 = true := code_word (m := ⟨3, 1⟩) (meth := k3m1) (c := k3c1) (by decide +kernel) rfl rfl rfl (by decide +kernel)
set_option maxRecDepth 65536 in
theorem w_c3 : (Jvm.Cond.code ({ cls := "com/example/derive/derive/Limit", name := "<init>", desc := "(I)V" } : Jvm.MethodName) prog_9_method_1_code (2 : Nat) (Option.none : Option Jvm.ClassFile.FieldType)).before args0 about1 = true := code_word (m := ⟨3, 0⟩) (meth := k3m0) (c := k3c0) (by decide +kernel) rfl rfl rfl (by decide +kernel)
set_option maxRecDepth 65536 in
theorem w_c4 : (Jvm.Cond.code ({ cls := "java/lang/Object", name := "<init>", desc := "()V" } : Jvm.MethodName) object_method_1_code (1 : Nat) (Option.none : Option Jvm.ClassFile.FieldType)).before args0 about1 = true := code_word (m := ⟨0, 0⟩) (meth := k0m0) (c := k0c0) (by decide +kernel) rfl rfl rfl (by decide +kernel)
set_option maxRecDepth 65536 in
theorem w_c5 : (Jvm.Cond.code ({ cls := "com/example/derive/derive/Limit", name := "max", desc := "()I" } : Jvm.MethodName) prog_9_method_6_code (1 : Nat) (Option.some Jvm.ClassFile.FieldType.int)).before args0 about1 = true := code_word (m := ⟨3, 5⟩) (meth := k3m5) (c := k3c5) (by decide +kernel) rfl rfl rfl (by decide +kernel)
set_option maxRecDepth 65536 in
theorem w_c6 : (Jvm.Cond.code ({ cls := "com/example/derive/derive/Limit", name := "isUnlimited", desc := "()Z" } : Jvm.MethodName) prog_9_method_5_code (1 : Nat) (Option.some Jvm.ClassFile.FieldType.boolean)).before args0 about1 = true := code_word (m := ⟨3, 4⟩) (meth := k3m4) (c := k3c4) (by decide +kernel) rfl rfl rfl (by decide +kernel)
set_option maxRecDepth 65536 in
theorem w_c7 : (Jvm.Cond.code ({ cls := "com/example/derive/derive/Limit", name := "isLimited", desc := "()Z" } : Jvm.MethodName) prog_9_method_4_code (1 : Nat) (Option.some Jvm.ClassFile.FieldType.boolean)).before args0 about1 = true := code_word (m := ⟨3, 3⟩) (meth := k3m3) (c := k3c3) (by decide +kernel) rfl rfl rfl (by decide +kernel)
set_option maxRecDepth 65536 in
theorem w_c8 : (Jvm.Cond.code ({ cls := "com/example/derive/derive/Limit", name := "equals", desc := "(Ljava/lang/Object;)Z" } : Jvm.MethodName) prog_9_method_7_code (3 : Nat) (Option.some Jvm.ClassFile.FieldType.boolean)).before args0 about1 = true := code_word (m := ⟨3, 6⟩) (meth := k3m6) (c := k3c6) (by decide +kernel) rfl rfl rfl (by decide +kernel)
set_option maxRecDepth 65536 in
theorem w_c9 : (Jvm.Cond.code ({ cls := "com/example/derive/derive/Limit", name := "unlimited", desc := "()Lcom/example/derive/derive/Limit;" } : Jvm.MethodName) prog_9_method_3_code (0 : Nat) (Option.some (Jvm.ClassFile.FieldType.object "com/example/derive/derive/Limit"))).before args0 about1 = true := code_word (m := ⟨3, 2⟩) (meth := k3m2) (c := k3c2) (by decide +kernel) rfl rfl rfl (by decide +kernel)
set_option maxRecDepth 65536 in
theorem w_c10 : (Jvm.Cond.code ({ cls := "com/example/derive/derive/Limit", name := "hashCode", desc := "()I" } : Jvm.MethodName) prog_9_method_8_code (1 : Nat) (Option.some Jvm.ClassFile.FieldType.int)).before args0 about1 = true := code_word (m := ⟨3, 7⟩) (meth := k3m7) (c := k3c7) (by decide +kernel) rfl rfl rfl (by decide +kernel)
set_option maxRecDepth 65536 in
theorem w_c11 : (Jvm.Cond.code ({ cls := "java/lang/Integer", name := "hashCode", desc := "(I)I" } : Jvm.MethodName) jdk_33_method_33_code (1 : Nat) (Option.some Jvm.ClassFile.FieldType.int)).before args0 about1 = true := code_word (m := ⟨9, 0⟩) (meth := k9m0) (c := k9c0) (by decide +kernel) rfl rfl rfl (by decide +kernel)
def codes1 : List Jvm.Cond := [Jvm.Cond.code x code maxLocals ret, Jvm.Cond.code ({ cls := "java/lang/Math", name := "max", desc := "(II)I" } : Jvm.MethodName) jdk_29_method_65_code (2 : Nat) (Option.some Jvm.ClassFile.FieldType.int), Jvm.Cond.code ({ cls := "com/example/derive/derive/Limit", name := "of", desc := "(I)Lcom/example/derive/derive/Limit;" } : Jvm.MethodName) prog_9_method_2_code (1 : Nat) (Option.some (Jvm.ClassFile.FieldType.object "com/example/derive/derive/Limit")), Jvm.Cond.code ({ cls := "com/example/derive/derive/Limit", name := "<init>", desc := "(I)V" } : Jvm.MethodName) prog_9_method_1_code (2 : Nat) (Option.none : Option Jvm.ClassFile.FieldType), Jvm.Cond.code ({ cls := "java/lang/Object", name := "<init>", desc := "()V" } : Jvm.MethodName) object_method_1_code (1 : Nat) (Option.none : Option Jvm.ClassFile.FieldType), Jvm.Cond.code ({ cls := "com/example/derive/derive/Limit", name := "max", desc := "()I" } : Jvm.MethodName) prog_9_method_6_code (1 : Nat) (Option.some Jvm.ClassFile.FieldType.int), Jvm.Cond.code ({ cls := "com/example/derive/derive/Limit", name := "isUnlimited", desc := "()Z" } : Jvm.MethodName) prog_9_method_5_code (1 : Nat) (Option.some Jvm.ClassFile.FieldType.boolean), Jvm.Cond.code ({ cls := "com/example/derive/derive/Limit", name := "isLimited", desc := "()Z" } : Jvm.MethodName) prog_9_method_4_code (1 : Nat) (Option.some Jvm.ClassFile.FieldType.boolean), Jvm.Cond.code ({ cls := "com/example/derive/derive/Limit", name := "equals", desc := "(Ljava/lang/Object;)Z" } : Jvm.MethodName) prog_9_method_7_code (3 : Nat) (Option.some Jvm.ClassFile.FieldType.boolean), Jvm.Cond.code ({ cls := "com/example/derive/derive/Limit", name := "unlimited", desc := "()Lcom/example/derive/derive/Limit;" } : Jvm.MethodName) prog_9_method_3_code (0 : Nat) (Option.some (Jvm.ClassFile.FieldType.object "com/example/derive/derive/Limit")), Jvm.Cond.code ({ cls := "com/example/derive/derive/Limit", name := "hashCode", desc := "()I" } : Jvm.MethodName) prog_9_method_8_code (1 : Nat) (Option.some Jvm.ClassFile.FieldType.int), Jvm.Cond.code ({ cls := "java/lang/Integer", name := "hashCode", desc := "(I)I" } : Jvm.MethodName) jdk_33_method_33_code (1 : Nat) (Option.some Jvm.ClassFile.FieldType.int)]
set_option maxRecDepth 65536 in
theorem codes_eq : words1.filter isCode = codes1 := rfl
theorem w_codes : ∀ c ∈ words1.filter isCode, c.before args0 about1 = true := by
  rw [codes_eq]
  intro c hc
  simp only [codes1, List.mem_cons, List.not_mem_nil, or_false] at hc
  rcases hc with rfl | rfl | rfl | rfl | rfl | rfl | rfl | rfl | rfl | rfl | rfl | rfl
  · exact w_c0
  · exact w_c1
  · exact w_c2
  · exact w_c3
  · exact w_c4
  · exact w_c5
  · exact w_c6
  · exact w_c7
  · exact w_c8
  · exact w_c9
  · exact w_c10
  · exact w_c11
set_option maxRecDepth 65536 in
theorem w_t1 : (words1.take 24).all (fun c => isCode c || c.before args0 about1) = true := by decide +kernel
set_option maxRecDepth 65536 in
theorem w_t2 : ((words1.drop 24).take 24).all (fun c => isCode c || c.before args0 about1) = true := by decide +kernel
set_option maxRecDepth 65536 in
theorem w_t3 : ((words1.drop 24).drop 24).all (fun c => isCode c || c.before args0 about1) = true := by decide +kernel
theorem w_tables : (allAtoms (Jvm.Cond.code x code maxLocals ret :: tables_1)).before args0 about1 = true := by
  rw [allAtoms_all]
  show words1.all (fun c => c.before args0 about1) = true
  refine all_split ?_ w_codes
  rw [← List.take_append_drop 24 words1, List.all_append, w_t1, ← List.take_append_drop 24 (words1.drop 24), List.all_append, w_t2, w_t3]
  rfl
set_option maxRecDepth 65536 in
theorem w_case : (Jvm.Cond.and given_1 narrow_1).before args0 about1 = true := by decide +kernel
theorem w_applies : (headSpec (Jvm.Cond.code x code maxLocals ret :: tables_1) room_1).applies x e0.platform about1 = true :=
  (Spec.applies_iff w_frames).mpr ⟨w_running, w_runnable, w_alone, w_named, w_hears, w_ripe, w_room, w_tables⟩
theorem atStart : AtStart classFile x code maxLocals ret World_1 tables_1 room_1 Calls_1 rest_1 Pre_1 launch0 p0 e0 about1 theMethod args0 below0 :=
  ⟨lists_1, trivial, launch0.admits_env _ _ _, launch0.least_env, fairChoices_fair.cas, fairChoices_fair.clock, w_frames, w_args, w_heap, w_applies, trivial, trivial, w_case⟩
end start1
theorem witness_1 : WitnessClaimed_1 := ⟨start1.p0, start1.e0, start1.about1, start1.theMethod, start1.args0, start1.below0, start1.atStart⟩
end Jvm.Pilot.@@N@@
